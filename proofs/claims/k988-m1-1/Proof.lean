import JvmDerived
import JvmDerived.Pilot.@@N@@Statement
import JvmDerived.Pilot.@@N@@Code
set_option linter.unusedVariables false
set_option linter.unusedSimpArgs false
namespace Jvm.OwnGo
open Sem ClassFile Op Lib Jvm.Stand Jvm.Free Jvm.LawKit Jvm.RoadKit
/-- one instruction: where it stands, what it is, its length, the next pc -/
def I1 (code : ByteArray) (pc : Nat) (i : Instr) (len pc' : Nat) : Prop := decode code pc = .ok (i, len) ∧ pc + len = pc'
/-- a branch: besides, where it leads -/
def B1 (code : ByteArray) (pc : Nat) (i : Instr) (o : Int) (pcT pcF : Nat) : Prop := decode code pc = .ok (i, 3) ∧ pc + 3 = pcF ∧ 0 ≤ (pc : Int) + o ∧ ((pc : Int) + o).toNat = pcT
/-- what is fixed while a body runs -/
def Cx (p : Program) (s : State) (m : MethodId) (meth : Method) (c : Code) (Z : State) (code : ByteArray) (maxL : Nat) (own : String) (ret : Option FieldType) : Prop :=
  p.tables.exec = Jvm.exec ∧ c.code = code ∧ c.maxLocals = maxL ∧ Z.Warmed39 s.vm ∧ s.vm.findClass own = some m.cls ∧ meth.sig.returnType = ret ∧ meth.locks = false
/-- from the frame g, over every state that stands there with the heap h, the body ends, and ends in Q -/
def Go (p : Program) (l : Launch) (e : Env) (R : Room) (s : State) (m : MethodId) (args : Array Value) (below : List Frame) (meth : Method) (c : Code) (n0 K N : Nat) (Q : Option Value → Heap → Prop) (h : Heap) (ck cn : Nat) (g : JFrame) : Prop :=
  ∀ (T : State) (locs : List Loc), Stand p l e R s m args below meth c T locs ck cn → T.heap = h → Fr n0 locs →
    ∃ s₂ o, Steps p.tables e below (T.setTop g) s₂ ∧ s₂.status = .running ∧ Ended s₂ below o ∧ ∃ v L, o = .returned v ∧ (Q v s₂.heap ∧ Fr n0 L) ∧ FrameEnd s o s₂ L K N
/-- a body's contract: from these arguments over this heap it returns as Q says, and writes nothing below n0 -/
def Ctr (l : Launch) (Z : State) (y : MethodName) (code : ByteArray) (maxL : Nat) (ret : Option FieldType) (rm : Room) (as' : Array Value) (h0 : Heap) (n0 : Nat) (Q : Option Value → Heap → Prop) : Prop :=
  ∀ ws : List Cond, MetFree l y (head1 (Cond.code y code maxL ret :: ws) rm) (fun a U => a = as' ∧ Z.Warmed39 U.vm ∧ U.heap = h0) (fun _ _ _ _ _ => True)
    (fun _ U o U' => ∃ v L, o = .returned v ∧ (Q v U'.heap ∧ Fr n0 L) ∧ FrameEnd U o U' L rm.cells rm.slots)
section
variable {p : Program} {l : Launch} {e : Env} {R : Room} {s : State} {m : MethodId} {args : Array Value} {below : List Frame} {meth : Method} {c : Code} {n0 K N : Nat} {Q : Option Value → Heap → Prop} {h : Heap} {ck cn : Nat} {Z : State} {a0 : Array Value} {code : ByteArray} {maxL : Nat} {own : String} {ret : Option FieldType}
theorem Ctr.of_go {y : MethodName} {rm : Room} {as' : Array Value} {h0 : Heap} {Ls : Array Slot} (hpl : plainFor y = true) (hef : ∀ m, entryFrame m as' maxL = mkF m 0 Ls [])
    (hgo : ∀ p e s m below meth c, meth.name = y.name → Cx p s m meth c Z code maxL y.cls ret → Go p l e rm s m as' below meth c n0 rm.cells rm.slots Q h0 0 0 (mkF m 0 Ls [])) : Ctr l Z y code maxL ret rm as' h0 n0 Q := fun ws => by
  refine MetFree.of_bodySF hpl hisR ?_
  intro p e s m args below meth c s₁ Bd hml0 hP hK
  obtain ⟨rfl, hZ, hh⟩ := hP
  have X0 : Stand p l e rm s m args below meth c s₁ [] 0 0 := Stand.of_body Bd
  have e0 : s₁.heap = h0 := by rw [← hh, Bd.state]; rfl
  obtain ⟨s₂, o, g1, g2, g3, v, L, g4, g5, g6⟩ := hgo p e s m below meth c (name_of_methodNamed Bd.named Bd.method).1 ⟨Bd.exec, Bd.bytes, hml0, hZ, findClass_of_methodNamed Bd.named, Bd.returns, Bd.notSynchronized⟩ s₁ [] X0 e0 (Fr.nil n0)
  exact ⟨s₂, o, castTop (hef m) g1, g2, g3, v, L, g4, g5, g6⟩
theorem Go.step {g g' : JFrame} (st : ∀ (T : State) (locs : List Loc), Stand p l e R s m args below meth c T locs ck cn → T.heap = h → ∀ target, Steps p.tables e below (T.setTop g') target → Steps p.tables e below (T.setTop g) target)
    (k : Go p l e R s m args below meth c n0 K N Q h ck cn g') : Go p l e R s m args below meth c n0 K N Q h ck cn g := fun T locs X eT hN => by
  obtain ⟨s₂, o, h1, r⟩ := k T locs X eT hN
  exact ⟨s₂, o, st T locs X eT _ h1, r⟩
/-- a step that moves the state: heap, counts -/
theorem Go.move {g g' : JFrame} {h' : Heap} {ck' cn' : Nat} {T : State} {locs : List Loc} (hN : Fr n0 locs) {T' : State} {locs' : List Loc} (X' : Stand p l e R s m args below meth c T' locs' ck' cn') (e' : T'.heap = h') (hN' : Fr n0 locs')
    (st : ∀ target, Steps p.tables e below (T'.setTop g') target → Steps p.tables e below (T.setTop g) target) (k : Go p l e R s m args below meth c n0 K N Q h' ck' cn' g') :
    ∃ s₂ o, Steps p.tables e below (T.setTop g) s₂ ∧ s₂.status = .running ∧ Ended s₂ below o ∧ ∃ v L, o = .returned v ∧ (Q v s₂.heap ∧ Fr n0 L) ∧ FrameEnd s o s₂ L K N := by
  obtain ⟨s₂, o, h1, r⟩ := k T' locs' X' e' hN'
  exact ⟨s₂, o, st _ h1, r⟩
theorem Go.join {g : JFrame} (g' : JFrame) (J : Go p l e R s m args below meth c n0 K N Q h ck cn g') (k : Go p l e R s m args below meth c n0 K N Q h ck cn g' → Go p l e R s m args below meth c n0 K N Q h ck cn g) : Go p l e R s m args below meth c n0 K N Q h ck cn g := k J
theorem Go.cast {g g' : JFrame} (k : Go p l e R s m args below meth c n0 K N Q h ck cn g') (q : g = g') : Go p l e R s m args below meth c n0 K N Q h ck cn g := q ▸ k
theorem Go.more {g : JFrame} {ck' cn' : Nat} (hc : ck ≤ ck') (hs : cn ≤ cn') (k : Go p l e R s m args below meth c n0 K N Q h ck' cn' g) : Go p l e R s m args below meth c n0 K N Q h ck cn g := fun T locs X eT hN => k T locs (X.more hc hs) eT hN
theorem Go.heap {g : JFrame} {h' : Heap} (q : h' = h) (k : Go p l e R s m args below meth c n0 K N Q h' ck cn g) : Go p l e R s m args below meth c n0 K N Q h ck cn g := q ▸ k
theorem Go.some' {v : Value} {pc : Nat} {Ls : Array Slot} {st : List Value} (k : Go p l e R s m args below meth c n0 K N Q h ck cn (mkF m pc Ls (v :: st))) : Go p l e R s m args below meth c n0 K N Q h ck cn (mkF m pc Ls ((some v).toList ++ st)) := k
theorem Go.none' {pc : Nat} {Ls : Array Slot} {st : List Value} (k : Go p l e R s m args below meth c n0 K N Q h ck cn (mkF m pc Ls st)) : Go p l e R s m args below meth c n0 K N Q h ck cn (mkF m pc Ls ((none : Option Value).toList ++ st)) := k
theorem g_iadd (C : Cx p s m meth c Z code maxL own ret) {pc pc' : Nat} {Ls : Array Slot} {st : List Value} {x y : Int32} (hd : I1 code pc (.iadd) 1 pc') (k : Go p l e R s m args below meth c n0 K N Q h ck cn (mkF m pc' Ls (.int (x + y) :: st))) : Go p l e R s m args below meth c n0 K N Q h ck cn (mkF m pc Ls (.int y :: .int x :: st)) := by
  obtain ⟨hd, rfl⟩ := hd
  exact Go.step (fun T locs X _ t k => XS.iadd X.here C.1 rfl (hb C.2.1 hd) rfl k) k
theorem g_isub (C : Cx p s m meth c Z code maxL own ret) {pc pc' : Nat} {Ls : Array Slot} {st : List Value} {x y : Int32} (hd : I1 code pc (.isub) 1 pc') (k : Go p l e R s m args below meth c n0 K N Q h ck cn (mkF m pc' Ls (.int (x - y) :: st))) : Go p l e R s m args below meth c n0 K N Q h ck cn (mkF m pc Ls (.int y :: .int x :: st)) := by
  obtain ⟨hd, rfl⟩ := hd
  exact Go.step (fun T locs X _ t k => XS.isub X.here C.1 rfl (hb C.2.1 hd) rfl k) k
theorem g_imul (C : Cx p s m meth c Z code maxL own ret) {pc pc' : Nat} {Ls : Array Slot} {st : List Value} {x y : Int32} (hd : I1 code pc (.imul) 1 pc') (k : Go p l e R s m args below meth c n0 K N Q h ck cn (mkF m pc' Ls (.int (x * y) :: st))) : Go p l e R s m args below meth c n0 K N Q h ck cn (mkF m pc Ls (.int y :: .int x :: st)) := by
  obtain ⟨hd, rfl⟩ := hd
  exact Go.step (fun T locs X _ t k => XS.imul X.here C.1 rfl (hb C.2.1 hd) rfl k) k
theorem g_iand (C : Cx p s m meth c Z code maxL own ret) {pc pc' : Nat} {Ls : Array Slot} {st : List Value} {x y : Int32} (hd : I1 code pc (.iand) 1 pc') (k : Go p l e R s m args below meth c n0 K N Q h ck cn (mkF m pc' Ls (.int (x &&& y) :: st))) : Go p l e R s m args below meth c n0 K N Q h ck cn (mkF m pc Ls (.int y :: .int x :: st)) := by
  obtain ⟨hd, rfl⟩ := hd
  exact Go.step (fun T locs X _ t k => XS.iand X.here C.1 rfl (hb C.2.1 hd) rfl k) k
theorem g_ior (C : Cx p s m meth c Z code maxL own ret) {pc pc' : Nat} {Ls : Array Slot} {st : List Value} {x y : Int32} (hd : I1 code pc (.ior) 1 pc') (k : Go p l e R s m args below meth c n0 K N Q h ck cn (mkF m pc' Ls (.int (x ||| y) :: st))) : Go p l e R s m args below meth c n0 K N Q h ck cn (mkF m pc Ls (.int y :: .int x :: st)) := by
  obtain ⟨hd, rfl⟩ := hd
  exact Go.step (fun T locs X _ t k => XS.ior X.here C.1 rfl (hb C.2.1 hd) rfl k) k
theorem g_ixor (C : Cx p s m meth c Z code maxL own ret) {pc pc' : Nat} {Ls : Array Slot} {st : List Value} {x y : Int32} (hd : I1 code pc (.ixor) 1 pc') (k : Go p l e R s m args below meth c n0 K N Q h ck cn (mkF m pc' Ls (.int (x ^^^ y) :: st))) : Go p l e R s m args below meth c n0 K N Q h ck cn (mkF m pc Ls (.int y :: .int x :: st)) := by
  obtain ⟨hd, rfl⟩ := hd
  exact Go.step (fun T locs X _ t k => XS.ixor X.here C.1 rfl (hb C.2.1 hd) rfl k) k
theorem g_ishl (C : Cx p s m meth c Z code maxL own ret) {pc pc' : Nat} {Ls : Array Slot} {st : List Value} {x y : Int32} (hd : I1 code pc (.ishl) 1 pc') (k : Go p l e R s m args below meth c n0 K N Q h ck cn (mkF m pc' Ls (.int (x <<< (y &&& 31)) :: st))) : Go p l e R s m args below meth c n0 K N Q h ck cn (mkF m pc Ls (.int y :: .int x :: st)) := by
  obtain ⟨hd, rfl⟩ := hd
  exact Go.step (fun T locs X _ t k => XS.ishl X.here C.1 rfl (hb C.2.1 hd) rfl k) k
theorem g_ishr (C : Cx p s m meth c Z code maxL own ret) {pc pc' : Nat} {Ls : Array Slot} {st : List Value} {x y : Int32} (hd : I1 code pc (.ishr) 1 pc') (k : Go p l e R s m args below meth c n0 K N Q h ck cn (mkF m pc' Ls (.int (x >>> (y &&& 31)) :: st))) : Go p l e R s m args below meth c n0 K N Q h ck cn (mkF m pc Ls (.int y :: .int x :: st)) := by
  obtain ⟨hd, rfl⟩ := hd
  exact Go.step (fun T locs X _ t k => XS.ishr X.here C.1 rfl (hb C.2.1 hd) rfl k) k
theorem g_iushr (C : Cx p s m meth c Z code maxL own ret) {pc pc' : Nat} {Ls : Array Slot} {st : List Value} {x y : Int32} (hd : I1 code pc (.iushr) 1 pc') (k : Go p l e R s m args below meth c n0 K N Q h ck cn (mkF m pc' Ls (.int ((x.toUInt32 >>> (y &&& 31).toUInt32).toInt32) :: st))) : Go p l e R s m args below meth c n0 K N Q h ck cn (mkF m pc Ls (.int y :: .int x :: st)) := by
  obtain ⟨hd, rfl⟩ := hd
  exact Go.step (fun T locs X _ t k => XS.iushr X.here C.1 rfl (hb C.2.1 hd) rfl k) k
theorem g_ladd (C : Cx p s m meth c Z code maxL own ret) {pc pc' : Nat} {Ls : Array Slot} {st : List Value} {x y : Int64} (hd : I1 code pc (.ladd) 1 pc') (k : Go p l e R s m args below meth c n0 K N Q h ck cn (mkF m pc' Ls (.long (x + y) :: st))) : Go p l e R s m args below meth c n0 K N Q h ck cn (mkF m pc Ls (.long y :: .long x :: st)) := by
  obtain ⟨hd, rfl⟩ := hd
  exact Go.step (fun T locs X _ t k => XS.ladd X.here C.1 rfl (hb C.2.1 hd) rfl k) k
theorem g_lsub (C : Cx p s m meth c Z code maxL own ret) {pc pc' : Nat} {Ls : Array Slot} {st : List Value} {x y : Int64} (hd : I1 code pc (.lsub) 1 pc') (k : Go p l e R s m args below meth c n0 K N Q h ck cn (mkF m pc' Ls (.long (x - y) :: st))) : Go p l e R s m args below meth c n0 K N Q h ck cn (mkF m pc Ls (.long y :: .long x :: st)) := by
  obtain ⟨hd, rfl⟩ := hd
  exact Go.step (fun T locs X _ t k => XS.lsub X.here C.1 rfl (hb C.2.1 hd) rfl k) k
theorem g_lmul (C : Cx p s m meth c Z code maxL own ret) {pc pc' : Nat} {Ls : Array Slot} {st : List Value} {x y : Int64} (hd : I1 code pc (.lmul) 1 pc') (k : Go p l e R s m args below meth c n0 K N Q h ck cn (mkF m pc' Ls (.long (x * y) :: st))) : Go p l e R s m args below meth c n0 K N Q h ck cn (mkF m pc Ls (.long y :: .long x :: st)) := by
  obtain ⟨hd, rfl⟩ := hd
  exact Go.step (fun T locs X _ t k => XS.lmul X.here C.1 rfl (hb C.2.1 hd) rfl k) k
theorem g_land (C : Cx p s m meth c Z code maxL own ret) {pc pc' : Nat} {Ls : Array Slot} {st : List Value} {x y : Int64} (hd : I1 code pc (.land) 1 pc') (k : Go p l e R s m args below meth c n0 K N Q h ck cn (mkF m pc' Ls (.long (x &&& y) :: st))) : Go p l e R s m args below meth c n0 K N Q h ck cn (mkF m pc Ls (.long y :: .long x :: st)) := by
  obtain ⟨hd, rfl⟩ := hd
  exact Go.step (fun T locs X _ t k => XS.land X.here C.1 rfl (hb C.2.1 hd) rfl k) k
theorem g_lor (C : Cx p s m meth c Z code maxL own ret) {pc pc' : Nat} {Ls : Array Slot} {st : List Value} {x y : Int64} (hd : I1 code pc (.lor) 1 pc') (k : Go p l e R s m args below meth c n0 K N Q h ck cn (mkF m pc' Ls (.long (x ||| y) :: st))) : Go p l e R s m args below meth c n0 K N Q h ck cn (mkF m pc Ls (.long y :: .long x :: st)) := by
  obtain ⟨hd, rfl⟩ := hd
  exact Go.step (fun T locs X _ t k => XS.lor X.here C.1 rfl (hb C.2.1 hd) rfl k) k
theorem g_lxor (C : Cx p s m meth c Z code maxL own ret) {pc pc' : Nat} {Ls : Array Slot} {st : List Value} {x y : Int64} (hd : I1 code pc (.lxor) 1 pc') (k : Go p l e R s m args below meth c n0 K N Q h ck cn (mkF m pc' Ls (.long (x ^^^ y) :: st))) : Go p l e R s m args below meth c n0 K N Q h ck cn (mkF m pc Ls (.long y :: .long x :: st)) := by
  obtain ⟨hd, rfl⟩ := hd
  exact Go.step (fun T locs X _ t k => XS.lxor X.here C.1 rfl (hb C.2.1 hd) rfl k) k
theorem g_lshl (C : Cx p s m meth c Z code maxL own ret) {pc pc' : Nat} {Ls : Array Slot} {st : List Value} {x : Int64} {y : Int32} (hd : I1 code pc (.lshl) 1 pc') (k : Go p l e R s m args below meth c n0 K N Q h ck cn (mkF m pc' Ls (.long (x <<< (y &&& 0x3f).toInt64) :: st))) : Go p l e R s m args below meth c n0 K N Q h ck cn (mkF m pc Ls (.int y :: .long x :: st)) := by
  obtain ⟨hd, rfl⟩ := hd
  exact Go.step (fun T locs X _ t k => XS.lshl X.here C.1 rfl (hb C.2.1 hd) rfl k) k
theorem g_lshr (C : Cx p s m meth c Z code maxL own ret) {pc pc' : Nat} {Ls : Array Slot} {st : List Value} {x : Int64} {y : Int32} (hd : I1 code pc (.lshr) 1 pc') (k : Go p l e R s m args below meth c n0 K N Q h ck cn (mkF m pc' Ls (.long (x >>> (y &&& 0x3f).toInt64) :: st))) : Go p l e R s m args below meth c n0 K N Q h ck cn (mkF m pc Ls (.int y :: .long x :: st)) := by
  obtain ⟨hd, rfl⟩ := hd
  exact Go.step (fun T locs X _ t k => XS.lshr X.here C.1 rfl (hb C.2.1 hd) rfl k) k
theorem g_lushr (C : Cx p s m meth c Z code maxL own ret) {pc pc' : Nat} {Ls : Array Slot} {st : List Value} {x : Int64} {y : Int32} (hd : I1 code pc (.lushr) 1 pc') (k : Go p l e R s m args below meth c n0 K N Q h ck cn (mkF m pc' Ls (.long ((x.toUInt64 >>> (y &&& 0x3f).toInt64.toUInt64).toInt64) :: st))) : Go p l e R s m args below meth c n0 K N Q h ck cn (mkF m pc Ls (.int y :: .long x :: st)) := by
  obtain ⟨hd, rfl⟩ := hd
  exact Go.step (fun T locs X _ t k => XS.lushr X.here C.1 rfl (hb C.2.1 hd) rfl k) k
theorem g_lcmp (C : Cx p s m meth c Z code maxL own ret) {pc pc' : Nat} {Ls : Array Slot} {st : List Value} {x y : Int64} (hd : I1 code pc (.lcmp) 1 pc') (k : Go p l e R s m args below meth c n0 K N Q h ck cn (mkF m pc' Ls (.int (lcmpW x y) :: st))) : Go p l e R s m args below meth c n0 K N Q h ck cn (mkF m pc Ls (.long y :: .long x :: st)) := by
  obtain ⟨hd, rfl⟩ := hd
  exact Go.step (fun T locs X _ t k => XS.lcmp X.here C.1 rfl (hb C.2.1 hd) rfl k) k
theorem g_ineg (C : Cx p s m meth c Z code maxL own ret) {pc pc' : Nat} {Ls : Array Slot} {st : List Value} {x : Int32} (hd : I1 code pc (.ineg) 1 pc') (k : Go p l e R s m args below meth c n0 K N Q h ck cn (mkF m pc' Ls (.int (-x) :: st))) : Go p l e R s m args below meth c n0 K N Q h ck cn (mkF m pc Ls (.int x :: st)) := by
  obtain ⟨hd, rfl⟩ := hd
  exact Go.step (fun T locs X _ t k => XS.ineg X.here C.1 rfl (hb C.2.1 hd) rfl k) k
theorem g_lneg (C : Cx p s m meth c Z code maxL own ret) {pc pc' : Nat} {Ls : Array Slot} {st : List Value} {x : Int64} (hd : I1 code pc (.lneg) 1 pc') (k : Go p l e R s m args below meth c n0 K N Q h ck cn (mkF m pc' Ls (.long (-x) :: st))) : Go p l e R s m args below meth c n0 K N Q h ck cn (mkF m pc Ls (.long x :: st)) := by
  obtain ⟨hd, rfl⟩ := hd
  exact Go.step (fun T locs X _ t k => XS.lneg X.here C.1 rfl (hb C.2.1 hd) rfl k) k
theorem g_i2l (C : Cx p s m meth c Z code maxL own ret) {pc pc' : Nat} {Ls : Array Slot} {st : List Value} {x : Int32} (hd : I1 code pc (.i2l) 1 pc') (k : Go p l e R s m args below meth c n0 K N Q h ck cn (mkF m pc' Ls (.long x.toInt64 :: st))) : Go p l e R s m args below meth c n0 K N Q h ck cn (mkF m pc Ls (.int x :: st)) := by
  obtain ⟨hd, rfl⟩ := hd
  exact Go.step (fun T locs X _ t k => XS.i2l X.here C.1 rfl (hb C.2.1 hd) rfl k) k
theorem g_l2i (C : Cx p s m meth c Z code maxL own ret) {pc pc' : Nat} {Ls : Array Slot} {st : List Value} {x : Int64} (hd : I1 code pc (.l2i) 1 pc') (k : Go p l e R s m args below meth c n0 K N Q h ck cn (mkF m pc' Ls (.int x.toInt32 :: st))) : Go p l e R s m args below meth c n0 K N Q h ck cn (mkF m pc Ls (.long x :: st)) := by
  obtain ⟨hd, rfl⟩ := hd
  exact Go.step (fun T locs X _ t k => XS.l2i X.here C.1 rfl (hb C.2.1 hd) rfl k) k
theorem g_i2b (C : Cx p s m meth c Z code maxL own ret) {pc pc' : Nat} {Ls : Array Slot} {st : List Value} {x : Int32} (hd : I1 code pc (.i2b) 1 pc') (k : Go p l e R s m args below meth c n0 K N Q h ck cn (mkF m pc' Ls (.int x.toInt8.toInt32 :: st))) : Go p l e R s m args below meth c n0 K N Q h ck cn (mkF m pc Ls (.int x :: st)) := by
  obtain ⟨hd, rfl⟩ := hd
  exact Go.step (fun T locs X _ t k => XS.i2b X.here C.1 rfl (hb C.2.1 hd) rfl k) k
theorem g_i2s (C : Cx p s m meth c Z code maxL own ret) {pc pc' : Nat} {Ls : Array Slot} {st : List Value} {x : Int32} (hd : I1 code pc (.i2s) 1 pc') (k : Go p l e R s m args below meth c n0 K N Q h ck cn (mkF m pc' Ls (.int x.toInt16.toInt32 :: st))) : Go p l e R s m args below meth c n0 K N Q h ck cn (mkF m pc Ls (.int x :: st)) := by
  obtain ⟨hd, rfl⟩ := hd
  exact Go.step (fun T locs X _ t k => XS.i2s X.here C.1 rfl (hb C.2.1 hd) rfl k) k
theorem g_i2c (C : Cx p s m meth c Z code maxL own ret) {pc pc' : Nat} {Ls : Array Slot} {st : List Value} {x : Int32} (hd : I1 code pc (.i2c) 1 pc') (k : Go p l e R s m args below meth c n0 K N Q h ck cn (mkF m pc' Ls (.int x.toUInt32.toUInt16.toUInt32.toInt32 :: st))) : Go p l e R s m args below meth c n0 K N Q h ck cn (mkF m pc Ls (.int x :: st)) := by
  obtain ⟨hd, rfl⟩ := hd
  exact Go.step (fun T locs X _ t k => XS.i2c X.here C.1 rfl (hb C.2.1 hd) rfl k) k
theorem g_idiv (C : Cx p s m meth c Z code maxL own ret) {pc pc' : Nat} {Ls : Array Slot} {st : List Value} {x y : Int32} (hd : I1 code pc (.idiv) 1 pc') (hy : y ≠ 0) (k : Go p l e R s m args below meth c n0 K N Q h ck cn (mkF m pc' Ls (.int (x / y) :: st))) : Go p l e R s m args below meth c n0 K N Q h ck cn (mkF m pc Ls (.int y :: .int x :: st)) := by
  obtain ⟨hd, rfl⟩ := hd
  exact Go.step (fun T locs X _ t k => XS.idiv X.here C.1 rfl (hb C.2.1 hd) rfl hy k) k
theorem g_ldiv (C : Cx p s m meth c Z code maxL own ret) {pc pc' : Nat} {Ls : Array Slot} {st : List Value} {x y : Int64} (hd : I1 code pc (.ldiv) 1 pc') (hy : y ≠ 0) (k : Go p l e R s m args below meth c n0 K N Q h ck cn (mkF m pc' Ls (.long (x / y) :: st))) : Go p l e R s m args below meth c n0 K N Q h ck cn (mkF m pc Ls (.long y :: .long x :: st)) := by
  obtain ⟨hd, rfl⟩ := hd
  exact Go.step (fun T locs X _ t k => XS.ldiv X.here C.1 rfl (hb C.2.1 hd) rfl hy k) k
theorem g_irem (C : Cx p s m meth c Z code maxL own ret) {pc pc' : Nat} {Ls : Array Slot} {st : List Value} {x y : Int32} (hd : I1 code pc .irem 1 pc') (hy : y ≠ 0) (k : Go p l e R s m args below meth c n0 K N Q h ck cn (mkF m pc' Ls (.int (x % y) :: st))) : Go p l e R s m args below meth c n0 K N Q h ck cn (mkF m pc Ls (.int y :: .int x :: st)) := by
  obtain ⟨hd, rfl⟩ := hd
  exact Go.step (fun T locs X _ t k => iremM X C.1 rfl (hb C.2.1 hd) rfl hy k) k
theorem g_lrem (C : Cx p s m meth c Z code maxL own ret) {pc pc' : Nat} {Ls : Array Slot} {st : List Value} {x y : Int64} (hd : I1 code pc .lrem 1 pc') (hy : y ≠ 0) (k : Go p l e R s m args below meth c n0 K N Q h ck cn (mkF m pc' Ls (.long (x % y) :: st))) : Go p l e R s m args below meth c n0 K N Q h ck cn (mkF m pc Ls (.long y :: .long x :: st)) := by
  obtain ⟨hd, rfl⟩ := hd
  exact Go.step (fun T locs X _ t k => XS.lrem X.here C.1 rfl (hb C.2.1 hd) rfl hy (by rw [lrem_mod]; exact k)) k
theorem g_iloadN (C : Cx p s m meth c Z code maxL own ret) {pc pc' : Nat} {Ls : Array Slot} {st : List Value} {k : Fin 4} {v : Int32} (hd : I1 code pc (.iload_n k) 1 pc') (hl : Ls[k.val]? = some (.val (.int v))) (k : Go p l e R s m args below meth c n0 K N Q h ck cn (mkF m pc' Ls (.int v :: st))) : Go p l e R s m args below meth c n0 K N Q h ck cn (mkF m pc Ls (st)) := by
  obtain ⟨hd, rfl⟩ := hd
  exact Go.step (fun T locs X _ t k => XS.iloadN X.here C.1 rfl (hb C.2.1 hd) hl k) k
theorem g_iload (C : Cx p s m meth c Z code maxL own ret) {pc pc' : Nat} {Ls : Array Slot} {st : List Value} {k : Nat} {v : Int32} (hd : I1 code pc (.iload k) 2 pc') (hl : Ls[k]? = some (.val (.int v))) (k : Go p l e R s m args below meth c n0 K N Q h ck cn (mkF m pc' Ls (.int v :: st))) : Go p l e R s m args below meth c n0 K N Q h ck cn (mkF m pc Ls (st)) := by
  obtain ⟨hd, rfl⟩ := hd
  exact Go.step (fun T locs X _ t k => XS.iload X.here C.1 rfl (hb C.2.1 hd) hl k) k
theorem g_istoreN (C : Cx p s m meth c Z code maxL own ret) {pc pc' : Nat} {Ls : Array Slot} {st : List Value} {k : Fin 4} {x : Int32} {Ls' : Array Slot} (hd : I1 code pc (.istore_n k) 1 pc') (hl : storeLocals Ls k.val (.int x) = some Ls') (k : Go p l e R s m args below meth c n0 K N Q h ck cn (mkF m pc' Ls' (st))) : Go p l e R s m args below meth c n0 K N Q h ck cn (mkF m pc Ls (.int x :: st)) := by
  obtain ⟨hd, rfl⟩ := hd
  exact Go.step (fun T locs X _ t k => XS.istoreN X.here C.1 rfl (hb C.2.1 hd) rfl hl k) k
theorem g_istore (C : Cx p s m meth c Z code maxL own ret) {pc pc' : Nat} {Ls : Array Slot} {st : List Value} {k : Nat} {x : Int32} {Ls' : Array Slot} (hd : I1 code pc (.istore k) 2 pc') (hl : storeLocals Ls k (.int x) = some Ls') (k : Go p l e R s m args below meth c n0 K N Q h ck cn (mkF m pc' Ls' (st))) : Go p l e R s m args below meth c n0 K N Q h ck cn (mkF m pc Ls (.int x :: st)) := by
  obtain ⟨hd, rfl⟩ := hd
  exact Go.step (fun T locs X _ t k => XS.istore X.here C.1 rfl (hb C.2.1 hd) rfl hl k) k
theorem g_lloadN (C : Cx p s m meth c Z code maxL own ret) {pc pc' : Nat} {Ls : Array Slot} {st : List Value} {k : Fin 4} {v : Int64} (hd : I1 code pc (.lload_n k) 1 pc') (hl : Ls[k.val]? = some (.val (.long v))) (k : Go p l e R s m args below meth c n0 K N Q h ck cn (mkF m pc' Ls (.long v :: st))) : Go p l e R s m args below meth c n0 K N Q h ck cn (mkF m pc Ls (st)) := by
  obtain ⟨hd, rfl⟩ := hd
  exact Go.step (fun T locs X _ t k => XS.lloadN X.here C.1 rfl (hb C.2.1 hd) hl k) k
theorem g_lload (C : Cx p s m meth c Z code maxL own ret) {pc pc' : Nat} {Ls : Array Slot} {st : List Value} {k : Nat} {v : Int64} (hd : I1 code pc (.lload k) 2 pc') (hl : Ls[k]? = some (.val (.long v))) (k : Go p l e R s m args below meth c n0 K N Q h ck cn (mkF m pc' Ls (.long v :: st))) : Go p l e R s m args below meth c n0 K N Q h ck cn (mkF m pc Ls (st)) := by
  obtain ⟨hd, rfl⟩ := hd
  exact Go.step (fun T locs X _ t k => XS.lload X.here C.1 rfl (hb C.2.1 hd) hl k) k
theorem g_lstoreN (C : Cx p s m meth c Z code maxL own ret) {pc pc' : Nat} {Ls : Array Slot} {st : List Value} {k : Fin 4} {x : Int64} {Ls' : Array Slot} (hd : I1 code pc (.lstore_n k) 1 pc') (hl : storeLocals Ls k.val (.long x) = some Ls') (k : Go p l e R s m args below meth c n0 K N Q h ck cn (mkF m pc' Ls' (st))) : Go p l e R s m args below meth c n0 K N Q h ck cn (mkF m pc Ls (.long x :: st)) := by
  obtain ⟨hd, rfl⟩ := hd
  exact Go.step (fun T locs X _ t k => XS.lstoreN X.here C.1 rfl (hb C.2.1 hd) rfl hl k) k
theorem g_lstore (C : Cx p s m meth c Z code maxL own ret) {pc pc' : Nat} {Ls : Array Slot} {st : List Value} {k : Nat} {x : Int64} {Ls' : Array Slot} (hd : I1 code pc (.lstore k) 2 pc') (hl : storeLocals Ls k (.long x) = some Ls') (k : Go p l e R s m args below meth c n0 K N Q h ck cn (mkF m pc' Ls' (st))) : Go p l e R s m args below meth c n0 K N Q h ck cn (mkF m pc Ls (.long x :: st)) := by
  obtain ⟨hd, rfl⟩ := hd
  exact Go.step (fun T locs X _ t k => XS.lstore X.here C.1 rfl (hb C.2.1 hd) rfl hl k) k
theorem g_aloadN (C : Cx p s m meth c Z code maxL own ret) {pc pc' : Nat} {Ls : Array Slot} {st : List Value} {k : Fin 4} {v : Value} (hd : I1 code pc (.aload_n k) 1 pc') (hl : Ls[k.val]? = some (.val v)) (hv : v.isRef = true) (k : Go p l e R s m args below meth c n0 K N Q h ck cn (mkF m pc' Ls (v :: st))) : Go p l e R s m args below meth c n0 K N Q h ck cn (mkF m pc Ls (st)) := by
  obtain ⟨hd, rfl⟩ := hd
  exact Go.step (fun T locs X _ t k => XS.aloadN X.here C.1 rfl (hb C.2.1 hd) hl hv k) k
theorem g_aload (C : Cx p s m meth c Z code maxL own ret) {pc pc' : Nat} {Ls : Array Slot} {st : List Value} {k : Nat} {v : Value} (hd : I1 code pc (.aload k) 2 pc') (hl : Ls[k]? = some (.val v)) (hv : v.isRef = true) (k : Go p l e R s m args below meth c n0 K N Q h ck cn (mkF m pc' Ls (v :: st))) : Go p l e R s m args below meth c n0 K N Q h ck cn (mkF m pc Ls (st)) := by
  obtain ⟨hd, rfl⟩ := hd
  exact Go.step (fun T locs X _ t k => XS.aload X.here C.1 rfl (hb C.2.1 hd) hl hv k) k
theorem g_astoreN (C : Cx p s m meth c Z code maxL own ret) {pc pc' : Nat} {Ls : Array Slot} {st : List Value} {k : Fin 4} {x : Value} {Ls' : Array Slot} (hd : I1 code pc (.astore_n k) 1 pc') (hv : x.isRef = true) (hl : storeLocals Ls k.val x = some Ls') (k : Go p l e R s m args below meth c n0 K N Q h ck cn (mkF m pc' Ls' (st))) : Go p l e R s m args below meth c n0 K N Q h ck cn (mkF m pc Ls (x :: st)) := by
  obtain ⟨hd, rfl⟩ := hd
  exact Go.step (fun T locs X _ t k => XS.astoreN X.here C.1 rfl (hb C.2.1 hd) rfl hv hl k) k
theorem g_astore (C : Cx p s m meth c Z code maxL own ret) {pc pc' : Nat} {Ls : Array Slot} {st : List Value} {k : Nat} {x : Value} {Ls' : Array Slot} (hd : I1 code pc (.astore k) 2 pc') (hv : x.isRef = true) (hl : storeLocals Ls k x = some Ls') (k : Go p l e R s m args below meth c n0 K N Q h ck cn (mkF m pc' Ls' (st))) : Go p l e R s m args below meth c n0 K N Q h ck cn (mkF m pc Ls (x :: st)) := by
  obtain ⟨hd, rfl⟩ := hd
  exact Go.step (fun T locs X _ t k => XS.astore X.here C.1 rfl (hb C.2.1 hd) rfl hv hl k) k
theorem g_iinc (C : Cx p s m meth c Z code maxL own ret) {pc pc' : Nat} {Ls : Array Slot} {st : List Value} {k : Nat} {cst : Int} {x : Int32} {Ls' : Array Slot} (hd : I1 code pc (.iinc k cst) 3 pc') (hl : Ls[k]? = some (.val (.int x))) (hl' : storeLocals Ls k (.int (x + Int32.ofInt cst)) = some Ls') (k : Go p l e R s m args below meth c n0 K N Q h ck cn (mkF m pc' Ls' (st))) : Go p l e R s m args below meth c n0 K N Q h ck cn (mkF m pc Ls (st)) := by
  obtain ⟨hd, rfl⟩ := hd
  exact Go.step (fun T locs X _ t k => XS.iinc X.here C.1 rfl (hb C.2.1 hd) hl hl' k) k
theorem g_iconst (C : Cx p s m meth c Z code maxL own ret) {pc pc' : Nat} {Ls : Array Slot} {st : List Value} {i : Int} (v : Int32) (hd : I1 code pc (.iconst i) 1 pc') (hv : Int32.ofInt i = v) (k : Go p l e R s m args below meth c n0 K N Q h ck cn (mkF m pc' Ls (.int v :: st))) : Go p l e R s m args below meth c n0 K N Q h ck cn (mkF m pc Ls st) := by
  obtain ⟨hd, rfl⟩ := hd
  subst hv
  exact Go.step (fun T locs X _ t k => XS.iconst X.here C.1 rfl (hb C.2.1 hd) k) k
theorem g_bipush (C : Cx p s m meth c Z code maxL own ret) {pc pc' : Nat} {Ls : Array Slot} {st : List Value} {i : Int} (v : Int32) (hd : I1 code pc (.bipush i) 2 pc') (hv : (Int8.ofInt i).toInt32 = v) (k : Go p l e R s m args below meth c n0 K N Q h ck cn (mkF m pc' Ls (.int v :: st))) : Go p l e R s m args below meth c n0 K N Q h ck cn (mkF m pc Ls st) := by
  obtain ⟨hd, rfl⟩ := hd
  subst hv
  exact Go.step (fun T locs X _ t k => XS.bipush X.here C.1 rfl (hb C.2.1 hd) k) k
theorem g_sipush (C : Cx p s m meth c Z code maxL own ret) {pc pc' : Nat} {Ls : Array Slot} {st : List Value} {i : Int} (v : Int32) (hd : I1 code pc (.sipush i) 3 pc') (hv : (Int16.ofInt i).toInt32 = v) (k : Go p l e R s m args below meth c n0 K N Q h ck cn (mkF m pc' Ls (.int v :: st))) : Go p l e R s m args below meth c n0 K N Q h ck cn (mkF m pc Ls st) := by
  obtain ⟨hd, rfl⟩ := hd
  subst hv
  exact Go.step (fun T locs X _ t k => XS.sipush X.here C.1 rfl (hb C.2.1 hd) k) k
theorem g_lconst (C : Cx p s m meth c Z code maxL own ret) {pc pc' : Nat} {Ls : Array Slot} {st : List Value} {i : Fin 2} (v : Int64) (hd : I1 code pc (.lconst i) 1 pc') (hv : Int64.ofNat i = v) (k : Go p l e R s m args below meth c n0 K N Q h ck cn (mkF m pc' Ls (.long v :: st))) : Go p l e R s m args below meth c n0 K N Q h ck cn (mkF m pc Ls st) := by
  obtain ⟨hd, rfl⟩ := hd
  subst hv
  exact Go.step (fun T locs X _ t k => XS.lconst X.here C.1 rfl (hb C.2.1 hd) k) k
theorem g_aconstNull (C : Cx p s m meth c Z code maxL own ret) {pc pc' : Nat} {Ls : Array Slot} {st : List Value}  (hd : I1 code pc (.aconst_null) 1 pc') (k : Go p l e R s m args below meth c n0 K N Q h ck cn (mkF m pc' Ls (.null :: st))) : Go p l e R s m args below meth c n0 K N Q h ck cn (mkF m pc Ls (st)) := by
  obtain ⟨hd, rfl⟩ := hd
  exact Go.step (fun T locs X _ t k => XS.aconstNull X.here C.1 rfl (hb C.2.1 hd)  k) k
theorem g_ldcInt (C : Cx p s m meth c Z code maxL own ret) {pc pc' : Nat} {Ls : Array Slot} {st : List Value} {i : Nat} {v : Int32} (hd : I1 code pc (.ldc i) 2 pc') (w : (Cond.constant own i v).before a0 Z = true) (k : Go p l e R s m args below meth c n0 K N Q h ck cn (mkF m pc' Ls (.int v :: st))) : Go p l e R s m args below meth c n0 K N Q h ck cn (mkF m pc Ls st) := by
  obtain ⟨hd, rfl⟩ := hd
  exact Go.step (fun T locs X _ t k => X.ldcInt C.1 C.2.2.2.2.1 (mvT C.2.2.2.1 w) (g := mkF m pc Ls st) rfl (hb C.2.1 hd) _ k) k
theorem g_ldcwInt (C : Cx p s m meth c Z code maxL own ret) {pc pc' : Nat} {Ls : Array Slot} {st : List Value} {i : Nat} {v : Int32} (hd : I1 code pc (.ldc_w i) 3 pc') (w : (Cond.constant own i v).before a0 Z = true) (k : Go p l e R s m args below meth c n0 K N Q h ck cn (mkF m pc' Ls (.int v :: st))) : Go p l e R s m args below meth c n0 K N Q h ck cn (mkF m pc Ls st) := by
  obtain ⟨hd, rfl⟩ := hd
  exact Go.step (fun T locs X _ t k => X.ldcwInt C.1 C.2.2.2.2.1 (mvT C.2.2.2.1 w) (g := mkF m pc Ls st) rfl (hb C.2.1 hd) _ k) k
theorem g_ldc2Long (C : Cx p s m meth c Z code maxL own ret) {pc pc' : Nat} {Ls : Array Slot} {st : List Value} {i : Nat} {v : Int64} (hd : I1 code pc (.ldc2_w i) 3 pc') (w : (Cond.constantLong own i v).before a0 Z = true) (k : Go p l e R s m args below meth c n0 K N Q h ck cn (mkF m pc' Ls (.long v :: st))) : Go p l e R s m args below meth c n0 K N Q h ck cn (mkF m pc Ls st) := by
  obtain ⟨hd, rfl⟩ := hd
  exact Go.step (fun T locs X _ t k => X.ldc2Long C.1 C.2.2.2.2.1 (mvT C.2.2.2.1 w) (g := mkF m pc Ls st) rfl (hb C.2.1 hd) _ k) k
theorem g_dup (C : Cx p s m meth c Z code maxL own ret) {pc pc' : Nat} {Ls : Array Slot} {st : List Value} {x : Value} (hd : I1 code pc (.dup) 1 pc') (hc : x.category = 1) (k : Go p l e R s m args below meth c n0 K N Q h ck cn (mkF m pc' Ls (x :: x :: st))) : Go p l e R s m args below meth c n0 K N Q h ck cn (mkF m pc Ls (x :: st)) := by
  obtain ⟨hd, rfl⟩ := hd
  exact Go.step (fun T locs X _ t k => XS.dup X.here C.1 rfl (hb C.2.1 hd) rfl hc k) k
theorem g_pop (C : Cx p s m meth c Z code maxL own ret) {pc pc' : Nat} {Ls : Array Slot} {st : List Value} {x : Value} (hd : I1 code pc (.pop) 1 pc') (hc : x.category = 1) (k : Go p l e R s m args below meth c n0 K N Q h ck cn (mkF m pc' Ls (st))) : Go p l e R s m args below meth c n0 K N Q h ck cn (mkF m pc Ls (x :: st)) := by
  obtain ⟨hd, rfl⟩ := hd
  exact Go.step (fun T locs X _ t k => XS.pop X.here C.1 rfl (hb C.2.1 hd) rfl hc k) k
theorem g_dupX1 (C : Cx p s m meth c Z code maxL own ret) {pc pc' : Nat} {Ls : Array Slot} {st : List Value} {x y : Value} (hd : I1 code pc (.dup_x1) 1 pc') (hc : x.category = 1) (hc' : y.category = 1) (k : Go p l e R s m args below meth c n0 K N Q h ck cn (mkF m pc' Ls (x :: y :: x :: st))) : Go p l e R s m args below meth c n0 K N Q h ck cn (mkF m pc Ls (x :: y :: st)) := by
  obtain ⟨hd, rfl⟩ := hd
  exact Go.step (fun T locs X _ t k => XS.dupX1 X.here C.1 rfl (hb C.2.1 hd) rfl hc hc' k) k
theorem g_dup2 (C : Cx p s m meth c Z code maxL own ret) {pc pc' : Nat} {Ls : Array Slot} {st : List Value} {x y : Value} (hd : I1 code pc (.dup2) 1 pc') (hc : x.category = 1) (hc' : y.category = 1) (k : Go p l e R s m args below meth c n0 K N Q h ck cn (mkF m pc' Ls (x :: y :: x :: y :: st))) : Go p l e R s m args below meth c n0 K N Q h ck cn (mkF m pc Ls (x :: y :: st)) := by
  obtain ⟨hd, rfl⟩ := hd
  exact Go.step (fun T locs X _ t k => Jvm.Free.XT.dup2 X.here C.1 rfl (hb C.2.1 hd) rfl hc hc' k) k
theorem g_dup2L (C : Cx p s m meth c Z code maxL own ret) {pc pc' : Nat} {Ls : Array Slot} {st : List Value} {x : Int64} (hd : I1 code pc (.dup2) 1 pc') (k : Go p l e R s m args below meth c n0 K N Q h ck cn (mkF m pc' Ls (.long x :: .long x :: st))) : Go p l e R s m args below meth c n0 K N Q h ck cn (mkF m pc Ls (.long x :: st)) := by
  obtain ⟨hd, rfl⟩ := hd
  exact Go.step (fun T locs X _ t k => Jvm.Free.XT.dup2L X.here C.1 rfl (hb C.2.1 hd) rfl k) k
theorem g_goto (C : Cx p s m meth c Z code maxL own ret) {pc pcT pcF : Nat} {Ls : Array Slot} {st : List Value} {o : Int} (hd : B1 code pc (.goto o) o pcT pcF) (k : Go p l e R s m args below meth c n0 K N Q h ck cn (mkF m pcT Ls st)) : Go p l e R s m args below meth c n0 K N Q h ck cn (mkF m pc Ls st) := by
  obtain ⟨hd, -, ho, hp⟩ := hd
  exact Go.step (fun T locs X _ t k => XS.goto X.here C.1 rfl (pc0 := pc) rfl (hb C.2.1 hd) ho hp k) k
theorem g_icmp_lt (C : Cx p s m meth c Z code maxL own ret) {pc pcT pcF : Nat} {Ls : Array Slot} {st : List Value} {o : Int} {x y : Int32} (hd : B1 code pc (.if_icmp .lt o) o pcT pcF) (kt : x < y → Go p l e R s m args below meth c n0 K N Q h ck cn (mkF m pcT Ls st)) (kf : ¬ (x < y) → Go p l e R s m args below meth c n0 K N Q h ck cn (mkF m pcF Ls st)) : Go p l e R s m args below meth c n0 K N Q h ck cn (mkF m pc Ls (.int y :: .int x :: st)) := by
  obtain ⟨hd, rfl, ho, hp⟩ := hd
  by_cases q : x < y
  · exact Go.step (fun T locs X _ t k => XS.icmpYes X.here C.1 rfl (pc0 := pc) rfl (hb C.2.1 hd) rfl ((tlt q).1) ho hp k) (kt q)
  · exact Go.step (fun T locs X _ t k => XS.icmpNo X.here C.1 rfl (hb C.2.1 hd) rfl ((flt q).1) k) (kf q)
theorem g_if_lt (C : Cx p s m meth c Z code maxL own ret) {pc pcT pcF : Nat} {Ls : Array Slot} {st : List Value} {o : Int} {x : Int32} (hd : B1 code pc (.ifCond .lt o) o pcT pcF) (kt : x < 0 → Go p l e R s m args below meth c n0 K N Q h ck cn (mkF m pcT Ls st)) (kf : ¬ (x < 0) → Go p l e R s m args below meth c n0 K N Q h ck cn (mkF m pcF Ls st)) : Go p l e R s m args below meth c n0 K N Q h ck cn (mkF m pc Ls (.int x :: st)) := by
  obtain ⟨hd, rfl, ho, hp⟩ := hd
  by_cases q : x < 0
  · exact Go.step (fun T locs X _ t k => XS.ifYes X.here C.1 rfl (pc0 := pc) rfl (hb C.2.1 hd) rfl ((if0 _ _).trans (tlt q).1) ho hp k) (kt q)
  · exact Go.step (fun T locs X _ t k => XS.ifNo X.here C.1 rfl (hb C.2.1 hd) rfl ((if0 _ _).trans (flt q).1) k) (kf q)
theorem g_ifl_lt (C : Cx p s m meth c Z code maxL own ret) {pc pcT pcF : Nat} {Ls : Array Slot} {st : List Value} {o : Int} {x y : Int64} (hd : B1 code pc (.ifCond .lt o) o pcT pcF) (kt : x < y → Go p l e R s m args below meth c n0 K N Q h ck cn (mkF m pcT Ls st)) (kf : ¬ (x < y) → Go p l e R s m args below meth c n0 K N Q h ck cn (mkF m pcF Ls st)) : Go p l e R s m args below meth c n0 K N Q h ck cn (mkF m pc Ls (.int (lcmpW x y) :: st)) := by
  obtain ⟨hd, rfl, ho, hp⟩ := hd
  by_cases q : x < y
  · exact Go.step (fun T locs X _ t k => XS.ifYes X.here C.1 rfl (pc0 := pc) rfl (hb C.2.1 hd) rfl ((if0 _ _).trans (tlt ((lw_lt x y).mpr q)).1) ho hp k) (kt q)
  · exact Go.step (fun T locs X _ t k => XS.ifNo X.here C.1 rfl (hb C.2.1 hd) rfl ((if0 _ _).trans (flt (fun z => q ((lw_lt x y).mp z))).1) k) (kf q)
theorem g_icmp_ge (C : Cx p s m meth c Z code maxL own ret) {pc pcT pcF : Nat} {Ls : Array Slot} {st : List Value} {o : Int} {x y : Int32} (hd : B1 code pc (.if_icmp .ge o) o pcT pcF) (kt : x < y → Go p l e R s m args below meth c n0 K N Q h ck cn (mkF m pcF Ls st)) (kf : ¬ (x < y) → Go p l e R s m args below meth c n0 K N Q h ck cn (mkF m pcT Ls st)) : Go p l e R s m args below meth c n0 K N Q h ck cn (mkF m pc Ls (.int y :: .int x :: st)) := by
  obtain ⟨hd, rfl, ho, hp⟩ := hd
  by_cases q : x < y
  · exact Go.step (fun T locs X _ t k => XS.icmpNo X.here C.1 rfl (hb C.2.1 hd) rfl ((tlt q).2.1) k) (kt q)
  · exact Go.step (fun T locs X _ t k => XS.icmpYes X.here C.1 rfl (pc0 := pc) rfl (hb C.2.1 hd) rfl ((flt q).2.1) ho hp k) (kf q)
theorem g_if_ge (C : Cx p s m meth c Z code maxL own ret) {pc pcT pcF : Nat} {Ls : Array Slot} {st : List Value} {o : Int} {x : Int32} (hd : B1 code pc (.ifCond .ge o) o pcT pcF) (kt : x < 0 → Go p l e R s m args below meth c n0 K N Q h ck cn (mkF m pcF Ls st)) (kf : ¬ (x < 0) → Go p l e R s m args below meth c n0 K N Q h ck cn (mkF m pcT Ls st)) : Go p l e R s m args below meth c n0 K N Q h ck cn (mkF m pc Ls (.int x :: st)) := by
  obtain ⟨hd, rfl, ho, hp⟩ := hd
  by_cases q : x < 0
  · exact Go.step (fun T locs X _ t k => XS.ifNo X.here C.1 rfl (hb C.2.1 hd) rfl ((if0 _ _).trans (tlt q).2.1) k) (kt q)
  · exact Go.step (fun T locs X _ t k => XS.ifYes X.here C.1 rfl (pc0 := pc) rfl (hb C.2.1 hd) rfl ((if0 _ _).trans (flt q).2.1) ho hp k) (kf q)
theorem g_ifl_ge (C : Cx p s m meth c Z code maxL own ret) {pc pcT pcF : Nat} {Ls : Array Slot} {st : List Value} {o : Int} {x y : Int64} (hd : B1 code pc (.ifCond .ge o) o pcT pcF) (kt : x < y → Go p l e R s m args below meth c n0 K N Q h ck cn (mkF m pcF Ls st)) (kf : ¬ (x < y) → Go p l e R s m args below meth c n0 K N Q h ck cn (mkF m pcT Ls st)) : Go p l e R s m args below meth c n0 K N Q h ck cn (mkF m pc Ls (.int (lcmpW x y) :: st)) := by
  obtain ⟨hd, rfl, ho, hp⟩ := hd
  by_cases q : x < y
  · exact Go.step (fun T locs X _ t k => XS.ifNo X.here C.1 rfl (hb C.2.1 hd) rfl ((if0 _ _).trans (tlt ((lw_lt x y).mpr q)).2.1) k) (kt q)
  · exact Go.step (fun T locs X _ t k => XS.ifYes X.here C.1 rfl (pc0 := pc) rfl (hb C.2.1 hd) rfl ((if0 _ _).trans (flt (fun z => q ((lw_lt x y).mp z))).2.1) ho hp k) (kf q)
theorem g_icmp_gt (C : Cx p s m meth c Z code maxL own ret) {pc pcT pcF : Nat} {Ls : Array Slot} {st : List Value} {o : Int} {x y : Int32} (hd : B1 code pc (.if_icmp .gt o) o pcT pcF) (kt : y < x → Go p l e R s m args below meth c n0 K N Q h ck cn (mkF m pcT Ls st)) (kf : ¬ (y < x) → Go p l e R s m args below meth c n0 K N Q h ck cn (mkF m pcF Ls st)) : Go p l e R s m args below meth c n0 K N Q h ck cn (mkF m pc Ls (.int y :: .int x :: st)) := by
  obtain ⟨hd, rfl, ho, hp⟩ := hd
  by_cases q : y < x
  · exact Go.step (fun T locs X _ t k => XS.icmpYes X.here C.1 rfl (pc0 := pc) rfl (hb C.2.1 hd) rfl ((tlt q).2.2.1) ho hp k) (kt q)
  · exact Go.step (fun T locs X _ t k => XS.icmpNo X.here C.1 rfl (hb C.2.1 hd) rfl ((flt q).2.2.1) k) (kf q)
theorem g_if_gt (C : Cx p s m meth c Z code maxL own ret) {pc pcT pcF : Nat} {Ls : Array Slot} {st : List Value} {o : Int} {x : Int32} (hd : B1 code pc (.ifCond .gt o) o pcT pcF) (kt : 0 < x → Go p l e R s m args below meth c n0 K N Q h ck cn (mkF m pcT Ls st)) (kf : ¬ (0 < x) → Go p l e R s m args below meth c n0 K N Q h ck cn (mkF m pcF Ls st)) : Go p l e R s m args below meth c n0 K N Q h ck cn (mkF m pc Ls (.int x :: st)) := by
  obtain ⟨hd, rfl, ho, hp⟩ := hd
  by_cases q : 0 < x
  · exact Go.step (fun T locs X _ t k => XS.ifYes X.here C.1 rfl (pc0 := pc) rfl (hb C.2.1 hd) rfl ((if0 _ _).trans (tlt q).2.2.1) ho hp k) (kt q)
  · exact Go.step (fun T locs X _ t k => XS.ifNo X.here C.1 rfl (hb C.2.1 hd) rfl ((if0 _ _).trans (flt q).2.2.1) k) (kf q)
theorem g_ifl_gt (C : Cx p s m meth c Z code maxL own ret) {pc pcT pcF : Nat} {Ls : Array Slot} {st : List Value} {o : Int} {x y : Int64} (hd : B1 code pc (.ifCond .gt o) o pcT pcF) (kt : y < x → Go p l e R s m args below meth c n0 K N Q h ck cn (mkF m pcT Ls st)) (kf : ¬ (y < x) → Go p l e R s m args below meth c n0 K N Q h ck cn (mkF m pcF Ls st)) : Go p l e R s m args below meth c n0 K N Q h ck cn (mkF m pc Ls (.int (lcmpW x y) :: st)) := by
  obtain ⟨hd, rfl, ho, hp⟩ := hd
  by_cases q : y < x
  · exact Go.step (fun T locs X _ t k => XS.ifYes X.here C.1 rfl (pc0 := pc) rfl (hb C.2.1 hd) rfl ((if0 _ _).trans (tlt ((lw_gt x y).mpr q)).2.2.1) ho hp k) (kt q)
  · exact Go.step (fun T locs X _ t k => XS.ifNo X.here C.1 rfl (hb C.2.1 hd) rfl ((if0 _ _).trans (flt (fun z => q ((lw_gt x y).mp z))).2.2.1) k) (kf q)
theorem g_icmp_le (C : Cx p s m meth c Z code maxL own ret) {pc pcT pcF : Nat} {Ls : Array Slot} {st : List Value} {o : Int} {x y : Int32} (hd : B1 code pc (.if_icmp .le o) o pcT pcF) (kt : y < x → Go p l e R s m args below meth c n0 K N Q h ck cn (mkF m pcF Ls st)) (kf : ¬ (y < x) → Go p l e R s m args below meth c n0 K N Q h ck cn (mkF m pcT Ls st)) : Go p l e R s m args below meth c n0 K N Q h ck cn (mkF m pc Ls (.int y :: .int x :: st)) := by
  obtain ⟨hd, rfl, ho, hp⟩ := hd
  by_cases q : y < x
  · exact Go.step (fun T locs X _ t k => XS.icmpNo X.here C.1 rfl (hb C.2.1 hd) rfl ((tlt q).2.2.2) k) (kt q)
  · exact Go.step (fun T locs X _ t k => XS.icmpYes X.here C.1 rfl (pc0 := pc) rfl (hb C.2.1 hd) rfl ((flt q).2.2.2) ho hp k) (kf q)
theorem g_if_le (C : Cx p s m meth c Z code maxL own ret) {pc pcT pcF : Nat} {Ls : Array Slot} {st : List Value} {o : Int} {x : Int32} (hd : B1 code pc (.ifCond .le o) o pcT pcF) (kt : 0 < x → Go p l e R s m args below meth c n0 K N Q h ck cn (mkF m pcF Ls st)) (kf : ¬ (0 < x) → Go p l e R s m args below meth c n0 K N Q h ck cn (mkF m pcT Ls st)) : Go p l e R s m args below meth c n0 K N Q h ck cn (mkF m pc Ls (.int x :: st)) := by
  obtain ⟨hd, rfl, ho, hp⟩ := hd
  by_cases q : 0 < x
  · exact Go.step (fun T locs X _ t k => XS.ifNo X.here C.1 rfl (hb C.2.1 hd) rfl ((if0 _ _).trans (tlt q).2.2.2) k) (kt q)
  · exact Go.step (fun T locs X _ t k => XS.ifYes X.here C.1 rfl (pc0 := pc) rfl (hb C.2.1 hd) rfl ((if0 _ _).trans (flt q).2.2.2) ho hp k) (kf q)
theorem g_ifl_le (C : Cx p s m meth c Z code maxL own ret) {pc pcT pcF : Nat} {Ls : Array Slot} {st : List Value} {o : Int} {x y : Int64} (hd : B1 code pc (.ifCond .le o) o pcT pcF) (kt : y < x → Go p l e R s m args below meth c n0 K N Q h ck cn (mkF m pcF Ls st)) (kf : ¬ (y < x) → Go p l e R s m args below meth c n0 K N Q h ck cn (mkF m pcT Ls st)) : Go p l e R s m args below meth c n0 K N Q h ck cn (mkF m pc Ls (.int (lcmpW x y) :: st)) := by
  obtain ⟨hd, rfl, ho, hp⟩ := hd
  by_cases q : y < x
  · exact Go.step (fun T locs X _ t k => XS.ifNo X.here C.1 rfl (hb C.2.1 hd) rfl ((if0 _ _).trans (tlt ((lw_gt x y).mpr q)).2.2.2) k) (kt q)
  · exact Go.step (fun T locs X _ t k => XS.ifYes X.here C.1 rfl (pc0 := pc) rfl (hb C.2.1 hd) rfl ((if0 _ _).trans (flt (fun z => q ((lw_gt x y).mp z))).2.2.2) ho hp k) (kf q)
theorem g_icmp_eq (C : Cx p s m meth c Z code maxL own ret) {pc pcT pcF : Nat} {Ls : Array Slot} {st : List Value} {o : Int} {x y : Int32} (hd : B1 code pc (.if_icmp .eq o) o pcT pcF) (kt : x = y → Go p l e R s m args below meth c n0 K N Q h ck cn (mkF m pcT Ls st)) (kf : ¬ (x = y) → Go p l e R s m args below meth c n0 K N Q h ck cn (mkF m pcF Ls st)) : Go p l e R s m args below meth c n0 K N Q h ck cn (mkF m pc Ls (.int y :: .int x :: st)) := by
  obtain ⟨hd, rfl, ho, hp⟩ := hd
  by_cases q : x = y
  · exact Go.step (fun T locs X _ t k => XS.icmpYes X.here C.1 rfl (pc0 := pc) rfl (hb C.2.1 hd) rfl ((teq q).1) ho hp k) (kt q)
  · exact Go.step (fun T locs X _ t k => XS.icmpNo X.here C.1 rfl (hb C.2.1 hd) rfl ((feq q).1) k) (kf q)
theorem g_if_eq (C : Cx p s m meth c Z code maxL own ret) {pc pcT pcF : Nat} {Ls : Array Slot} {st : List Value} {o : Int} {x : Int32} (hd : B1 code pc (.ifCond .eq o) o pcT pcF) (kt : x = 0 → Go p l e R s m args below meth c n0 K N Q h ck cn (mkF m pcT Ls st)) (kf : ¬ (x = 0) → Go p l e R s m args below meth c n0 K N Q h ck cn (mkF m pcF Ls st)) : Go p l e R s m args below meth c n0 K N Q h ck cn (mkF m pc Ls (.int x :: st)) := by
  obtain ⟨hd, rfl, ho, hp⟩ := hd
  by_cases q : x = 0
  · exact Go.step (fun T locs X _ t k => XS.ifYes X.here C.1 rfl (pc0 := pc) rfl (hb C.2.1 hd) rfl ((if0 _ _).trans (teq q).1) ho hp k) (kt q)
  · exact Go.step (fun T locs X _ t k => XS.ifNo X.here C.1 rfl (hb C.2.1 hd) rfl ((if0 _ _).trans (feq q).1) k) (kf q)
theorem g_ifl_eq (C : Cx p s m meth c Z code maxL own ret) {pc pcT pcF : Nat} {Ls : Array Slot} {st : List Value} {o : Int} {x y : Int64} (hd : B1 code pc (.ifCond .eq o) o pcT pcF) (kt : x = y → Go p l e R s m args below meth c n0 K N Q h ck cn (mkF m pcT Ls st)) (kf : ¬ (x = y) → Go p l e R s m args below meth c n0 K N Q h ck cn (mkF m pcF Ls st)) : Go p l e R s m args below meth c n0 K N Q h ck cn (mkF m pc Ls (.int (lcmpW x y) :: st)) := by
  obtain ⟨hd, rfl, ho, hp⟩ := hd
  by_cases q : x = y
  · exact Go.step (fun T locs X _ t k => XS.ifYes X.here C.1 rfl (pc0 := pc) rfl (hb C.2.1 hd) rfl ((if0 _ _).trans (teq ((lw_eq x y).mpr q)).1) ho hp k) (kt q)
  · exact Go.step (fun T locs X _ t k => XS.ifNo X.here C.1 rfl (hb C.2.1 hd) rfl ((if0 _ _).trans (feq (fun z => q ((lw_eq x y).mp z))).1) k) (kf q)
theorem g_icmp_ne (C : Cx p s m meth c Z code maxL own ret) {pc pcT pcF : Nat} {Ls : Array Slot} {st : List Value} {o : Int} {x y : Int32} (hd : B1 code pc (.if_icmp .ne o) o pcT pcF) (kt : x = y → Go p l e R s m args below meth c n0 K N Q h ck cn (mkF m pcF Ls st)) (kf : ¬ (x = y) → Go p l e R s m args below meth c n0 K N Q h ck cn (mkF m pcT Ls st)) : Go p l e R s m args below meth c n0 K N Q h ck cn (mkF m pc Ls (.int y :: .int x :: st)) := by
  obtain ⟨hd, rfl, ho, hp⟩ := hd
  by_cases q : x = y
  · exact Go.step (fun T locs X _ t k => XS.icmpNo X.here C.1 rfl (hb C.2.1 hd) rfl ((teq q).2) k) (kt q)
  · exact Go.step (fun T locs X _ t k => XS.icmpYes X.here C.1 rfl (pc0 := pc) rfl (hb C.2.1 hd) rfl ((feq q).2) ho hp k) (kf q)
theorem g_if_ne (C : Cx p s m meth c Z code maxL own ret) {pc pcT pcF : Nat} {Ls : Array Slot} {st : List Value} {o : Int} {x : Int32} (hd : B1 code pc (.ifCond .ne o) o pcT pcF) (kt : x = 0 → Go p l e R s m args below meth c n0 K N Q h ck cn (mkF m pcF Ls st)) (kf : ¬ (x = 0) → Go p l e R s m args below meth c n0 K N Q h ck cn (mkF m pcT Ls st)) : Go p l e R s m args below meth c n0 K N Q h ck cn (mkF m pc Ls (.int x :: st)) := by
  obtain ⟨hd, rfl, ho, hp⟩ := hd
  by_cases q : x = 0
  · exact Go.step (fun T locs X _ t k => XS.ifNo X.here C.1 rfl (hb C.2.1 hd) rfl ((if0 _ _).trans (teq q).2) k) (kt q)
  · exact Go.step (fun T locs X _ t k => XS.ifYes X.here C.1 rfl (pc0 := pc) rfl (hb C.2.1 hd) rfl ((if0 _ _).trans (feq q).2) ho hp k) (kf q)
theorem g_ifl_ne (C : Cx p s m meth c Z code maxL own ret) {pc pcT pcF : Nat} {Ls : Array Slot} {st : List Value} {o : Int} {x y : Int64} (hd : B1 code pc (.ifCond .ne o) o pcT pcF) (kt : x = y → Go p l e R s m args below meth c n0 K N Q h ck cn (mkF m pcF Ls st)) (kf : ¬ (x = y) → Go p l e R s m args below meth c n0 K N Q h ck cn (mkF m pcT Ls st)) : Go p l e R s m args below meth c n0 K N Q h ck cn (mkF m pc Ls (.int (lcmpW x y) :: st)) := by
  obtain ⟨hd, rfl, ho, hp⟩ := hd
  by_cases q : x = y
  · exact Go.step (fun T locs X _ t k => XS.ifNo X.here C.1 rfl (hb C.2.1 hd) rfl ((if0 _ _).trans (teq ((lw_eq x y).mpr q)).2) k) (kt q)
  · exact Go.step (fun T locs X _ t k => XS.ifYes X.here C.1 rfl (pc0 := pc) rfl (hb C.2.1 hd) rfl ((if0 _ _).trans (feq (fun z => q ((lw_eq x y).mp z))).2) ho hp k) (kf q)
theorem g_ifnullN (C : Cx p s m meth c Z code maxL own ret) {pc pcT pcF : Nat} {Ls : Array Slot} {st : List Value} {o : Int} {b : Addr} (hd : B1 code pc (.ifnull o) o pcT pcF) (k : Go p l e R s m args below meth c n0 K N Q h ck cn (mkF m pcF Ls st)) : Go p l e R s m args below meth c n0 K N Q h ck cn (mkF m pc Ls (.ref b :: st)) := by
  obtain ⟨hd, rfl, ho, hp⟩ := hd
  exact Go.step (fun T locs X _ t k => XS.ifnullNo X.here C.1 rfl (hb C.2.1 hd) rfl k) k
theorem g_ifnullY (C : Cx p s m meth c Z code maxL own ret) {pc pcT pcF : Nat} {Ls : Array Slot} {st : List Value} {o : Int} (hd : B1 code pc (.ifnull o) o pcT pcF) (k : Go p l e R s m args below meth c n0 K N Q h ck cn (mkF m pcT Ls st)) : Go p l e R s m args below meth c n0 K N Q h ck cn (mkF m pc Ls (.null :: st)) := by
  obtain ⟨hd, rfl, ho, hp⟩ := hd
  exact Go.step (fun T locs X _ t k => XS.ifnullYes X.here C.1 rfl (pc0 := pc) rfl (hb C.2.1 hd) rfl ho hp k) k
theorem g_ifnonnullY (C : Cx p s m meth c Z code maxL own ret) {pc pcT pcF : Nat} {Ls : Array Slot} {st : List Value} {o : Int} {b : Addr} (hd : B1 code pc (.ifnonnull o) o pcT pcF) (k : Go p l e R s m args below meth c n0 K N Q h ck cn (mkF m pcT Ls st)) : Go p l e R s m args below meth c n0 K N Q h ck cn (mkF m pc Ls (.ref b :: st)) := by
  obtain ⟨hd, rfl, ho, hp⟩ := hd
  exact Go.step (fun T locs X _ t k => XS.ifnonnullYes X.here C.1 rfl (pc0 := pc) rfl (hb C.2.1 hd) rfl ho hp k) k
theorem g_ifnonnullN (C : Cx p s m meth c Z code maxL own ret) {pc pcT pcF : Nat} {Ls : Array Slot} {st : List Value} {o : Int} (hd : B1 code pc (.ifnonnull o) o pcT pcF) (k : Go p l e R s m args below meth c n0 K N Q h ck cn (mkF m pcF Ls st)) : Go p l e R s m args below meth c n0 K N Q h ck cn (mkF m pc Ls (.null :: st)) := by
  obtain ⟨hd, rfl, ho, hp⟩ := hd
  exact Go.step (fun T locs X _ t k => XS.ifnonnullNo X.here C.1 rfl (hb C.2.1 hd) rfl k) k
theorem g_acmp_eq (C : Cx p s m meth c Z code maxL own ret) {pc pcT pcF : Nat} {Ls : Array Slot} {st : List Value} {o : Int} {x y : Value} (h1 : x.isRef = true) (h2 : y.isRef = true) (hd : B1 code pc (.if_acmp .eq o) o pcT pcF) (kt : x = y → Go p l e R s m args below meth c n0 K N Q h ck cn (mkF m pcT Ls st)) (kf : ¬ x = y → Go p l e R s m args below meth c n0 K N Q h ck cn (mkF m pcF Ls st)) : Go p l e R s m args below meth c n0 K N Q h ck cn (mkF m pc Ls (y :: x :: st)) := by
  obtain ⟨hd, rfl, ho, rfl⟩ := hd
  by_cases q : x = y
  · exact Go.step (fun T locs X _ t k => Jvm.RoadKit.acmp X C.1 rfl h1 h2 (pc0 := pc) (same := true) rfl (hb C.2.1 hd) rfl (by simp [q]) ho rfl k) (kt q)
  · exact Go.step (fun T locs X _ t k => Jvm.RoadKit.acmp X C.1 rfl h1 h2 (pc0 := pc) (same := false) rfl (hb C.2.1 hd) rfl (by simp [q]) ho rfl k) (kf q)
theorem g_acmp_ne (C : Cx p s m meth c Z code maxL own ret) {pc pcT pcF : Nat} {Ls : Array Slot} {st : List Value} {o : Int} {x y : Value} (h1 : x.isRef = true) (h2 : y.isRef = true) (hd : B1 code pc (.if_acmp .ne o) o pcT pcF) (kt : x = y → Go p l e R s m args below meth c n0 K N Q h ck cn (mkF m pcF Ls st)) (kf : ¬ x = y → Go p l e R s m args below meth c n0 K N Q h ck cn (mkF m pcT Ls st)) : Go p l e R s m args below meth c n0 K N Q h ck cn (mkF m pc Ls (y :: x :: st)) := by
  obtain ⟨hd, rfl, ho, rfl⟩ := hd
  by_cases q : x = y
  · exact Go.step (fun T locs X _ t k => Jvm.RoadKit.acmp X C.1 rfl h1 h2 (pc0 := pc) (same := true) rfl (hb C.2.1 hd) rfl (by simp [q]) ho rfl k) (kt q)
  · exact Go.step (fun T locs X _ t k => Jvm.RoadKit.acmp X C.1 rfl h1 h2 (pc0 := pc) (same := false) rfl (hb C.2.1 hd) rfl (by simp [q]) ho rfl k) (kf q)
theorem ret0 {v : Option Value} {g : JFrame} (hlk : meth.locks = false) (hret : meth.sig.returnType = none → v = none) (hck : ck ≤ K) (hcn : cn ≤ N) (hQ : Q v h)
    (st : ∀ (T : State) (locs : List Loc) (fs : List Frame), Stand p l e R s m args below meth c T locs ck cn → (∀ (f : JFrame) (acts : List Action), f.method = m → f.locked = none → f.entered = [] → (doReturn e (T.setTop f) acts v).1 = T.setFrames fs) → Steps p.tables e below (T.setTop g) (T.setFrames fs)) :
    Go p l e R s m args below meth c n0 K N Q h ck cn g := fun T locs X eT hN => by
  obtain ⟨fs, hr, hrun, hended, hW, hsame⟩ := X.leave (v := v) hret hlk
  exact ⟨_, _, st T locs fs X hr, hrun, hended, v, locs, rfl, ⟨by show Q v T.heap; rw [eT]; exact hQ, hN⟩, ⟨_, rfl⟩, hW, hsame.mono hck hcn⟩
theorem g_retV (C : Cx p s m meth c Z code maxL own ret) {pc : Nat} {Ls : Array Slot} {pc' : Nat} (hd : I1 code pc .return_ 1 pc') (hret : ret = none) (hck : ck ≤ K) (hcn : cn ≤ N) (hQ : Q none h) : Go p l e R s m args below meth c n0 K N Q h ck cn (mkF m pc Ls []) := by
  obtain ⟨hd, -⟩ := hd
  exact ret0 C.2.2.2.2.2.2 (fun _ => rfl) hck hcn hQ (fun T locs fs X hr => X.returnOut C.1 (C.2.2.2.2.2.1.trans hret) (hb C.2.1 hd) hr)
theorem g_retInt (C : Cx p s m meth c Z code maxL own ret) {pc : Nat} {Ls : Array Slot} {pc' : Nat} {st : List Value} {z : Int32} (hd : I1 code pc .ireturn 1 pc') (hret : ret = some .int) (hck : ck ≤ K) (hcn : cn ≤ N) (hQ : Q (some (.int z)) h) : Go p l e R s m args below meth c n0 K N Q h ck cn (mkF m pc Ls (.int z :: st)) := by
  obtain ⟨hd, -⟩ := hd
  have hr' := C.2.2.2.2.2.1.trans hret
  exact ret0 C.2.2.2.2.2.2 (fun q => by rw [hr'] at q; cases q) hck hcn hQ (fun T locs fs X hr => retOut X C.1 hr' rfl (Or.inl ⟨rfl, Or.inl rfl, z, rfl⟩) (hb C.2.1 hd) hr)
theorem g_retLong (C : Cx p s m meth c Z code maxL own ret) {pc : Nat} {Ls : Array Slot} {pc' : Nat} {st : List Value} {z : Int64} (hd : I1 code pc .lreturn 1 pc') (hret : ret = some .long) (hck : ck ≤ K) (hcn : cn ≤ N) (hQ : Q (some (.long z)) h) : Go p l e R s m args below meth c n0 K N Q h ck cn (mkF m pc Ls (.long z :: st)) := by
  obtain ⟨hd, -⟩ := hd
  have hr' := C.2.2.2.2.2.1.trans hret
  exact ret0 C.2.2.2.2.2.2 (fun q => by rw [hr'] at q; cases q) hck hcn hQ (fun T locs fs X hr => retOut X C.1 hr' rfl (Or.inr (Or.inl ⟨rfl, rfl, z, rfl⟩)) (hb C.2.1 hd) hr)
theorem nar_ref {t : FieldType} {v : Value} (hv : v.isRef = true) : narrow t v = v := by
  rcases ref_cases hv with rfl | ⟨a, rfl⟩ <;> cases t <;> rfl
theorem g_retRef (C : Cx p s m meth c Z code maxL own ret) {pc : Nat} {Ls : Array Slot} {pc' : Nat} {st : List Value} {v : Value} {t : FieldType} (hd : I1 code pc .areturn 1 pc') (hret : ret = some t) (ht : t.isReference = true) (hv : v.isRef = true) (hck : ck ≤ K) (hcn : cn ≤ N) (hQ : Q (some v) h) : Go p l e R s m args below meth c n0 K N Q h ck cn (mkF m pc Ls (v :: st)) := by
  obtain ⟨hd, -⟩ := hd
  have hr' := C.2.2.2.2.2.1.trans hret
  exact ret0 C.2.2.2.2.2.2 (fun q => by rw [hr'] at q; cases q) hck hcn hQ (fun T locs fs X hr => retOut X C.1 hr' (nar_ref hv) (Or.inr (Or.inr (Or.inr (Or.inr ⟨rfl, ht, hv⟩)))) (hb C.2.1 hd) hr)
theorem g_retNar (C : Cx p s m meth c Z code maxL own ret) {pc : Nat} {Ls : Array Slot} {pc' : Nat} {st : List Value} {z : Int32} {t : FieldType} (hd : I1 code pc .ireturn 1 pc') (hret : ret = some t) (ht : t = .boolean ∨ t = .byte ∨ t = .char ∨ t = .short) (hck : ck ≤ K) (hcn : cn ≤ N) (hQ : Q (some (.int (nar t z))) h) : Go p l e R s m args below meth c n0 K N Q h ck cn (mkF m pc Ls (.int z :: st)) := by
  obtain ⟨hd, -⟩ := hd
  have hr' := C.2.2.2.2.2.1.trans hret
  exact ret0 C.2.2.2.2.2.2 (fun q => by rw [hr'] at q; cases q) hck hcn hQ (fun T locs fs X hr => retN X C.1 hr' ht (hb C.2.1 hd) hr)
theorem g_getF (C : Cx p s m meth c Z code maxL own ret) {pc pc' : Nat} {Ls : Array Slot} {st : List Value} {R0 O n d host : String} {index : Nat} {a : Addr} {v : Value} (hd : I1 code pc (.getfield index) 3 pc') (w : (Cond.fieldLink own index R0 n d).before a0 Z = true ∨ (Cond.fieldLinkNest own index R0 n d host).before a0 Z = true) (via : Via Z R0 O n d) (F : Fld Z h a O n d v)
    (k : Go p l e R s m args below meth c n0 K N Q h ck cn (mkF m pc' Ls (v :: st))) : Go p l e R s m args below meth c n0 K N Q h ck cn (mkF m pc Ls (.ref a :: st)) := fun T locs X eT hN => by
  obtain ⟨hd, rfl⟩ := hd
  obtain ⟨T', X', e', st'⟩ := Jvm.RoadKit.getF X C.1 C.2.2.2.1 C.2.2.2.2.1 w via eT F (g := mkF m pc Ls (.ref a :: st)) rfl rfl (hb C.2.1 hd)
  exact Go.move hN X' e' hN st' k
theorem g_getS (C : Cx p s m meth c Z code maxL own ret) {pc pc' : Nat} {Ls : Array Slot} {st : List Value} {R0 O n d host : String} {index : Nat} {v : Value} (hd : I1 code pc (.getstatic index) 3 pc') (w : (Cond.fieldLink own index R0 n d).before a0 Z = true ∨ (Cond.fieldLinkNest own index R0 n d host).before a0 Z = true) (via : Via Z R0 O n d) (F : Sta Z h O n d v)
    (k : Go p l e R s m args below meth c n0 K N Q h ck cn (mkF m pc' Ls (v :: st))) : Go p l e R s m args below meth c n0 K N Q h ck cn (mkF m pc Ls st) := fun T locs X eT hN => by
  obtain ⟨hd, rfl⟩ := hd
  obtain ⟨T', X', e', st'⟩ := Jvm.RoadKit.getS2 X C.1 C.2.2.2.1 C.2.2.2.2.1 w via eT F (g := mkF m pc Ls st) rfl (hb C.2.1 hd)
  exact Go.move hN X' e' hN st' k
theorem g_putF (C : Cx p s m meth c Z code maxL own ret) {pc pc' : Nat} {Ls : Array Slot} {st : List Value} {R0 O n d host Cl : String} {index kk : Nat} {ty : FieldType} {a : Addr} {v old : Value} (hd : I1 code pc (.putfield index) 3 pc') (w : (Cond.fieldLink own index R0 n d).before a0 Z = true ∨ (Cond.fieldLinkNest own index R0 n d host).before a0 Z = true) (via : Via Z R0 O n d) (F : Fld Z h a O n d old) (E : Exa Z h a Cl)
    (L : (Cond.lays Cl O n d).before a0 Z = true ∨ ((Cond.laysFinal Cl O n d).before a0 Z = true ∧ own = O ∧ meth.name = "<init>")) (wi : (Cond.instantiable Cl kk).before a0 Z = true) (hty : parseFieldDescriptor d = some ty) (hn : narrow ty v = v) (hf : fits ty v = true) (ha : n0 ≤ a)
    (k : ∀ h', Wr h h' a (Jvm.RoadKit.slotOf Z O n d) v → Go p l e R s m args below meth c n0 K N Q h' ck cn (mkF m pc' Ls st)) : Go p l e R s m args below meth c n0 K N Q h ck cn (mkF m pc Ls (v :: .ref a :: st)) := fun T locs X eT hN => by
  obtain ⟨hd, rfl⟩ := hd
  obtain ⟨T', h', X', e', W, st'⟩ := Jvm.RoadKit.putF X C.1 C.2.2.2.1 C.2.2.2.2.1 w via eT F E L wi hty hn hf (g := mkF m pc Ls (v :: .ref a :: st)) rfl rfl (hb C.2.1 hd)
  exact Go.move hN X' e' (Fr.snoc X' hN ha) st' (k h' W)
theorem g_putFN (C : Cx p s m meth c Z code maxL own ret) {pc pc' : Nat} {Ls : Array Slot} {st : List Value} {R0 O n d Cl : String} {index kk : Nat} {ty : FieldType} {a : Addr} {v v' old : Value} (hd : I1 code pc (.putfield index) 3 pc') (w : (Cond.fieldLink own index R0 n d).before a0 Z = true) (via : Via Z R0 O n d) (F : Fld Z h a O n d old) (E : Exa Z h a Cl)
    (L : (Cond.lays Cl O n d).before a0 Z = true ∨ ((Cond.laysFinal Cl O n d).before a0 Z = true ∧ own = O ∧ meth.name = "<init>")) (wi : (Cond.instantiable Cl kk).before a0 Z = true) (hty : parseFieldDescriptor d = some ty) (hn : narrow ty v = v') (hf : fits ty v' = true) (ha : n0 ≤ a)
    (k : ∀ h', Wr h h' a (Jvm.RoadKit.slotOf Z O n d) v' → Go p l e R s m args below meth c n0 K N Q h' ck cn (mkF m pc' Ls st)) : Go p l e R s m args below meth c n0 K N Q h ck cn (mkF m pc Ls (v :: .ref a :: st)) := fun T locs X eT hN => by
  obtain ⟨hd, rfl⟩ := hd
  obtain ⟨T', h', X', e', W, st'⟩ := Jvm.RoadKit.putFN X C.1 C.2.2.2.1 C.2.2.2.2.1 w via eT F E L wi hty hn hf (g := mkF m pc Ls (v :: .ref a :: st)) rfl rfl (hb C.2.1 hd)
  exact Go.move hN X' e' (Fr.snoc X' hN ha) st' (k h' W)
theorem g_newO (C : Cx p s m meth c Z code maxL own ret) {pc pc' : Nat} {Ls : Array Slot} {st : List Value} {Cl : String} {index n : Nat} (hd : I1 code pc (.new index) 3 pc') (w : (Cond.classLink own index Cl).before a0 Z = true) (wi : (Cond.instantiable Cl n).before a0 Z = true) (wz : (Cond.initialized Cl).before a0 Z = true) (hc : ck + 1 ≤ R.cells) (hl : cn + n ≤ R.slots) {ck' cn' : Nat} (hck : ck + 1 = ck') (hcn : cn + n = cn')
    (k : ∀ (h' : Heap) (a : Addr), a = h.size → Ext h h' → Exa Z h' a Cl → (∀ {O nm d : String} {ty : FieldType}, Laid Z a0 Cl O nm d → parseFieldDescriptor d = some ty → Fld Z h' a O nm d (defaultValue ty)) → Go p l e R s m args below meth c n0 K N Q h' ck' cn' (mkF m pc' Ls (.ref a :: st))) : Go p l e R s m args below meth c n0 K N Q h ck cn (mkF m pc Ls st) := fun T locs X eT hN => by
  obtain ⟨hd, rfl⟩ := hd
  subst hck hcn
  obtain ⟨T', h', X', e', E, A, D, -, st'⟩ := Jvm.RoadKit.newO X C.1 C.2.2.2.1 C.2.2.2.2.1 w wi wz eT (g := mkF m pc Ls st) rfl (hb C.2.1 hd) hc hl
  exact Go.move hN X' e' hN st' (k h' _ rfl E A D)
theorem g_initO (C : Cx p s m meth c Z code maxL own ret) {pc pc' : Nat} {Ls : Array Slot} {st : List Value} {a : Addr} {idx : Nat} (hd : I1 code pc (.invokespecial idx) 3 pc') (w1 : (Cond.methodLink own idx Lib.objectInit).before a0 Z = true) (w2 : (Cond.instanceMethod Lib.objectInit).before a0 Z = true) (w3 : (Cond.code Lib.objectInit ⟨#[0xb1]⟩ 1 none).before a0 Z = true) (hsz : Ls.size = maxL)
    (hf : 1 ≤ R.frames) (W : Nat) (hW : 2 * 0 + (st.map fun v => v.category).sum ≤ W) (hl : W + 12 ≤ R.locals) (k : Go p l e R s m args below meth c n0 K N Q h ck cn (mkF m pc' Ls st)) : Go p l e R s m args below meth c n0 K N Q h ck cn (mkF m pc Ls (.ref a :: st)) := fun T locs X eT hN => by
  obtain ⟨hd, rfl⟩ := hd
  obtain ⟨T', X', e', st'⟩ := Jvm.RoadKit.initO X C.1 C.2.2.2.1 C.2.2.2.2.1 w1 w2 w3 eT (g := mkF m pc Ls (.ref a :: st)) rfl (hsz.trans C.2.2.1.symm) rfl (hb C.2.1 hd) hf (W := W) hW hl
  exact Go.move hN X' e' hN st' k
theorem g_castY (C : Cx p s m meth c Z code maxL own ret) {pc pc' : Nat} {Ls : Array Slot} {st : List Value} {Kl : String} {index : Nat} {a : Addr} (hd : I1 code pc (.checkcast index) 3 pc') (w : (Cond.classLink own index Kl).before a0 Z = true) (F : Ins Z h a Kl true) (k : Go p l e R s m args below meth c n0 K N Q h ck cn (mkF m pc' Ls (.ref a :: st))) : Go p l e R s m args below meth c n0 K N Q h ck cn (mkF m pc Ls (.ref a :: st)) := fun T locs X eT hN => by
  obtain ⟨hd, rfl⟩ := hd
  obtain ⟨T', X', e', st'⟩ := Jvm.RoadKit.castY X C.1 C.2.2.2.1 C.2.2.2.2.1 w eT F (g := mkF m pc Ls (.ref a :: st)) rfl rfl (hb C.2.1 hd)
  exact Go.move hN X' e' hN st' k
theorem g_castNull (C : Cx p s m meth c Z code maxL own ret) {pc pc' : Nat} {Ls : Array Slot} {st : List Value} {index : Nat} (hd : I1 code pc (.checkcast index) 3 pc') (k : Go p l e R s m args below meth c n0 K N Q h ck cn (mkF m pc' Ls (.null :: st))) : Go p l e R s m args below meth c n0 K N Q h ck cn (mkF m pc Ls (.null :: st)) := by
  obtain ⟨hd, rfl⟩ := hd
  exact Go.step (fun T locs X _ t k => X.checkcastNull C.1 (g := mkF m pc Ls (.null :: st)) rfl rfl (hb C.2.1 hd) _ k) k
theorem g_instY (C : Cx p s m meth c Z code maxL own ret) {pc pc' : Nat} {Ls : Array Slot} {st : List Value} {Kl : String} {index : Nat} {a : Addr} (hd : I1 code pc (.instanceof index) 3 pc') (w : (Cond.classLink own index Kl).before a0 Z = true) (F : Ins Z h a Kl true) (k : Go p l e R s m args below meth c n0 K N Q h ck cn (mkF m pc' Ls (.int 1 :: st))) : Go p l e R s m args below meth c n0 K N Q h ck cn (mkF m pc Ls (.ref a :: st)) := fun T locs X eT hN => by
  obtain ⟨hd, rfl⟩ := hd
  obtain ⟨T', X', e', st'⟩ := Jvm.RoadKit.instY X C.1 C.2.2.2.1 C.2.2.2.2.1 w eT F (g := mkF m pc Ls (.ref a :: st)) rfl rfl (hb C.2.1 hd)
  exact Go.move hN X' e' hN st' k
theorem g_instNo (C : Cx p s m meth c Z code maxL own ret) {pc pc' : Nat} {Ls : Array Slot} {st : List Value} {Kl Cl : String} {index : Nat} {a : Addr} (hd : I1 code pc (.instanceof index) 3 pc') (w : (Cond.classLink own index Kl).before a0 Z = true) (E : Exa Z h a Cl) (F : ∃ c t, Z.vm.findClass Cl = some c ∧ Z.vm.findClass Kl = some t ∧ Z.vm.assignable c t = false) (k : Go p l e R s m args below meth c n0 K N Q h ck cn (mkF m pc' Ls (.int 0 :: st))) : Go p l e R s m args below meth c n0 K N Q h ck cn (mkF m pc Ls (.ref a :: st)) := fun T locs X eT hN => by
  obtain ⟨hd, rfl⟩ := hd
  obtain ⟨T', X', e', st'⟩ := Jvm.RoadKit.instNo X C.1 C.2.2.2.1 C.2.2.2.2.1 w eT E F (g := mkF m pc Ls (.ref a :: st)) rfl rfl (hb C.2.1 hd)
  exact Go.move hN X' e' hN st' k
theorem g_instNull (C : Cx p s m meth c Z code maxL own ret) {pc pc' : Nat} {Ls : Array Slot} {st : List Value} {index : Nat} (hd : I1 code pc (.instanceof index) 3 pc') (k : Go p l e R s m args below meth c n0 K N Q h ck cn (mkF m pc' Ls (.int 0 :: st))) : Go p l e R s m args below meth c n0 K N Q h ck cn (mkF m pc Ls (.null :: st)) := by
  obtain ⟨hd, rfl⟩ := hd
  exact Go.step (fun T locs X _ t k => X.instanceofNull C.1 (g := mkF m pc Ls (.null :: st)) rfl rfl (hb C.2.1 hd) _ k) k
/-- an array of n places: what each holds -/
def AV (Z : State) (h : Heap) (a : Addr) (ty : FieldType) (n : Nat) (f : Nat → Value) : Prop := ∃ c : Cell, Arr Z h a c ty ∧ c.slots.size = n ∧ n < 2 ^ 31 ∧ ∀ i, i < n → c.slots[i]? = some (f i)
theorem AV.lt {a : Addr} {ty : FieldType} {n : Nat} {f : Nat → Value} (F : AV Z h a ty n f) : a < h.size := by obtain ⟨c, A, -⟩ := F; exact A.lt
theorem AV.ext {h' : Heap} {a : Addr} {ty : FieldType} {n : Nat} {f : Nat → Value} (F : AV Z h a ty n f) (E : Ext h h') : AV Z h' a ty n f := by obtain ⟨c, A, r⟩ := F; exact ⟨c, A.ext E, r⟩
theorem AV.other {h' : Heap} {a b : Addr} {sl : Nat} {v : Value} {ty : FieldType} {n : Nat} {f : Nat → Value} (F : AV Z h b ty n f) (W : Wr h h' a sl v) (q : b ≠ a) : AV Z h' b ty n f := by obtain ⟨c, A, r⟩ := F; exact ⟨c, A.other W q, r⟩
theorem AV.keep {h' : Heap} {ws : List Addr} {a : Addr} {ty : FieldType} {n : Nat} {f : Nat → Value} (F : AV Z h a ty n f) (K : Keep h h' ws) (q : a ∉ ws) : AV Z h' a ty n f := by obtain ⟨c, A, r⟩ := F; exact ⟨c, ⟨K.2.1 a c A.1 q, A.2⟩, r⟩
theorem AV.congr {a : Addr} {ty : FieldType} {n : Nat} {f g : Nat → Value} (F : AV Z h a ty n f) (q : ∀ i, i < n → f i = g i) : AV Z h a ty n g := by obtain ⟨c, A, r1, r2, r3⟩ := F; exact ⟨c, A, r1, r2, fun i hi => by rw [← q i hi]; exact r3 i hi⟩
theorem AV.ofNew {a : Addr} {ty : FieldType} {cA : ClassId} {z : Int32} (A : Arr Z h a (newA cA ty z) ty) (q : ¬ z < 0) : AV Z h a ty z.toNatClampNeg (fun _ => defaultValue ty) :=
  ⟨_, A, sz_new _ _ _, (back32 q).2, fun i hi => by simp [newA, hi]⟩
theorem AV.set {h' : Heap} {a : Addr} {ty : FieldType} {n : Nat} {f : Nat → Value} {j : Nat} {v : Value} (F : AV Z h a ty n f) (W : Wr h h' a j v) : AV Z h' a ty n (fun i => if i = j then v else f i) := by
  obtain ⟨c, A, r1, r2, r3⟩ := F
  obtain ⟨cell, w1, w2, w3, w4⟩ := W
  cases w1.symm.trans A.1
  refine ⟨c.setSlot j v, A.same ⟨c, w1, w2, w3, w4⟩, by rw [sz_set, r1], r2, fun i hi => ?_⟩
  by_cases q : i = j
  · subst q; simp [Cell.setSlot, w3]
  · simp only [q, if_false]; rw [← r3 i hi]; exact Array.getElem?_setIfInBounds_ne (Ne.symm q)
/-- the place lies inside -/
def Inb (j : Int32) (n : Nat) : Prop := ¬ j < 0 ∧ j.toNatClampNeg < n
theorem Inb.not {j : Int32} {n : Nat} (q : Inb j n) : ¬ (j < 0 ∨ n ≤ j.toNatClampNeg) := fun r => r.elim q.1 (fun z => Nat.not_lt.mpr z q.2)
theorem inb_int {j : Int32} {n : Nat} (h1 : 0 ≤ j.toInt) (h2 : j.toInt < n) : Inb j n := ⟨by simp only [Int32.lt_iff_toInt_lt, Int32.reduceToInt]; omega, by simp only [Int32.toNatClampNeg]; omega⟩
theorem g_newP (C : Cx p s m meth c Z code maxL own ret) {pc pc' : Nat} {Ls : Array Slot} {st : List Value} {aty : ArrayType} {n : Int32} (hd : I1 code pc (.newarray aty) 2 pc') (w : (Cond.arrayClass (newarray.typeOf aty)).before a0 Z = true) (hn : ¬ n < 0) (cap : Nat) (hcap : n.toNatClampNeg ≤ cap) (hb8 : cap * 8 ≤ 536870912) (hc : ck + 1 ≤ R.cells) (hl : cn + cap ≤ R.slots) {ck' cn' : Nat} (hck : ck + 1 = ck') (hcn : cn + cap = cn')
    (k : ∀ (h' : Heap) (a : Addr), a = h.size → Ext h h' → AV Z h' a (newarray.typeOf aty) n.toNatClampNeg (fun _ => defaultValue (newarray.typeOf aty)) → Go p l e R s m args below meth c n0 K N Q h' ck' cn' (mkF m pc' Ls (.ref a :: st))) : Go p l e R s m args below meth c n0 K N Q h ck cn (mkF m pc Ls (.int n :: st)) := fun T locs X eT hN => by
  obtain ⟨hd, rfl⟩ := hd
  subst hck hcn
  obtain ⟨T', h', cA, X', e', E, A, st'⟩ := Jvm.RoadKit.newP X C.1 C.2.2.2.1 w eT (g := mkF m pc Ls (.int n :: st)) rfl (hb C.2.1 hd) rfl hn hcap hb8 hc hl
  exact Go.move hN X' e' hN st' (k h' _ rfl E (AV.ofNew A hn))
theorem g_alen (C : Cx p s m meth c Z code maxL own ret) {pc pc' : Nat} {Ls : Array Slot} {st : List Value} {a : Addr} {ty : FieldType} {n : Nat} {f : Nat → Value} (z : Int32) (hd : I1 code pc .arraylength 1 pc') (F : AV Z h a ty n f) (hz : n.toInt32 = z) (k : Go p l e R s m args below meth c n0 K N Q h ck cn (mkF m pc' Ls (.int z :: st))) : Go p l e R s m args below meth c n0 K N Q h ck cn (mkF m pc Ls (.ref a :: st)) := by
  obtain ⟨hd, rfl⟩ := hd
  obtain ⟨cl, A, r1, r2, r3⟩ := F
  subst hz
  exact Go.step (fun T locs X eT t k => X.arraylength C.1 (by rw [eT]; exact A.1) (State.isArrayOf_alike C.2.2.2.1.alike A.2.1) (g := mkF m pc Ls (.ref a :: st)) rfl rfl (hb C.2.1 hd) _ (by rw [r1]; exact k)) k
theorem g_iald (C : Cx p s m meth c Z code maxL own ret) {pc pc' : Nat} {Ls : Array Slot} {st : List Value} {a : Addr} {j : Int32} {n : Nat} {f : Nat → Value} (v : Value) (hd : I1 code pc .iaload 1 pc') (F : AV Z h a .int n f) (hj : Inb j n) (hv : f j.toNatClampNeg = v) (k : Go p l e R s m args below meth c n0 K N Q h ck cn (mkF m pc' Ls (v :: st))) : Go p l e R s m args below meth c n0 K N Q h ck cn (mkF m pc Ls (.int j :: .ref a :: st)) := by
  obtain ⟨hd, rfl⟩ := hd
  obtain ⟨cl, A, r1, r2, r3⟩ := F
  subst hv
  exact Go.step (fun T locs X eT t k => X.iaload C.1 (by rw [eT]; exact A.1) (State.isArrayOf_alike C.2.2.2.1.alike A.2.1) A.2.2 (by rw [r1]; exact hj.not) (r3 _ hj.2) (g := mkF m pc Ls (.int j :: .ref a :: st)) rfl rfl (hb C.2.1 hd) _ k) k
theorem g_lald (C : Cx p s m meth c Z code maxL own ret) {pc pc' : Nat} {Ls : Array Slot} {st : List Value} {a : Addr} {j : Int32} {n : Nat} {f : Nat → Value} (v : Value) (hd : I1 code pc .laload 1 pc') (F : AV Z h a .long n f) (hj : Inb j n) (hv : f j.toNatClampNeg = v) (k : Go p l e R s m args below meth c n0 K N Q h ck cn (mkF m pc' Ls (v :: st))) : Go p l e R s m args below meth c n0 K N Q h ck cn (mkF m pc Ls (.int j :: .ref a :: st)) := by
  obtain ⟨hd, rfl⟩ := hd
  obtain ⟨cl, A, r1, r2, r3⟩ := F
  subst hv
  exact Go.step (fun T locs X eT t k => X.laload C.1 (by rw [eT]; exact A.1) (State.isArrayOf_alike C.2.2.2.1.alike A.2.1) A.2.2 (by rw [r1]; exact hj.not) (r3 _ hj.2) (g := mkF m pc Ls (.int j :: .ref a :: st)) rfl rfl (hb C.2.1 hd) _ k) k
theorem g_cald (C : Cx p s m meth c Z code maxL own ret) {pc pc' : Nat} {Ls : Array Slot} {st : List Value} {a : Addr} {j : Int32} {n : Nat} {f : Nat → Value} (v : Value) (hd : I1 code pc .caload 1 pc') (F : AV Z h a .char n f) (hj : Inb j n) (hv : f j.toNatClampNeg = v) (k : Go p l e R s m args below meth c n0 K N Q h ck cn (mkF m pc' Ls (v :: st))) : Go p l e R s m args below meth c n0 K N Q h ck cn (mkF m pc Ls (.int j :: .ref a :: st)) := by
  obtain ⟨hd, rfl⟩ := hd
  obtain ⟨cl, A, r1, r2, r3⟩ := F
  subst hv
  exact Go.step (fun T locs X eT t k => X.caload C.1 (by rw [eT]; exact A.1) (State.isArrayOf_alike C.2.2.2.1.alike A.2.1) A.2.2 (by rw [r1]; exact hj.not) (r3 _ hj.2) (g := mkF m pc Ls (.int j :: .ref a :: st)) rfl rfl (hb C.2.1 hd) _ k) k
theorem g_sald (C : Cx p s m meth c Z code maxL own ret) {pc pc' : Nat} {Ls : Array Slot} {st : List Value} {a : Addr} {j : Int32} {n : Nat} {f : Nat → Value} (v : Value) (hd : I1 code pc .saload 1 pc') (F : AV Z h a .short n f) (hj : Inb j n) (hv : f j.toNatClampNeg = v) (k : Go p l e R s m args below meth c n0 K N Q h ck cn (mkF m pc' Ls (v :: st))) : Go p l e R s m args below meth c n0 K N Q h ck cn (mkF m pc Ls (.int j :: .ref a :: st)) := by
  obtain ⟨hd, rfl⟩ := hd
  obtain ⟨cl, A, r1, r2, r3⟩ := F
  subst hv
  exact Go.step (fun T locs X eT t k => X.saload C.1 (by rw [eT]; exact A.1) (State.isArrayOf_alike C.2.2.2.1.alike A.2.1) A.2.2 (by rw [r1]; exact hj.not) (r3 _ hj.2) (g := mkF m pc Ls (.int j :: .ref a :: st)) rfl rfl (hb C.2.1 hd) _ k) k
theorem g_bald (C : Cx p s m meth c Z code maxL own ret) {pc pc' : Nat} {Ls : Array Slot} {st : List Value} {a : Addr} {j : Int32} {n : Nat} {f : Nat → Value} (v : Value) (hd : I1 code pc .baload 1 pc') (F : AV Z h a .byte n f) (hj : Inb j n) (hv : f j.toNatClampNeg = v) (k : Go p l e R s m args below meth c n0 K N Q h ck cn (mkF m pc' Ls (v :: st))) : Go p l e R s m args below meth c n0 K N Q h ck cn (mkF m pc Ls (.int j :: .ref a :: st)) := by
  obtain ⟨hd, rfl⟩ := hd
  obtain ⟨cl, A, r1, r2, r3⟩ := F
  subst hv
  exact Go.step (fun T locs X eT t k => X.baloadBytes C.1 (by rw [eT]; exact A.1) (State.isArrayOf_alike C.2.2.2.1.alike A.2.1) A.2.2 (by rw [r1]; exact hj.not) (r3 _ hj.2) (g := mkF m pc Ls (.int j :: .ref a :: st)) rfl rfl (hb C.2.1 hd) _ k) k
theorem g_zald (C : Cx p s m meth c Z code maxL own ret) {pc pc' : Nat} {Ls : Array Slot} {st : List Value} {a : Addr} {j : Int32} {n : Nat} {f : Nat → Value} (v : Value) (hd : I1 code pc .baload 1 pc') (F : AV Z h a .boolean n f) (hj : Inb j n) (hv : f j.toNatClampNeg = v) (k : Go p l e R s m args below meth c n0 K N Q h ck cn (mkF m pc' Ls (v :: st))) : Go p l e R s m args below meth c n0 K N Q h ck cn (mkF m pc Ls (.int j :: .ref a :: st)) := by
  obtain ⟨hd, rfl⟩ := hd
  obtain ⟨cl, A, r1, r2, r3⟩ := F
  subst hv
  exact Go.step (fun T locs X eT t k => X.baloadBooleans C.1 (by rw [eT]; exact A.1) (State.isArrayOf_alike C.2.2.2.1.alike A.2.1) A.2.2 (by rw [r1]; exact hj.not) (r3 _ hj.2) (g := mkF m pc Ls (.int j :: .ref a :: st)) rfl rfl (hb C.2.1 hd) _ k) k
theorem g_aald (C : Cx p s m meth c Z code maxL own ret) {pc pc' : Nat} {Ls : Array Slot} {st : List Value} {a : Addr} {j : Int32} {ty : FieldType} {n : Nat} {f : Nat → Value} (v : Value) (hd : I1 code pc .aaload 1 pc') (F : AV Z h a ty n f) (hj : Inb j n) (hv : f j.toNatClampNeg = v) (ht : ty.isReference = true) (k : Go p l e R s m args below meth c n0 K N Q h ck cn (mkF m pc' Ls (v :: st))) : Go p l e R s m args below meth c n0 K N Q h ck cn (mkF m pc Ls (.int j :: .ref a :: st)) := by
  obtain ⟨hd, rfl⟩ := hd
  obtain ⟨cl, A, r1, r2, r3⟩ := F
  subst hv
  exact Go.step (fun T locs X eT t k => X.aaload C.1 (by rw [eT]; exact A.1) (State.isArrayOf_alike C.2.2.2.1.alike A.2.1) ht A.2.2 (by rw [r1]; exact hj.not) (r3 _ hj.2) (g := mkF m pc Ls (.int j :: .ref a :: st)) rfl rfl (hb C.2.1 hd) _ k) k
theorem g_iast (C : Cx p s m meth c Z code maxL own ret) {pc pc' : Nat} {Ls : Array Slot} {st : List Value} {a : Addr} {j : Int32} {x : Int32} {n : Nat} {f : Nat → Value} (hd : I1 code pc .iastore 1 pc') (F : AV Z h a .int n f) (hj : Inb j n) (ha : n0 ≤ a)
    (k : ∀ h', Wr h h' a j.toNatClampNeg (.int x) → AV Z h' a .int n (fun i => if i = j.toNatClampNeg then .int x else f i) → Go p l e R s m args below meth c n0 K N Q h' ck cn (mkF m pc' Ls st)) : Go p l e R s m args below meth c n0 K N Q h ck cn (mkF m pc Ls (.int x :: .int j :: .ref a :: st)) := fun T locs X eT hN => by
  obtain ⟨hd, rfl⟩ := hd
  have F' := F
  obtain ⟨cl, A, r1, r2, r3⟩ := F
  obtain ⟨T', h', X', e', W, st'⟩ := Jvm.RoadKit.stI X C.1 C.2.2.2.1 eT A (by rw [r1]; exact hj.not) (g := mkF m pc Ls (.int x :: .int j :: .ref a :: st)) rfl rfl (hb C.2.1 hd)
  exact Go.move hN X' e' (Fr.snoc X' hN ha) st' (k h' W (F'.set W))
theorem g_last (C : Cx p s m meth c Z code maxL own ret) {pc pc' : Nat} {Ls : Array Slot} {st : List Value} {a : Addr} {j : Int32} {x : Int64} {n : Nat} {f : Nat → Value} (hd : I1 code pc .lastore 1 pc') (F : AV Z h a .long n f) (hj : Inb j n) (ha : n0 ≤ a)
    (k : ∀ h', Wr h h' a j.toNatClampNeg (.long x) → AV Z h' a .long n (fun i => if i = j.toNatClampNeg then .long x else f i) → Go p l e R s m args below meth c n0 K N Q h' ck cn (mkF m pc' Ls st)) : Go p l e R s m args below meth c n0 K N Q h ck cn (mkF m pc Ls (.long x :: .int j :: .ref a :: st)) := fun T locs X eT hN => by
  obtain ⟨hd, rfl⟩ := hd
  have F' := F
  obtain ⟨cl, A, r1, r2, r3⟩ := F
  obtain ⟨T', h', X', e', W, st'⟩ := Jvm.RoadKit.stJ X C.1 C.2.2.2.1 eT A (by rw [r1]; exact hj.not) (g := mkF m pc Ls (.long x :: .int j :: .ref a :: st)) rfl rfl (hb C.2.1 hd)
  exact Go.move hN X' e' (Fr.snoc X' hN ha) st' (k h' W (F'.set W))
theorem g_cast (C : Cx p s m meth c Z code maxL own ret) {pc pc' : Nat} {Ls : Array Slot} {st : List Value} {a : Addr} {j : Int32} {x : Int32} {n : Nat} {f : Nat → Value} (hd : I1 code pc .castore 1 pc') (F : AV Z h a .char n f) (hj : Inb j n) (ha : n0 ≤ a)
    (k : ∀ h', Wr h h' a j.toNatClampNeg (.int (nar .char x)) → AV Z h' a .char n (fun i => if i = j.toNatClampNeg then .int (nar .char x) else f i) → Go p l e R s m args below meth c n0 K N Q h' ck cn (mkF m pc' Ls st)) : Go p l e R s m args below meth c n0 K N Q h ck cn (mkF m pc Ls (.int x :: .int j :: .ref a :: st)) := fun T locs X eT hN => by
  obtain ⟨hd, rfl⟩ := hd
  have F' := F
  obtain ⟨cl, A, r1, r2, r3⟩ := F
  obtain ⟨T', h', X', e', W, st'⟩ := Jvm.RoadKit.stC X C.1 C.2.2.2.1 eT A (by rw [r1]; exact hj.not) (g := mkF m pc Ls (.int x :: .int j :: .ref a :: st)) rfl rfl (hb C.2.1 hd)
  exact Go.move hN X' e' (Fr.snoc X' hN ha) st' (k h' W (F'.set W))
theorem g_sast (C : Cx p s m meth c Z code maxL own ret) {pc pc' : Nat} {Ls : Array Slot} {st : List Value} {a : Addr} {j : Int32} {x : Int32} {n : Nat} {f : Nat → Value} (hd : I1 code pc .sastore 1 pc') (F : AV Z h a .short n f) (hj : Inb j n) (ha : n0 ≤ a)
    (k : ∀ h', Wr h h' a j.toNatClampNeg (.int (nar .short x)) → AV Z h' a .short n (fun i => if i = j.toNatClampNeg then .int (nar .short x) else f i) → Go p l e R s m args below meth c n0 K N Q h' ck cn (mkF m pc' Ls st)) : Go p l e R s m args below meth c n0 K N Q h ck cn (mkF m pc Ls (.int x :: .int j :: .ref a :: st)) := fun T locs X eT hN => by
  obtain ⟨hd, rfl⟩ := hd
  have F' := F
  obtain ⟨cl, A, r1, r2, r3⟩ := F
  obtain ⟨T', h', X', e', W, st'⟩ := Jvm.RoadKit.stS X C.1 C.2.2.2.1 eT A (by rw [r1]; exact hj.not) (g := mkF m pc Ls (.int x :: .int j :: .ref a :: st)) rfl rfl (hb C.2.1 hd)
  exact Go.move hN X' e' (Fr.snoc X' hN ha) st' (k h' W (F'.set W))
theorem g_bast (C : Cx p s m meth c Z code maxL own ret) {pc pc' : Nat} {Ls : Array Slot} {st : List Value} {a : Addr} {j : Int32} {x : Int32} {n : Nat} {f : Nat → Value} (hd : I1 code pc .bastore 1 pc') (F : AV Z h a .byte n f) (hj : Inb j n) (ha : n0 ≤ a)
    (k : ∀ h', Wr h h' a j.toNatClampNeg (.int (nar .byte x)) → AV Z h' a .byte n (fun i => if i = j.toNatClampNeg then .int (nar .byte x) else f i) → Go p l e R s m args below meth c n0 K N Q h' ck cn (mkF m pc' Ls st)) : Go p l e R s m args below meth c n0 K N Q h ck cn (mkF m pc Ls (.int x :: .int j :: .ref a :: st)) := fun T locs X eT hN => by
  obtain ⟨hd, rfl⟩ := hd
  have F' := F
  obtain ⟨cl, A, r1, r2, r3⟩ := F
  obtain ⟨T', h', X', e', W, st'⟩ := Jvm.RoadKit.stB X C.1 C.2.2.2.1 eT A (by rw [r1]; exact hj.not) (g := mkF m pc Ls (.int x :: .int j :: .ref a :: st)) rfl rfl (hb C.2.1 hd)
  exact Go.move hN X' e' (Fr.snoc X' hN ha) st' (k h' W (F'.set W))
theorem g_zast (C : Cx p s m meth c Z code maxL own ret) {pc pc' : Nat} {Ls : Array Slot} {st : List Value} {a : Addr} {j : Int32} {x : Int32} {n : Nat} {f : Nat → Value} (hd : I1 code pc .bastore 1 pc') (F : AV Z h a .boolean n f) (hj : Inb j n) (ha : n0 ≤ a)
    (k : ∀ h', Wr h h' a j.toNatClampNeg (.int (nar .boolean x)) → AV Z h' a .boolean n (fun i => if i = j.toNatClampNeg then .int (nar .boolean x) else f i) → Go p l e R s m args below meth c n0 K N Q h' ck cn (mkF m pc' Ls st)) : Go p l e R s m args below meth c n0 K N Q h ck cn (mkF m pc Ls (.int x :: .int j :: .ref a :: st)) := fun T locs X eT hN => by
  obtain ⟨hd, rfl⟩ := hd
  have F' := F
  obtain ⟨cl, A, r1, r2, r3⟩ := F
  obtain ⟨T', h', X', e', W, st'⟩ := Jvm.RoadKit.stZ X C.1 C.2.2.2.1 eT A (by rw [r1]; exact hj.not) (g := mkF m pc Ls (.int x :: .int j :: .ref a :: st)) rfl rfl (hb C.2.1 hd)
  exact Go.move hN X' e' (Fr.snoc X' hN ha) st' (k h' W (F'.set W))
theorem g_iastI (C : Cx p s m meth c Z code maxL own ret) {pc pc' : Nat} {Ls : Array Slot} {st : List Value} {a : Addr} {j : Int32} {x : Int32} {n : Nat} {f : Nat → Int32} (hd : I1 code pc .iastore 1 pc') (F : AV Z h a .int n (fun ix => .int (f ix))) (hj : Inb j n) (ha : n0 ≤ a)
    (k : ∀ h', Wr h h' a j.toNatClampNeg (.int (x)) → AV Z h' a .int n (fun ix => .int (if ix = j.toNatClampNeg then x else f ix)) → Go p l e R s m args below meth c n0 K N Q h' ck cn (mkF m pc' Ls st)) : Go p l e R s m args below meth c n0 K N Q h ck cn (mkF m pc Ls (.int x :: .int j :: .ref a :: st)) :=
  g_iast C hd F hj ha (fun h' W V => k h' W (AV.congr V (fun ix _ => by split <;> rfl)))
theorem g_lastI (C : Cx p s m meth c Z code maxL own ret) {pc pc' : Nat} {Ls : Array Slot} {st : List Value} {a : Addr} {j : Int32} {x : Int64} {n : Nat} {f : Nat → Int64} (hd : I1 code pc .lastore 1 pc') (F : AV Z h a .long n (fun ix => .long (f ix))) (hj : Inb j n) (ha : n0 ≤ a)
    (k : ∀ h', Wr h h' a j.toNatClampNeg (.long (x)) → AV Z h' a .long n (fun ix => .long (if ix = j.toNatClampNeg then x else f ix)) → Go p l e R s m args below meth c n0 K N Q h' ck cn (mkF m pc' Ls st)) : Go p l e R s m args below meth c n0 K N Q h ck cn (mkF m pc Ls (.long x :: .int j :: .ref a :: st)) :=
  g_last C hd F hj ha (fun h' W V => k h' W (AV.congr V (fun ix _ => by split <;> rfl)))
theorem g_castI (C : Cx p s m meth c Z code maxL own ret) {pc pc' : Nat} {Ls : Array Slot} {st : List Value} {a : Addr} {j : Int32} {x : Int32} {n : Nat} {f : Nat → Int32} (hd : I1 code pc .castore 1 pc') (F : AV Z h a .char n (fun ix => .int (f ix))) (hj : Inb j n) (ha : n0 ≤ a)
    (k : ∀ h', Wr h h' a j.toNatClampNeg (.int (nar .char x)) → AV Z h' a .char n (fun ix => .int (if ix = j.toNatClampNeg then nar .char x else f ix)) → Go p l e R s m args below meth c n0 K N Q h' ck cn (mkF m pc' Ls st)) : Go p l e R s m args below meth c n0 K N Q h ck cn (mkF m pc Ls (.int x :: .int j :: .ref a :: st)) :=
  g_cast C hd F hj ha (fun h' W V => k h' W (AV.congr V (fun ix _ => by split <;> rfl)))
theorem g_sastI (C : Cx p s m meth c Z code maxL own ret) {pc pc' : Nat} {Ls : Array Slot} {st : List Value} {a : Addr} {j : Int32} {x : Int32} {n : Nat} {f : Nat → Int32} (hd : I1 code pc .sastore 1 pc') (F : AV Z h a .short n (fun ix => .int (f ix))) (hj : Inb j n) (ha : n0 ≤ a)
    (k : ∀ h', Wr h h' a j.toNatClampNeg (.int (nar .short x)) → AV Z h' a .short n (fun ix => .int (if ix = j.toNatClampNeg then nar .short x else f ix)) → Go p l e R s m args below meth c n0 K N Q h' ck cn (mkF m pc' Ls st)) : Go p l e R s m args below meth c n0 K N Q h ck cn (mkF m pc Ls (.int x :: .int j :: .ref a :: st)) :=
  g_sast C hd F hj ha (fun h' W V => k h' W (AV.congr V (fun ix _ => by split <;> rfl)))
theorem g_bastI (C : Cx p s m meth c Z code maxL own ret) {pc pc' : Nat} {Ls : Array Slot} {st : List Value} {a : Addr} {j : Int32} {x : Int32} {n : Nat} {f : Nat → Int32} (hd : I1 code pc .bastore 1 pc') (F : AV Z h a .byte n (fun ix => .int (f ix))) (hj : Inb j n) (ha : n0 ≤ a)
    (k : ∀ h', Wr h h' a j.toNatClampNeg (.int (nar .byte x)) → AV Z h' a .byte n (fun ix => .int (if ix = j.toNatClampNeg then nar .byte x else f ix)) → Go p l e R s m args below meth c n0 K N Q h' ck cn (mkF m pc' Ls st)) : Go p l e R s m args below meth c n0 K N Q h ck cn (mkF m pc Ls (.int x :: .int j :: .ref a :: st)) :=
  g_bast C hd F hj ha (fun h' W V => k h' W (AV.congr V (fun ix _ => by split <;> rfl)))
theorem g_zastI (C : Cx p s m meth c Z code maxL own ret) {pc pc' : Nat} {Ls : Array Slot} {st : List Value} {a : Addr} {j : Int32} {x : Int32} {n : Nat} {f : Nat → Int32} (hd : I1 code pc .bastore 1 pc') (F : AV Z h a .boolean n (fun ix => .int (f ix))) (hj : Inb j n) (ha : n0 ≤ a)
    (k : ∀ h', Wr h h' a j.toNatClampNeg (.int (nar .boolean x)) → AV Z h' a .boolean n (fun ix => .int (if ix = j.toNatClampNeg then nar .boolean x else f ix)) → Go p l e R s m args below meth c n0 K N Q h' ck cn (mkF m pc' Ls st)) : Go p l e R s m args below meth c n0 K N Q h ck cn (mkF m pc Ls (.int x :: .int j :: .ref a :: st)) :=
  g_zast C hd F hj ha (fun h' W V => k h' W (AV.congr V (fun ix _ => by split <;> rfl)))
theorem g_callS (C : Cx p s m meth c Z code maxL own ret) {pc pc' : Nat} {Ls : Array Slot} {y : MethodName} {ycode : ByteArray} {ymax : Nat} {yret : Option FieldType} {rm : Room} {as' : Array Value} {Q' : Option Value → Heap → Prop} {index : Nat} (hC : Ctr l Z y ycode ymax yret rm as' h n0 Q') (hd : I1 code pc (.invokestatic index) 3 pc') (w1 : (Cond.methodLink own index y).before a0 Z = true) (w2 : (Cond.static y).before a0 Z = true) (w3 : (Cond.initialized y.cls).before a0 Z = true) (w4 : (Cond.code y ycode ymax yret).before a0 Z = true) (hy : y.cls ≠ "java/lang/invoke/MethodHandle" ∧ y.cls ≠ "java/lang/invoke/VarHandle")
    {argsL st rest : List Value} (hst : st = argsL.reverse ++ rest) (has : argsL.toArray = as') {ps : List FieldType} {r : Option FieldType} (hpd : parseMethodDescriptor y.desc = some ⟨ps, r⟩) (hlen : argsL.length = ps.length) (hsz : Ls.size = maxL) (W : Nat) (hW : 2 * 0 + (rest.map fun v => v.category).sum ≤ W)
    (hf : rm.frames + 1 ≤ R.frames) (hl : W + (ymax + 11) + rm.locals ≤ R.locals) (hc : ck + rm.cells ≤ R.cells) (hs : cn + rm.slots ≤ R.slots) {ck' cn' : Nat} (hck : ck + rm.cells = ck') (hcn : cn + rm.slots = cn')
    (k : ∀ v h', Q' v h' → Go p l e R s m args below meth c n0 K N Q h' ck' cn' (mkF m pc' Ls (v.toList ++ rest))) : Go p l e R s m args below meth c n0 K N Q h ck cn (mkF m pc Ls st) := fun T locs X eT hN => by
  obtain ⟨hd, rfl⟩ := hd
  subst hck hcn hst
  obtain ⟨v, _, ⟨T', L', k', n'⟩, -, X', ⟨Lc, hQ, l1, l2, l3⟩, st'⟩ := Jvm.LawKit.callS X C.1 C.2.2.2.2.1 (mvT C.2.2.2.1 w1) (mvT C.2.2.2.1 w2) (mvT C.2.2.2.1 w3) (mvT C.2.2.2.1 w4) hy (backOf (W := W) (Q := fun v h L => Q' v h ∧ Fr n0 L) (hC []) C.2.2.2.1 w4 w3 hf hl) (g := mkF m pc Ls (argsL.reverse ++ rest)) rfl (hsz.trans C.2.2.1.symm) (argsL := argsL) (rest := rest) (lenOf hpd hlen) rfl hW (hb C.2.1 hd) (fun _ _ => ⟨has, eT, hc, hs⟩)
  dsimp only [Pt.U, Pt.locs, Pt.cells, Pt.slots] at X' l1 l2 l3 st' hQ
  subst l1 l2 l3
  exact Go.move hN X' rfl (Fr.app hN hQ.2) st' (k v _ hQ.1)
theorem g_callI (C : Cx p s m meth c Z code maxL own ret) {pc pc' : Nat} {Ls : Array Slot} {y : MethodName} {ycode : ByteArray} {ymax : Nat} {yret : Option FieldType} {rm : Room} {as' : Array Value} {Q' : Option Value → Heap → Prop} {index : Nat} (hC : Ctr l Z y ycode ymax yret rm as' h n0 Q') {a : Addr} (hd : I1 code pc (.invokespecial index) 3 pc') (hy1 : y.name = "<init>") (w1 : (Cond.methodLink own index y).before a0 Z = true) (w2 : (Cond.instanceMethod y).before a0 Z = true) (w3 : (Cond.initialized y.cls).before a0 Z = true) (w4 : (Cond.code y ycode ymax none).before a0 Z = true) (hyr : yret = none) (hy : y.cls ≠ "java/lang/invoke/MethodHandle" ∧ y.cls ≠ "java/lang/invoke/VarHandle")
    {argsL st rest : List Value} (hst : st = argsL.reverse ++ .ref a :: rest) (has : (.ref a :: argsL).toArray = as') {ps : List FieldType} {r : Option FieldType} (hpd : parseMethodDescriptor y.desc = some ⟨ps, r⟩) (hlen : argsL.length = ps.length) (hsz : Ls.size = maxL) (W : Nat) (hW : 2 * 0 + (rest.map fun v => v.category).sum ≤ W)
    (hf : rm.frames + 1 ≤ R.frames) (hl : W + (ymax + 11) + rm.locals ≤ R.locals) (hc : ck + rm.cells ≤ R.cells) (hs : cn + rm.slots ≤ R.slots) {ck' cn' : Nat} (hck : ck + rm.cells = ck') (hcn : cn + rm.slots = cn')
    (k : ∀ v h', Q' v h' → Go p l e R s m args below meth c n0 K N Q h' ck' cn' (mkF m pc' Ls (v.toList ++ rest))) : Go p l e R s m args below meth c n0 K N Q h ck cn (mkF m pc Ls st) := fun T locs X eT hN => by
  obtain ⟨hd, rfl⟩ := hd
  subst hck hcn hst
  subst hyr
  obtain ⟨v, _, ⟨T', L', k', n'⟩, -, X', ⟨Lc, hQ, l1, l2, l3⟩, st'⟩ := X.specialBack C.1 hy1 C.2.2.2.2.1 (mvT C.2.2.2.1 w1) (mvT C.2.2.2.1 w2) (mvT C.2.2.2.1 w4) hy (backOf (W := W) (Q := fun v h L => Q' v h ∧ Fr n0 L) (hC []) C.2.2.2.1 w4 w3 hf hl) (g := mkF m pc Ls (argsL.reverse ++ .ref a :: rest)) rfl (hsz.trans C.2.2.1.symm) (Steps.refl _) (a := a) (argsL := argsL) (rest := rest) (lenOf hpd hlen) rfl hW (hb C.2.1 hd) (fun _ _ => ⟨has, eT, hc, hs⟩)
  dsimp only [Pt.U, Pt.locs, Pt.cells, Pt.slots] at X' l1 l2 l3 st' hQ
  subst l1 l2 l3
  exact Go.move hN X' rfl (Fr.app hN hQ.2) (fun _ z => st'.trans z) (k v _ hQ.1)
theorem g_callV (C : Cx p s m meth c Z code maxL own ret) {pc pc' : Nat} {Ls : Array Slot} {y : MethodName} {ycode : ByteArray} {ymax : Nat} {yret : Option FieldType} {rm : Room} {as' : Array Value} {Q' : Option Value → Heap → Prop} {index : Nat} (hC : Ctr l Z y ycode ymax yret rm as' h n0 Q') {a : Addr} {x : MethodName} {Cl : String} (hd : I1 code pc (.invokevirtual index) 3 pc') (w1 : (Cond.methodLink own index x).before a0 Z = true) (w2 : (Cond.declares x).before a0 Z = true) (hnf : ∀ s : State, Z.Warmed39 s.vm → NotFace s x) (w5 : (Cond.selects Cl x y).before a0 Z = true) (w6 : (Cond.instanceMethod y).before a0 Z = true) (w3 : (Cond.initialized y.cls).before a0 Z = true) (w4 : (Cond.code y ycode ymax yret).before a0 Z = true) (hy : x.cls ≠ "java/lang/invoke/MethodHandle" ∧ x.cls ≠ "java/lang/invoke/VarHandle") (E : Exa Z h a Cl)
    {argsL st rest : List Value} (hst : st = argsL.reverse ++ .ref a :: rest) (has : (.ref a :: argsL).toArray = as') {ps : List FieldType} {r : Option FieldType} (hpd : parseMethodDescriptor x.desc = some ⟨ps, r⟩) (hlen : argsL.length = ps.length) (hsz : Ls.size = maxL) (W : Nat) (hW : 2 * 0 + (rest.map fun v => v.category).sum ≤ W)
    (hf : rm.frames + 1 ≤ R.frames) (hl : W + (ymax + 11) + rm.locals ≤ R.locals) (hc : ck + rm.cells ≤ R.cells) (hs : cn + rm.slots ≤ R.slots) {ck' cn' : Nat} (hck : ck + rm.cells = ck') (hcn : cn + rm.slots = cn')
    (k : ∀ v h', Q' v h' → Go p l e R s m args below meth c n0 K N Q h' ck' cn' (mkF m pc' Ls (v.toList ++ rest))) : Go p l e R s m args below meth c n0 K N Q h ck cn (mkF m pc Ls st) := fun T locs X eT hN => by
  obtain ⟨hd, rfl⟩ := hd
  subst hck hcn hst
  obtain ⟨cq, kq, q1, q2, q3⟩ := isOf C.2.2.2.1 eT E
  obtain ⟨v, _, ⟨T', L', k', n'⟩, -, X', ⟨Lc, hQ, l1, l2, l3⟩, st'⟩ := X.virtualBack C.1 (y := x) (z := y) C.2.2.2.2.1 (mvT C.2.2.2.1 w1) (mvT C.2.2.2.1 w2) (hnf s C.2.2.2.1) (mvT C.2.2.2.1 w5) (mvT C.2.2.2.1 w6) hy (backOf (W := W) (Q := fun v h L => Q' v h ∧ Fr n0 L) (hC []) C.2.2.2.1 w4 w3 hf hl) q1 q3 (g := mkF m pc Ls (argsL.reverse ++ .ref a :: rest)) rfl (hsz.trans C.2.2.1.symm) (Steps.refl _) (argsL := argsL) (rest := rest) (lenOf hpd hlen) rfl hW (hb C.2.1 hd) (fun _ _ => ⟨has, eT, hc, hs⟩)
  dsimp only [Pt.U, Pt.locs, Pt.cells, Pt.slots] at X' l1 l2 l3 st' hQ
  subst l1 l2 l3
  exact Go.move hN X' rfl (Fr.app hN hQ.2) (fun _ z => st'.trans z) (k v _ hQ.1)
theorem g_callP (C : Cx p s m meth c Z code maxL own ret) {pc pc' : Nat} {Ls : Array Slot} {y : MethodName} {ycode : ByteArray} {ymax : Nat} {yret : Option FieldType} {rm : Room} {as' : Array Value} {Q' : Option Value → Heap → Prop} {index : Nat} (hC : Ctr l Z y ycode ymax yret rm as' h n0 Q') {a : Addr} {Cl : String} (hd : I1 code pc (.invokevirtual index) 3 pc') (w1 : (Cond.methodLink own index y).before a0 Z = true) (w2 : (Cond.instanceMethod y).before a0 Z = true) (w5 : (Cond.selects y.cls y y).before a0 Z = true) (w6 : (Cond.privateMethod y).before a0 Z = true) (w3 : (Cond.initialized y.cls).before a0 Z = true) (w4 : (Cond.code y ycode ymax yret).before a0 Z = true) (hy : y.cls ≠ "java/lang/invoke/MethodHandle" ∧ y.cls ≠ "java/lang/invoke/VarHandle") (E : Exa Z h a Cl)
    {argsL st rest : List Value} (hst : st = argsL.reverse ++ .ref a :: rest) (has : (.ref a :: argsL).toArray = as') {ps : List FieldType} {r : Option FieldType} (hpd : parseMethodDescriptor y.desc = some ⟨ps, r⟩) (hlen : argsL.length = ps.length) (hsz : Ls.size = maxL) (W : Nat) (hW : 2 * 0 + (rest.map fun v => v.category).sum ≤ W)
    (hf : rm.frames + 1 ≤ R.frames) (hl : W + (ymax + 11) + rm.locals ≤ R.locals) (hc : ck + rm.cells ≤ R.cells) (hs : cn + rm.slots ≤ R.slots) {ck' cn' : Nat} (hck : ck + rm.cells = ck') (hcn : cn + rm.slots = cn')
    (k : ∀ v h', Q' v h' → Go p l e R s m args below meth c n0 K N Q h' ck' cn' (mkF m pc' Ls (v.toList ++ rest))) : Go p l e R s m args below meth c n0 K N Q h ck cn (mkF m pc Ls st) := fun T locs X eT hN => by
  obtain ⟨hd, rfl⟩ := hd
  subst hck hcn hst
  obtain ⟨cq, q1, q2⟩ := E.cell
  obtain ⟨v, _, ⟨T', L', k', n'⟩, -, X', ⟨Lc, hQ, l1, l2, l3⟩, st'⟩ := X.privateBack C.1 (y := y) C.2.2.2.2.1 (mvT C.2.2.2.1 w1) (mvT C.2.2.2.1 w2) (mvT C.2.2.2.1 w5) (Cond.privateMethod_at (mvP C.2.2.2.1 w6 (args := #[]))) (mvT C.2.2.2.1 w4) hy (backOf (W := W) (Q := fun v h L => Q' v h ∧ Fr n0 L) (hC []) C.2.2.2.1 w4 w3 hf hl) (g := mkF m pc Ls (argsL.reverse ++ .ref a :: rest)) rfl (hsz.trans C.2.2.1.symm) (Steps.refl _) (a := a) (by rw [eT]; exact q1) q2 (argsL := argsL) (rest := rest) (lenOf hpd hlen) rfl hW (hb C.2.1 hd) (fun _ _ => ⟨has, eT, hc, hs⟩)
  dsimp only [Pt.U, Pt.locs, Pt.cells, Pt.slots] at X' l1 l2 l3 st' hQ
  subst l1 l2 l3
  exact Go.move hN X' rfl (Fr.app hN hQ.2) (fun _ z => st'.trans z) (k v _ hQ.1)
end
end Jvm.OwnGo
namespace Jvm.OwnGo
open Jvm.RoadKit
theorem nar_b (x : Int32) : nar .boolean x = x &&& 1 := rfl
theorem nbT {P : Prop} [Decidable P] : nar .boolean (if P then (1 : Int32) else (0 : Int32)) = 1 ↔ P := by
  by_cases h : P
  · simp only [if_pos h]; exact ⟨fun _ => h, fun _ => rfl⟩
  · simp only [if_neg h]; exact ⟨fun q => absurd q (by decide), fun q => absurd q h⟩
theorem own_nat {i : Nat} (h : i < 2147483648) : i.toInt32.toInt = i := len_toInt h
theorem own_cl {i : Nat} (h : i < 2147483648) : i.toInt32.toNatClampNeg = i := by simp only [Int32.toNatClampNeg, own_nat h]; omega
theorem own_lt {i n : Nat} (hi : i < 2147483648) (hn : n < 2147483648) : i.toInt32 < n.toInt32 ↔ i < n := by
  rw [Int32.lt_iff_toInt_lt, own_nat hi, own_nat hn]; omega
theorem own_inN {i n : Nat} (hi : i < 2147483648) (h : i < n) : Inb i.toInt32 n := inb_int (by rw [own_nat hi]; omega) (by rw [own_nat hi]; omega)
theorem own_rd {α : Type} (F : Nat → α) {i : Nat} (h : i < 2147483648) : F i.toInt32.toNatClampNeg = F i := by rw [own_cl h]
theorem own_succ {i : Nat} (h : i < 2147483647) : i.toInt32 + (1 : Int32) = (i + 1).toInt32 := by
  rw [← Int32.toInt_inj]
  have h1 := c_iadd i.toInt32 1
  have h2 := rng32 (i.toInt32 + 1)
  have h3 : (1 : Int32).toInt = 1 := rfl
  rw [own_nat (by omega), h3] at h1
  rw [own_nat (by omega)]
  omega
theorem AV.small {Z : State} {h : Heap} {a : Addr} {ty : ClassFile.FieldType} {n : Nat} {f : Nat → Value} (V : AV Z h a ty n f) : n < 2147483648 := by
  obtain ⟨c, -, -, r, -⟩ := V; exact r
theorem own_inb {Z : State} {h : Heap} {a : Addr} {ty : ClassFile.FieldType} {n : Nat} {f : Nat → Value} (V : AV Z h a ty n f) {j : Int32} (h0 : ¬ (j < (0 : Int32))) (h1 : j < n.toInt32) : Inb j n := by
  have hn := V.small
  have e0 : (0 : Int32).toInt = 0 := rfl
  rw [Int32.lt_iff_toInt_lt] at h0 h1
  rw [own_nat hn] at h1
  exact inb_int (by omega) (by omega)
end Jvm.OwnGo
namespace Jvm.Pilot.@@N@@
open Jvm Jvm.ClassFile Sem Op Lib Jvm.Free Jvm.Stand Jvm.LawKit Jvm.RoadKit Bundle Jvm.Pilot.@@N@@.Jvm.D
open Jvm.OwnGo
theorem iY_0 : I1 jdk_29_method_69_code 0 (.iload_n 0) 1 1 := ⟨(by decide +kernel), rfl⟩
theorem iY_1 : I1 jdk_29_method_69_code 1 (.iload_n 1) 1 2 := ⟨(by decide +kernel), rfl⟩
theorem iY_2 : B1 jdk_29_method_69_code 2 (.if_icmp .gt 7) 7 9 5 := ⟨(by decide +kernel), rfl, by decide, by decide⟩
theorem iY_5 : I1 jdk_29_method_69_code 5 (.iload_n 0) 1 6 := ⟨(by decide +kernel), rfl⟩
theorem iY_6 : B1 jdk_29_method_69_code 6 (.goto 4) 4 10 9 := ⟨(by decide +kernel), rfl, by decide, by decide⟩
theorem iY_9 : I1 jdk_29_method_69_code 9 (.iload_n 1) 1 10 := ⟨(by decide +kernel), rfl⟩
theorem iY_10 : I1 jdk_29_method_69_code 10 (.ireturn) 1 11 := ⟨(by decide +kernel), rfl⟩
def vY_0 (p0 : Int32) (p1 : Int32) : Int32 := (if p1 < p0 then p1 else p0)
theorem efY (m : MethodId) (p0 : Int32) (p1 : Int32) : entryFrame m #[(.int p0), (.int p1)] 2 = mkF m 0 #[.val (.int p0), .val (.int p1)] [] := by first | (simp [entryFrame, mkF, argsToLocals, Value.category]; done) | rfl
def QY (Z : State) (p0 : Int32) (p1 : Int32) (h0 : Heap) (n0 : Nat) (v : Option Value) (h : Heap) : Prop := v = some (.int (vY_0 p0 p1)) ∧ h = h0
set_option maxRecDepth 65536 in
set_option maxHeartbeats 40000000 in
theorem rmY (l : Launch) (Z : State) (aZ : Array Value) (hw : ∀ d ∈ tables_1, d.before aZ Z = true) (p0 : Int32) (p1 : Int32) (h0 : Heap) (n0 : Nat) (Z0 : n0 ≤ h0.size) :
    Ctr l Z (⟨"java/lang/Math", "min", "(II)I"⟩ : MethodName) jdk_29_method_69_code 2 (some .int) ({ frames := 0, cells := 0, slots := 0, locals := 0 } : Room) #[(.int p0), (.int p1)] h0 n0 (QY Z p0 p1 h0 n0) := by
  refine Ctr.of_go (Jvm.Free.JP.mathPlain rfl (by decide +kernel)) (fun m => efY m p0 p1) ?_
  intro p e s m below meth c hnm C
  refine g_iloadN C iY_0 rfl ?_
  refine g_iloadN C iY_1 rfl ?_
  refine Go.join (mkF m 10 #[.val (.int p0), .val (.int p1)] [(.int (vY_0 p0 p1))]) ?_ (fun J => ?_)
  · exact g_retInt C iY_10 rfl (by decide) (by decide) ⟨rfl, rfl⟩
  · refine g_icmp_gt C iY_2 (fun hc2_1 => ?_) (fun hc2_1 => ?_)
    · refine g_iloadN C iY_9 rfl ?_
      have e0 : (vY_0 p0 p1) = p1 := by simp only [vY_0, if_pos hc2_1]
      exact Go.cast J (by rw [e0])
    · refine g_iloadN C iY_5 rfl ?_
      refine g_goto C iY_6 ?_
      have e0 : (vY_0 p0 p1) = p0 := by simp only [vY_0, if_neg hc2_1]
      exact Go.cast J (by rw [e0])
theorem iX_0 : I1 jdk_29_method_65_code 0 (.iload_n 0) 1 1 := ⟨(by decide +kernel), rfl⟩
theorem iX_1 : I1 jdk_29_method_65_code 1 (.iload_n 1) 1 2 := ⟨(by decide +kernel), rfl⟩
theorem iX_2 : B1 jdk_29_method_65_code 2 (.if_icmp .lt 7) 7 9 5 := ⟨(by decide +kernel), rfl, by decide, by decide⟩
theorem iX_5 : I1 jdk_29_method_65_code 5 (.iload_n 0) 1 6 := ⟨(by decide +kernel), rfl⟩
theorem iX_6 : B1 jdk_29_method_65_code 6 (.goto 4) 4 10 9 := ⟨(by decide +kernel), rfl, by decide, by decide⟩
theorem iX_9 : I1 jdk_29_method_65_code 9 (.iload_n 1) 1 10 := ⟨(by decide +kernel), rfl⟩
theorem iX_10 : I1 jdk_29_method_65_code 10 (.ireturn) 1 11 := ⟨(by decide +kernel), rfl⟩
def vX_0 (p0 : Int32) (p1 : Int32) : Int32 := (if p0 < p1 then p1 else p0)
theorem efX (m : MethodId) (p0 : Int32) (p1 : Int32) : entryFrame m #[(.int p0), (.int p1)] 2 = mkF m 0 #[.val (.int p0), .val (.int p1)] [] := by first | (simp [entryFrame, mkF, argsToLocals, Value.category]; done) | rfl
def QX (Z : State) (p0 : Int32) (p1 : Int32) (h0 : Heap) (n0 : Nat) (v : Option Value) (h : Heap) : Prop := v = some (.int (vX_0 p0 p1)) ∧ h = h0
set_option maxRecDepth 65536 in
set_option maxHeartbeats 40000000 in
theorem rmX (l : Launch) (Z : State) (aZ : Array Value) (hw : ∀ d ∈ tables_1, d.before aZ Z = true) (p0 : Int32) (p1 : Int32) (h0 : Heap) (n0 : Nat) (Z0 : n0 ≤ h0.size) :
    Ctr l Z (⟨"java/lang/Math", "max", "(II)I"⟩ : MethodName) jdk_29_method_65_code 2 (some .int) ({ frames := 0, cells := 0, slots := 0, locals := 0 } : Room) #[(.int p0), (.int p1)] h0 n0 (QX Z p0 p1 h0 n0) := by
  refine Ctr.of_go (Jvm.Free.JP.mathPlain rfl (by decide +kernel)) (fun m => efX m p0 p1) ?_
  intro p e s m below meth c hnm C
  refine g_iloadN C iX_0 rfl ?_
  refine g_iloadN C iX_1 rfl ?_
  refine Go.join (mkF m 10 #[.val (.int p0), .val (.int p1)] [(.int (vX_0 p0 p1))]) ?_ (fun J => ?_)
  · exact g_retInt C iX_10 rfl (by decide) (by decide) ⟨rfl, rfl⟩
  · refine g_icmp_lt C iX_2 (fun hc2_1 => ?_) (fun hc2_1 => ?_)
    · refine g_iloadN C iX_9 rfl ?_
      have e0 : (vX_0 p0 p1) = p1 := by simp only [vX_0, if_pos hc2_1]
      exact Go.cast J (by rw [e0])
    · refine g_iloadN C iX_5 rfl ?_
      refine g_goto C iX_6 ?_
      have e0 : (vX_0 p0 p1) = p0 := by simp only [vX_0, if_neg hc2_1]
      exact Go.cast J (by rw [e0])
theorem pn0 : plainFor (⟨"com/example/bandweave/bandweave/cover/Splits", "current", "()[I"⟩ : MethodName) = true := by decide +kernel
theorem iU_0 : I1 prog_9_method_2_code 0 (.aload_n 0) 1 1 := ⟨(by decide +kernel), rfl⟩
theorem iU_1 : I1 prog_9_method_2_code 1 (.getfield 22) 3 4 := ⟨(by decide +kernel), rfl⟩
theorem iU_4 : I1 prog_9_method_2_code 4 (.areturn) 1 5 := ⟨(by decide +kernel), rfl⟩
theorem efU (m : MethodId) (a0 : Addr) : entryFrame m #[(.ref a0)] 1 = mkF m 0 #[.val (.ref a0)] [] := by first | (simp [entryFrame, mkF, argsToLocals, Value.category]; done) | rfl
def QU (Z : State) (a0 : Addr) (w_counts_a0 : Addr) (h0 : Heap) (n0 : Nat) (v : Option Value) (h : Heap) : Prop := v = some (.ref w_counts_a0) ∧ h = h0
set_option maxRecDepth 65536 in
set_option maxHeartbeats 40000000 in
theorem rmU (l : Launch) (Z : State) (aZ : Array Value) (hw : ∀ d ∈ tables_1, d.before aZ Z = true) (a0 : Addr) (w_counts_a0 : Addr) (h0 : Heap) (n0 : Nat) (Z0 : n0 ≤ h0.size) (F_counts_a0 : Fld Z h0 a0 "com/example/bandweave/bandweave/cover/Splits" "counts" "[I" (.ref w_counts_a0)) :
    Ctr l Z (⟨"com/example/bandweave/bandweave/cover/Splits", "current", "()[I"⟩ : MethodName) prog_9_method_2_code 1 (some (.array .int)) ({ frames := 0, cells := 0, slots := 0, locals := 0 } : Room) #[(.ref a0)] h0 n0 (QU Z a0 w_counts_a0 h0 n0) := by
  refine Ctr.of_go pn0 (fun m => efU m a0) ?_
  intro p e s m below meth c hnm C
  refine g_aloadN C iU_0 rfl rfl ?_
  refine g_getF C iU_1 (host := "") (Or.inl (hw _ (List.mem_of_getElem? (i := 18) rfl))) Via.refl F_counts_a0 ?_
  exact g_retRef C (t := (.array .int)) iU_4 rfl rfl rfl (by decide) (by decide) ⟨rfl, rfl⟩
def inF (w : Int32) (N : Nat) (i : Nat) (ix : Nat) : Int32 := if ix < i then (w / N.toInt32) + (if ix.toInt32 < (w % N.toInt32) then (1 : Int32) else (0 : Int32)) else (0 : Int32)
theorem own_in (w : Int32) (N i ix : Nat) (hi : i < 100) : (if ix = (i.toInt32).toNatClampNeg then ((w / (N.toInt32)) + (if (i.toInt32) < (w % (N.toInt32)) then (1 : Int32) else (0 : Int32))) else inF w N i ix) = inF w N (i + 1) ix := by
  rw [own_cl (by omega)]
  simp only [inF]
  by_cases h : ix = i
  · subst h
    have h1 : ix < ix + 1 := by omega
    rw [if_pos rfl, if_pos h1]
  · rw [if_neg h]
    by_cases h2 : ix < i
    · have h1 : ix < i + 1 := by omega
      rw [if_pos h2, if_pos h1]
    · have h1 : ¬ ix < i + 1 := by omega
      rw [if_neg h2, if_neg h1]
theorem own_nN {N : Nat} (h : 1 ≤ N ∧ N ≤ 5) : N.toInt32 ≠ (0 : Int32) := fun q => by
  have h1 := own_nat (i := N) (by omega)
  rw [q] at h1
  have e0 : (0 : Int32).toInt = 0 := rfl
  omega
theorem iI_42 : I1 prog_9_method_1_code 42 (.iload_n 3) 1 43 := ⟨(by decide +kernel), rfl⟩
theorem iI_43 : I1 prog_9_method_1_code 43 (.aload_n 0) 1 44 := ⟨(by decide +kernel), rfl⟩
theorem iI_44 : I1 prog_9_method_1_code 44 (.getfield 22) 3 47 := ⟨(by decide +kernel), rfl⟩
theorem iI_47 : I1 prog_9_method_1_code 47 (.arraylength) 1 48 := ⟨(by decide +kernel), rfl⟩
theorem iI_48 : B1 prog_9_method_1_code 48 (.if_icmp .ge 39) 39 87 51 := ⟨(by decide +kernel), rfl, by decide, by decide⟩
theorem iI_51 : I1 prog_9_method_1_code 51 (.aload_n 0) 1 52 := ⟨(by decide +kernel), rfl⟩
theorem iI_52 : I1 prog_9_method_1_code 52 (.getfield 22) 3 55 := ⟨(by decide +kernel), rfl⟩
theorem iI_55 : I1 prog_9_method_1_code 55 (.iload_n 3) 1 56 := ⟨(by decide +kernel), rfl⟩
theorem iI_56 : I1 prog_9_method_1_code 56 (.iload_n 1) 1 57 := ⟨(by decide +kernel), rfl⟩
theorem iI_57 : I1 prog_9_method_1_code 57 (.aload_n 0) 1 58 := ⟨(by decide +kernel), rfl⟩
theorem iI_58 : I1 prog_9_method_1_code 58 (.getfield 22) 3 61 := ⟨(by decide +kernel), rfl⟩
theorem iI_61 : I1 prog_9_method_1_code 61 (.arraylength) 1 62 := ⟨(by decide +kernel), rfl⟩
theorem iI_62 : I1 prog_9_method_1_code 62 (.idiv) 1 63 := ⟨(by decide +kernel), rfl⟩
theorem iI_63 : I1 prog_9_method_1_code 63 (.iload_n 3) 1 64 := ⟨(by decide +kernel), rfl⟩
theorem iI_64 : I1 prog_9_method_1_code 64 (.iload_n 1) 1 65 := ⟨(by decide +kernel), rfl⟩
theorem iI_65 : I1 prog_9_method_1_code 65 (.aload_n 0) 1 66 := ⟨(by decide +kernel), rfl⟩
theorem iI_66 : I1 prog_9_method_1_code 66 (.getfield 22) 3 69 := ⟨(by decide +kernel), rfl⟩
theorem iI_69 : I1 prog_9_method_1_code 69 (.arraylength) 1 70 := ⟨(by decide +kernel), rfl⟩
theorem iI_70 : I1 prog_9_method_1_code 70 (.irem) 1 71 := ⟨(by decide +kernel), rfl⟩
theorem iI_71 : B1 prog_9_method_1_code 71 (.if_icmp .ge 7) 7 78 74 := ⟨(by decide +kernel), rfl, by decide, by decide⟩
theorem iI_74 : I1 prog_9_method_1_code 74 (.iconst 1) 1 75 := ⟨(by decide +kernel), rfl⟩
theorem iI_75 : B1 prog_9_method_1_code 75 (.goto 4) 4 79 78 := ⟨(by decide +kernel), rfl, by decide, by decide⟩
theorem iI_78 : I1 prog_9_method_1_code 78 (.iconst 0) 1 79 := ⟨(by decide +kernel), rfl⟩
theorem iI_79 : I1 prog_9_method_1_code 79 (.iadd) 1 80 := ⟨(by decide +kernel), rfl⟩
theorem iI_80 : I1 prog_9_method_1_code 80 (.iastore) 1 81 := ⟨(by decide +kernel), rfl⟩
theorem iI_81 : I1 prog_9_method_1_code 81 (.iinc 3 1) 3 84 := ⟨(by decide +kernel), rfl⟩
theorem iI_84 : B1 prog_9_method_1_code 84 (.goto (-42)) (-42) 42 87 := ⟨(by decide +kernel), rfl, by decide, by decide⟩
theorem iI_87 : I1 prog_9_method_1_code 87 (.return_) 1 88 := ⟨(by decide +kernel), rfl⟩
theorem pd0 : parseMethodDescriptor "(II)I" = some ⟨[.int, .int], some .int⟩ := by decide +kernel
theorem iI_0 : I1 prog_9_method_1_code 0 (.aload_n 0) 1 1 := ⟨(by decide +kernel), rfl⟩
theorem iI_1 : I1 prog_9_method_1_code 1 (.invokespecial 1) 3 4 := ⟨(by decide +kernel), rfl⟩
theorem iI_4 : I1 prog_9_method_1_code 4 (.iload_n 1) 1 5 := ⟨(by decide +kernel), rfl⟩
theorem iI_5 : I1 prog_9_method_1_code 5 (.iconst 1) 1 6 := ⟨(by decide +kernel), rfl⟩
theorem iI_6 : B1 prog_9_method_1_code 6 (.if_icmp .lt 8) 8 14 9 := ⟨(by decide +kernel), rfl, by decide, by decide⟩
theorem iI_9 : I1 prog_9_method_1_code 9 (.iload_n 2) 1 10 := ⟨(by decide +kernel), rfl⟩
theorem iI_10 : I1 prog_9_method_1_code 10 (.iconst 1) 1 11 := ⟨(by decide +kernel), rfl⟩
theorem iI_11 : B1 prog_9_method_1_code 11 (.if_icmp .ge 18) 18 29 14 := ⟨(by decide +kernel), rfl, by decide, by decide⟩
theorem iI_29 : I1 prog_9_method_1_code 29 (.aload_n 0) 1 30 := ⟨(by decide +kernel), rfl⟩
theorem iI_30 : I1 prog_9_method_1_code 30 (.iload_n 2) 1 31 := ⟨(by decide +kernel), rfl⟩
theorem iI_31 : I1 prog_9_method_1_code 31 (.iload_n 1) 1 32 := ⟨(by decide +kernel), rfl⟩
theorem iI_32 : I1 prog_9_method_1_code 32 (.invokestatic 16) 3 35 := ⟨(by decide +kernel), rfl⟩
theorem iI_35 : I1 prog_9_method_1_code 35 (.newarray .int) 2 37 := ⟨(by decide +kernel), rfl⟩
theorem iI_37 : I1 prog_9_method_1_code 37 (.putfield 22) 3 40 := ⟨(by decide +kernel), rfl⟩
theorem iI_40 : I1 prog_9_method_1_code 40 (.iconst 0) 1 41 := ⟨(by decide +kernel), rfl⟩
theorem iI_41 : I1 prog_9_method_1_code 41 (.istore_n 3) 1 42 := ⟨(by decide +kernel), rfl⟩
theorem pn1 : plainFor (⟨"com/example/bandweave/bandweave/cover/Splits", "<init>", "(II)V"⟩ : MethodName) = true := by decide +kernel
theorem own_ge1 {p : Int32} (h : 1 ≤ p.toInt) : ¬ (p < (1 : Int32)) := by
  rw [Int32.lt_iff_toInt_lt]; have e1 : (1 : Int32).toInt = 1 := rfl; omega
theorem own_yv (a b : Int32) : (vY_0 a b).toInt = min a.toInt b.toInt := by
  simp only [vY_0, Int32.lt_iff_toInt_lt]; split <;> omega
theorem own_yn {p1 p2 : Int32} (hp : 1 ≤ p1.toInt ∧ p1.toInt ≤ 5 ∧ 1 ≤ p2.toInt) : ¬ (vY_0 p2 p1 < 0) ∧ 1 ≤ (vY_0 p2 p1).toNatClampNeg ∧ (vY_0 p2 p1).toNatClampNeg ≤ 5 := by
  have h := own_yv p2 p1
  have e0 : (0 : Int32).toInt = 0 := rfl
  rw [Int32.lt_iff_toInt_lt]; simp only [Int32.toNatClampNeg]; omega
set_option maxRecDepth 65536 in
set_option maxHeartbeats 40000000 in
theorem loopI (l : Launch) (Z : State) (aZ : Array Value) (hw : ∀ d ∈ tables_1, d.before aZ Z = true) (a0 : Addr) (p1 p2 : Int32) (N : Nat) (b : Addr) (h0 : Heap) (n0 : Nat) (Z0 : n0 ≤ h0.size) (hN : 1 ≤ N ∧ N ≤ 5) (ge_a0 : n0 ≤ a0) (ge_b : n0 ≤ b) (fr_b : h0.size ≤ b) (ne_b : a0 ≠ b)
    {p : Program} {e : Env} {s : State} {m : MethodId} {below : List Frame} {meth : Method} {c : Code} (C : Cx p s m meth c Z prog_9_method_1_code 4 "com/example/bandweave/bandweave/cover/Splits" none) :
    ∀ (k i : Nat) (h : Heap), N - i < k → i ≤ N → Keep h0 h [a0] → Exa Z h a0 "com/example/bandweave/bandweave/cover/Splits" → Fld Z h a0 "com/example/bandweave/bandweave/cover/Splits" "counts" "[I" (.ref b) → AV Z h b .int N (fun ix => .int (inF p1 N i ix)) → Go p l e ({ frames := 1, cells := 1, slots := 5, locals := 14 } : Room) s m #[(.ref a0), (.int p1), (.int p2)] below meth c n0 1 5 (fun v h => ∃ fb0 : Addr, v = none ∧ (n0 ≤ fb0 ∧ h0.size ≤ fb0) ∧ Keep h0 h [a0] ∧ AV Z h fb0 .int N (fun ix => .int (inF p1 N N ix)) ∧ Exa Z h a0 "com/example/bandweave/bandweave/cover/Splits" ∧ Fld Z h a0 "com/example/bandweave/bandweave/cover/Splits" "counts" "[I" (.ref fb0)) h 1 5 (mkF m 42 #[.val (.ref a0), .val (.int p1), .val (.int p2), .val (.int (i.toInt32))] []) := by
  intro k
  induction k with
  | zero => intro i h hk; exact absurd hk (Nat.not_lt_zero _)
  | succ k ih =>
    intro i h hk hi K E F V
    have Zh : n0 ≤ h.size := Nat.le_trans Z0 K.1
    refine g_iloadN C iI_42 rfl ?_
    refine g_aloadN C iI_43 rfl rfl ?_
    refine g_getF C iI_44 (host := "") (Or.inl (hw _ (List.mem_of_getElem? (i := 18) rfl))) Via.refl F ?_
    refine g_alen C (N.toInt32) iI_47 V rfl ?_
    refine g_icmp_ge C iI_48 (fun hc48_1 => ?_) (fun hc48_1 => ?_)
    · refine g_aloadN C iI_51 rfl rfl ?_
      refine g_getF C iI_52 (host := "") (Or.inl (hw _ (List.mem_of_getElem? (i := 18) rfl))) Via.refl F ?_
      refine g_iloadN C iI_55 rfl ?_
      refine g_iloadN C iI_56 rfl ?_
      refine g_aloadN C iI_57 rfl rfl ?_
      refine g_getF C iI_58 (host := "") (Or.inl (hw _ (List.mem_of_getElem? (i := 18) rfl))) Via.refl F ?_
      refine g_alen C (N.toInt32) iI_61 V rfl ?_
      refine g_idiv C iI_62 (own_nN hN) ?_
      refine g_iloadN C iI_63 rfl ?_
      refine g_iloadN C iI_64 rfl ?_
      refine g_aloadN C iI_65 rfl rfl ?_
      refine g_getF C iI_66 (host := "") (Or.inl (hw _ (List.mem_of_getElem? (i := 18) rfl))) Via.refl F ?_
      refine g_alen C (N.toInt32) iI_69 V rfl ?_
      refine g_irem C iI_70 (own_nN hN) ?_
      refine Go.join (mkF m 79 #[.val (.ref a0), .val (.int p1), .val (.int p2), .val (.int (i.toInt32))] [(.int (if (i.toInt32) < (p1 % (N.toInt32)) then (1 : Int32) else (0 : Int32))), (.int (p1 / (N.toInt32))), (.int (i.toInt32)), (.ref b)]) ?_ (fun J => ?_)
      · refine g_iadd C iI_79 ?_
        refine g_iastI C iI_80 V (own_inN (by omega) ((own_lt (i := i) (n := N) (by omega) (by omega)).mp hc48_1)) ge_b (fun h1 W1 V1 => ?_)
        have E_a0_c1 := Exa.wr W1 E
        have F_counts_a0_c1 := Fld.other W1 F (Or.inl ne_b)
        have Vw1 : AV Z h1 b .int N (fun ix => .int ((fun ix => if ix = ((i.toInt32)).toNatClampNeg then ((p1 / (N.toInt32)) + (if (i.toInt32) < (p1 % (N.toInt32)) then (1 : Int32) else (0 : Int32))) else (inF p1 N i) ix) ix)) := V1
        have K1 := Keep.wr K W1 (Or.inr fr_b)
        have Z1 : n0 ≤ h1.size := Nat.le_trans Zh (Keep.of_wr W1).1
        refine g_iinc C (Ls' := #[.val (.ref a0), .val (.int p1), .val (.int p2), .val (.int ((i.toInt32) + (1 : Int32)))]) iI_81 rfl rfl ?_
        refine g_goto C iI_84 ?_
        have hI := (own_lt (i := i) (n := N) (by omega) (by omega)).mp hc48_1
        exact Go.cast (ih (i + 1) h1 (by omega) (by omega) K1 E_a0_c1 F_counts_a0_c1 (AV.congr Vw1 (fun ix _ => congrArg Value.int (own_in p1 N i ix (by omega))))) (by rw [own_succ (by omega)])
      · refine g_icmp_ge C iI_71 (fun hc71_1 => ?_) (fun hc71_1 => ?_)
        · refine g_iconst C (1 : Int32) iI_74 rfl ?_
          refine g_goto C iI_75 ?_
          have e0 : (if (i.toInt32) < (p1 % (N.toInt32)) then (1 : Int32) else (0 : Int32)) = (1 : Int32) := by simp only [if_pos hc71_1]
          exact Go.cast J (by rw [e0])
        · refine g_iconst C (0 : Int32) iI_78 rfl ?_
          have e0 : (if (i.toInt32) < (p1 % (N.toInt32)) then (1 : Int32) else (0 : Int32)) = (0 : Int32) := by simp only [if_neg hc71_1]
          exact Go.cast J (by rw [e0])
    · have hI : i = N := by have q : ¬ i < N := fun q => hc48_1 ((own_lt (by omega) (by omega)).mpr q); omega
      subst hI
      exact g_retV C iI_87 rfl (by decide) (by decide) ⟨_, rfl, ⟨ge_b, fr_b⟩, K, V, E, F⟩
theorem efI (m : MethodId) (a0 : Addr) (p1 p2 : Int32) : entryFrame m #[(.ref a0), (.int p1), (.int p2)] 4 = mkF m 0 #[.val (.ref a0), .val (.int p1), .val (.int p2), .unset] [] := by first | (simp [entryFrame, mkF, argsToLocals, Value.category]; done) | rfl
def QI (Z : State) (a0 : Addr) (p1 p2 : Int32) (w_counts_a0 : Value) (h0 : Heap) (n0 : Nat) (v : Option Value) (h : Heap) : Prop := ∃ fb0 : Addr, v = none ∧ (n0 ≤ fb0 ∧ h0.size ≤ fb0) ∧ Keep h0 h [a0] ∧ AV Z h fb0 .int (vY_0 p2 p1).toNatClampNeg (fun ix => .int (inF p1 (vY_0 p2 p1).toNatClampNeg (vY_0 p2 p1).toNatClampNeg ix)) ∧ Exa Z h a0 "com/example/bandweave/bandweave/cover/Splits" ∧ Fld Z h a0 "com/example/bandweave/bandweave/cover/Splits" "counts" "[I" (.ref fb0)
set_option maxRecDepth 65536 in
set_option maxHeartbeats 40000000 in
theorem rmI (l : Launch) (Z : State) (aZ : Array Value) (hw : ∀ d ∈ tables_1, d.before aZ Z = true) (a0 : Addr) (p1 p2 : Int32) (w_counts_a0 : Value) (h0 : Heap) (n0 : Nat) (Z0 : n0 ≤ h0.size) (hp : 1 ≤ p1.toInt ∧ p1.toInt ≤ 5 ∧ 1 ≤ p2.toInt) (E_a0 : Exa Z h0 a0 "com/example/bandweave/bandweave/cover/Splits") (F_counts_a0 : Fld Z h0 a0 "com/example/bandweave/bandweave/cover/Splits" "counts" "[I" w_counts_a0) (g_a0 : n0 ≤ a0) :
    Ctr l Z (⟨"com/example/bandweave/bandweave/cover/Splits", "<init>", "(II)V"⟩ : MethodName) prog_9_method_1_code 4 none ({ frames := 1, cells := 1, slots := 5, locals := 14 } : Room) #[(.ref a0), (.int p1), (.int p2)] h0 n0 (QI Z a0 p1 p2 w_counts_a0 h0 n0) := by
  refine Ctr.of_go pn1 (fun m => efI m a0 p1 p2) ?_
  intro p e s m below meth c hnm C
  have hN := (own_yn hp).2
  refine g_aloadN C iI_0 rfl rfl ?_
  refine g_initO C iI_1 (hw _ (List.mem_of_getElem? (i := 11) rfl)) (hw _ (List.mem_of_getElem? (i := 12) rfl)) (hw _ (List.mem_of_getElem? (i := 13) rfl)) rfl (by decide) 0 (Nat.le_of_eq rfl) (by decide) ?_
  refine g_iloadN C iI_4 rfl ?_
  refine g_iconst C (1 : Int32) iI_5 rfl ?_
  refine g_icmp_lt C iI_6 (fun q => absurd q (own_ge1 hp.1)) (fun _ => ?_)
  refine g_iloadN C iI_9 rfl ?_
  refine g_iconst C (1 : Int32) iI_10 rfl ?_
  refine g_icmp_ge C iI_11 (fun q => absurd q (own_ge1 hp.2.2)) (fun _ => ?_)
  refine g_aloadN C iI_29 rfl rfl ?_
  refine g_iloadN C iI_30 rfl ?_
  refine g_iloadN C iI_31 rfl ?_
  refine g_callS C (rmY l Z aZ hw p2 p1 h0 n0 Z0) iI_32 (hw _ (List.mem_of_getElem? (i := 14) rfl)) (hw _ (List.mem_of_getElem? (i := 15) rfl)) (hw _ (List.mem_of_getElem? (i := 3) rfl)) (hw _ (List.mem_of_getElem? (i := 16) rfl)) (by decide) (argsL := [(.int p2), (.int p1)]) (rest := [(.ref a0)]) rfl rfl pd0 rfl rfl 1 (Nat.le_of_eq rfl) (by decide) (by decide) (by decide) (by decide) rfl rfl ?_
  rintro _ _ ⟨rfl, he3⟩
  refine Go.heap he3.symm ?_
  refine Go.some' ?_
  refine g_newP C iI_35 (hw _ (List.mem_of_getElem? (i := 17) rfl)) (own_yn hp).1 5 (own_yn hp).2.2 (by decide) (by decide) (by decide) rfl rfl (fun h4 b4 g4 E4 A4 => ?_)
  have ne_a0_b4 : a0 ≠ b4 := Nat.ne_of_lt (Nat.lt_of_lt_of_le E_a0.lt (Nat.le_of_eq g4.symm))
  have ge4 : n0 ≤ b4 := Nat.le_trans Z0 (Nat.le_of_eq g4.symm)
  have fr4 : h0.size ≤ b4 := Nat.le_trans (Keep.refl h0 [a0]).1 (Nat.le_of_eq g4.symm)
  have K4 := Keep.ext (Keep.refl h0 [a0]) E4
  have Z4 : n0 ≤ h4.size := Nat.le_trans Z0 E4.1
  have E_a0_c4 := Exa.ext E4 E_a0
  have F_counts_a0_c4 := Fld.ext E4 F_counts_a0
  have V4 : AV Z h4 b4 .int (vY_0 p2 p1).toNatClampNeg (fun ix => .int ((fun _ => (0 : Int32)) ix)) := A4
  refine g_putF C iI_37 (host := "") (Or.inl (hw _ (List.mem_of_getElem? (i := 18) rfl))) Via.refl F_counts_a0_c4 E_a0_c4 (Or.inr ⟨(hw _ (List.mem_of_getElem? (i := 19) rfl)), rfl, hnm⟩) (hw _ (List.mem_of_getElem? (i := 6) rfl)) (ty := (.array .int)) (by decide) rfl rfl g_a0 (fun h5 W5 => ?_)
  have E_a0_c5 := Exa.wr W5 E_a0_c4
  have V_b4_c5 := AV.other V4 W5 (Ne.symm ne_a0_b4)
  have Fw5 := Fld.same W5 F_counts_a0_c4
  have K5 := Keep.wr K4 W5 (Or.inl (List.mem_of_getElem? (i := 0) rfl))
  have Z5 : n0 ≤ h5.size := Nat.le_trans Z4 (Keep.of_wr W5).1
  refine g_iconst C (0 : Int32) iI_40 rfl ?_
  refine g_istoreN C (Ls' := #[.val (.ref a0), .val (.int p1), .val (.int p2), .val (.int (0 : Int32))]) iI_41 rfl ?_
  exact Go.cast (loopI l Z aZ hw a0 p1 p2 (vY_0 p2 p1).toNatClampNeg b4 h0 n0 Z0 hN g_a0 ge4 fr4 ne_a0_b4 C 6 0 h5 (by omega) (by omega) K5 E_a0_c5 Fw5 (AV.congr V_b4_c5 (fun ix _ => rfl))) rfl
def stF (n : Nat) (f : Nat → Int32) (lv : Int32) : Nat → Nat → Nat
  | 0, st => st
  | k + 1, st => if st + 1 < n then (if f (st + 1) = lv then stF n f lv k (st + 1) else st) else st
def adG (f : Nat → Int32) (lv ab : Int32) (S i : Nat) (ix : Nat) : Int32 := if ix < i then ((lv + ab / S.toInt32) + (if ix.toInt32 < ab % S.toInt32 then (1 : Int32) else (0 : Int32))) else if ix = S then lv - 1 else f ix
def adF (f : Nat → Int32) (S : Nat) : Nat → Int32 := adG f (f 1) ((f 0 - f 1) + 1) S S
def advC (n : Nat) (f : Nat → Int32) : Nat → Int32 := if n < 2 then f else if f 1 = 0 then f else adF f (stF n f (f 1) n 1)
def advR (n : Nat) (f : Nat → Int32) : Int32 := if n < 2 then 0 else if f 1 = 0 then 0 else 1
theorem own_ad (f : Nat → Int32) (lv ab : Int32) (S i ix : Nat) (hi : i < 100) : (if ix = (i.toInt32).toNatClampNeg then ((lv + (ab / (S.toInt32))) + (if (i.toInt32) < (ab % (S.toInt32)) then (1 : Int32) else (0 : Int32))) else adG f lv ab S i ix) = adG f lv ab S (i + 1) ix := by
  rw [own_cl (by omega)]
  simp only [adG]
  by_cases h : ix = i
  · subst h
    have h1 : ix < ix + 1 := by omega
    rw [if_pos rfl, if_pos h1]
  · rw [if_neg h]
    by_cases h2 : ix < i
    · have h1 : ix < i + 1 := by omega
      rw [if_pos h2, if_pos h1]
    · have h1 : ¬ ix < i + 1 := by omega
      rw [if_neg h2, if_neg h1]
theorem own_ad0 (f : Nat → Int32) (lv ab : Int32) (S ix : Nat) (hS : S < 100) : (if ix = (S.toInt32).toNatClampNeg then (lv - (1 : Int32)) else f ix) = adG f lv ab S 0 ix := by
  rw [own_cl (by omega)]
  simp only [adG]
  have h1 : ¬ ix < 0 := by omega
  rw [if_neg h1]
theorem own_nS {N : Nat} (h : 1 ≤ N ∧ N < 5) : N.toInt32 ≠ (0 : Int32) := own_nN ⟨h.1, by omega⟩
theorem iA_81 : I1 prog_9_method_3_code 81 (.iload 4) 2 83 := ⟨(by decide +kernel), rfl⟩
theorem iA_83 : I1 prog_9_method_3_code 83 (.iload_n 2) 1 84 := ⟨(by decide +kernel), rfl⟩
theorem iA_84 : B1 prog_9_method_3_code 84 (.if_icmp .ge 35) 35 119 87 := ⟨(by decide +kernel), rfl, by decide, by decide⟩
theorem iA_87 : I1 prog_9_method_3_code 87 (.aload_n 0) 1 88 := ⟨(by decide +kernel), rfl⟩
theorem iA_88 : I1 prog_9_method_3_code 88 (.getfield 22) 3 91 := ⟨(by decide +kernel), rfl⟩
theorem iA_91 : I1 prog_9_method_3_code 91 (.iload 4) 2 93 := ⟨(by decide +kernel), rfl⟩
theorem iA_93 : I1 prog_9_method_3_code 93 (.iload_n 1) 1 94 := ⟨(by decide +kernel), rfl⟩
theorem iA_94 : I1 prog_9_method_3_code 94 (.iload_n 3) 1 95 := ⟨(by decide +kernel), rfl⟩
theorem iA_95 : I1 prog_9_method_3_code 95 (.iload_n 2) 1 96 := ⟨(by decide +kernel), rfl⟩
theorem iA_96 : I1 prog_9_method_3_code 96 (.idiv) 1 97 := ⟨(by decide +kernel), rfl⟩
theorem iA_97 : I1 prog_9_method_3_code 97 (.iadd) 1 98 := ⟨(by decide +kernel), rfl⟩
theorem iA_98 : I1 prog_9_method_3_code 98 (.iload 4) 2 100 := ⟨(by decide +kernel), rfl⟩
theorem iA_100 : I1 prog_9_method_3_code 100 (.iload_n 3) 1 101 := ⟨(by decide +kernel), rfl⟩
theorem iA_101 : I1 prog_9_method_3_code 101 (.iload_n 2) 1 102 := ⟨(by decide +kernel), rfl⟩
theorem iA_102 : I1 prog_9_method_3_code 102 (.irem) 1 103 := ⟨(by decide +kernel), rfl⟩
theorem iA_103 : B1 prog_9_method_3_code 103 (.if_icmp .ge 7) 7 110 106 := ⟨(by decide +kernel), rfl, by decide, by decide⟩
theorem iA_106 : I1 prog_9_method_3_code 106 (.iconst 1) 1 107 := ⟨(by decide +kernel), rfl⟩
theorem iA_107 : B1 prog_9_method_3_code 107 (.goto 4) 4 111 110 := ⟨(by decide +kernel), rfl, by decide, by decide⟩
theorem iA_110 : I1 prog_9_method_3_code 110 (.iconst 0) 1 111 := ⟨(by decide +kernel), rfl⟩
theorem iA_111 : I1 prog_9_method_3_code 111 (.iadd) 1 112 := ⟨(by decide +kernel), rfl⟩
theorem iA_112 : I1 prog_9_method_3_code 112 (.iastore) 1 113 := ⟨(by decide +kernel), rfl⟩
theorem iA_113 : I1 prog_9_method_3_code 113 (.iinc 4 1) 3 116 := ⟨(by decide +kernel), rfl⟩
theorem iA_116 : B1 prog_9_method_3_code 116 (.goto (-35)) (-35) 81 119 := ⟨(by decide +kernel), rfl, by decide, by decide⟩
theorem iA_119 : I1 prog_9_method_3_code 119 (.iconst 1) 1 120 := ⟨(by decide +kernel), rfl⟩
theorem iA_120 : I1 prog_9_method_3_code 120 (.ireturn) 1 121 := ⟨(by decide +kernel), rfl⟩
set_option maxRecDepth 65536 in
set_option maxHeartbeats 40000000 in
theorem loopB (l : Launch) (Z : State) (aZ : Array Value) (hw : ∀ d ∈ tables_1, d.before aZ Z = true) (a0 b : Addr) (n : Nat) (f : Nat → Int32) (h0 : Heap) (n0 : Nat) (Z0 : n0 ≤ h0.size) (F : Fld Z h0 a0 "com/example/bandweave/bandweave/cover/Splits" "counts" "[I" (.ref b)) (V : AV Z h0 b .int n (fun ix => .int (f ix))) (hn : n ≤ 5) (ge_b : n0 ≤ b) (ne_b : a0 ≠ b) (S : Nat) (hS : 1 ≤ S ∧ S < n) {p : Program} {e : Env} {s : State} {m : MethodId} {below : List Frame} {meth : Method} {c : Code} (C : Cx p s m meth c Z prog_9_method_3_code 5 "com/example/bandweave/bandweave/cover/Splits" (some .boolean)) :
    ∀ (k i : Nat) (h : Heap), S - i < k → i ≤ S → Keep h0 h [b] → AV Z h b .int n (fun ix => .int (adG f (f 1) (((f 0) - (f 1)) + (1 : Int32)) S i ix)) → Go p l e ({ frames := 0, cells := 0, slots := 0, locals := 0 } : Room) s m #[(.ref a0)] below meth c n0 0 0 (fun v h => v = some (.int (1 : Int32)) ∧ Keep h0 h [b] ∧ AV Z h b .int n (fun ix => .int (adF f S ix))) h 0 0 (mkF m 81 #[.val (.ref a0), .val (.int (f 1)), .val (.int (S.toInt32)), .val (.int (((f 0) - (f 1)) + (1 : Int32))), .val (.int (i.toInt32))] []) := by
  intro k
  induction k with
  | zero => intro i h hk; exact absurd hk (Nat.not_lt_zero _)
  | succ k ih =>
    intro i h hk hi K V'
    have Zh : n0 ≤ h.size := Nat.le_trans Z0 K.1
    refine g_iload C iA_81 rfl ?_
    refine g_iloadN C iA_83 rfl ?_
    refine g_icmp_ge C iA_84 (fun hc84_1 => ?_) (fun hc84_1 => ?_)
    · refine g_aloadN C iA_87 rfl rfl ?_
      refine g_getF C iA_88 (host := "") (Or.inl (hw _ (List.mem_of_getElem? (i := 18) rfl))) Via.refl (Fld.keep F K (ninS ne_b nin0)) ?_
      refine g_iload C iA_91 rfl ?_
      refine g_iloadN C iA_93 rfl ?_
      refine g_iloadN C iA_94 rfl ?_
      refine g_iloadN C iA_95 rfl ?_
      refine g_idiv C iA_96 (own_nS ⟨hS.1, by omega⟩) ?_
      refine g_iadd C iA_97 ?_
      refine g_iload C iA_98 rfl ?_
      refine g_iloadN C iA_100 rfl ?_
      refine g_iloadN C iA_101 rfl ?_
      refine g_irem C iA_102 (own_nS ⟨hS.1, by omega⟩) ?_
      refine Go.join (mkF m 111 #[.val (.ref a0), .val (.int (f 1)), .val (.int (S.toInt32)), .val (.int (((f 0) - (f 1)) + (1 : Int32))), .val (.int (i.toInt32))] [(.int (if (i.toInt32) < ((((f 0) - (f 1)) + (1 : Int32)) % (S.toInt32)) then (1 : Int32) else (0 : Int32))), (.int ((f 1) + ((((f 0) - (f 1)) + (1 : Int32)) / (S.toInt32)))), (.int (i.toInt32)), (.ref b)]) ?_ (fun J => ?_)
      · refine g_iadd C iA_111 ?_
        refine g_iastI C iA_112 V' (own_inN (by omega) (by have := (own_lt (i := i) (n := S) (by omega) (by omega)).mp hc84_1; omega)) ge_b (fun h6 W6 V6 => ?_)
        have F_counts_a0_c6 := Fld.other W6 (Fld.keep F K (ninS ne_b nin0)) (Or.inl ne_b)
        have Vw6 : AV Z h6 b .int n (fun ix => .int ((fun ix => if ix = ((i.toInt32)).toNatClampNeg then (((f 1) + ((((f 0) - (f 1)) + (1 : Int32)) / (S.toInt32))) + (if (i.toInt32) < ((((f 0) - (f 1)) + (1 : Int32)) % (S.toInt32)) then (1 : Int32) else (0 : Int32))) else (adG f (f 1) (((f 0) - (f 1)) + (1 : Int32)) S i) ix) ix)) := V6
        have K6 := Keep.wr K W6 (Or.inl (List.mem_of_getElem? (i := 0) rfl))
        have Z6 : n0 ≤ h6.size := Nat.le_trans Zh (Keep.of_wr W6).1
        refine g_iinc C (Ls' := #[.val (.ref a0), .val (.int (f 1)), .val (.int (S.toInt32)), .val (.int (((f 0) - (f 1)) + (1 : Int32))), .val (.int ((i.toInt32) + (1 : Int32)))]) iA_113 rfl rfl ?_
        refine g_goto C iA_116 ?_
        have hI := (own_lt (i := i) (n := S) (by omega) (by omega)).mp hc84_1
        exact Go.cast (ih (i + 1) h6 (by omega) (by omega) K6 (AV.congr Vw6 (fun ix _ => congrArg Value.int (own_ad f _ _ S i ix (by omega))))) (by rw [own_succ (by omega)])
      · refine g_icmp_ge C iA_103 (fun hc103_1 => ?_) (fun hc103_1 => ?_)
        · refine g_iconst C (1 : Int32) iA_106 rfl ?_
          refine g_goto C iA_107 ?_
          have e0 : (if (i.toInt32) < ((((f 0) - (f 1)) + (1 : Int32)) % (S.toInt32)) then (1 : Int32) else (0 : Int32)) = (1 : Int32) := by simp only [if_pos hc103_1]
          exact Go.cast J (by rw [e0])
        · refine g_iconst C (0 : Int32) iA_110 rfl ?_
          have e0 : (if (i.toInt32) < ((((f 0) - (f 1)) + (1 : Int32)) % (S.toInt32)) then (1 : Int32) else (0 : Int32)) = (0 : Int32) := by simp only [if_neg hc103_1]
          exact Go.cast J (by rw [e0])
    · refine g_iconst C (1 : Int32) iA_119 rfl ?_
      have hI : i = S := by have q : ¬ i < S := fun q => hc84_1 ((own_lt (by omega) (by omega)).mpr q); omega
      subst hI
      exact g_retNar C (t := .boolean) iA_120 rfl (by simp) (by decide) (by decide) ⟨rfl, K, V'⟩
theorem iA_29 : I1 prog_9_method_3_code 29 (.iload_n 2) 1 30 := ⟨(by decide +kernel), rfl⟩
theorem iA_30 : I1 prog_9_method_3_code 30 (.iconst 1) 1 31 := ⟨(by decide +kernel), rfl⟩
theorem iA_31 : I1 prog_9_method_3_code 31 (.iadd) 1 32 := ⟨(by decide +kernel), rfl⟩
theorem iA_32 : I1 prog_9_method_3_code 32 (.aload_n 0) 1 33 := ⟨(by decide +kernel), rfl⟩
theorem iA_33 : I1 prog_9_method_3_code 33 (.getfield 22) 3 36 := ⟨(by decide +kernel), rfl⟩
theorem iA_36 : I1 prog_9_method_3_code 36 (.arraylength) 1 37 := ⟨(by decide +kernel), rfl⟩
theorem iA_37 : B1 prog_9_method_3_code 37 (.if_icmp .ge 21) 21 58 40 := ⟨(by decide +kernel), rfl, by decide, by decide⟩
theorem iA_40 : I1 prog_9_method_3_code 40 (.aload_n 0) 1 41 := ⟨(by decide +kernel), rfl⟩
theorem iA_41 : I1 prog_9_method_3_code 41 (.getfield 22) 3 44 := ⟨(by decide +kernel), rfl⟩
theorem iA_44 : I1 prog_9_method_3_code 44 (.iload_n 2) 1 45 := ⟨(by decide +kernel), rfl⟩
theorem iA_45 : I1 prog_9_method_3_code 45 (.iconst 1) 1 46 := ⟨(by decide +kernel), rfl⟩
theorem iA_46 : I1 prog_9_method_3_code 46 (.iadd) 1 47 := ⟨(by decide +kernel), rfl⟩
theorem iA_47 : I1 prog_9_method_3_code 47 (.iaload) 1 48 := ⟨(by decide +kernel), rfl⟩
theorem iA_48 : I1 prog_9_method_3_code 48 (.iload_n 1) 1 49 := ⟨(by decide +kernel), rfl⟩
theorem iA_49 : B1 prog_9_method_3_code 49 (.if_icmp .ne 9) 9 58 52 := ⟨(by decide +kernel), rfl, by decide, by decide⟩
theorem iA_52 : I1 prog_9_method_3_code 52 (.iinc 2 1) 3 55 := ⟨(by decide +kernel), rfl⟩
theorem iA_55 : B1 prog_9_method_3_code 55 (.goto (-26)) (-26) 29 58 := ⟨(by decide +kernel), rfl, by decide, by decide⟩
theorem iA_58 : I1 prog_9_method_3_code 58 (.aload_n 0) 1 59 := ⟨(by decide +kernel), rfl⟩
theorem iA_59 : I1 prog_9_method_3_code 59 (.getfield 22) 3 62 := ⟨(by decide +kernel), rfl⟩
theorem iA_62 : I1 prog_9_method_3_code 62 (.iconst 0) 1 63 := ⟨(by decide +kernel), rfl⟩
theorem iA_63 : I1 prog_9_method_3_code 63 (.iaload) 1 64 := ⟨(by decide +kernel), rfl⟩
theorem iA_64 : I1 prog_9_method_3_code 64 (.iload_n 1) 1 65 := ⟨(by decide +kernel), rfl⟩
theorem iA_65 : I1 prog_9_method_3_code 65 (.isub) 1 66 := ⟨(by decide +kernel), rfl⟩
theorem iA_66 : I1 prog_9_method_3_code 66 (.iconst 1) 1 67 := ⟨(by decide +kernel), rfl⟩
theorem iA_67 : I1 prog_9_method_3_code 67 (.iadd) 1 68 := ⟨(by decide +kernel), rfl⟩
theorem iA_68 : I1 prog_9_method_3_code 68 (.istore_n 3) 1 69 := ⟨(by decide +kernel), rfl⟩
theorem iA_69 : I1 prog_9_method_3_code 69 (.aload_n 0) 1 70 := ⟨(by decide +kernel), rfl⟩
theorem iA_70 : I1 prog_9_method_3_code 70 (.getfield 22) 3 73 := ⟨(by decide +kernel), rfl⟩
theorem iA_73 : I1 prog_9_method_3_code 73 (.iload_n 2) 1 74 := ⟨(by decide +kernel), rfl⟩
theorem iA_74 : I1 prog_9_method_3_code 74 (.iload_n 1) 1 75 := ⟨(by decide +kernel), rfl⟩
theorem iA_75 : I1 prog_9_method_3_code 75 (.iconst 1) 1 76 := ⟨(by decide +kernel), rfl⟩
theorem iA_76 : I1 prog_9_method_3_code 76 (.isub) 1 77 := ⟨(by decide +kernel), rfl⟩
theorem iA_77 : I1 prog_9_method_3_code 77 (.iastore) 1 78 := ⟨(by decide +kernel), rfl⟩
theorem iA_78 : I1 prog_9_method_3_code 78 (.iconst 0) 1 79 := ⟨(by decide +kernel), rfl⟩
theorem iA_79 : I1 prog_9_method_3_code 79 (.istore 4) 2 81 := ⟨(by decide +kernel), rfl⟩
set_option maxRecDepth 65536 in
set_option maxHeartbeats 40000000 in
theorem loopA (l : Launch) (Z : State) (aZ : Array Value) (hw : ∀ d ∈ tables_1, d.before aZ Z = true) (a0 b : Addr) (n : Nat) (f : Nat → Int32) (h0 : Heap) (n0 : Nat) (Z0 : n0 ≤ h0.size) (F : Fld Z h0 a0 "com/example/bandweave/bandweave/cover/Splits" "counts" "[I" (.ref b)) (V : AV Z h0 b .int n (fun ix => .int (f ix))) (hn : n ≤ 5) (ge_b : n0 ≤ b) (ne_b : a0 ≠ b) {p : Program} {e : Env} {s : State} {m : MethodId} {below : List Frame} {meth : Method} {c : Code} (C : Cx p s m meth c Z prog_9_method_3_code 5 "com/example/bandweave/bandweave/cover/Splits" (some .boolean)) :
    ∀ (k st : Nat), n - st < k + 1 → 1 ≤ st → st < n → Go p l e ({ frames := 0, cells := 0, slots := 0, locals := 0 } : Room) s m #[(.ref a0)] below meth c n0 0 0 (fun v h => v = some (.int (1 : Int32)) ∧ Keep h0 h [b] ∧ AV Z h b .int n (fun ix => .int (adF f (stF n f (f 1) k st) ix))) h0 0 0 (mkF m 29 #[.val (.ref a0), .val (.int (f 1)), .val (.int (st.toInt32)), .unset, .unset] []) := by
  intro k
  induction k with
  | zero => intro st hk h1 h2; exact absurd hk (by omega)
  | succ k ih =>
    intro st hk hst hsn
    refine g_iloadN C iA_29 rfl ?_
    refine g_iconst C (1 : Int32) iA_30 rfl ?_
    refine g_iadd C iA_31 ?_
    refine g_aloadN C iA_32 rfl rfl ?_
    refine g_getF C iA_33 (host := "") (Or.inl (hw _ (List.mem_of_getElem? (i := 18) rfl))) Via.refl F ?_
    refine g_alen C (n.toInt32) iA_36 V rfl ?_
    refine g_icmp_ge C iA_37 (fun hc37_1 => ?_) (fun hc37_1 => ?_)
    · refine g_aloadN C iA_40 rfl rfl ?_
      refine g_getF C iA_41 (host := "") (Or.inl (hw _ (List.mem_of_getElem? (i := 18) rfl))) Via.refl F ?_
      refine g_iloadN C iA_44 rfl ?_
      refine g_iconst C (1 : Int32) iA_45 rfl ?_
      refine g_iadd C iA_46 ?_
      refine g_iald C (.int (f (st + 1))) iA_47 V (by rw [own_succ (by omega)]; exact own_inN (by omega) ((own_lt (by omega) (by omega)).mp (by rw [← own_succ (by omega)]; exact hc37_1))) (by rw [own_succ (by omega)]; exact own_rd (fun i => Value.int (f i)) (by omega)) ?_
      refine g_iloadN C iA_48 rfl ?_
      refine g_icmp_ne C iA_49 (fun hc49_1 => ?_) (fun hc49_1 => ?_)
      · refine g_iinc C (Ls' := #[.val (.ref a0), .val (.int (f 1)), .val (.int ((st.toInt32) + (1 : Int32))), .unset, .unset]) iA_52 rfl rfl ?_
        refine g_goto C iA_55 ?_
        have hI : st + 1 < n := (own_lt (by omega) (by omega)).mp (by rw [← own_succ (by omega)]; exact hc37_1)
        have e : stF n f (f 1) (k + 1) st = stF n f (f 1) k (st + 1) := by simp only [stF, if_pos hI, if_pos hc49_1]
        rw [e]
        exact Go.cast (ih (st + 1) (by omega) (by omega) hI) (by rw [own_succ (by omega)])
      · refine g_aloadN C iA_58 rfl rfl ?_
        refine g_getF C iA_59 (host := "") (Or.inl (hw _ (List.mem_of_getElem? (i := 18) rfl))) Via.refl F ?_
        refine g_iconst C (0 : Int32) iA_62 rfl ?_
        refine g_iald C (.int (f 0)) iA_63 V ⟨by decide, Nat.lt_of_le_of_lt (Nat.zero_le _) hsn⟩ rfl ?_
        refine g_iloadN C iA_64 rfl ?_
        refine g_isub C iA_65 ?_
        refine g_iconst C (1 : Int32) iA_66 rfl ?_
        refine g_iadd C iA_67 ?_
        refine g_istoreN C (Ls' := #[.val (.ref a0), .val (.int (f 1)), .val (.int (st.toInt32)), .val (.int (((f 0) - (f 1)) + (1 : Int32))), .unset]) iA_68 rfl ?_
        refine g_aloadN C iA_69 rfl rfl ?_
        refine g_getF C iA_70 (host := "") (Or.inl (hw _ (List.mem_of_getElem? (i := 18) rfl))) Via.refl F ?_
        refine g_iloadN C iA_73 rfl ?_
        refine g_iloadN C iA_74 rfl ?_
        refine g_iconst C (1 : Int32) iA_75 rfl ?_
        refine g_isub C iA_76 ?_
        refine g_iastI C iA_77 V (own_inN (by omega) hsn) ge_b (fun h7 W7 V7 => ?_)
        have F_counts_a0_c7 := Fld.other W7 F (Or.inl ne_b)
        have Vw7 : AV Z h7 b .int n (fun ix => .int ((fun ix => if ix = ((st.toInt32)).toNatClampNeg then ((f 1) - (1 : Int32)) else f ix) ix)) := V7
        have K7 := Keep.wr (Keep.refl h0 [b]) W7 (Or.inl (List.mem_of_getElem? (i := 0) rfl))
        have Z7 : n0 ≤ h7.size := Nat.le_trans Z0 (Keep.of_wr W7).1
        refine g_iconst C (0 : Int32) iA_78 rfl ?_
        refine g_istore C (Ls' := #[.val (.ref a0), .val (.int (f 1)), .val (.int (st.toInt32)), .val (.int (((f 0) - (f 1)) + (1 : Int32))), .val (.int (0 : Int32))]) iA_79 rfl ?_
        have e : stF n f (f 1) (k + 1) st = st := by
          simp only [stF]
          have hI : st + 1 < n := (own_lt (by omega) (by omega)).mp (by rw [← own_succ (by omega)]; exact hc37_1)
          rw [if_pos hI, if_neg hc49_1]
        rw [e]
        exact Go.cast (loopB l Z aZ hw a0 b n f h0 n0 Z0 F V hn ge_b ne_b st ⟨hst, hsn⟩ C 6 0 h7 (by omega) (by omega) K7 (AV.congr Vw7 (fun ix _ => congrArg Value.int (own_ad0 f _ _ st ix (by omega))))) rfl
    · refine g_aloadN C iA_58 rfl rfl ?_
      refine g_getF C iA_59 (host := "") (Or.inl (hw _ (List.mem_of_getElem? (i := 18) rfl))) Via.refl F ?_
      refine g_iconst C (0 : Int32) iA_62 rfl ?_
      refine g_iald C (.int (f 0)) iA_63 V ⟨by decide, Nat.lt_of_le_of_lt (Nat.zero_le _) hsn⟩ rfl ?_
      refine g_iloadN C iA_64 rfl ?_
      refine g_isub C iA_65 ?_
      refine g_iconst C (1 : Int32) iA_66 rfl ?_
      refine g_iadd C iA_67 ?_
      refine g_istoreN C (Ls' := #[.val (.ref a0), .val (.int (f 1)), .val (.int (st.toInt32)), .val (.int (((f 0) - (f 1)) + (1 : Int32))), .unset]) iA_68 rfl ?_
      refine g_aloadN C iA_69 rfl rfl ?_
      refine g_getF C iA_70 (host := "") (Or.inl (hw _ (List.mem_of_getElem? (i := 18) rfl))) Via.refl F ?_
      refine g_iloadN C iA_73 rfl ?_
      refine g_iloadN C iA_74 rfl ?_
      refine g_iconst C (1 : Int32) iA_75 rfl ?_
      refine g_isub C iA_76 ?_
      refine g_iastI C iA_77 V (own_inN (by omega) hsn) ge_b (fun h8 W8 V8 => ?_)
      have F_counts_a0_c8 := Fld.other W8 F (Or.inl ne_b)
      have Vw8 : AV Z h8 b .int n (fun ix => .int ((fun ix => if ix = ((st.toInt32)).toNatClampNeg then ((f 1) - (1 : Int32)) else f ix) ix)) := V8
      have K8 := Keep.wr (Keep.refl h0 [b]) W8 (Or.inl (List.mem_of_getElem? (i := 0) rfl))
      have Z8 : n0 ≤ h8.size := Nat.le_trans Z0 (Keep.of_wr W8).1
      refine g_iconst C (0 : Int32) iA_78 rfl ?_
      refine g_istore C (Ls' := #[.val (.ref a0), .val (.int (f 1)), .val (.int (st.toInt32)), .val (.int (((f 0) - (f 1)) + (1 : Int32))), .val (.int (0 : Int32))]) iA_79 rfl ?_
      have e : stF n f (f 1) (k + 1) st = st := by
        simp only [stF]
        rw [if_neg (fun q => hc37_1 (by rw [own_succ (by omega)]; exact (own_lt (by omega) (by omega)).mpr q))]
      rw [e]
      exact Go.cast (loopB l Z aZ hw a0 b n f h0 n0 Z0 F V hn ge_b ne_b st ⟨hst, hsn⟩ C 6 0 h8 (by omega) (by omega) K8 (AV.congr Vw8 (fun ix _ => congrArg Value.int (own_ad0 f _ _ st ix (by omega))))) rfl
theorem iA_0 : I1 prog_9_method_3_code 0 (.aload_n 0) 1 1 := ⟨(by decide +kernel), rfl⟩
theorem iA_1 : I1 prog_9_method_3_code 1 (.getfield 22) 3 4 := ⟨(by decide +kernel), rfl⟩
theorem iA_4 : I1 prog_9_method_3_code 4 (.arraylength) 1 5 := ⟨(by decide +kernel), rfl⟩
theorem iA_5 : I1 prog_9_method_3_code 5 (.iconst 2) 1 6 := ⟨(by decide +kernel), rfl⟩
theorem iA_6 : B1 prog_9_method_3_code 6 (.if_icmp .lt 12) 12 18 9 := ⟨(by decide +kernel), rfl, by decide, by decide⟩
theorem iA_9 : I1 prog_9_method_3_code 9 (.aload_n 0) 1 10 := ⟨(by decide +kernel), rfl⟩
theorem iA_10 : I1 prog_9_method_3_code 10 (.getfield 22) 3 13 := ⟨(by decide +kernel), rfl⟩
theorem iA_13 : I1 prog_9_method_3_code 13 (.iconst 1) 1 14 := ⟨(by decide +kernel), rfl⟩
theorem iA_14 : I1 prog_9_method_3_code 14 (.iaload) 1 15 := ⟨(by decide +kernel), rfl⟩
theorem iA_15 : B1 prog_9_method_3_code 15 (.ifCond .ne 5) 5 20 18 := ⟨(by decide +kernel), rfl, by decide, by decide⟩
theorem iA_18 : I1 prog_9_method_3_code 18 (.iconst 0) 1 19 := ⟨(by decide +kernel), rfl⟩
theorem iA_19 : I1 prog_9_method_3_code 19 (.ireturn) 1 20 := ⟨(by decide +kernel), rfl⟩
theorem iA_20 : I1 prog_9_method_3_code 20 (.aload_n 0) 1 21 := ⟨(by decide +kernel), rfl⟩
theorem iA_21 : I1 prog_9_method_3_code 21 (.getfield 22) 3 24 := ⟨(by decide +kernel), rfl⟩
theorem iA_24 : I1 prog_9_method_3_code 24 (.iconst 1) 1 25 := ⟨(by decide +kernel), rfl⟩
theorem iA_25 : I1 prog_9_method_3_code 25 (.iaload) 1 26 := ⟨(by decide +kernel), rfl⟩
theorem iA_26 : I1 prog_9_method_3_code 26 (.istore_n 1) 1 27 := ⟨(by decide +kernel), rfl⟩
theorem iA_27 : I1 prog_9_method_3_code 27 (.iconst 1) 1 28 := ⟨(by decide +kernel), rfl⟩
theorem iA_28 : I1 prog_9_method_3_code 28 (.istore_n 2) 1 29 := ⟨(by decide +kernel), rfl⟩
theorem pn2 : plainFor (⟨"com/example/bandweave/bandweave/cover/Splits", "advance", "()Z"⟩ : MethodName) = true := by decide +kernel
theorem efA (m : MethodId) (a0 : Addr) : entryFrame m #[(.ref a0)] 5 = mkF m 0 #[.val (.ref a0), .unset, .unset, .unset, .unset] [] := by first | (simp [entryFrame, mkF, argsToLocals, Value.category]; done) | rfl
def QA (Z : State) (a0 b : Addr) (n : Nat) (f : Nat → Int32) (h0 : Heap) (n0 : Nat) (v : Option Value) (h : Heap) : Prop := v = some (.int (advR n f)) ∧ Keep h0 h [b] ∧ AV Z h b .int n (fun ix => .int (advC n f ix))
set_option maxRecDepth 65536 in
set_option maxHeartbeats 40000000 in
theorem rmA (l : Launch) (Z : State) (aZ : Array Value) (hw : ∀ d ∈ tables_1, d.before aZ Z = true) (a0 b : Addr) (n : Nat) (f : Nat → Int32) (h0 : Heap) (n0 : Nat) (Z0 : n0 ≤ h0.size) (F : Fld Z h0 a0 "com/example/bandweave/bandweave/cover/Splits" "counts" "[I" (.ref b)) (V : AV Z h0 b .int n (fun ix => .int (f ix))) (hn : n ≤ 5) (ge_b : n0 ≤ b) (ne_b : a0 ≠ b) : Ctr l Z (⟨"com/example/bandweave/bandweave/cover/Splits", "advance", "()Z"⟩ : MethodName) prog_9_method_3_code 5 (some .boolean) ({ frames := 0, cells := 0, slots := 0, locals := 0 } : Room) #[(.ref a0)] h0 n0 (QA Z a0 b n f h0 n0) := by
  refine Ctr.of_go pn2 (fun m => efA m a0) ?_
  intro p e s m below meth c hnm C
  unfold QA
  refine g_aloadN C iA_0 rfl rfl ?_
  refine g_getF C iA_1 (host := "") (Or.inl (hw _ (List.mem_of_getElem? (i := 18) rfl))) Via.refl F ?_
  refine g_alen C (n.toInt32) iA_4 V rfl ?_
  refine g_iconst C (2 : Int32) iA_5 rfl ?_
  refine g_icmp_lt C iA_6 (fun hc6_1 => ?_) (fun hc6_1 => ?_)
  · refine g_iconst C (0 : Int32) iA_18 rfl ?_
    have h2 : n < 2 := (own_lt (i := n) (n := 2) (by omega) (by decide)).mp hc6_1
    have e1 : advR n f = 0 := by simp only [advR, if_pos h2]
    have e2 : advC n f = f := by simp only [advC, if_pos h2]
    rw [e1, e2]
    exact g_retNar C (t := .boolean) iA_19 rfl (by simp) (by decide) (by decide) ⟨rfl, Keep.refl _ _, V⟩
  · refine g_aloadN C iA_9 rfl rfl ?_
    refine g_getF C iA_10 (host := "") (Or.inl (hw _ (List.mem_of_getElem? (i := 18) rfl))) Via.refl F ?_
    refine g_iconst C (1 : Int32) iA_13 rfl ?_
    refine g_iald C (.int (f 1)) iA_14 V ⟨by decide, by have h2 : ¬ n < 2 := (fun q => hc6_1 ((own_lt (i := n) (n := 2) (by omega) (by decide)).mpr q)); exact Nat.lt_of_lt_of_le (by decide) (Nat.le_of_not_lt h2)⟩ rfl ?_
    refine g_if_ne C iA_15 (fun hc15_1 => ?_) (fun hc15_1 => ?_)
    · refine g_iconst C (0 : Int32) iA_18 rfl ?_
      have h2 : ¬ n < 2 := (fun q => hc6_1 ((own_lt (i := n) (n := 2) (by omega) (by decide)).mpr q))
      have e1 : advR n f = 0 := by simp only [advR, if_neg h2, if_pos hc15_1]
      have e2 : advC n f = f := by simp only [advC, if_neg h2, if_pos hc15_1]
      rw [e1, e2]
      exact g_retNar C (t := .boolean) iA_19 rfl (by simp) (by decide) (by decide) ⟨rfl, Keep.refl _ _, V⟩
    · refine g_aloadN C iA_20 rfl rfl ?_
      refine g_getF C iA_21 (host := "") (Or.inl (hw _ (List.mem_of_getElem? (i := 18) rfl))) Via.refl F ?_
      refine g_iconst C (1 : Int32) iA_24 rfl ?_
      refine g_iald C (.int (f 1)) iA_25 V ⟨by decide, by have h2 : ¬ n < 2 := (fun q => hc6_1 ((own_lt (i := n) (n := 2) (by omega) (by decide)).mpr q)); exact Nat.lt_of_lt_of_le (by decide) (Nat.le_of_not_lt h2)⟩ rfl ?_
      refine g_istoreN C (Ls' := #[.val (.ref a0), .val (.int (f 1)), .unset, .unset, .unset]) iA_26 rfl ?_
      refine g_iconst C (1 : Int32) iA_27 rfl ?_
      refine g_istoreN C (Ls' := #[.val (.ref a0), .val (.int (f 1)), .val (.int (1 : Int32)), .unset, .unset]) iA_28 rfl ?_
      have h2 : ¬ n < 2 := (fun q => hc6_1 ((own_lt (i := n) (n := 2) (by omega) (by decide)).mpr q))
      have e1 : advR n f = 1 := by simp only [advR, if_neg h2, if_neg hc15_1]
      have e2 : advC n f = adF f (stF n f (f 1) n 1) := by simp only [advC, if_neg h2, if_neg hc15_1]
      rw [e1, e2]
      exact Go.cast (loopA l Z aZ hw a0 b n f h0 n0 Z0 F V hn ge_b ne_b C n 1 (by omega) (by omega) (by omega)) rfl
theorem pn3 : plainFor (⟨"com/example/bandweave/bandweave/cover/SplitsAdvancePinLaw", "get", "([II)I"⟩ : MethodName) = true := by decide +kernel
theorem iG_0 : I1 method_4_code 0 (.iload_n 1) 1 1 := ⟨(by decide +kernel), rfl⟩
theorem iG_1 : I1 method_4_code 1 (.aload_n 0) 1 2 := ⟨(by decide +kernel), rfl⟩
theorem iG_2 : I1 method_4_code 2 (.arraylength) 1 3 := ⟨(by decide +kernel), rfl⟩
theorem iG_3 : B1 method_4_code 3 (.if_icmp .ge 9) 9 12 6 := ⟨(by decide +kernel), rfl, by decide, by decide⟩
theorem iG_6 : I1 method_4_code 6 (.aload_n 0) 1 7 := ⟨(by decide +kernel), rfl⟩
theorem iG_7 : I1 method_4_code 7 (.iload_n 1) 1 8 := ⟨(by decide +kernel), rfl⟩
theorem iG_8 : I1 method_4_code 8 (.iaload) 1 9 := ⟨(by decide +kernel), rfl⟩
theorem iG_9 : B1 method_4_code 9 (.goto 4) 4 13 12 := ⟨(by decide +kernel), rfl, by decide, by decide⟩
theorem iG_12 : I1 method_4_code 12 (.iconst 0) 1 13 := ⟨(by decide +kernel), rfl⟩
theorem iG_13 : I1 method_4_code 13 (.ireturn) 1 14 := ⟨(by decide +kernel), rfl⟩
def vG_0 (p1 : Int32) (n_a0 : Nat) (f_a0 : Nat → Int32) : Int32 := (if p1 < (n_a0.toInt32) then (f_a0 (p1).toNatClampNeg) else (0 : Int32))
theorem efG (m : MethodId) (a0 : Addr) (p1 : Int32) : entryFrame m #[(.ref a0), (.int p1)] 2 = mkF m 0 #[.val (.ref a0), .val (.int p1)] [] := by first | (simp [entryFrame, mkF, argsToLocals, Value.category]; done) | rfl
def QG (Z : State) (a0 : Addr) (p1 : Int32) (n_a0 : Nat) (f_a0 : Nat → Int32) (h0 : Heap) (n0 : Nat) (v : Option Value) (h : Heap) : Prop := v = some (.int (vG_0 p1 n_a0 f_a0)) ∧ h = h0
set_option maxRecDepth 65536 in
set_option maxHeartbeats 40000000 in
theorem rmG (l : Launch) (Z : State) (aZ : Array Value) (hw : ∀ d ∈ tables_1, d.before aZ Z = true) (a0 : Addr) (p1 : Int32) (n_a0 : Nat) (f_a0 : Nat → Int32) (h0 : Heap) (n0 : Nat) (Z0 : n0 ≤ h0.size) (hk : ¬ (p1 < (0 : Int32))) (V_a0 : AV Z h0 a0 .int n_a0 (fun ix => .int (f_a0 ix))) :
    Ctr l Z (⟨"com/example/bandweave/bandweave/cover/SplitsAdvancePinLaw", "get", "([II)I"⟩ : MethodName) method_4_code 2 (some .int) ({ frames := 0, cells := 0, slots := 0, locals := 0 } : Room) #[(.ref a0), (.int p1)] h0 n0 (QG Z a0 p1 n_a0 f_a0 h0 n0) := by
  refine Ctr.of_go pn3 (fun m => efG m a0 p1) ?_
  intro p e s m below meth c hnm C
  refine g_iloadN C iG_0 rfl ?_
  refine g_aloadN C iG_1 rfl rfl ?_
  refine g_alen C (n_a0.toInt32) iG_2 V_a0 rfl ?_
  refine Go.join (mkF m 13 #[.val (.ref a0), .val (.int p1)] [(.int (vG_0 p1 n_a0 f_a0))]) ?_ (fun J => ?_)
  · exact g_retInt C iG_13 rfl (by decide) (by decide) ⟨rfl, rfl⟩
  · refine g_icmp_ge C iG_3 (fun hc3_1 => ?_) (fun hc3_1 => ?_)
    · refine g_aloadN C iG_6 rfl rfl ?_
      refine g_iloadN C iG_7 rfl ?_
      refine g_iald C (.int (f_a0 (p1).toNatClampNeg)) iG_8 V_a0 (own_inb V_a0 hk hc3_1) rfl ?_
      refine g_goto C iG_9 ?_
      have e0 : (vG_0 p1 n_a0 f_a0) = (f_a0 (p1).toNatClampNeg) := by simp only [vG_0, if_pos hc3_1]
      exact Go.cast J (by rw [e0])
    · refine g_iconst C (0 : Int32) iG_12 rfl ?_
      have e0 : (vG_0 p1 n_a0 f_a0) = (0 : Int32) := by simp only [vG_0, if_neg hc3_1]
      exact Go.cast J (by rw [e0])
theorem pn4 : plainFor (⟨"com/example/bandweave/bandweave/cover/SplitsAdvancePinLaw", "f", "(I)J"⟩ : MethodName) = true := by decide +kernel
theorem iF_0 : I1 method_6_code 0 (.iload_n 0) 1 1 := ⟨(by decide +kernel), rfl⟩
theorem iF_1 : B1 method_6_code 1 (.ifCond .gt 5) 5 6 4 := ⟨(by decide +kernel), rfl, by decide, by decide⟩
theorem iF_4 : I1 method_6_code 4 (.lconst 0) 1 5 := ⟨(by decide +kernel), rfl⟩
theorem iF_5 : I1 method_6_code 5 (.lreturn) 1 6 := ⟨(by decide +kernel), rfl⟩
theorem iF_6 : I1 method_6_code 6 (.iload_n 0) 1 7 := ⟨(by decide +kernel), rfl⟩
theorem iF_7 : I1 method_6_code 7 (.iconst 1) 1 8 := ⟨(by decide +kernel), rfl⟩
theorem iF_8 : B1 method_6_code 8 (.if_icmp .ne 7) 7 15 11 := ⟨(by decide +kernel), rfl, by decide, by decide⟩
theorem iF_11 : I1 method_6_code 11 (.ldc2_w 51) 3 14 := ⟨(by decide +kernel), rfl⟩
theorem iF_14 : I1 method_6_code 14 (.lreturn) 1 15 := ⟨(by decide +kernel), rfl⟩
theorem iF_15 : I1 method_6_code 15 (.iload_n 0) 1 16 := ⟨(by decide +kernel), rfl⟩
theorem iF_16 : I1 method_6_code 16 (.iconst 2) 1 17 := ⟨(by decide +kernel), rfl⟩
theorem iF_17 : B1 method_6_code 17 (.if_icmp .ne 7) 7 24 20 := ⟨(by decide +kernel), rfl, by decide, by decide⟩
theorem iF_20 : I1 method_6_code 20 (.ldc2_w 53) 3 23 := ⟨(by decide +kernel), rfl⟩
theorem iF_23 : I1 method_6_code 23 (.lreturn) 1 24 := ⟨(by decide +kernel), rfl⟩
theorem iF_24 : I1 method_6_code 24 (.iload_n 0) 1 25 := ⟨(by decide +kernel), rfl⟩
theorem iF_25 : I1 method_6_code 25 (.iconst 3) 1 26 := ⟨(by decide +kernel), rfl⟩
theorem iF_26 : B1 method_6_code 26 (.if_icmp .ne 7) 7 33 29 := ⟨(by decide +kernel), rfl, by decide, by decide⟩
theorem iF_29 : I1 method_6_code 29 (.ldc2_w 55) 3 32 := ⟨(by decide +kernel), rfl⟩
theorem iF_32 : I1 method_6_code 32 (.lreturn) 1 33 := ⟨(by decide +kernel), rfl⟩
theorem iF_33 : I1 method_6_code 33 (.iload_n 0) 1 34 := ⟨(by decide +kernel), rfl⟩
theorem iF_34 : I1 method_6_code 34 (.iconst 4) 1 35 := ⟨(by decide +kernel), rfl⟩
theorem iF_35 : B1 method_6_code 35 (.if_icmp .ne 7) 7 42 38 := ⟨(by decide +kernel), rfl, by decide, by decide⟩
theorem iF_38 : I1 method_6_code 38 (.ldc2_w 57) 3 41 := ⟨(by decide +kernel), rfl⟩
theorem iF_41 : I1 method_6_code 41 (.lreturn) 1 42 := ⟨(by decide +kernel), rfl⟩
theorem iF_42 : I1 method_6_code 42 (.ldc2_w 59) 3 45 := ⟨(by decide +kernel), rfl⟩
theorem iF_45 : I1 method_6_code 45 (.lreturn) 1 46 := ⟨(by decide +kernel), rfl⟩
def ret_F (p0 : Int32) : Int64 := (if (0 : Int32) < p0 then (if p0 = (1 : Int32) then (4096 : Int64) else (if p0 = (2 : Int32) then (4608 : Int64) else (if p0 = (3 : Int32) then (4672 : Int64) else (if p0 = (4 : Int32) then (4680 : Int64) else (4681 : Int64))))) else (0 : Int64))
theorem efF (m : MethodId) (p0 : Int32) : entryFrame m #[(.int p0)] 1 = mkF m 0 #[.val (.int p0)] [] := by first | (simp [entryFrame, mkF, argsToLocals, Value.category]; done) | rfl
def QF (Z : State) (p0 : Int32) (h0 : Heap) (n0 : Nat) (v : Option Value) (h : Heap) : Prop := v = some (.long (ret_F p0)) ∧ h = h0
set_option maxRecDepth 65536 in
set_option maxHeartbeats 40000000 in
theorem rmF (l : Launch) (Z : State) (aZ : Array Value) (hw : ∀ d ∈ tables_1, d.before aZ Z = true) (p0 : Int32) (h0 : Heap) (n0 : Nat) (Z0 : n0 ≤ h0.size) :
    Ctr l Z (⟨"com/example/bandweave/bandweave/cover/SplitsAdvancePinLaw", "f", "(I)J"⟩ : MethodName) method_6_code 1 (some .long) ({ frames := 0, cells := 0, slots := 0, locals := 0 } : Room) #[(.int p0)] h0 n0 (QF Z p0 h0 n0) := by
  refine Ctr.of_go pn4 (fun m => efF m p0) ?_
  intro p e s m below meth c hnm C
  refine g_iloadN C iF_0 rfl ?_
  refine g_if_gt C iF_1 (fun hc1_1 => ?_) (fun hc1_1 => ?_)
  · refine g_iloadN C iF_6 rfl ?_
    refine g_iconst C (1 : Int32) iF_7 rfl ?_
    refine g_icmp_ne C iF_8 (fun hc8_1 => ?_) (fun hc8_1 => ?_)
    · refine g_ldc2Long C iF_11 (hw _ (List.mem_of_getElem? (i := 36) rfl)) ?_
      have r0 : (ret_F p0) = (4096 : Int64) := by simp only [ret_F, if_pos hc1_1, if_pos hc8_1]
      exact g_retLong C iF_14 rfl (by decide) (by decide) (show QF Z p0 h0 n0 _ _ from by unfold QF; rw [r0]; exact ⟨rfl, rfl⟩)
    · refine g_iloadN C iF_15 rfl ?_
      refine g_iconst C (2 : Int32) iF_16 rfl ?_
      refine g_icmp_ne C iF_17 (fun hc17_1 => ?_) (fun hc17_1 => ?_)
      · refine g_ldc2Long C iF_20 (hw _ (List.mem_of_getElem? (i := 51) rfl)) ?_
        have r0 : (ret_F p0) = (4608 : Int64) := by simp only [ret_F, if_pos hc1_1, if_neg hc8_1, if_pos hc17_1]
        exact g_retLong C iF_23 rfl (by decide) (by decide) (show QF Z p0 h0 n0 _ _ from by unfold QF; rw [r0]; exact ⟨rfl, rfl⟩)
      · refine g_iloadN C iF_24 rfl ?_
        refine g_iconst C (3 : Int32) iF_25 rfl ?_
        refine g_icmp_ne C iF_26 (fun hc26_1 => ?_) (fun hc26_1 => ?_)
        · refine g_ldc2Long C iF_29 (hw _ (List.mem_of_getElem? (i := 52) rfl)) ?_
          have r0 : (ret_F p0) = (4672 : Int64) := by simp only [ret_F, if_pos hc1_1, if_neg hc8_1, if_neg hc17_1, if_pos hc26_1]
          exact g_retLong C iF_32 rfl (by decide) (by decide) (show QF Z p0 h0 n0 _ _ from by unfold QF; rw [r0]; exact ⟨rfl, rfl⟩)
        · refine g_iloadN C iF_33 rfl ?_
          refine g_iconst C (4 : Int32) iF_34 rfl ?_
          refine g_icmp_ne C iF_35 (fun hc35_1 => ?_) (fun hc35_1 => ?_)
          · refine g_ldc2Long C iF_38 (hw _ (List.mem_of_getElem? (i := 53) rfl)) ?_
            have r0 : (ret_F p0) = (4680 : Int64) := by simp only [ret_F, if_pos hc1_1, if_neg hc8_1, if_neg hc17_1, if_neg hc26_1, if_pos hc35_1]
            exact g_retLong C iF_41 rfl (by decide) (by decide) (show QF Z p0 h0 n0 _ _ from by unfold QF; rw [r0]; exact ⟨rfl, rfl⟩)
          · refine g_ldc2Long C iF_42 (hw _ (List.mem_of_getElem? (i := 54) rfl)) ?_
            have r0 : (ret_F p0) = (4681 : Int64) := by simp only [ret_F, if_pos hc1_1, if_neg hc8_1, if_neg hc17_1, if_neg hc26_1, if_neg hc35_1]
            exact g_retLong C iF_45 rfl (by decide) (by decide) (show QF Z p0 h0 n0 _ _ from by unfold QF; rw [r0]; exact ⟨rfl, rfl⟩)
  · refine g_lconst C (0 : Int64) iF_4 rfl ?_
    have r0 : (ret_F p0) = (0 : Int64) := by simp only [ret_F, if_neg hc1_1]
    exact g_retLong C iF_5 rfl (by decide) (by decide) (show QF Z p0 h0 n0 _ _ from by unfold QF; rw [r0]; exact ⟨rfl, rfl⟩)
theorem pd1 : parseMethodDescriptor "([II)I" = some ⟨[(.array .int), .int], some .int⟩ := by decide +kernel
theorem pd2 : parseMethodDescriptor "(I)J" = some ⟨[.int], some .long⟩ := by decide +kernel
theorem pn5 : plainFor (⟨"com/example/bandweave/bandweave/cover/SplitsAdvancePinLaw", "key", "([I)J"⟩ : MethodName) = true := by decide +kernel
theorem iK_0 : I1 method_7_code 0 (.aload_n 0) 1 1 := ⟨(by decide +kernel), rfl⟩
theorem iK_1 : I1 method_7_code 1 (.iconst 0) 1 2 := ⟨(by decide +kernel), rfl⟩
theorem iK_2 : I1 method_7_code 2 (.invokestatic 47) 3 5 := ⟨(by decide +kernel), rfl⟩
theorem iK_5 : I1 method_7_code 5 (.invokestatic 61) 3 8 := ⟨(by decide +kernel), rfl⟩
theorem iK_8 : I1 method_7_code 8 (.aload_n 0) 1 9 := ⟨(by decide +kernel), rfl⟩
theorem iK_9 : I1 method_7_code 9 (.iconst 1) 1 10 := ⟨(by decide +kernel), rfl⟩
theorem iK_10 : I1 method_7_code 10 (.invokestatic 47) 3 13 := ⟨(by decide +kernel), rfl⟩
theorem iK_13 : I1 method_7_code 13 (.invokestatic 61) 3 16 := ⟨(by decide +kernel), rfl⟩
theorem iK_16 : I1 method_7_code 16 (.ladd) 1 17 := ⟨(by decide +kernel), rfl⟩
theorem iK_17 : I1 method_7_code 17 (.aload_n 0) 1 18 := ⟨(by decide +kernel), rfl⟩
theorem iK_18 : I1 method_7_code 18 (.iconst 2) 1 19 := ⟨(by decide +kernel), rfl⟩
theorem iK_19 : I1 method_7_code 19 (.invokestatic 47) 3 22 := ⟨(by decide +kernel), rfl⟩
theorem iK_22 : I1 method_7_code 22 (.invokestatic 61) 3 25 := ⟨(by decide +kernel), rfl⟩
theorem iK_25 : I1 method_7_code 25 (.ladd) 1 26 := ⟨(by decide +kernel), rfl⟩
theorem iK_26 : I1 method_7_code 26 (.aload_n 0) 1 27 := ⟨(by decide +kernel), rfl⟩
theorem iK_27 : I1 method_7_code 27 (.iconst 3) 1 28 := ⟨(by decide +kernel), rfl⟩
theorem iK_28 : I1 method_7_code 28 (.invokestatic 47) 3 31 := ⟨(by decide +kernel), rfl⟩
theorem iK_31 : I1 method_7_code 31 (.invokestatic 61) 3 34 := ⟨(by decide +kernel), rfl⟩
theorem iK_34 : I1 method_7_code 34 (.ladd) 1 35 := ⟨(by decide +kernel), rfl⟩
theorem iK_35 : I1 method_7_code 35 (.aload_n 0) 1 36 := ⟨(by decide +kernel), rfl⟩
theorem iK_36 : I1 method_7_code 36 (.iconst 4) 1 37 := ⟨(by decide +kernel), rfl⟩
theorem iK_37 : I1 method_7_code 37 (.invokestatic 47) 3 40 := ⟨(by decide +kernel), rfl⟩
theorem iK_40 : I1 method_7_code 40 (.invokestatic 61) 3 43 := ⟨(by decide +kernel), rfl⟩
theorem iK_43 : I1 method_7_code 43 (.ladd) 1 44 := ⟨(by decide +kernel), rfl⟩
theorem iK_44 : I1 method_7_code 44 (.lreturn) 1 45 := ⟨(by decide +kernel), rfl⟩
def ret_K (n_a0 : Nat) (f_a0 : Nat → Int32) : Int64 := (((((ret_F (vG_0 (0 : Int32) n_a0 f_a0)) + (ret_F (vG_0 (1 : Int32) n_a0 f_a0))) + (ret_F (vG_0 (2 : Int32) n_a0 f_a0))) + (ret_F (vG_0 (3 : Int32) n_a0 f_a0))) + (ret_F (vG_0 (4 : Int32) n_a0 f_a0)))
theorem efK (m : MethodId) (a0 : Addr) : entryFrame m #[(.ref a0)] 1 = mkF m 0 #[.val (.ref a0)] [] := by first | (simp [entryFrame, mkF, argsToLocals, Value.category]; done) | rfl
def QK (Z : State) (a0 : Addr) (n_a0 : Nat) (f_a0 : Nat → Int32) (h0 : Heap) (n0 : Nat) (v : Option Value) (h : Heap) : Prop := v = some (.long (ret_K n_a0 f_a0)) ∧ h = h0
set_option maxRecDepth 65536 in
set_option maxHeartbeats 40000000 in
theorem rmK (l : Launch) (Z : State) (aZ : Array Value) (hw : ∀ d ∈ tables_1, d.before aZ Z = true) (a0 : Addr) (n_a0 : Nat) (f_a0 : Nat → Int32) (h0 : Heap) (n0 : Nat) (Z0 : n0 ≤ h0.size) (V_a0 : AV Z h0 a0 .int n_a0 (fun ix => .int (f_a0 ix))) :
    Ctr l Z (⟨"com/example/bandweave/bandweave/cover/SplitsAdvancePinLaw", "key", "([I)J"⟩ : MethodName) method_7_code 1 (some .long) ({ frames := 1, cells := 0, slots := 0, locals := 15 } : Room) #[(.ref a0)] h0 n0 (QK Z a0 n_a0 f_a0 h0 n0) := by
  refine Ctr.of_go pn5 (fun m => efK m a0) ?_
  intro p e s m below meth c hnm C
  refine g_aloadN C iK_0 rfl rfl ?_
  refine g_iconst C (0 : Int32) iK_1 rfl ?_
  refine g_callS C (rmG l Z aZ hw a0 (0 : Int32) n_a0 f_a0 h0 n0 Z0 (by decide) V_a0) iK_2 (hw _ (List.mem_of_getElem? (i := 30) rfl)) (hw _ (List.mem_of_getElem? (i := 31) rfl)) (hw _ (List.mem_of_getElem? (i := 28) rfl)) (hw _ (List.mem_of_getElem? (i := 32) rfl)) (by decide) (argsL := [(.ref a0), (.int (0 : Int32))]) (rest := []) rfl rfl pd1 rfl rfl 0 (Nat.le_of_eq rfl) (by decide) (by decide) (by decide) (by decide) rfl rfl ?_
  rintro _ _ ⟨rfl, he9⟩
  refine Go.heap he9.symm ?_
  refine Go.some' ?_
  refine g_callS C (rmF l Z aZ hw (vG_0 (0 : Int32) n_a0 f_a0) h0 n0 Z0) iK_5 (hw _ (List.mem_of_getElem? (i := 33) rfl)) (hw _ (List.mem_of_getElem? (i := 34) rfl)) (hw _ (List.mem_of_getElem? (i := 28) rfl)) (hw _ (List.mem_of_getElem? (i := 35) rfl)) (by decide) (argsL := [(.int (vG_0 (0 : Int32) n_a0 f_a0))]) (rest := []) rfl rfl pd2 rfl rfl 0 (Nat.le_of_eq rfl) (by decide) (by decide) (by decide) (by decide) rfl rfl ?_
  rintro _ _ ⟨rfl, he10⟩
  refine Go.heap he10.symm ?_
  refine Go.some' ?_
  refine g_aloadN C iK_8 rfl rfl ?_
  refine g_iconst C (1 : Int32) iK_9 rfl ?_
  refine g_callS C (rmG l Z aZ hw a0 (1 : Int32) n_a0 f_a0 h0 n0 Z0 (by decide) V_a0) iK_10 (hw _ (List.mem_of_getElem? (i := 30) rfl)) (hw _ (List.mem_of_getElem? (i := 31) rfl)) (hw _ (List.mem_of_getElem? (i := 28) rfl)) (hw _ (List.mem_of_getElem? (i := 32) rfl)) (by decide) (argsL := [(.ref a0), (.int (1 : Int32))]) (rest := [(.long (ret_F (vG_0 (0 : Int32) n_a0 f_a0)))]) rfl rfl pd1 rfl rfl 2 (Nat.le_of_eq rfl) (by decide) (by decide) (by decide) (by decide) rfl rfl ?_
  rintro _ _ ⟨rfl, he11⟩
  refine Go.heap he11.symm ?_
  refine Go.some' ?_
  refine g_callS C (rmF l Z aZ hw (vG_0 (1 : Int32) n_a0 f_a0) h0 n0 Z0) iK_13 (hw _ (List.mem_of_getElem? (i := 33) rfl)) (hw _ (List.mem_of_getElem? (i := 34) rfl)) (hw _ (List.mem_of_getElem? (i := 28) rfl)) (hw _ (List.mem_of_getElem? (i := 35) rfl)) (by decide) (argsL := [(.int (vG_0 (1 : Int32) n_a0 f_a0))]) (rest := [(.long (ret_F (vG_0 (0 : Int32) n_a0 f_a0)))]) rfl rfl pd2 rfl rfl 2 (Nat.le_of_eq rfl) (by decide) (by decide) (by decide) (by decide) rfl rfl ?_
  rintro _ _ ⟨rfl, he12⟩
  refine Go.heap he12.symm ?_
  refine Go.some' ?_
  refine g_ladd C iK_16 ?_
  refine g_aloadN C iK_17 rfl rfl ?_
  refine g_iconst C (2 : Int32) iK_18 rfl ?_
  refine g_callS C (rmG l Z aZ hw a0 (2 : Int32) n_a0 f_a0 h0 n0 Z0 (by decide) V_a0) iK_19 (hw _ (List.mem_of_getElem? (i := 30) rfl)) (hw _ (List.mem_of_getElem? (i := 31) rfl)) (hw _ (List.mem_of_getElem? (i := 28) rfl)) (hw _ (List.mem_of_getElem? (i := 32) rfl)) (by decide) (argsL := [(.ref a0), (.int (2 : Int32))]) (rest := [(.long ((ret_F (vG_0 (0 : Int32) n_a0 f_a0)) + (ret_F (vG_0 (1 : Int32) n_a0 f_a0))))]) rfl rfl pd1 rfl rfl 2 (Nat.le_of_eq rfl) (by decide) (by decide) (by decide) (by decide) rfl rfl ?_
  rintro _ _ ⟨rfl, he13⟩
  refine Go.heap he13.symm ?_
  refine Go.some' ?_
  refine g_callS C (rmF l Z aZ hw (vG_0 (2 : Int32) n_a0 f_a0) h0 n0 Z0) iK_22 (hw _ (List.mem_of_getElem? (i := 33) rfl)) (hw _ (List.mem_of_getElem? (i := 34) rfl)) (hw _ (List.mem_of_getElem? (i := 28) rfl)) (hw _ (List.mem_of_getElem? (i := 35) rfl)) (by decide) (argsL := [(.int (vG_0 (2 : Int32) n_a0 f_a0))]) (rest := [(.long ((ret_F (vG_0 (0 : Int32) n_a0 f_a0)) + (ret_F (vG_0 (1 : Int32) n_a0 f_a0))))]) rfl rfl pd2 rfl rfl 2 (Nat.le_of_eq rfl) (by decide) (by decide) (by decide) (by decide) rfl rfl ?_
  rintro _ _ ⟨rfl, he14⟩
  refine Go.heap he14.symm ?_
  refine Go.some' ?_
  refine g_ladd C iK_25 ?_
  refine g_aloadN C iK_26 rfl rfl ?_
  refine g_iconst C (3 : Int32) iK_27 rfl ?_
  refine g_callS C (rmG l Z aZ hw a0 (3 : Int32) n_a0 f_a0 h0 n0 Z0 (by decide) V_a0) iK_28 (hw _ (List.mem_of_getElem? (i := 30) rfl)) (hw _ (List.mem_of_getElem? (i := 31) rfl)) (hw _ (List.mem_of_getElem? (i := 28) rfl)) (hw _ (List.mem_of_getElem? (i := 32) rfl)) (by decide) (argsL := [(.ref a0), (.int (3 : Int32))]) (rest := [(.long (((ret_F (vG_0 (0 : Int32) n_a0 f_a0)) + (ret_F (vG_0 (1 : Int32) n_a0 f_a0))) + (ret_F (vG_0 (2 : Int32) n_a0 f_a0))))]) rfl rfl pd1 rfl rfl 2 (Nat.le_of_eq rfl) (by decide) (by decide) (by decide) (by decide) rfl rfl ?_
  rintro _ _ ⟨rfl, he15⟩
  refine Go.heap he15.symm ?_
  refine Go.some' ?_
  refine g_callS C (rmF l Z aZ hw (vG_0 (3 : Int32) n_a0 f_a0) h0 n0 Z0) iK_31 (hw _ (List.mem_of_getElem? (i := 33) rfl)) (hw _ (List.mem_of_getElem? (i := 34) rfl)) (hw _ (List.mem_of_getElem? (i := 28) rfl)) (hw _ (List.mem_of_getElem? (i := 35) rfl)) (by decide) (argsL := [(.int (vG_0 (3 : Int32) n_a0 f_a0))]) (rest := [(.long (((ret_F (vG_0 (0 : Int32) n_a0 f_a0)) + (ret_F (vG_0 (1 : Int32) n_a0 f_a0))) + (ret_F (vG_0 (2 : Int32) n_a0 f_a0))))]) rfl rfl pd2 rfl rfl 2 (Nat.le_of_eq rfl) (by decide) (by decide) (by decide) (by decide) rfl rfl ?_
  rintro _ _ ⟨rfl, he16⟩
  refine Go.heap he16.symm ?_
  refine Go.some' ?_
  refine g_ladd C iK_34 ?_
  refine g_aloadN C iK_35 rfl rfl ?_
  refine g_iconst C (4 : Int32) iK_36 rfl ?_
  refine g_callS C (rmG l Z aZ hw a0 (4 : Int32) n_a0 f_a0 h0 n0 Z0 (by decide) V_a0) iK_37 (hw _ (List.mem_of_getElem? (i := 30) rfl)) (hw _ (List.mem_of_getElem? (i := 31) rfl)) (hw _ (List.mem_of_getElem? (i := 28) rfl)) (hw _ (List.mem_of_getElem? (i := 32) rfl)) (by decide) (argsL := [(.ref a0), (.int (4 : Int32))]) (rest := [(.long ((((ret_F (vG_0 (0 : Int32) n_a0 f_a0)) + (ret_F (vG_0 (1 : Int32) n_a0 f_a0))) + (ret_F (vG_0 (2 : Int32) n_a0 f_a0))) + (ret_F (vG_0 (3 : Int32) n_a0 f_a0))))]) rfl rfl pd1 rfl rfl 2 (Nat.le_of_eq rfl) (by decide) (by decide) (by decide) (by decide) rfl rfl ?_
  rintro _ _ ⟨rfl, he17⟩
  refine Go.heap he17.symm ?_
  refine Go.some' ?_
  refine g_callS C (rmF l Z aZ hw (vG_0 (4 : Int32) n_a0 f_a0) h0 n0 Z0) iK_40 (hw _ (List.mem_of_getElem? (i := 33) rfl)) (hw _ (List.mem_of_getElem? (i := 34) rfl)) (hw _ (List.mem_of_getElem? (i := 28) rfl)) (hw _ (List.mem_of_getElem? (i := 35) rfl)) (by decide) (argsL := [(.int (vG_0 (4 : Int32) n_a0 f_a0))]) (rest := [(.long ((((ret_F (vG_0 (0 : Int32) n_a0 f_a0)) + (ret_F (vG_0 (1 : Int32) n_a0 f_a0))) + (ret_F (vG_0 (2 : Int32) n_a0 f_a0))) + (ret_F (vG_0 (3 : Int32) n_a0 f_a0))))]) rfl rfl pd2 rfl rfl 2 (Nat.le_of_eq rfl) (by decide) (by decide) (by decide) (by decide) rfl rfl ?_
  rintro _ _ ⟨rfl, he18⟩
  refine Go.heap he18.symm ?_
  refine Go.some' ?_
  refine g_ladd C iK_43 ?_
  have r0 : (ret_K n_a0 f_a0) = (((((ret_F (vG_0 (0 : Int32) n_a0 f_a0)) + (ret_F (vG_0 (1 : Int32) n_a0 f_a0))) + (ret_F (vG_0 (2 : Int32) n_a0 f_a0))) + (ret_F (vG_0 (3 : Int32) n_a0 f_a0))) + (ret_F (vG_0 (4 : Int32) n_a0 f_a0))) := by simp only [ret_K]
  exact g_retLong C iK_44 rfl (by decide) (by decide) (show QK Z a0 n_a0 f_a0 h0 n0 _ _ from by unfold QK; rw [r0]; exact ⟨rfl, rfl⟩)
theorem pn6 : plainFor (⟨"com/example/bandweave/bandweave/cover/SplitsAdvancePinLaw", "valid", "([II)Z"⟩ : MethodName) = true := by decide +kernel
theorem iV_0 : I1 method_5_code 0 (.aload_n 0) 1 1 := ⟨(by decide +kernel), rfl⟩
theorem iV_1 : I1 method_5_code 1 (.arraylength) 1 2 := ⟨(by decide +kernel), rfl⟩
theorem iV_2 : I1 method_5_code 2 (.iconst 1) 1 3 := ⟨(by decide +kernel), rfl⟩
theorem iV_3 : B1 method_5_code 3 (.if_icmp .lt 9) 9 12 6 := ⟨(by decide +kernel), rfl, by decide, by decide⟩
theorem iV_6 : I1 method_5_code 6 (.aload_n 0) 1 7 := ⟨(by decide +kernel), rfl⟩
theorem iV_7 : I1 method_5_code 7 (.arraylength) 1 8 := ⟨(by decide +kernel), rfl⟩
theorem iV_8 : I1 method_5_code 8 (.iconst 5) 1 9 := ⟨(by decide +kernel), rfl⟩
theorem iV_9 : B1 method_5_code 9 (.if_icmp .le 5) 5 14 12 := ⟨(by decide +kernel), rfl, by decide, by decide⟩
theorem iV_12 : I1 method_5_code 12 (.iconst 0) 1 13 := ⟨(by decide +kernel), rfl⟩
theorem iV_13 : I1 method_5_code 13 (.ireturn) 1 14 := ⟨(by decide +kernel), rfl⟩
theorem iV_14 : I1 method_5_code 14 (.aload_n 0) 1 15 := ⟨(by decide +kernel), rfl⟩
theorem iV_15 : I1 method_5_code 15 (.iconst 0) 1 16 := ⟨(by decide +kernel), rfl⟩
theorem iV_16 : I1 method_5_code 16 (.invokestatic 47) 3 19 := ⟨(by decide +kernel), rfl⟩
theorem iV_19 : I1 method_5_code 19 (.istore_n 2) 1 20 := ⟨(by decide +kernel), rfl⟩
theorem iV_20 : I1 method_5_code 20 (.aload_n 0) 1 21 := ⟨(by decide +kernel), rfl⟩
theorem iV_21 : I1 method_5_code 21 (.iconst 1) 1 22 := ⟨(by decide +kernel), rfl⟩
theorem iV_22 : I1 method_5_code 22 (.invokestatic 47) 3 25 := ⟨(by decide +kernel), rfl⟩
theorem iV_25 : I1 method_5_code 25 (.istore_n 3) 1 26 := ⟨(by decide +kernel), rfl⟩
theorem iV_26 : I1 method_5_code 26 (.aload_n 0) 1 27 := ⟨(by decide +kernel), rfl⟩
theorem iV_27 : I1 method_5_code 27 (.iconst 2) 1 28 := ⟨(by decide +kernel), rfl⟩
theorem iV_28 : I1 method_5_code 28 (.invokestatic 47) 3 31 := ⟨(by decide +kernel), rfl⟩
theorem iV_31 : I1 method_5_code 31 (.istore 4) 2 33 := ⟨(by decide +kernel), rfl⟩
theorem iV_33 : I1 method_5_code 33 (.aload_n 0) 1 34 := ⟨(by decide +kernel), rfl⟩
theorem iV_34 : I1 method_5_code 34 (.iconst 3) 1 35 := ⟨(by decide +kernel), rfl⟩
theorem iV_35 : I1 method_5_code 35 (.invokestatic 47) 3 38 := ⟨(by decide +kernel), rfl⟩
theorem iV_38 : I1 method_5_code 38 (.istore 5) 2 40 := ⟨(by decide +kernel), rfl⟩
theorem iV_40 : I1 method_5_code 40 (.aload_n 0) 1 41 := ⟨(by decide +kernel), rfl⟩
theorem iV_41 : I1 method_5_code 41 (.iconst 4) 1 42 := ⟨(by decide +kernel), rfl⟩
theorem iV_42 : I1 method_5_code 42 (.invokestatic 47) 3 45 := ⟨(by decide +kernel), rfl⟩
theorem iV_45 : I1 method_5_code 45 (.istore 6) 2 47 := ⟨(by decide +kernel), rfl⟩
theorem iV_47 : I1 method_5_code 47 (.iload_n 2) 1 48 := ⟨(by decide +kernel), rfl⟩
theorem iV_48 : I1 method_5_code 48 (.iload_n 3) 1 49 := ⟨(by decide +kernel), rfl⟩
theorem iV_49 : B1 method_5_code 49 (.if_icmp .lt 28) 28 77 52 := ⟨(by decide +kernel), rfl, by decide, by decide⟩
theorem iV_52 : I1 method_5_code 52 (.iload_n 3) 1 53 := ⟨(by decide +kernel), rfl⟩
theorem iV_53 : I1 method_5_code 53 (.iload 4) 2 55 := ⟨(by decide +kernel), rfl⟩
theorem iV_55 : B1 method_5_code 55 (.if_icmp .lt 22) 22 77 58 := ⟨(by decide +kernel), rfl, by decide, by decide⟩
theorem iV_58 : I1 method_5_code 58 (.iload 4) 2 60 := ⟨(by decide +kernel), rfl⟩
theorem iV_60 : I1 method_5_code 60 (.iload 5) 2 62 := ⟨(by decide +kernel), rfl⟩
theorem iV_62 : B1 method_5_code 62 (.if_icmp .lt 15) 15 77 65 := ⟨(by decide +kernel), rfl, by decide, by decide⟩
theorem iV_65 : I1 method_5_code 65 (.iload 5) 2 67 := ⟨(by decide +kernel), rfl⟩
theorem iV_67 : I1 method_5_code 67 (.iload 6) 2 69 := ⟨(by decide +kernel), rfl⟩
theorem iV_69 : B1 method_5_code 69 (.if_icmp .lt 8) 8 77 72 := ⟨(by decide +kernel), rfl, by decide, by decide⟩
theorem iV_72 : I1 method_5_code 72 (.iload 6) 2 74 := ⟨(by decide +kernel), rfl⟩
theorem iV_74 : B1 method_5_code 74 (.ifCond .ge 5) 5 79 77 := ⟨(by decide +kernel), rfl, by decide, by decide⟩
theorem iV_77 : I1 method_5_code 77 (.iconst 0) 1 78 := ⟨(by decide +kernel), rfl⟩
theorem iV_78 : I1 method_5_code 78 (.ireturn) 1 79 := ⟨(by decide +kernel), rfl⟩
theorem iV_79 : I1 method_5_code 79 (.iload_n 2) 1 80 := ⟨(by decide +kernel), rfl⟩
theorem iV_80 : I1 method_5_code 80 (.iload_n 3) 1 81 := ⟨(by decide +kernel), rfl⟩
theorem iV_81 : I1 method_5_code 81 (.iadd) 1 82 := ⟨(by decide +kernel), rfl⟩
theorem iV_82 : I1 method_5_code 82 (.iload 4) 2 84 := ⟨(by decide +kernel), rfl⟩
theorem iV_84 : I1 method_5_code 84 (.iadd) 1 85 := ⟨(by decide +kernel), rfl⟩
theorem iV_85 : I1 method_5_code 85 (.iload 5) 2 87 := ⟨(by decide +kernel), rfl⟩
theorem iV_87 : I1 method_5_code 87 (.iadd) 1 88 := ⟨(by decide +kernel), rfl⟩
theorem iV_88 : I1 method_5_code 88 (.iload 6) 2 90 := ⟨(by decide +kernel), rfl⟩
theorem iV_90 : I1 method_5_code 90 (.iadd) 1 91 := ⟨(by decide +kernel), rfl⟩
theorem iV_91 : I1 method_5_code 91 (.iload_n 1) 1 92 := ⟨(by decide +kernel), rfl⟩
theorem iV_92 : B1 method_5_code 92 (.if_icmp .ne 7) 7 99 95 := ⟨(by decide +kernel), rfl, by decide, by decide⟩
theorem iV_95 : I1 method_5_code 95 (.iconst 1) 1 96 := ⟨(by decide +kernel), rfl⟩
theorem iV_96 : B1 method_5_code 96 (.goto 4) 4 100 99 := ⟨(by decide +kernel), rfl, by decide, by decide⟩
theorem iV_99 : I1 method_5_code 99 (.iconst 0) 1 100 := ⟨(by decide +kernel), rfl⟩
theorem iV_100 : I1 method_5_code 100 (.ireturn) 1 101 := ⟨(by decide +kernel), rfl⟩
def vV_0 (p1 : Int32) (n_a0 : Nat) (f_a0 : Nat → Int32) : Int32 := (if (((((vG_0 (0 : Int32) n_a0 f_a0) + (vG_0 (1 : Int32) n_a0 f_a0)) + (vG_0 (2 : Int32) n_a0 f_a0)) + (vG_0 (3 : Int32) n_a0 f_a0)) + (vG_0 (4 : Int32) n_a0 f_a0)) = p1 then (1 : Int32) else (0 : Int32))
def ret_V (p1 : Int32) (n_a0 : Nat) (f_a0 : Nat → Int32) : Int32 := (if (n_a0.toInt32) < (1 : Int32) then (0 : Int32) else (if (5 : Int32) < (n_a0.toInt32) then (0 : Int32) else (if (vG_0 (0 : Int32) n_a0 f_a0) < (vG_0 (1 : Int32) n_a0 f_a0) then (0 : Int32) else (if (vG_0 (1 : Int32) n_a0 f_a0) < (vG_0 (2 : Int32) n_a0 f_a0) then (0 : Int32) else (if (vG_0 (2 : Int32) n_a0 f_a0) < (vG_0 (3 : Int32) n_a0 f_a0) then (0 : Int32) else (if (vG_0 (3 : Int32) n_a0 f_a0) < (vG_0 (4 : Int32) n_a0 f_a0) then (0 : Int32) else (if (vG_0 (4 : Int32) n_a0 f_a0) < (0 : Int32) then (0 : Int32) else (nar .boolean (vV_0 p1 n_a0 f_a0)))))))))
theorem efV (m : MethodId) (a0 : Addr) (p1 : Int32) : entryFrame m #[(.ref a0), (.int p1)] 7 = mkF m 0 #[.val (.ref a0), .val (.int p1), .unset, .unset, .unset, .unset, .unset] [] := by first | (simp [entryFrame, mkF, argsToLocals, Value.category]; done) | rfl
def QV (Z : State) (a0 : Addr) (p1 : Int32) (n_a0 : Nat) (f_a0 : Nat → Int32) (h0 : Heap) (n0 : Nat) (v : Option Value) (h : Heap) : Prop := v = some (.int (ret_V p1 n_a0 f_a0)) ∧ h = h0
set_option maxRecDepth 65536 in
set_option maxHeartbeats 40000000 in
theorem rmV (l : Launch) (Z : State) (aZ : Array Value) (hw : ∀ d ∈ tables_1, d.before aZ Z = true) (a0 : Addr) (p1 : Int32) (n_a0 : Nat) (f_a0 : Nat → Int32) (h0 : Heap) (n0 : Nat) (Z0 : n0 ≤ h0.size) (V_a0 : AV Z h0 a0 .int n_a0 (fun ix => .int (f_a0 ix))) :
    Ctr l Z (⟨"com/example/bandweave/bandweave/cover/SplitsAdvancePinLaw", "valid", "([II)Z"⟩ : MethodName) method_5_code 7 (some .boolean) ({ frames := 1, cells := 0, slots := 0, locals := 13 } : Room) #[(.ref a0), (.int p1)] h0 n0 (QV Z a0 p1 n_a0 f_a0 h0 n0) := by
  refine Ctr.of_go pn6 (fun m => efV m a0 p1) ?_
  intro p e s m below meth c hnm C
  refine g_aloadN C iV_0 rfl rfl ?_
  refine g_alen C (n_a0.toInt32) iV_1 V_a0 rfl ?_
  refine g_iconst C (1 : Int32) iV_2 rfl ?_
  refine g_icmp_lt C iV_3 (fun hc3_1 => ?_) (fun hc3_1 => ?_)
  · refine g_iconst C (0 : Int32) iV_12 rfl ?_
    have r0 : (ret_V p1 n_a0 f_a0) = (0 : Int32) := by simp only [ret_V, if_pos hc3_1]
    exact g_retNar C (t := .boolean) iV_13 rfl (by simp) (by decide) (by decide) (show QV Z a0 p1 n_a0 f_a0 h0 n0 _ _ from by unfold QV; rw [r0]; exact ⟨rfl, rfl⟩)
  · refine g_aloadN C iV_6 rfl rfl ?_
    refine g_alen C (n_a0.toInt32) iV_7 V_a0 rfl ?_
    refine g_iconst C (5 : Int32) iV_8 rfl ?_
    refine g_icmp_le C iV_9 (fun hc9_1 => ?_) (fun hc9_1 => ?_)
    · refine g_iconst C (0 : Int32) iV_12 rfl ?_
      have r0 : (ret_V p1 n_a0 f_a0) = (0 : Int32) := by simp only [ret_V, if_neg hc3_1, if_pos hc9_1]
      exact g_retNar C (t := .boolean) iV_13 rfl (by simp) (by decide) (by decide) (show QV Z a0 p1 n_a0 f_a0 h0 n0 _ _ from by unfold QV; rw [r0]; exact ⟨rfl, rfl⟩)
    · refine g_aloadN C iV_14 rfl rfl ?_
      refine g_iconst C (0 : Int32) iV_15 rfl ?_
      refine g_callS C (rmG l Z aZ hw a0 (0 : Int32) n_a0 f_a0 h0 n0 Z0 (by decide) V_a0) iV_16 (hw _ (List.mem_of_getElem? (i := 30) rfl)) (hw _ (List.mem_of_getElem? (i := 31) rfl)) (hw _ (List.mem_of_getElem? (i := 28) rfl)) (hw _ (List.mem_of_getElem? (i := 32) rfl)) (by decide) (argsL := [(.ref a0), (.int (0 : Int32))]) (rest := []) rfl rfl pd1 rfl rfl 0 (Nat.le_of_eq rfl) (by decide) (by decide) (by decide) (by decide) rfl rfl ?_
      rintro _ _ ⟨rfl, he19⟩
      refine Go.heap he19.symm ?_
      refine Go.some' ?_
      refine g_istoreN C (Ls' := #[.val (.ref a0), .val (.int p1), .val (.int (vG_0 (0 : Int32) n_a0 f_a0)), .unset, .unset, .unset, .unset]) iV_19 rfl ?_
      refine g_aloadN C iV_20 rfl rfl ?_
      refine g_iconst C (1 : Int32) iV_21 rfl ?_
      refine g_callS C (rmG l Z aZ hw a0 (1 : Int32) n_a0 f_a0 h0 n0 Z0 (by decide) V_a0) iV_22 (hw _ (List.mem_of_getElem? (i := 30) rfl)) (hw _ (List.mem_of_getElem? (i := 31) rfl)) (hw _ (List.mem_of_getElem? (i := 28) rfl)) (hw _ (List.mem_of_getElem? (i := 32) rfl)) (by decide) (argsL := [(.ref a0), (.int (1 : Int32))]) (rest := []) rfl rfl pd1 rfl rfl 0 (Nat.le_of_eq rfl) (by decide) (by decide) (by decide) (by decide) rfl rfl ?_
      rintro _ _ ⟨rfl, he20⟩
      refine Go.heap he20.symm ?_
      refine Go.some' ?_
      refine g_istoreN C (Ls' := #[.val (.ref a0), .val (.int p1), .val (.int (vG_0 (0 : Int32) n_a0 f_a0)), .val (.int (vG_0 (1 : Int32) n_a0 f_a0)), .unset, .unset, .unset]) iV_25 rfl ?_
      refine g_aloadN C iV_26 rfl rfl ?_
      refine g_iconst C (2 : Int32) iV_27 rfl ?_
      refine g_callS C (rmG l Z aZ hw a0 (2 : Int32) n_a0 f_a0 h0 n0 Z0 (by decide) V_a0) iV_28 (hw _ (List.mem_of_getElem? (i := 30) rfl)) (hw _ (List.mem_of_getElem? (i := 31) rfl)) (hw _ (List.mem_of_getElem? (i := 28) rfl)) (hw _ (List.mem_of_getElem? (i := 32) rfl)) (by decide) (argsL := [(.ref a0), (.int (2 : Int32))]) (rest := []) rfl rfl pd1 rfl rfl 0 (Nat.le_of_eq rfl) (by decide) (by decide) (by decide) (by decide) rfl rfl ?_
      rintro _ _ ⟨rfl, he21⟩
      refine Go.heap he21.symm ?_
      refine Go.some' ?_
      refine g_istore C (Ls' := #[.val (.ref a0), .val (.int p1), .val (.int (vG_0 (0 : Int32) n_a0 f_a0)), .val (.int (vG_0 (1 : Int32) n_a0 f_a0)), .val (.int (vG_0 (2 : Int32) n_a0 f_a0)), .unset, .unset]) iV_31 rfl ?_
      refine g_aloadN C iV_33 rfl rfl ?_
      refine g_iconst C (3 : Int32) iV_34 rfl ?_
      refine g_callS C (rmG l Z aZ hw a0 (3 : Int32) n_a0 f_a0 h0 n0 Z0 (by decide) V_a0) iV_35 (hw _ (List.mem_of_getElem? (i := 30) rfl)) (hw _ (List.mem_of_getElem? (i := 31) rfl)) (hw _ (List.mem_of_getElem? (i := 28) rfl)) (hw _ (List.mem_of_getElem? (i := 32) rfl)) (by decide) (argsL := [(.ref a0), (.int (3 : Int32))]) (rest := []) rfl rfl pd1 rfl rfl 0 (Nat.le_of_eq rfl) (by decide) (by decide) (by decide) (by decide) rfl rfl ?_
      rintro _ _ ⟨rfl, he22⟩
      refine Go.heap he22.symm ?_
      refine Go.some' ?_
      refine g_istore C (Ls' := #[.val (.ref a0), .val (.int p1), .val (.int (vG_0 (0 : Int32) n_a0 f_a0)), .val (.int (vG_0 (1 : Int32) n_a0 f_a0)), .val (.int (vG_0 (2 : Int32) n_a0 f_a0)), .val (.int (vG_0 (3 : Int32) n_a0 f_a0)), .unset]) iV_38 rfl ?_
      refine g_aloadN C iV_40 rfl rfl ?_
      refine g_iconst C (4 : Int32) iV_41 rfl ?_
      refine g_callS C (rmG l Z aZ hw a0 (4 : Int32) n_a0 f_a0 h0 n0 Z0 (by decide) V_a0) iV_42 (hw _ (List.mem_of_getElem? (i := 30) rfl)) (hw _ (List.mem_of_getElem? (i := 31) rfl)) (hw _ (List.mem_of_getElem? (i := 28) rfl)) (hw _ (List.mem_of_getElem? (i := 32) rfl)) (by decide) (argsL := [(.ref a0), (.int (4 : Int32))]) (rest := []) rfl rfl pd1 rfl rfl 0 (Nat.le_of_eq rfl) (by decide) (by decide) (by decide) (by decide) rfl rfl ?_
      rintro _ _ ⟨rfl, he23⟩
      refine Go.heap he23.symm ?_
      refine Go.some' ?_
      refine g_istore C (Ls' := #[.val (.ref a0), .val (.int p1), .val (.int (vG_0 (0 : Int32) n_a0 f_a0)), .val (.int (vG_0 (1 : Int32) n_a0 f_a0)), .val (.int (vG_0 (2 : Int32) n_a0 f_a0)), .val (.int (vG_0 (3 : Int32) n_a0 f_a0)), .val (.int (vG_0 (4 : Int32) n_a0 f_a0))]) iV_45 rfl ?_
      refine g_iloadN C iV_47 rfl ?_
      refine g_iloadN C iV_48 rfl ?_
      refine g_icmp_lt C iV_49 (fun hc49_1 => ?_) (fun hc49_1 => ?_)
      · refine g_iconst C (0 : Int32) iV_77 rfl ?_
        have r0 : (ret_V p1 n_a0 f_a0) = (0 : Int32) := by simp only [ret_V, if_neg hc3_1, if_neg hc9_1, if_pos hc49_1]
        exact g_retNar C (t := .boolean) iV_78 rfl (by simp) (by decide) (by decide) (show QV Z a0 p1 n_a0 f_a0 h0 n0 _ _ from by unfold QV; rw [r0]; exact ⟨rfl, rfl⟩)
      · refine g_iloadN C iV_52 rfl ?_
        refine g_iload C iV_53 rfl ?_
        refine g_icmp_lt C iV_55 (fun hc55_1 => ?_) (fun hc55_1 => ?_)
        · refine g_iconst C (0 : Int32) iV_77 rfl ?_
          have r0 : (ret_V p1 n_a0 f_a0) = (0 : Int32) := by simp only [ret_V, if_neg hc3_1, if_neg hc9_1, if_neg hc49_1, if_pos hc55_1]
          exact g_retNar C (t := .boolean) iV_78 rfl (by simp) (by decide) (by decide) (show QV Z a0 p1 n_a0 f_a0 h0 n0 _ _ from by unfold QV; rw [r0]; exact ⟨rfl, rfl⟩)
        · refine g_iload C iV_58 rfl ?_
          refine g_iload C iV_60 rfl ?_
          refine g_icmp_lt C iV_62 (fun hc62_1 => ?_) (fun hc62_1 => ?_)
          · refine g_iconst C (0 : Int32) iV_77 rfl ?_
            have r0 : (ret_V p1 n_a0 f_a0) = (0 : Int32) := by simp only [ret_V, if_neg hc3_1, if_neg hc9_1, if_neg hc49_1, if_neg hc55_1, if_pos hc62_1]
            exact g_retNar C (t := .boolean) iV_78 rfl (by simp) (by decide) (by decide) (show QV Z a0 p1 n_a0 f_a0 h0 n0 _ _ from by unfold QV; rw [r0]; exact ⟨rfl, rfl⟩)
          · refine g_iload C iV_65 rfl ?_
            refine g_iload C iV_67 rfl ?_
            refine g_icmp_lt C iV_69 (fun hc69_1 => ?_) (fun hc69_1 => ?_)
            · refine g_iconst C (0 : Int32) iV_77 rfl ?_
              have r0 : (ret_V p1 n_a0 f_a0) = (0 : Int32) := by simp only [ret_V, if_neg hc3_1, if_neg hc9_1, if_neg hc49_1, if_neg hc55_1, if_neg hc62_1, if_pos hc69_1]
              exact g_retNar C (t := .boolean) iV_78 rfl (by simp) (by decide) (by decide) (show QV Z a0 p1 n_a0 f_a0 h0 n0 _ _ from by unfold QV; rw [r0]; exact ⟨rfl, rfl⟩)
            · refine g_iload C iV_72 rfl ?_
              refine g_if_ge C iV_74 (fun hc74_1 => ?_) (fun hc74_1 => ?_)
              · refine g_iconst C (0 : Int32) iV_77 rfl ?_
                have r0 : (ret_V p1 n_a0 f_a0) = (0 : Int32) := by simp only [ret_V, if_neg hc3_1, if_neg hc9_1, if_neg hc49_1, if_neg hc55_1, if_neg hc62_1, if_neg hc69_1, if_pos hc74_1]
                exact g_retNar C (t := .boolean) iV_78 rfl (by simp) (by decide) (by decide) (show QV Z a0 p1 n_a0 f_a0 h0 n0 _ _ from by unfold QV; rw [r0]; exact ⟨rfl, rfl⟩)
              · refine g_iloadN C iV_79 rfl ?_
                refine g_iloadN C iV_80 rfl ?_
                refine g_iadd C iV_81 ?_
                refine g_iload C iV_82 rfl ?_
                refine g_iadd C iV_84 ?_
                refine g_iload C iV_85 rfl ?_
                refine g_iadd C iV_87 ?_
                refine g_iload C iV_88 rfl ?_
                refine g_iadd C iV_90 ?_
                refine g_iloadN C iV_91 rfl ?_
                refine Go.join (mkF m 100 #[.val (.ref a0), .val (.int p1), .val (.int (vG_0 (0 : Int32) n_a0 f_a0)), .val (.int (vG_0 (1 : Int32) n_a0 f_a0)), .val (.int (vG_0 (2 : Int32) n_a0 f_a0)), .val (.int (vG_0 (3 : Int32) n_a0 f_a0)), .val (.int (vG_0 (4 : Int32) n_a0 f_a0))] [(.int (vV_0 p1 n_a0 f_a0))]) ?_ (fun J => ?_)
                · have r0 : (ret_V p1 n_a0 f_a0) = (nar .boolean (vV_0 p1 n_a0 f_a0)) := by simp only [ret_V, if_neg hc3_1, if_neg hc9_1, if_neg hc49_1, if_neg hc55_1, if_neg hc62_1, if_neg hc69_1, if_neg hc74_1]
                  exact g_retNar C (t := .boolean) iV_100 rfl (by simp) (by decide) (by decide) (show QV Z a0 p1 n_a0 f_a0 h0 n0 _ _ from by unfold QV; rw [r0]; exact ⟨rfl, rfl⟩)
                · refine g_icmp_ne C iV_92 (fun hc92_1 => ?_) (fun hc92_1 => ?_)
                  · refine g_iconst C (1 : Int32) iV_95 rfl ?_
                    refine g_goto C iV_96 ?_
                    have e0 : (vV_0 p1 n_a0 f_a0) = (1 : Int32) := by simp only [vV_0, if_pos hc92_1]
                    exact Go.cast J (by rw [e0])
                  · refine g_iconst C (0 : Int32) iV_99 rfl ?_
                    have e0 : (vV_0 p1 n_a0 f_a0) = (0 : Int32) := by simp only [vV_0, if_neg hc92_1]
                    exact Go.cast J (by rw [e0])
theorem pn7 : plainFor (⟨"com/example/bandweave/bandweave/cover/SplitsAdvancePinLaw", "expected", "(II)I"⟩ : MethodName) = true := by decide +kernel
theorem iE_0 : I1 method_8_code 0 (.iload_n 1) 1 1 := ⟨(by decide +kernel), rfl⟩
theorem iE_1 : I1 method_8_code 1 (.iconst 1) 1 2 := ⟨(by decide +kernel), rfl⟩
theorem iE_2 : B1 method_8_code 2 (.if_icmp .ne 5) 5 7 5 := ⟨(by decide +kernel), rfl, by decide, by decide⟩
theorem iE_5 : I1 method_8_code 5 (.iconst 1) 1 6 := ⟨(by decide +kernel), rfl⟩
theorem iE_6 : I1 method_8_code 6 (.ireturn) 1 7 := ⟨(by decide +kernel), rfl⟩
theorem iE_7 : I1 method_8_code 7 (.iload_n 0) 1 8 := ⟨(by decide +kernel), rfl⟩
theorem iE_8 : I1 method_8_code 8 (.iconst 2) 1 9 := ⟨(by decide +kernel), rfl⟩
theorem iE_9 : B1 method_8_code 9 (.if_icmp .ne 5) 5 14 12 := ⟨(by decide +kernel), rfl, by decide, by decide⟩
theorem iE_12 : I1 method_8_code 12 (.iconst 2) 1 13 := ⟨(by decide +kernel), rfl⟩
theorem iE_13 : I1 method_8_code 13 (.ireturn) 1 14 := ⟨(by decide +kernel), rfl⟩
theorem iE_14 : I1 method_8_code 14 (.iload_n 0) 1 15 := ⟨(by decide +kernel), rfl⟩
theorem iE_15 : I1 method_8_code 15 (.iconst 3) 1 16 := ⟨(by decide +kernel), rfl⟩
theorem iE_16 : B1 method_8_code 16 (.if_icmp .ne 14) 14 30 19 := ⟨(by decide +kernel), rfl, by decide, by decide⟩
theorem iE_19 : I1 method_8_code 19 (.iload_n 1) 1 20 := ⟨(by decide +kernel), rfl⟩
theorem iE_20 : I1 method_8_code 20 (.iconst 2) 1 21 := ⟨(by decide +kernel), rfl⟩
theorem iE_21 : B1 method_8_code 21 (.if_icmp .ne 7) 7 28 24 := ⟨(by decide +kernel), rfl, by decide, by decide⟩
theorem iE_24 : I1 method_8_code 24 (.iconst 2) 1 25 := ⟨(by decide +kernel), rfl⟩
theorem iE_25 : B1 method_8_code 25 (.goto 4) 4 29 28 := ⟨(by decide +kernel), rfl, by decide, by decide⟩
theorem iE_28 : I1 method_8_code 28 (.iconst 3) 1 29 := ⟨(by decide +kernel), rfl⟩
theorem iE_29 : I1 method_8_code 29 (.ireturn) 1 30 := ⟨(by decide +kernel), rfl⟩
theorem iE_30 : I1 method_8_code 30 (.iload_n 0) 1 31 := ⟨(by decide +kernel), rfl⟩
theorem iE_31 : I1 method_8_code 31 (.iconst 4) 1 32 := ⟨(by decide +kernel), rfl⟩
theorem iE_32 : B1 method_8_code 32 (.if_icmp .ne 21) 21 53 35 := ⟨(by decide +kernel), rfl, by decide, by decide⟩
theorem iE_35 : I1 method_8_code 35 (.iload_n 1) 1 36 := ⟨(by decide +kernel), rfl⟩
theorem iE_36 : I1 method_8_code 36 (.iconst 2) 1 37 := ⟨(by decide +kernel), rfl⟩
theorem iE_37 : B1 method_8_code 37 (.if_icmp .ne 5) 5 42 40 := ⟨(by decide +kernel), rfl, by decide, by decide⟩
theorem iE_40 : I1 method_8_code 40 (.iconst 3) 1 41 := ⟨(by decide +kernel), rfl⟩
theorem iE_41 : I1 method_8_code 41 (.ireturn) 1 42 := ⟨(by decide +kernel), rfl⟩
theorem iE_42 : I1 method_8_code 42 (.iload_n 1) 1 43 := ⟨(by decide +kernel), rfl⟩
theorem iE_43 : I1 method_8_code 43 (.iconst 3) 1 44 := ⟨(by decide +kernel), rfl⟩
theorem iE_44 : B1 method_8_code 44 (.if_icmp .ne 7) 7 51 47 := ⟨(by decide +kernel), rfl, by decide, by decide⟩
theorem iE_47 : I1 method_8_code 47 (.iconst 4) 1 48 := ⟨(by decide +kernel), rfl⟩
theorem iE_48 : B1 method_8_code 48 (.goto 4) 4 52 51 := ⟨(by decide +kernel), rfl, by decide, by decide⟩
theorem iE_51 : I1 method_8_code 51 (.iconst 5) 1 52 := ⟨(by decide +kernel), rfl⟩
theorem iE_52 : I1 method_8_code 52 (.ireturn) 1 53 := ⟨(by decide +kernel), rfl⟩
theorem iE_53 : I1 method_8_code 53 (.iload_n 1) 1 54 := ⟨(by decide +kernel), rfl⟩
theorem iE_54 : I1 method_8_code 54 (.iconst 2) 1 55 := ⟨(by decide +kernel), rfl⟩
theorem iE_55 : B1 method_8_code 55 (.if_icmp .ne 5) 5 60 58 := ⟨(by decide +kernel), rfl, by decide, by decide⟩
theorem iE_58 : I1 method_8_code 58 (.iconst 3) 1 59 := ⟨(by decide +kernel), rfl⟩
theorem iE_59 : I1 method_8_code 59 (.ireturn) 1 60 := ⟨(by decide +kernel), rfl⟩
theorem iE_60 : I1 method_8_code 60 (.iload_n 1) 1 61 := ⟨(by decide +kernel), rfl⟩
theorem iE_61 : I1 method_8_code 61 (.iconst 3) 1 62 := ⟨(by decide +kernel), rfl⟩
theorem iE_62 : B1 method_8_code 62 (.if_icmp .ne 5) 5 67 65 := ⟨(by decide +kernel), rfl, by decide, by decide⟩
theorem iE_65 : I1 method_8_code 65 (.iconst 5) 1 66 := ⟨(by decide +kernel), rfl⟩
theorem iE_66 : I1 method_8_code 66 (.ireturn) 1 67 := ⟨(by decide +kernel), rfl⟩
theorem iE_67 : I1 method_8_code 67 (.iload_n 1) 1 68 := ⟨(by decide +kernel), rfl⟩
theorem iE_68 : I1 method_8_code 68 (.iconst 4) 1 69 := ⟨(by decide +kernel), rfl⟩
theorem iE_69 : B1 method_8_code 69 (.if_icmp .ne 8) 8 77 72 := ⟨(by decide +kernel), rfl, by decide, by decide⟩
theorem iE_72 : I1 method_8_code 72 (.bipush 6) 2 74 := ⟨(by decide +kernel), rfl⟩
theorem iE_74 : B1 method_8_code 74 (.goto 5) 5 79 77 := ⟨(by decide +kernel), rfl, by decide, by decide⟩
theorem iE_77 : I1 method_8_code 77 (.bipush 7) 2 79 := ⟨(by decide +kernel), rfl⟩
theorem iE_79 : I1 method_8_code 79 (.ireturn) 1 80 := ⟨(by decide +kernel), rfl⟩
def vE_0 (p0 : Int32) (p1 : Int32) : Int32 := (if p1 = (2 : Int32) then (2 : Int32) else (3 : Int32))
def vE_1 (p0 : Int32) (p1 : Int32) : Int32 := (if p1 = (3 : Int32) then (4 : Int32) else (5 : Int32))
def vE_2 (p0 : Int32) (p1 : Int32) : Int32 := (if p1 = (4 : Int32) then (6 : Int32) else (7 : Int32))
def ret_E (p0 : Int32) (p1 : Int32) : Int32 := (if p1 = (1 : Int32) then (1 : Int32) else (if p0 = (2 : Int32) then (2 : Int32) else (if p0 = (3 : Int32) then (vE_0 p0 p1) else (if p0 = (4 : Int32) then (if p1 = (2 : Int32) then (3 : Int32) else (vE_1 p0 p1)) else (if p1 = (2 : Int32) then (3 : Int32) else (if p1 = (3 : Int32) then (5 : Int32) else (vE_2 p0 p1)))))))
theorem efE (m : MethodId) (p0 : Int32) (p1 : Int32) : entryFrame m #[(.int p0), (.int p1)] 2 = mkF m 0 #[.val (.int p0), .val (.int p1)] [] := by first | (simp [entryFrame, mkF, argsToLocals, Value.category]; done) | rfl
def QE (Z : State) (p0 : Int32) (p1 : Int32) (h0 : Heap) (n0 : Nat) (v : Option Value) (h : Heap) : Prop := v = some (.int (ret_E p0 p1)) ∧ h = h0
set_option maxRecDepth 65536 in
set_option maxHeartbeats 40000000 in
theorem rmE (l : Launch) (Z : State) (aZ : Array Value) (hw : ∀ d ∈ tables_1, d.before aZ Z = true) (p0 : Int32) (p1 : Int32) (h0 : Heap) (n0 : Nat) (Z0 : n0 ≤ h0.size) :
    Ctr l Z (⟨"com/example/bandweave/bandweave/cover/SplitsAdvancePinLaw", "expected", "(II)I"⟩ : MethodName) method_8_code 2 (some .int) ({ frames := 0, cells := 0, slots := 0, locals := 0 } : Room) #[(.int p0), (.int p1)] h0 n0 (QE Z p0 p1 h0 n0) := by
  refine Ctr.of_go pn7 (fun m => efE m p0 p1) ?_
  intro p e s m below meth c hnm C
  refine g_iloadN C iE_0 rfl ?_
  refine g_iconst C (1 : Int32) iE_1 rfl ?_
  refine g_icmp_ne C iE_2 (fun hc2_1 => ?_) (fun hc2_1 => ?_)
  · refine g_iconst C (1 : Int32) iE_5 rfl ?_
    have r0 : (ret_E p0 p1) = (1 : Int32) := by simp only [ret_E, if_pos hc2_1]
    exact g_retInt C iE_6 rfl (by decide) (by decide) (show QE Z p0 p1 h0 n0 _ _ from by unfold QE; rw [r0]; exact ⟨rfl, rfl⟩)
  · refine g_iloadN C iE_7 rfl ?_
    refine g_iconst C (2 : Int32) iE_8 rfl ?_
    refine g_icmp_ne C iE_9 (fun hc9_1 => ?_) (fun hc9_1 => ?_)
    · refine g_iconst C (2 : Int32) iE_12 rfl ?_
      have r0 : (ret_E p0 p1) = (2 : Int32) := by simp only [ret_E, if_neg hc2_1, if_pos hc9_1]
      exact g_retInt C iE_13 rfl (by decide) (by decide) (show QE Z p0 p1 h0 n0 _ _ from by unfold QE; rw [r0]; exact ⟨rfl, rfl⟩)
    · refine g_iloadN C iE_14 rfl ?_
      refine g_iconst C (3 : Int32) iE_15 rfl ?_
      refine g_icmp_ne C iE_16 (fun hc16_1 => ?_) (fun hc16_1 => ?_)
      · refine g_iloadN C iE_19 rfl ?_
        refine g_iconst C (2 : Int32) iE_20 rfl ?_
        refine Go.join (mkF m 29 #[.val (.int p0), .val (.int p1)] [(.int (vE_0 p0 p1))]) ?_ (fun J => ?_)
        · have r0 : (ret_E p0 p1) = (vE_0 p0 p1) := by simp only [ret_E, if_neg hc2_1, if_neg hc9_1, if_pos hc16_1]
          exact g_retInt C iE_29 rfl (by decide) (by decide) (show QE Z p0 p1 h0 n0 _ _ from by unfold QE; rw [r0]; exact ⟨rfl, rfl⟩)
        · refine g_icmp_ne C iE_21 (fun hc21_1 => ?_) (fun hc21_1 => ?_)
          · refine g_iconst C (2 : Int32) iE_24 rfl ?_
            refine g_goto C iE_25 ?_
            have e0 : (vE_0 p0 p1) = (2 : Int32) := by simp only [vE_0, if_pos hc21_1]
            exact Go.cast J (by rw [e0])
          · refine g_iconst C (3 : Int32) iE_28 rfl ?_
            have e0 : (vE_0 p0 p1) = (3 : Int32) := by simp only [vE_0, if_neg hc21_1]
            exact Go.cast J (by rw [e0])
      · refine g_iloadN C iE_30 rfl ?_
        refine g_iconst C (4 : Int32) iE_31 rfl ?_
        refine g_icmp_ne C iE_32 (fun hc32_1 => ?_) (fun hc32_1 => ?_)
        · refine g_iloadN C iE_35 rfl ?_
          refine g_iconst C (2 : Int32) iE_36 rfl ?_
          refine g_icmp_ne C iE_37 (fun hc37_1 => ?_) (fun hc37_1 => ?_)
          · refine g_iconst C (3 : Int32) iE_40 rfl ?_
            have r0 : (ret_E p0 p1) = (3 : Int32) := by simp only [ret_E, if_neg hc2_1, if_neg hc9_1, if_neg hc16_1, if_pos hc32_1, if_pos hc37_1]
            exact g_retInt C iE_41 rfl (by decide) (by decide) (show QE Z p0 p1 h0 n0 _ _ from by unfold QE; rw [r0]; exact ⟨rfl, rfl⟩)
          · refine g_iloadN C iE_42 rfl ?_
            refine g_iconst C (3 : Int32) iE_43 rfl ?_
            refine Go.join (mkF m 52 #[.val (.int p0), .val (.int p1)] [(.int (vE_1 p0 p1))]) ?_ (fun J => ?_)
            · have r0 : (ret_E p0 p1) = (vE_1 p0 p1) := by simp only [ret_E, if_neg hc2_1, if_neg hc9_1, if_neg hc16_1, if_pos hc32_1, if_neg hc37_1]
              exact g_retInt C iE_52 rfl (by decide) (by decide) (show QE Z p0 p1 h0 n0 _ _ from by unfold QE; rw [r0]; exact ⟨rfl, rfl⟩)
            · refine g_icmp_ne C iE_44 (fun hc44_1 => ?_) (fun hc44_1 => ?_)
              · refine g_iconst C (4 : Int32) iE_47 rfl ?_
                refine g_goto C iE_48 ?_
                have e0 : (vE_1 p0 p1) = (4 : Int32) := by simp only [vE_1, if_pos hc44_1]
                exact Go.cast J (by rw [e0])
              · refine g_iconst C (5 : Int32) iE_51 rfl ?_
                have e0 : (vE_1 p0 p1) = (5 : Int32) := by simp only [vE_1, if_neg hc44_1]
                exact Go.cast J (by rw [e0])
        · refine g_iloadN C iE_53 rfl ?_
          refine g_iconst C (2 : Int32) iE_54 rfl ?_
          refine g_icmp_ne C iE_55 (fun hc55_1 => ?_) (fun hc55_1 => ?_)
          · refine g_iconst C (3 : Int32) iE_58 rfl ?_
            have r0 : (ret_E p0 p1) = (3 : Int32) := by simp only [ret_E, if_neg hc2_1, if_neg hc9_1, if_neg hc16_1, if_neg hc32_1, if_pos hc55_1]
            exact g_retInt C iE_59 rfl (by decide) (by decide) (show QE Z p0 p1 h0 n0 _ _ from by unfold QE; rw [r0]; exact ⟨rfl, rfl⟩)
          · refine g_iloadN C iE_60 rfl ?_
            refine g_iconst C (3 : Int32) iE_61 rfl ?_
            refine g_icmp_ne C iE_62 (fun hc62_1 => ?_) (fun hc62_1 => ?_)
            · refine g_iconst C (5 : Int32) iE_65 rfl ?_
              have r0 : (ret_E p0 p1) = (5 : Int32) := by simp only [ret_E, if_neg hc2_1, if_neg hc9_1, if_neg hc16_1, if_neg hc32_1, if_neg hc55_1, if_pos hc62_1]
              exact g_retInt C iE_66 rfl (by decide) (by decide) (show QE Z p0 p1 h0 n0 _ _ from by unfold QE; rw [r0]; exact ⟨rfl, rfl⟩)
            · refine g_iloadN C iE_67 rfl ?_
              refine g_iconst C (4 : Int32) iE_68 rfl ?_
              refine Go.join (mkF m 79 #[.val (.int p0), .val (.int p1)] [(.int (vE_2 p0 p1))]) ?_ (fun J => ?_)
              · have r0 : (ret_E p0 p1) = (vE_2 p0 p1) := by simp only [ret_E, if_neg hc2_1, if_neg hc9_1, if_neg hc16_1, if_neg hc32_1, if_neg hc55_1, if_neg hc62_1]
                exact g_retInt C iE_79 rfl (by decide) (by decide) (show QE Z p0 p1 h0 n0 _ _ from by unfold QE; rw [r0]; exact ⟨rfl, rfl⟩)
              · refine g_icmp_ne C iE_69 (fun hc69_1 => ?_) (fun hc69_1 => ?_)
                · refine g_bipush C (6 : Int32) iE_72 rfl ?_
                  refine g_goto C iE_74 ?_
                  have e0 : (vE_2 p0 p1) = (6 : Int32) := by simp only [vE_2, if_pos hc69_1]
                  exact Go.cast J (by rw [e0])
                · refine g_bipush C (7 : Int32) iE_77 rfl ?_
                  have e0 : (vE_2 p0 p1) = (7 : Int32) := by simp only [vE_2, if_neg hc69_1]
                  exact Go.cast J (by rw [e0])
theorem pn8 : plainFor (⟨"com/example/bandweave/bandweave/cover/SplitsAdvancePinLaw", "step", "(ZJJZ)Z"⟩ : MethodName) = true := by decide +kernel
theorem iS_0 : I1 method_3_code 0 (.iload_n 0) 1 1 := ⟨(by decide +kernel), rfl⟩
theorem iS_1 : I1 method_3_code 1 (.iload 5) 2 3 := ⟨(by decide +kernel), rfl⟩
theorem iS_3 : B1 method_3_code 3 (.if_icmp .eq 5) 5 8 6 := ⟨(by decide +kernel), rfl, by decide, by decide⟩
theorem iS_6 : I1 method_3_code 6 (.iconst 0) 1 7 := ⟨(by decide +kernel), rfl⟩
theorem iS_7 : I1 method_3_code 7 (.ireturn) 1 8 := ⟨(by decide +kernel), rfl⟩
theorem iS_8 : I1 method_3_code 8 (.iload_n 0) 1 9 := ⟨(by decide +kernel), rfl⟩
theorem iS_9 : B1 method_3_code 9 (.ifCond .eq 15) 15 24 12 := ⟨(by decide +kernel), rfl, by decide, by decide⟩
theorem iS_12 : I1 method_3_code 12 (.lload_n 3) 1 13 := ⟨(by decide +kernel), rfl⟩
theorem iS_13 : I1 method_3_code 13 (.lload_n 1) 1 14 := ⟨(by decide +kernel), rfl⟩
theorem iS_14 : I1 method_3_code 14 (.lcmp) 1 15 := ⟨(by decide +kernel), rfl⟩
theorem iS_15 : B1 method_3_code 15 (.ifCond .ge 7) 7 22 18 := ⟨(by decide +kernel), rfl, by decide, by decide⟩
theorem iS_18 : I1 method_3_code 18 (.iconst 1) 1 19 := ⟨(by decide +kernel), rfl⟩
theorem iS_19 : B1 method_3_code 19 (.goto 4) 4 23 22 := ⟨(by decide +kernel), rfl, by decide, by decide⟩
theorem iS_22 : I1 method_3_code 22 (.iconst 0) 1 23 := ⟨(by decide +kernel), rfl⟩
theorem iS_23 : I1 method_3_code 23 (.ireturn) 1 24 := ⟨(by decide +kernel), rfl⟩
theorem iS_24 : I1 method_3_code 24 (.lload_n 3) 1 25 := ⟨(by decide +kernel), rfl⟩
theorem iS_25 : I1 method_3_code 25 (.lload_n 1) 1 26 := ⟨(by decide +kernel), rfl⟩
theorem iS_26 : I1 method_3_code 26 (.lcmp) 1 27 := ⟨(by decide +kernel), rfl⟩
theorem iS_27 : B1 method_3_code 27 (.ifCond .ne 7) 7 34 30 := ⟨(by decide +kernel), rfl, by decide, by decide⟩
theorem iS_30 : I1 method_3_code 30 (.iconst 1) 1 31 := ⟨(by decide +kernel), rfl⟩
theorem iS_31 : B1 method_3_code 31 (.goto 4) 4 35 34 := ⟨(by decide +kernel), rfl, by decide, by decide⟩
theorem iS_34 : I1 method_3_code 34 (.iconst 0) 1 35 := ⟨(by decide +kernel), rfl⟩
theorem iS_35 : I1 method_3_code 35 (.ireturn) 1 36 := ⟨(by decide +kernel), rfl⟩
def vS_0 (p0 : Int32) (q1 : Int64) (q2 : Int64) (p3 : Int32) : Int32 := (if q2 = q1 then (1 : Int32) else (0 : Int32))
def vS_1 (p0 : Int32) (q1 : Int64) (q2 : Int64) (p3 : Int32) : Int32 := (if q2 < q1 then (1 : Int32) else (0 : Int32))
def ret_S (p0 : Int32) (q1 : Int64) (q2 : Int64) (p3 : Int32) : Int32 := (if p0 = p3 then (if p0 = (0 : Int32) then (nar .boolean (vS_0 p0 q1 q2 p3)) else (nar .boolean (vS_1 p0 q1 q2 p3))) else (0 : Int32))
theorem efS (m : MethodId) (p0 : Int32) (q1 : Int64) (q2 : Int64) (p3 : Int32) : entryFrame m #[(.int p0), (.long q1), (.long q2), (.int p3)] 6 = mkF m 0 #[.val (.int p0), .val (.long q1), .second, .val (.long q2), .second, .val (.int p3)] [] := by first | (simp [entryFrame, mkF, argsToLocals, Value.category]; done) | rfl
def QS (Z : State) (p0 : Int32) (q1 : Int64) (q2 : Int64) (p3 : Int32) (h0 : Heap) (n0 : Nat) (v : Option Value) (h : Heap) : Prop := v = some (.int (ret_S p0 q1 q2 p3)) ∧ h = h0
set_option maxRecDepth 65536 in
set_option maxHeartbeats 40000000 in
theorem rmS (l : Launch) (Z : State) (aZ : Array Value) (hw : ∀ d ∈ tables_1, d.before aZ Z = true) (p0 : Int32) (q1 : Int64) (q2 : Int64) (p3 : Int32) (h0 : Heap) (n0 : Nat) (Z0 : n0 ≤ h0.size) :
    Ctr l Z (⟨"com/example/bandweave/bandweave/cover/SplitsAdvancePinLaw", "step", "(ZJJZ)Z"⟩ : MethodName) method_3_code 6 (some .boolean) ({ frames := 0, cells := 0, slots := 0, locals := 0 } : Room) #[(.int p0), (.long q1), (.long q2), (.int p3)] h0 n0 (QS Z p0 q1 q2 p3 h0 n0) := by
  refine Ctr.of_go pn8 (fun m => efS m p0 q1 q2 p3) ?_
  intro p e s m below meth c hnm C
  refine g_iloadN C iS_0 rfl ?_
  refine g_iload C iS_1 rfl ?_
  refine g_icmp_eq C iS_3 (fun hc3_1 => ?_) (fun hc3_1 => ?_)
  · refine g_iloadN C iS_8 rfl ?_
    refine g_if_eq C iS_9 (fun hc9_1 => ?_) (fun hc9_1 => ?_)
    · refine g_lloadN C iS_24 rfl ?_
      refine g_lloadN C iS_25 rfl ?_
      refine g_lcmp C iS_26 ?_
      refine Go.join (mkF m 35 #[.val (.int p0), .val (.long q1), .second, .val (.long q2), .second, .val (.int p3)] [(.int (vS_0 p0 q1 q2 p3))]) ?_ (fun J => ?_)
      · have r0 : (ret_S p0 q1 q2 p3) = (nar .boolean (vS_0 p0 q1 q2 p3)) := by simp only [ret_S, if_pos hc3_1, if_pos hc9_1]
        exact g_retNar C (t := .boolean) iS_35 rfl (by simp) (by decide) (by decide) (show QS Z p0 q1 q2 p3 h0 n0 _ _ from by unfold QS; rw [r0]; exact ⟨rfl, rfl⟩)
      · refine g_ifl_ne C iS_27 (fun hc27_1 => ?_) (fun hc27_1 => ?_)
        · refine g_iconst C (1 : Int32) iS_30 rfl ?_
          refine g_goto C iS_31 ?_
          have e0 : (vS_0 p0 q1 q2 p3) = (1 : Int32) := by simp only [vS_0, if_pos hc27_1]
          exact Go.cast J (by rw [e0])
        · refine g_iconst C (0 : Int32) iS_34 rfl ?_
          have e0 : (vS_0 p0 q1 q2 p3) = (0 : Int32) := by simp only [vS_0, if_neg hc27_1]
          exact Go.cast J (by rw [e0])
    · refine g_lloadN C iS_12 rfl ?_
      refine g_lloadN C iS_13 rfl ?_
      refine g_lcmp C iS_14 ?_
      refine Go.join (mkF m 23 #[.val (.int p0), .val (.long q1), .second, .val (.long q2), .second, .val (.int p3)] [(.int (vS_1 p0 q1 q2 p3))]) ?_ (fun J => ?_)
      · have r0 : (ret_S p0 q1 q2 p3) = (nar .boolean (vS_1 p0 q1 q2 p3)) := by simp only [ret_S, if_pos hc3_1, if_neg hc9_1]
        exact g_retNar C (t := .boolean) iS_23 rfl (by simp) (by decide) (by decide) (show QS Z p0 q1 q2 p3 h0 n0 _ _ from by unfold QS; rw [r0]; exact ⟨rfl, rfl⟩)
      · refine g_ifl_ge C iS_15 (fun hc15_1 => ?_) (fun hc15_1 => ?_)
        · refine g_iconst C (1 : Int32) iS_18 rfl ?_
          refine g_goto C iS_19 ?_
          have e0 : (vS_1 p0 q1 q2 p3) = (1 : Int32) := by simp only [vS_1, if_pos hc15_1]
          exact Go.cast J (by rw [e0])
        · refine g_iconst C (0 : Int32) iS_22 rfl ?_
          have e0 : (vS_1 p0 q1 q2 p3) = (0 : Int32) := by simp only [vS_1, if_neg hc15_1]
          exact Go.cast J (by rw [e0])
  · refine g_iconst C (0 : Int32) iS_6 rfl ?_
    have r0 : (ret_S p0 q1 q2 p3) = (0 : Int32) := by simp only [ret_S, if_neg hc3_1]
    exact g_retNar C (t := .boolean) iS_7 rfl (by simp) (by decide) (by decide) (show QS Z p0 q1 q2 p3 h0 n0 _ _ from by unfold QS; rw [r0]; exact ⟨rfl, rfl⟩)
theorem own_asNat {p : Int32} (h : 0 ≤ p.toInt) : ∃ n : Nat, p = n.toInt32 ∧ p.toNatClampNeg = n ∧ p.toInt = n := by
  refine ⟨p.toNatClampNeg, (back32 (by rw [Int32.lt_iff_toInt_lt]; have e0 : (0 : Int32).toInt = 0 := rfl; omega)).1.symm, rfl, ?_⟩
  simp only [Int32.toNatClampNeg]; omega
theorem own_len {w len : Int32} (h : 1 ≤ w.toInt ∧ w.toInt ≤ 5 ∧ 1 ≤ len.toInt ∧ len.toInt ≤ w.toInt) : (len.toNatClampNeg.toInt32) = len := (back32 (by rw [Int32.lt_iff_toInt_lt]; have e0 : (0 : Int32).toInt = 0 := rfl; omega)).1
theorem own_len5 {w len : Int32} (h : 1 ≤ w.toInt ∧ w.toInt ≤ 5 ∧ 1 ≤ len.toInt ∧ len.toInt ≤ w.toInt) : len.toNatClampNeg ≤ 5 := by simp only [Int32.toNatClampNeg]; omega
theorem pd3 : parseMethodDescriptor "([I)J" = some ⟨[(.array .int)], some .long⟩ := by decide +kernel
theorem pd4 : parseMethodDescriptor "([II)Z" = some ⟨[(.array .int), .int], some .boolean⟩ := by decide +kernel
theorem pd5 : parseMethodDescriptor "()Z" = some ⟨[], some .boolean⟩ := by decide +kernel
theorem pd6 : parseMethodDescriptor "(ZJJZ)Z" = some ⟨[.boolean, .long, .long, .boolean], some .boolean⟩ := by decide +kernel
theorem iZ_61 : I1 code 61 (.aload 6) 2 63 := ⟨at_61, rfl⟩
theorem iZ_63 : I1 code 63 (.arraylength) 1 64 := ⟨at_63, rfl⟩
theorem iZ_64 : I1 code 64 (.iload 7) 2 66 := ⟨at_64, rfl⟩
theorem iZ_66 : B1 code 66 (.if_icmp .eq 5) 5 71 69 := ⟨at_66, rfl, by decide, by decide⟩
theorem iZ_71 : I1 code 71 (.aload 6) 2 73 := ⟨at_71, rfl⟩
theorem iZ_73 : I1 code 73 (.invokestatic 26) 3 76 := ⟨at_73, rfl⟩
theorem iZ_76 : I1 code 76 (.lstore 8) 2 78 := ⟨at_76, rfl⟩
theorem iZ_78 : I1 code 78 (.aload 6) 2 80 := ⟨at_78, rfl⟩
theorem iZ_80 : I1 code 80 (.iload_n 3) 1 81 := ⟨at_80, rfl⟩
theorem iZ_81 : I1 code 81 (.invokestatic 32) 3 84 := ⟨at_81, rfl⟩
theorem iZ_84 : I1 code 84 (.istore 10) 2 86 := ⟨at_84, rfl⟩
theorem iZ_86 : I1 code 86 (.aload 5) 2 88 := ⟨at_86, rfl⟩
theorem iZ_88 : I1 code 88 (.invokevirtual 36) 3 91 := ⟨at_88, rfl⟩
theorem iZ_91 : I1 code 91 (.istore 11) 2 93 := ⟨at_91, rfl⟩
theorem iZ_93 : I1 code 93 (.aload 6) 2 95 := ⟨at_93, rfl⟩
theorem iZ_95 : I1 code 95 (.invokestatic 26) 3 98 := ⟨at_95, rfl⟩
theorem iZ_98 : I1 code 98 (.lstore 12) 2 100 := ⟨at_98, rfl⟩
theorem iZ_100 : I1 code 100 (.aload 6) 2 102 := ⟨at_100, rfl⟩
theorem iZ_102 : I1 code 102 (.iload_n 3) 1 103 := ⟨at_102, rfl⟩
theorem iZ_103 : I1 code 103 (.invokestatic 32) 3 106 := ⟨at_103, rfl⟩
theorem iZ_106 : I1 code 106 (.istore 14) 2 108 := ⟨at_106, rfl⟩
theorem iZ_108 : I1 code 108 (.aload 5) 2 110 := ⟨at_108, rfl⟩
theorem iZ_110 : I1 code 110 (.invokevirtual 36) 3 113 := ⟨at_110, rfl⟩
theorem iZ_113 : I1 code 113 (.istore 15) 2 115 := ⟨at_113, rfl⟩
theorem iZ_115 : I1 code 115 (.aload 6) 2 117 := ⟨at_115, rfl⟩
theorem iZ_117 : I1 code 117 (.invokestatic 26) 3 120 := ⟨at_117, rfl⟩
theorem iZ_120 : I1 code 120 (.lstore 16) 2 122 := ⟨at_120, rfl⟩
theorem iZ_122 : I1 code 122 (.aload 6) 2 124 := ⟨at_122, rfl⟩
theorem iZ_124 : I1 code 124 (.iload_n 3) 1 125 := ⟨at_124, rfl⟩
theorem iZ_125 : I1 code 125 (.invokestatic 32) 3 128 := ⟨at_125, rfl⟩
theorem iZ_128 : I1 code 128 (.istore 18) 2 130 := ⟨at_128, rfl⟩
theorem iZ_130 : I1 code 130 (.aload 5) 2 132 := ⟨at_130, rfl⟩
theorem iZ_132 : I1 code 132 (.invokevirtual 36) 3 135 := ⟨at_132, rfl⟩
theorem iZ_135 : I1 code 135 (.istore 19) 2 137 := ⟨at_135, rfl⟩
theorem iZ_137 : I1 code 137 (.aload 6) 2 139 := ⟨at_137, rfl⟩
theorem iZ_139 : I1 code 139 (.invokestatic 26) 3 142 := ⟨at_139, rfl⟩
theorem iZ_142 : I1 code 142 (.lstore 20) 2 144 := ⟨at_142, rfl⟩
theorem iZ_144 : I1 code 144 (.aload 6) 2 146 := ⟨at_144, rfl⟩
theorem iZ_146 : I1 code 146 (.iload_n 3) 1 147 := ⟨at_146, rfl⟩
theorem iZ_147 : I1 code 147 (.invokestatic 32) 3 150 := ⟨at_147, rfl⟩
theorem iZ_150 : I1 code 150 (.istore 22) 2 152 := ⟨at_150, rfl⟩
theorem iZ_152 : I1 code 152 (.aload 5) 2 154 := ⟨at_152, rfl⟩
theorem iZ_154 : I1 code 154 (.invokevirtual 36) 3 157 := ⟨at_154, rfl⟩
theorem iZ_157 : I1 code 157 (.istore 23) 2 159 := ⟨at_157, rfl⟩
theorem iZ_159 : I1 code 159 (.aload 6) 2 161 := ⟨at_159, rfl⟩
theorem iZ_161 : I1 code 161 (.invokestatic 26) 3 164 := ⟨at_161, rfl⟩
theorem iZ_164 : I1 code 164 (.lstore 24) 2 166 := ⟨at_164, rfl⟩
theorem iZ_166 : I1 code 166 (.aload 6) 2 168 := ⟨at_166, rfl⟩
theorem iZ_168 : I1 code 168 (.iload_n 3) 1 169 := ⟨at_168, rfl⟩
theorem iZ_169 : I1 code 169 (.invokestatic 32) 3 172 := ⟨at_169, rfl⟩
theorem iZ_172 : I1 code 172 (.istore 26) 2 174 := ⟨at_172, rfl⟩
theorem iZ_174 : I1 code 174 (.aload 5) 2 176 := ⟨at_174, rfl⟩
theorem iZ_176 : I1 code 176 (.invokevirtual 36) 3 179 := ⟨at_176, rfl⟩
theorem iZ_179 : I1 code 179 (.istore 27) 2 181 := ⟨at_179, rfl⟩
theorem iZ_181 : I1 code 181 (.aload 6) 2 183 := ⟨at_181, rfl⟩
theorem iZ_183 : I1 code 183 (.invokestatic 26) 3 186 := ⟨at_183, rfl⟩
theorem iZ_186 : I1 code 186 (.lstore 28) 2 188 := ⟨at_186, rfl⟩
theorem iZ_188 : I1 code 188 (.aload 6) 2 190 := ⟨at_188, rfl⟩
theorem iZ_190 : I1 code 190 (.iload_n 3) 1 191 := ⟨at_190, rfl⟩
theorem iZ_191 : I1 code 191 (.invokestatic 32) 3 194 := ⟨at_191, rfl⟩
theorem iZ_194 : I1 code 194 (.istore 30) 2 196 := ⟨at_194, rfl⟩
theorem iZ_196 : I1 code 196 (.aload 5) 2 198 := ⟨at_196, rfl⟩
theorem iZ_198 : I1 code 198 (.invokevirtual 36) 3 201 := ⟨at_198, rfl⟩
theorem iZ_201 : I1 code 201 (.istore 31) 2 203 := ⟨at_201, rfl⟩
theorem iZ_203 : I1 code 203 (.aload 6) 2 205 := ⟨at_203, rfl⟩
theorem iZ_205 : I1 code 205 (.invokestatic 26) 3 208 := ⟨at_205, rfl⟩
theorem iZ_208 : I1 code 208 (.lstore 32) 2 210 := ⟨at_208, rfl⟩
theorem iZ_210 : I1 code 210 (.aload 6) 2 212 := ⟨at_210, rfl⟩
theorem iZ_212 : I1 code 212 (.iload_n 3) 1 213 := ⟨at_212, rfl⟩
theorem iZ_213 : I1 code 213 (.invokestatic 32) 3 216 := ⟨at_213, rfl⟩
theorem iZ_216 : I1 code 216 (.istore 34) 2 218 := ⟨at_216, rfl⟩
theorem iZ_218 : I1 code 218 (.aload 5) 2 220 := ⟨at_218, rfl⟩
theorem iZ_220 : I1 code 220 (.invokevirtual 36) 3 223 := ⟨at_220, rfl⟩
theorem iZ_223 : I1 code 223 (.istore 35) 2 225 := ⟨at_223, rfl⟩
theorem iZ_225 : I1 code 225 (.aload 6) 2 227 := ⟨at_225, rfl⟩
theorem iZ_227 : I1 code 227 (.invokestatic 26) 3 230 := ⟨at_227, rfl⟩
theorem iZ_230 : I1 code 230 (.lstore 36) 2 232 := ⟨at_230, rfl⟩
theorem iZ_232 : I1 code 232 (.aload 6) 2 234 := ⟨at_232, rfl⟩
theorem iZ_234 : I1 code 234 (.iload_n 3) 1 235 := ⟨at_234, rfl⟩
theorem iZ_235 : I1 code 235 (.invokestatic 32) 3 238 := ⟨at_235, rfl⟩
theorem iZ_238 : I1 code 238 (.istore 38) 2 240 := ⟨at_238, rfl⟩
theorem iZ_240 : I1 code 240 (.iload_n 3) 1 241 := ⟨at_240, rfl⟩
theorem iZ_241 : I1 code 241 (.iload 7) 2 243 := ⟨at_241, rfl⟩
theorem iZ_243 : I1 code 243 (.invokestatic 40) 3 246 := ⟨at_243, rfl⟩
theorem iZ_246 : I1 code 246 (.istore 39) 2 248 := ⟨at_246, rfl⟩
theorem iZ_248 : I1 code 248 (.iload 10) 2 250 := ⟨at_248, rfl⟩
theorem iZ_250 : B1 code 250 (.ifCond .eq 42) 42 292 253 := ⟨at_250, rfl, by decide, by decide⟩
theorem iZ_253 : I1 code 253 (.iload 14) 2 255 := ⟨at_253, rfl⟩
theorem iZ_255 : B1 code 255 (.ifCond .eq 37) 37 292 258 := ⟨at_255, rfl, by decide, by decide⟩
theorem iZ_258 : I1 code 258 (.iload 18) 2 260 := ⟨at_258, rfl⟩
theorem iZ_260 : B1 code 260 (.ifCond .eq 32) 32 292 263 := ⟨at_260, rfl, by decide, by decide⟩
theorem iZ_263 : I1 code 263 (.iload 22) 2 265 := ⟨at_263, rfl⟩
theorem iZ_265 : B1 code 265 (.ifCond .eq 27) 27 292 268 := ⟨at_265, rfl, by decide, by decide⟩
theorem iZ_268 : I1 code 268 (.iload 26) 2 270 := ⟨at_268, rfl⟩
theorem iZ_270 : B1 code 270 (.ifCond .eq 22) 22 292 273 := ⟨at_270, rfl, by decide, by decide⟩
theorem iZ_273 : I1 code 273 (.iload 30) 2 275 := ⟨at_273, rfl⟩
theorem iZ_275 : B1 code 275 (.ifCond .eq 17) 17 292 278 := ⟨at_275, rfl, by decide, by decide⟩
theorem iZ_278 : I1 code 278 (.iload 34) 2 280 := ⟨at_278, rfl⟩
theorem iZ_280 : B1 code 280 (.ifCond .eq 12) 12 292 283 := ⟨at_280, rfl, by decide, by decide⟩
theorem iZ_283 : I1 code 283 (.iload 38) 2 285 := ⟨at_283, rfl⟩
theorem iZ_285 : B1 code 285 (.ifCond .eq 7) 7 292 288 := ⟨at_285, rfl, by decide, by decide⟩
theorem iZ_288 : I1 code 288 (.iconst 1) 1 289 := ⟨at_288, rfl⟩
theorem iZ_289 : B1 code 289 (.goto 4) 4 293 292 := ⟨at_289, rfl, by decide, by decide⟩
theorem iZ_292 : I1 code 292 (.iconst 0) 1 293 := ⟨at_292, rfl⟩
theorem iZ_293 : I1 code 293 (.istore 40) 2 295 := ⟨at_293, rfl⟩
theorem iZ_295 : I1 code 295 (.iload 40) 2 297 := ⟨at_295, rfl⟩
theorem iZ_297 : B1 code 297 (.ifCond .eq 183) 183 480 300 := ⟨at_297, rfl, by decide, by decide⟩
theorem iZ_300 : I1 code 300 (.iload 11) 2 302 := ⟨at_300, rfl⟩
theorem iZ_302 : I1 code 302 (.lload 8) 2 304 := ⟨at_302, rfl⟩
theorem iZ_304 : I1 code 304 (.lload 12) 2 306 := ⟨at_304, rfl⟩
theorem iZ_306 : I1 code 306 (.iconst 0) 1 307 := ⟨at_306, rfl⟩
theorem iZ_307 : I1 code 307 (.iload 39) 2 309 := ⟨at_307, rfl⟩
theorem iZ_309 : I1 code 309 (.iconst 1) 1 310 := ⟨at_309, rfl⟩
theorem iZ_310 : I1 code 310 (.isub) 1 311 := ⟨at_310, rfl⟩
theorem iZ_311 : B1 code 311 (.if_icmp .ge 7) 7 318 314 := ⟨at_311, rfl, by decide, by decide⟩
theorem iZ_314 : I1 code 314 (.iconst 1) 1 315 := ⟨at_314, rfl⟩
theorem iZ_315 : B1 code 315 (.goto 4) 4 319 318 := ⟨at_315, rfl, by decide, by decide⟩
theorem iZ_318 : I1 code 318 (.iconst 0) 1 319 := ⟨at_318, rfl⟩
theorem iZ_319 : I1 code 319 (.invokestatic 43) 3 322 := ⟨at_319, rfl⟩
theorem iZ_322 : B1 code 322 (.ifCond .eq 158) 158 480 325 := ⟨at_322, rfl, by decide, by decide⟩
theorem iZ_325 : I1 code 325 (.iload 15) 2 327 := ⟨at_325, rfl⟩
theorem iZ_327 : I1 code 327 (.lload 12) 2 329 := ⟨at_327, rfl⟩
theorem iZ_329 : I1 code 329 (.lload 16) 2 331 := ⟨at_329, rfl⟩
theorem iZ_331 : I1 code 331 (.iconst 1) 1 332 := ⟨at_331, rfl⟩
theorem iZ_332 : I1 code 332 (.iload 39) 2 334 := ⟨at_332, rfl⟩
theorem iZ_334 : I1 code 334 (.iconst 1) 1 335 := ⟨at_334, rfl⟩
theorem iZ_335 : I1 code 335 (.isub) 1 336 := ⟨at_335, rfl⟩
theorem iZ_336 : B1 code 336 (.if_icmp .ge 7) 7 343 339 := ⟨at_336, rfl, by decide, by decide⟩
theorem iZ_339 : I1 code 339 (.iconst 1) 1 340 := ⟨at_339, rfl⟩
theorem iZ_340 : B1 code 340 (.goto 4) 4 344 343 := ⟨at_340, rfl, by decide, by decide⟩
theorem iZ_343 : I1 code 343 (.iconst 0) 1 344 := ⟨at_343, rfl⟩
theorem iZ_344 : I1 code 344 (.invokestatic 43) 3 347 := ⟨at_344, rfl⟩
theorem iZ_347 : B1 code 347 (.ifCond .eq 133) 133 480 350 := ⟨at_347, rfl, by decide, by decide⟩
theorem iZ_350 : I1 code 350 (.iload 19) 2 352 := ⟨at_350, rfl⟩
theorem iZ_352 : I1 code 352 (.lload 16) 2 354 := ⟨at_352, rfl⟩
theorem iZ_354 : I1 code 354 (.lload 20) 2 356 := ⟨at_354, rfl⟩
theorem iZ_356 : I1 code 356 (.iconst 2) 1 357 := ⟨at_356, rfl⟩
theorem iZ_357 : I1 code 357 (.iload 39) 2 359 := ⟨at_357, rfl⟩
theorem iZ_359 : I1 code 359 (.iconst 1) 1 360 := ⟨at_359, rfl⟩
theorem iZ_360 : I1 code 360 (.isub) 1 361 := ⟨at_360, rfl⟩
theorem iZ_361 : B1 code 361 (.if_icmp .ge 7) 7 368 364 := ⟨at_361, rfl, by decide, by decide⟩
theorem iZ_364 : I1 code 364 (.iconst 1) 1 365 := ⟨at_364, rfl⟩
theorem iZ_365 : B1 code 365 (.goto 4) 4 369 368 := ⟨at_365, rfl, by decide, by decide⟩
theorem iZ_368 : I1 code 368 (.iconst 0) 1 369 := ⟨at_368, rfl⟩
theorem iZ_369 : I1 code 369 (.invokestatic 43) 3 372 := ⟨at_369, rfl⟩
theorem iZ_372 : B1 code 372 (.ifCond .eq 108) 108 480 375 := ⟨at_372, rfl, by decide, by decide⟩
theorem iZ_375 : I1 code 375 (.iload 23) 2 377 := ⟨at_375, rfl⟩
theorem iZ_377 : I1 code 377 (.lload 20) 2 379 := ⟨at_377, rfl⟩
theorem iZ_379 : I1 code 379 (.lload 24) 2 381 := ⟨at_379, rfl⟩
theorem iZ_381 : I1 code 381 (.iconst 3) 1 382 := ⟨at_381, rfl⟩
theorem iZ_382 : I1 code 382 (.iload 39) 2 384 := ⟨at_382, rfl⟩
theorem iZ_384 : I1 code 384 (.iconst 1) 1 385 := ⟨at_384, rfl⟩
theorem iZ_385 : I1 code 385 (.isub) 1 386 := ⟨at_385, rfl⟩
theorem iZ_386 : B1 code 386 (.if_icmp .ge 7) 7 393 389 := ⟨at_386, rfl, by decide, by decide⟩
theorem iZ_389 : I1 code 389 (.iconst 1) 1 390 := ⟨at_389, rfl⟩
theorem iZ_390 : B1 code 390 (.goto 4) 4 394 393 := ⟨at_390, rfl, by decide, by decide⟩
theorem iZ_393 : I1 code 393 (.iconst 0) 1 394 := ⟨at_393, rfl⟩
theorem iZ_394 : I1 code 394 (.invokestatic 43) 3 397 := ⟨at_394, rfl⟩
theorem iZ_397 : B1 code 397 (.ifCond .eq 83) 83 480 400 := ⟨at_397, rfl, by decide, by decide⟩
theorem iZ_400 : I1 code 400 (.iload 27) 2 402 := ⟨at_400, rfl⟩
theorem iZ_402 : I1 code 402 (.lload 24) 2 404 := ⟨at_402, rfl⟩
theorem iZ_404 : I1 code 404 (.lload 28) 2 406 := ⟨at_404, rfl⟩
theorem iZ_406 : I1 code 406 (.iconst 4) 1 407 := ⟨at_406, rfl⟩
theorem iZ_407 : I1 code 407 (.iload 39) 2 409 := ⟨at_407, rfl⟩
theorem iZ_409 : I1 code 409 (.iconst 1) 1 410 := ⟨at_409, rfl⟩
theorem iZ_410 : I1 code 410 (.isub) 1 411 := ⟨at_410, rfl⟩
theorem iZ_411 : B1 code 411 (.if_icmp .ge 7) 7 418 414 := ⟨at_411, rfl, by decide, by decide⟩
theorem iZ_414 : I1 code 414 (.iconst 1) 1 415 := ⟨at_414, rfl⟩
theorem iZ_415 : B1 code 415 (.goto 4) 4 419 418 := ⟨at_415, rfl, by decide, by decide⟩
theorem iZ_418 : I1 code 418 (.iconst 0) 1 419 := ⟨at_418, rfl⟩
theorem iZ_419 : I1 code 419 (.invokestatic 43) 3 422 := ⟨at_419, rfl⟩
theorem iZ_422 : B1 code 422 (.ifCond .eq 58) 58 480 425 := ⟨at_422, rfl, by decide, by decide⟩
theorem iZ_425 : I1 code 425 (.iload 31) 2 427 := ⟨at_425, rfl⟩
theorem iZ_427 : I1 code 427 (.lload 28) 2 429 := ⟨at_427, rfl⟩
theorem iZ_429 : I1 code 429 (.lload 32) 2 431 := ⟨at_429, rfl⟩
theorem iZ_431 : I1 code 431 (.iconst 5) 1 432 := ⟨at_431, rfl⟩
theorem iZ_432 : I1 code 432 (.iload 39) 2 434 := ⟨at_432, rfl⟩
theorem iZ_434 : I1 code 434 (.iconst 1) 1 435 := ⟨at_434, rfl⟩
theorem iZ_435 : I1 code 435 (.isub) 1 436 := ⟨at_435, rfl⟩
theorem iZ_436 : B1 code 436 (.if_icmp .ge 7) 7 443 439 := ⟨at_436, rfl, by decide, by decide⟩
theorem iZ_439 : I1 code 439 (.iconst 1) 1 440 := ⟨at_439, rfl⟩
theorem iZ_440 : B1 code 440 (.goto 4) 4 444 443 := ⟨at_440, rfl, by decide, by decide⟩
theorem iZ_443 : I1 code 443 (.iconst 0) 1 444 := ⟨at_443, rfl⟩
theorem iZ_444 : I1 code 444 (.invokestatic 43) 3 447 := ⟨at_444, rfl⟩
theorem iZ_447 : B1 code 447 (.ifCond .eq 33) 33 480 450 := ⟨at_447, rfl, by decide, by decide⟩
theorem iZ_450 : I1 code 450 (.iload 35) 2 452 := ⟨at_450, rfl⟩
theorem iZ_452 : I1 code 452 (.lload 32) 2 454 := ⟨at_452, rfl⟩
theorem iZ_454 : I1 code 454 (.lload 36) 2 456 := ⟨at_454, rfl⟩
theorem iZ_456 : I1 code 456 (.bipush 6) 2 458 := ⟨at_456, rfl⟩
theorem iZ_458 : I1 code 458 (.iload 39) 2 460 := ⟨at_458, rfl⟩
theorem iZ_460 : I1 code 460 (.iconst 1) 1 461 := ⟨at_460, rfl⟩
theorem iZ_461 : I1 code 461 (.isub) 1 462 := ⟨at_461, rfl⟩
theorem iZ_462 : B1 code 462 (.if_icmp .ge 7) 7 469 465 := ⟨at_462, rfl, by decide, by decide⟩
theorem iZ_465 : I1 code 465 (.iconst 1) 1 466 := ⟨at_465, rfl⟩
theorem iZ_466 : B1 code 466 (.goto 4) 4 470 469 := ⟨at_466, rfl, by decide, by decide⟩
theorem iZ_469 : I1 code 469 (.iconst 0) 1 470 := ⟨at_469, rfl⟩
theorem iZ_470 : I1 code 470 (.invokestatic 43) 3 473 := ⟨at_470, rfl⟩
theorem iZ_473 : B1 code 473 (.ifCond .eq 7) 7 480 476 := ⟨at_473, rfl, by decide, by decide⟩
theorem iZ_476 : I1 code 476 (.iconst 1) 1 477 := ⟨at_476, rfl⟩
theorem iZ_477 : B1 code 477 (.goto 4) 4 481 480 := ⟨at_477, rfl, by decide, by decide⟩
theorem iZ_480 : I1 code 480 (.iconst 0) 1 481 := ⟨at_480, rfl⟩
theorem iZ_481 : I1 code 481 (.ireturn) 1 482 := ⟨at_481, rfl⟩
def vZ_0 (w : Int32) (len : Int32) : Int64 := (ret_K len.toNatClampNeg (inF w len.toNatClampNeg len.toNatClampNeg))
def vZ_1 (w : Int32) (len : Int32) : Int32 := (ret_V w len.toNatClampNeg (inF w len.toNatClampNeg len.toNatClampNeg))
def vZ_2 (w : Int32) (len : Int32) : Int32 := (advR len.toNatClampNeg (inF w len.toNatClampNeg len.toNatClampNeg))
def vZ_3 (w : Int32) (len : Int32) : Int64 := (ret_K len.toNatClampNeg (advC len.toNatClampNeg (inF w len.toNatClampNeg len.toNatClampNeg)))
def vZ_4 (w : Int32) (len : Int32) : Int32 := (ret_V w len.toNatClampNeg (advC len.toNatClampNeg (inF w len.toNatClampNeg len.toNatClampNeg)))
def vZ_5 (w : Int32) (len : Int32) : Int32 := (advR len.toNatClampNeg (advC len.toNatClampNeg (inF w len.toNatClampNeg len.toNatClampNeg)))
def vZ_6 (w : Int32) (len : Int32) : Int64 := (ret_K len.toNatClampNeg (advC len.toNatClampNeg (advC len.toNatClampNeg (inF w len.toNatClampNeg len.toNatClampNeg))))
def vZ_7 (w : Int32) (len : Int32) : Int32 := (ret_V w len.toNatClampNeg (advC len.toNatClampNeg (advC len.toNatClampNeg (inF w len.toNatClampNeg len.toNatClampNeg))))
def vZ_8 (w : Int32) (len : Int32) : Int32 := (advR len.toNatClampNeg (advC len.toNatClampNeg (advC len.toNatClampNeg (inF w len.toNatClampNeg len.toNatClampNeg))))
def vZ_9 (w : Int32) (len : Int32) : Int64 := (ret_K len.toNatClampNeg (advC len.toNatClampNeg (advC len.toNatClampNeg (advC len.toNatClampNeg (inF w len.toNatClampNeg len.toNatClampNeg)))))
def vZ_10 (w : Int32) (len : Int32) : Int32 := (ret_V w len.toNatClampNeg (advC len.toNatClampNeg (advC len.toNatClampNeg (advC len.toNatClampNeg (inF w len.toNatClampNeg len.toNatClampNeg)))))
def vZ_11 (w : Int32) (len : Int32) : Int32 := (advR len.toNatClampNeg (advC len.toNatClampNeg (advC len.toNatClampNeg (advC len.toNatClampNeg (inF w len.toNatClampNeg len.toNatClampNeg)))))
def vZ_12 (w : Int32) (len : Int32) : Int64 := (ret_K len.toNatClampNeg (advC len.toNatClampNeg (advC len.toNatClampNeg (advC len.toNatClampNeg (advC len.toNatClampNeg (inF w len.toNatClampNeg len.toNatClampNeg))))))
def vZ_13 (w : Int32) (len : Int32) : Int32 := (ret_V w len.toNatClampNeg (advC len.toNatClampNeg (advC len.toNatClampNeg (advC len.toNatClampNeg (advC len.toNatClampNeg (inF w len.toNatClampNeg len.toNatClampNeg))))))
def vZ_14 (w : Int32) (len : Int32) : Int32 := (advR len.toNatClampNeg (advC len.toNatClampNeg (advC len.toNatClampNeg (advC len.toNatClampNeg (advC len.toNatClampNeg (inF w len.toNatClampNeg len.toNatClampNeg))))))
def vZ_15 (w : Int32) (len : Int32) : Int64 := (ret_K len.toNatClampNeg (advC len.toNatClampNeg (advC len.toNatClampNeg (advC len.toNatClampNeg (advC len.toNatClampNeg (advC len.toNatClampNeg (inF w len.toNatClampNeg len.toNatClampNeg)))))))
def vZ_16 (w : Int32) (len : Int32) : Int32 := (ret_V w len.toNatClampNeg (advC len.toNatClampNeg (advC len.toNatClampNeg (advC len.toNatClampNeg (advC len.toNatClampNeg (advC len.toNatClampNeg (inF w len.toNatClampNeg len.toNatClampNeg)))))))
def vZ_17 (w : Int32) (len : Int32) : Int32 := (advR len.toNatClampNeg (advC len.toNatClampNeg (advC len.toNatClampNeg (advC len.toNatClampNeg (advC len.toNatClampNeg (advC len.toNatClampNeg (inF w len.toNatClampNeg len.toNatClampNeg)))))))
def vZ_18 (w : Int32) (len : Int32) : Int64 := (ret_K len.toNatClampNeg (advC len.toNatClampNeg (advC len.toNatClampNeg (advC len.toNatClampNeg (advC len.toNatClampNeg (advC len.toNatClampNeg (advC len.toNatClampNeg (inF w len.toNatClampNeg len.toNatClampNeg))))))))
def vZ_19 (w : Int32) (len : Int32) : Int32 := (ret_V w len.toNatClampNeg (advC len.toNatClampNeg (advC len.toNatClampNeg (advC len.toNatClampNeg (advC len.toNatClampNeg (advC len.toNatClampNeg (advC len.toNatClampNeg (inF w len.toNatClampNeg len.toNatClampNeg))))))))
def vZ_20 (w : Int32) (len : Int32) : Int32 := (advR len.toNatClampNeg (advC len.toNatClampNeg (advC len.toNatClampNeg (advC len.toNatClampNeg (advC len.toNatClampNeg (advC len.toNatClampNeg (advC len.toNatClampNeg (inF w len.toNatClampNeg len.toNatClampNeg))))))))
def vZ_21 (w : Int32) (len : Int32) : Int64 := (ret_K len.toNatClampNeg (advC len.toNatClampNeg (advC len.toNatClampNeg (advC len.toNatClampNeg (advC len.toNatClampNeg (advC len.toNatClampNeg (advC len.toNatClampNeg (advC len.toNatClampNeg (inF w len.toNatClampNeg len.toNatClampNeg)))))))))
def vZ_22 (w : Int32) (len : Int32) : Int32 := (ret_V w len.toNatClampNeg (advC len.toNatClampNeg (advC len.toNatClampNeg (advC len.toNatClampNeg (advC len.toNatClampNeg (advC len.toNatClampNeg (advC len.toNatClampNeg (advC len.toNatClampNeg (inF w len.toNatClampNeg len.toNatClampNeg)))))))))
def vZ_23 (w : Int32) (len : Int32) : Int32 := (if (vZ_22 w len) = (0 : Int32) then (0 : Int32) else (1 : Int32))
def vZ_24 (w : Int32) (len : Int32) : Int32 := (if (vZ_19 w len) = (0 : Int32) then (0 : Int32) else (if (vZ_22 w len) = (0 : Int32) then (0 : Int32) else (1 : Int32)))
def vZ_25 (w : Int32) (len : Int32) : Int32 := (if (vZ_16 w len) = (0 : Int32) then (0 : Int32) else (if (vZ_19 w len) = (0 : Int32) then (0 : Int32) else (if (vZ_22 w len) = (0 : Int32) then (0 : Int32) else (1 : Int32))))
def vZ_26 (w : Int32) (len : Int32) : Int32 := (if (vZ_13 w len) = (0 : Int32) then (0 : Int32) else (if (vZ_16 w len) = (0 : Int32) then (0 : Int32) else (if (vZ_19 w len) = (0 : Int32) then (0 : Int32) else (if (vZ_22 w len) = (0 : Int32) then (0 : Int32) else (1 : Int32)))))
def vZ_27 (w : Int32) (len : Int32) : Int32 := (if (vZ_10 w len) = (0 : Int32) then (0 : Int32) else (if (vZ_13 w len) = (0 : Int32) then (0 : Int32) else (if (vZ_16 w len) = (0 : Int32) then (0 : Int32) else (if (vZ_19 w len) = (0 : Int32) then (0 : Int32) else (if (vZ_22 w len) = (0 : Int32) then (0 : Int32) else (1 : Int32))))))
def vZ_28 (w : Int32) (len : Int32) : Int32 := (if (vZ_7 w len) = (0 : Int32) then (0 : Int32) else (if (vZ_10 w len) = (0 : Int32) then (0 : Int32) else (if (vZ_13 w len) = (0 : Int32) then (0 : Int32) else (if (vZ_16 w len) = (0 : Int32) then (0 : Int32) else (if (vZ_19 w len) = (0 : Int32) then (0 : Int32) else (if (vZ_22 w len) = (0 : Int32) then (0 : Int32) else (1 : Int32)))))))
def vZ_29 (w : Int32) (len : Int32) : Int32 := (if (vZ_4 w len) = (0 : Int32) then (0 : Int32) else (if (vZ_7 w len) = (0 : Int32) then (0 : Int32) else (if (vZ_10 w len) = (0 : Int32) then (0 : Int32) else (if (vZ_13 w len) = (0 : Int32) then (0 : Int32) else (if (vZ_16 w len) = (0 : Int32) then (0 : Int32) else (if (vZ_19 w len) = (0 : Int32) then (0 : Int32) else (if (vZ_22 w len) = (0 : Int32) then (0 : Int32) else (1 : Int32))))))))
def vZ_30 (w : Int32) (len : Int32) : Int32 := (if (vZ_1 w len) = (0 : Int32) then (0 : Int32) else (if (vZ_4 w len) = (0 : Int32) then (0 : Int32) else (if (vZ_7 w len) = (0 : Int32) then (0 : Int32) else (if (vZ_10 w len) = (0 : Int32) then (0 : Int32) else (if (vZ_13 w len) = (0 : Int32) then (0 : Int32) else (if (vZ_16 w len) = (0 : Int32) then (0 : Int32) else (if (vZ_19 w len) = (0 : Int32) then (0 : Int32) else (if (vZ_22 w len) = (0 : Int32) then (0 : Int32) else (1 : Int32)))))))))
def vZ_31 (w : Int32) (len : Int32) : Int32 := (if (0 : Int32) < ((ret_E w len) - (1 : Int32)) then (1 : Int32) else (0 : Int32))
def vZ_32 (w : Int32) (len : Int32) : Int32 := (if (1 : Int32) < ((ret_E w len) - (1 : Int32)) then (1 : Int32) else (0 : Int32))
def vZ_33 (w : Int32) (len : Int32) : Int32 := (if (2 : Int32) < ((ret_E w len) - (1 : Int32)) then (1 : Int32) else (0 : Int32))
def vZ_34 (w : Int32) (len : Int32) : Int32 := (if (3 : Int32) < ((ret_E w len) - (1 : Int32)) then (1 : Int32) else (0 : Int32))
def vZ_35 (w : Int32) (len : Int32) : Int32 := (if (4 : Int32) < ((ret_E w len) - (1 : Int32)) then (1 : Int32) else (0 : Int32))
def vZ_36 (w : Int32) (len : Int32) : Int32 := (if (5 : Int32) < ((ret_E w len) - (1 : Int32)) then (1 : Int32) else (0 : Int32))
def vZ_37 (w : Int32) (len : Int32) : Int32 := (if (6 : Int32) < ((ret_E w len) - (1 : Int32)) then (1 : Int32) else (0 : Int32))
def vZ_38 (w : Int32) (len : Int32) : Int32 := (if (ret_S (vZ_20 w len) (vZ_18 w len) (vZ_21 w len) (vZ_37 w len)) = (0 : Int32) then (0 : Int32) else (1 : Int32))
def vZ_39 (w : Int32) (len : Int32) : Int32 := (if (ret_S (vZ_17 w len) (vZ_15 w len) (vZ_18 w len) (vZ_36 w len)) = (0 : Int32) then (0 : Int32) else (if (ret_S (vZ_20 w len) (vZ_18 w len) (vZ_21 w len) (vZ_37 w len)) = (0 : Int32) then (0 : Int32) else (1 : Int32)))
def vZ_40 (w : Int32) (len : Int32) : Int32 := (if (ret_S (vZ_14 w len) (vZ_12 w len) (vZ_15 w len) (vZ_35 w len)) = (0 : Int32) then (0 : Int32) else (if (ret_S (vZ_17 w len) (vZ_15 w len) (vZ_18 w len) (vZ_36 w len)) = (0 : Int32) then (0 : Int32) else (if (ret_S (vZ_20 w len) (vZ_18 w len) (vZ_21 w len) (vZ_37 w len)) = (0 : Int32) then (0 : Int32) else (1 : Int32))))
def vZ_41 (w : Int32) (len : Int32) : Int32 := (if (ret_S (vZ_11 w len) (vZ_9 w len) (vZ_12 w len) (vZ_34 w len)) = (0 : Int32) then (0 : Int32) else (if (ret_S (vZ_14 w len) (vZ_12 w len) (vZ_15 w len) (vZ_35 w len)) = (0 : Int32) then (0 : Int32) else (if (ret_S (vZ_17 w len) (vZ_15 w len) (vZ_18 w len) (vZ_36 w len)) = (0 : Int32) then (0 : Int32) else (if (ret_S (vZ_20 w len) (vZ_18 w len) (vZ_21 w len) (vZ_37 w len)) = (0 : Int32) then (0 : Int32) else (1 : Int32)))))
def vZ_42 (w : Int32) (len : Int32) : Int32 := (if (ret_S (vZ_8 w len) (vZ_6 w len) (vZ_9 w len) (vZ_33 w len)) = (0 : Int32) then (0 : Int32) else (if (ret_S (vZ_11 w len) (vZ_9 w len) (vZ_12 w len) (vZ_34 w len)) = (0 : Int32) then (0 : Int32) else (if (ret_S (vZ_14 w len) (vZ_12 w len) (vZ_15 w len) (vZ_35 w len)) = (0 : Int32) then (0 : Int32) else (if (ret_S (vZ_17 w len) (vZ_15 w len) (vZ_18 w len) (vZ_36 w len)) = (0 : Int32) then (0 : Int32) else (if (ret_S (vZ_20 w len) (vZ_18 w len) (vZ_21 w len) (vZ_37 w len)) = (0 : Int32) then (0 : Int32) else (1 : Int32))))))
def vZ_43 (w : Int32) (len : Int32) : Int32 := (if (ret_S (vZ_5 w len) (vZ_3 w len) (vZ_6 w len) (vZ_32 w len)) = (0 : Int32) then (0 : Int32) else (if (ret_S (vZ_8 w len) (vZ_6 w len) (vZ_9 w len) (vZ_33 w len)) = (0 : Int32) then (0 : Int32) else (if (ret_S (vZ_11 w len) (vZ_9 w len) (vZ_12 w len) (vZ_34 w len)) = (0 : Int32) then (0 : Int32) else (if (ret_S (vZ_14 w len) (vZ_12 w len) (vZ_15 w len) (vZ_35 w len)) = (0 : Int32) then (0 : Int32) else (if (ret_S (vZ_17 w len) (vZ_15 w len) (vZ_18 w len) (vZ_36 w len)) = (0 : Int32) then (0 : Int32) else (if (ret_S (vZ_20 w len) (vZ_18 w len) (vZ_21 w len) (vZ_37 w len)) = (0 : Int32) then (0 : Int32) else (1 : Int32)))))))
def vZ_44 (w : Int32) (len : Int32) : Int32 := (if (ret_S (vZ_2 w len) (vZ_0 w len) (vZ_3 w len) (vZ_31 w len)) = (0 : Int32) then (0 : Int32) else (if (ret_S (vZ_5 w len) (vZ_3 w len) (vZ_6 w len) (vZ_32 w len)) = (0 : Int32) then (0 : Int32) else (if (ret_S (vZ_8 w len) (vZ_6 w len) (vZ_9 w len) (vZ_33 w len)) = (0 : Int32) then (0 : Int32) else (if (ret_S (vZ_11 w len) (vZ_9 w len) (vZ_12 w len) (vZ_34 w len)) = (0 : Int32) then (0 : Int32) else (if (ret_S (vZ_14 w len) (vZ_12 w len) (vZ_15 w len) (vZ_35 w len)) = (0 : Int32) then (0 : Int32) else (if (ret_S (vZ_17 w len) (vZ_15 w len) (vZ_18 w len) (vZ_36 w len)) = (0 : Int32) then (0 : Int32) else (if (ret_S (vZ_20 w len) (vZ_18 w len) (vZ_21 w len) (vZ_37 w len)) = (0 : Int32) then (0 : Int32) else (1 : Int32))))))))
def vZ_45 (w : Int32) (len : Int32) : Int32 := (if (vZ_30 w len) = (0 : Int32) then (0 : Int32) else (if (ret_S (vZ_2 w len) (vZ_0 w len) (vZ_3 w len) (vZ_31 w len)) = (0 : Int32) then (0 : Int32) else (if (ret_S (vZ_5 w len) (vZ_3 w len) (vZ_6 w len) (vZ_32 w len)) = (0 : Int32) then (0 : Int32) else (if (ret_S (vZ_8 w len) (vZ_6 w len) (vZ_9 w len) (vZ_33 w len)) = (0 : Int32) then (0 : Int32) else (if (ret_S (vZ_11 w len) (vZ_9 w len) (vZ_12 w len) (vZ_34 w len)) = (0 : Int32) then (0 : Int32) else (if (ret_S (vZ_14 w len) (vZ_12 w len) (vZ_15 w len) (vZ_35 w len)) = (0 : Int32) then (0 : Int32) else (if (ret_S (vZ_17 w len) (vZ_15 w len) (vZ_18 w len) (vZ_36 w len)) = (0 : Int32) then (0 : Int32) else (if (ret_S (vZ_20 w len) (vZ_18 w len) (vZ_21 w len) (vZ_37 w len)) = (0 : Int32) then (0 : Int32) else (1 : Int32)))))))))
set_option maxRecDepth 65536 in
set_option maxHeartbeats 40000000 in
theorem leafZ_0 (w : Int32) (len : Int32) (hwl : 1 ≤ w.toInt ∧ w.toInt ≤ 5 ∧ 1 ≤ len.toInt ∧ len.toInt ≤ w.toInt) : nar .boolean (vZ_45 w len) = 1 := by
  obtain ⟨a, rfl, ea, ga⟩ := own_asNat (p := w) (by omega)
  obtain ⟨b, rfl, eb, gb⟩ := own_asNat (p := len) (by omega)
  have key : ∀ a, a < 6 → ∀ b, b < 6 → 1 ≤ b → b ≤ a → nar .boolean (vZ_45 a.toInt32 b.toInt32) = 1 := by decide +kernel
  exact key a (by omega) b (by omega) (by omega) (by omega)
set_option maxRecDepth 65536 in
set_option maxHeartbeats 40000000 in
theorem segZ (l : Launch) (Z : State) (aZ : Array Value) (hw : ∀ d ∈ tables_1, d.before aZ Z = true) (p0 p1 p2 w o len : Int32) (so b : Addr) (h0 : Heap) (n0 : Nat) (Z0 : n0 ≤ h0.size) (hwl : 1 ≤ w.toInt ∧ w.toInt ≤ 5 ∧ 1 ≤ len.toInt ∧ len.toInt ≤ w.toInt) (E : Exa Z h0 so "com/example/bandweave/bandweave/cover/Splits") (F : Fld Z h0 so "com/example/bandweave/bandweave/cover/Splits" "counts" "[I" (.ref b)) (V : AV Z h0 b .int len.toNatClampNeg (fun ix => .int (inF w len.toNatClampNeg len.toNatClampNeg ix))) (ge_b : n0 ≤ b) (ne_b : so ≠ b)
    {p : Program} {e : Env} {s : State} {m : MethodId} {below : List Frame} {meth : Method} {c : Code} (C : Cx p s m meth c Z code maxLocals "com/example/bandweave/bandweave/cover/SplitsAdvancePinLaw" ret) : Go p l e room_1 s m #[(.int p0), (.int p1), (.int p2)] below meth c n0 room_1.cells room_1.slots (fun v h => v = some (.int 1)) h0 2 6 (mkF m 61 #[.val (.int p0), .val (.int p1), .val (.int p2), .val (.int w), .val (.int o), .val (.ref so), .val (.ref b), .val (.int len), .unset, .unset, .unset, .unset, .unset, .unset, .unset, .unset, .unset, .unset, .unset, .unset, .unset, .unset, .unset, .unset, .unset, .unset, .unset, .unset, .unset, .unset, .unset, .unset, .unset, .unset, .unset, .unset, .unset, .unset, .unset, .unset, .unset] []) := by
  refine g_aload C iZ_61 rfl rfl ?_
  refine g_alen C (len.toNatClampNeg.toInt32) iZ_63 V rfl ?_
  refine g_iload C iZ_64 rfl ?_
  refine g_icmp_eq C iZ_66 (fun _ => ?_) (fun q => absurd (own_len hwl) q)
  refine g_aload C iZ_71 rfl rfl ?_
  refine g_callS C (rmK l Z aZ hw b len.toNatClampNeg (inF w len.toNatClampNeg len.toNatClampNeg) h0 n0 Z0 V) iZ_73 (hw _ (List.mem_of_getElem? (i := 26) rfl)) (hw _ (List.mem_of_getElem? (i := 27) rfl)) (hw _ (List.mem_of_getElem? (i := 28) rfl)) (hw _ (List.mem_of_getElem? (i := 29) rfl)) (by decide) (argsL := [(.ref b)]) (rest := []) rfl rfl pd3 rfl rfl 0 (Nat.le_of_eq rfl) (by decide) (by decide) (by decide) (by decide) rfl rfl ?_
  rintro _ _ ⟨rfl, he24⟩
  refine Go.heap he24.symm ?_
  refine Go.some' ?_
  refine g_lstore C (Ls' := #[.val (.int p0), .val (.int p1), .val (.int p2), .val (.int w), .val (.int o), .val (.ref so), .val (.ref b), .val (.int len), .val (.long (vZ_0 w len)), .second, .unset, .unset, .unset, .unset, .unset, .unset, .unset, .unset, .unset, .unset, .unset, .unset, .unset, .unset, .unset, .unset, .unset, .unset, .unset, .unset, .unset, .unset, .unset, .unset, .unset, .unset, .unset, .unset, .unset, .unset, .unset]) iZ_76 rfl ?_
  refine g_aload C iZ_78 rfl rfl ?_
  refine g_iloadN C iZ_80 rfl ?_
  refine g_callS C (rmV l Z aZ hw b w len.toNatClampNeg (inF w len.toNatClampNeg len.toNatClampNeg) h0 n0 Z0 V) iZ_81 (hw _ (List.mem_of_getElem? (i := 37) rfl)) (hw _ (List.mem_of_getElem? (i := 38) rfl)) (hw _ (List.mem_of_getElem? (i := 28) rfl)) (hw _ (List.mem_of_getElem? (i := 39) rfl)) (by decide) (argsL := [(.ref b), (.int w)]) (rest := []) rfl rfl pd4 rfl rfl 0 (Nat.le_of_eq rfl) (by decide) (by decide) (by decide) (by decide) rfl rfl ?_
  rintro _ _ ⟨rfl, he25⟩
  refine Go.heap he25.symm ?_
  refine Go.some' ?_
  refine g_istore C (Ls' := #[.val (.int p0), .val (.int p1), .val (.int p2), .val (.int w), .val (.int o), .val (.ref so), .val (.ref b), .val (.int len), .val (.long (vZ_0 w len)), .second, .val (.int (vZ_1 w len)), .unset, .unset, .unset, .unset, .unset, .unset, .unset, .unset, .unset, .unset, .unset, .unset, .unset, .unset, .unset, .unset, .unset, .unset, .unset, .unset, .unset, .unset, .unset, .unset, .unset, .unset, .unset, .unset, .unset, .unset]) iZ_84 rfl ?_
  refine g_aload C iZ_86 rfl rfl ?_
  refine g_callV C (rmA l Z aZ hw so b len.toNatClampNeg (inF w len.toNatClampNeg len.toNatClampNeg) h0 n0 Z0 F V (own_len5 hwl) ge_b ne_b) (a := so) iZ_88 (hw _ (List.mem_of_getElem? (i := 40) rfl)) (hw _ (List.mem_of_getElem? (i := 41) rfl)) (fun s hZ => notFace_of_selects (args := #[]) (mvT hZ (hw _ (List.mem_of_getElem? (i := 43) rfl)))) (hw _ (List.mem_of_getElem? (i := 43) rfl)) (hw _ (List.mem_of_getElem? (i := 42) rfl)) (hw _ (List.mem_of_getElem? (i := 7) rfl)) (hw _ (List.mem_of_getElem? (i := 44) rfl)) (by decide) E (argsL := []) (rest := []) rfl rfl pd5 rfl rfl 0 (Nat.le_of_eq rfl) (by decide) (by decide) (by decide) (by decide) rfl rfl ?_
  rintro _ h26 ⟨rfl, KC26, P26_0⟩
  refine Go.some' ?_
  have E_so_cC26 := Exa.keep E KC26
  have F_counts_so_cC26 := Fld.keep F KC26 (ninS ne_b nin0)
  have K26 := Keep.trans (Keep.refl h0 [b]) KC26 (allS (Or.inl (List.mem_of_getElem? (i := 0) rfl)) all0)
  have Z26 : n0 ≤ h26.size := Nat.le_trans Z0 KC26.1
  refine g_istore C (Ls' := #[.val (.int p0), .val (.int p1), .val (.int p2), .val (.int w), .val (.int o), .val (.ref so), .val (.ref b), .val (.int len), .val (.long (vZ_0 w len)), .second, .val (.int (vZ_1 w len)), .val (.int (vZ_2 w len)), .unset, .unset, .unset, .unset, .unset, .unset, .unset, .unset, .unset, .unset, .unset, .unset, .unset, .unset, .unset, .unset, .unset, .unset, .unset, .unset, .unset, .unset, .unset, .unset, .unset, .unset, .unset, .unset, .unset]) iZ_91 rfl ?_
  refine g_aload C iZ_93 rfl rfl ?_
  refine g_callS C (rmK l Z aZ hw b len.toNatClampNeg (advC len.toNatClampNeg (inF w len.toNatClampNeg len.toNatClampNeg)) h26 n0 Z26 P26_0) iZ_95 (hw _ (List.mem_of_getElem? (i := 26) rfl)) (hw _ (List.mem_of_getElem? (i := 27) rfl)) (hw _ (List.mem_of_getElem? (i := 28) rfl)) (hw _ (List.mem_of_getElem? (i := 29) rfl)) (by decide) (argsL := [(.ref b)]) (rest := []) rfl rfl pd3 rfl rfl 0 (Nat.le_of_eq rfl) (by decide) (by decide) (by decide) (by decide) rfl rfl ?_
  rintro _ _ ⟨rfl, he27⟩
  refine Go.heap he27.symm ?_
  refine Go.some' ?_
  refine g_lstore C (Ls' := #[.val (.int p0), .val (.int p1), .val (.int p2), .val (.int w), .val (.int o), .val (.ref so), .val (.ref b), .val (.int len), .val (.long (vZ_0 w len)), .second, .val (.int (vZ_1 w len)), .val (.int (vZ_2 w len)), .val (.long (vZ_3 w len)), .second, .unset, .unset, .unset, .unset, .unset, .unset, .unset, .unset, .unset, .unset, .unset, .unset, .unset, .unset, .unset, .unset, .unset, .unset, .unset, .unset, .unset, .unset, .unset, .unset, .unset, .unset, .unset]) iZ_98 rfl ?_
  refine g_aload C iZ_100 rfl rfl ?_
  refine g_iloadN C iZ_102 rfl ?_
  refine g_callS C (rmV l Z aZ hw b w len.toNatClampNeg (advC len.toNatClampNeg (inF w len.toNatClampNeg len.toNatClampNeg)) h26 n0 Z26 P26_0) iZ_103 (hw _ (List.mem_of_getElem? (i := 37) rfl)) (hw _ (List.mem_of_getElem? (i := 38) rfl)) (hw _ (List.mem_of_getElem? (i := 28) rfl)) (hw _ (List.mem_of_getElem? (i := 39) rfl)) (by decide) (argsL := [(.ref b), (.int w)]) (rest := []) rfl rfl pd4 rfl rfl 0 (Nat.le_of_eq rfl) (by decide) (by decide) (by decide) (by decide) rfl rfl ?_
  rintro _ _ ⟨rfl, he28⟩
  refine Go.heap he28.symm ?_
  refine Go.some' ?_
  refine g_istore C (Ls' := #[.val (.int p0), .val (.int p1), .val (.int p2), .val (.int w), .val (.int o), .val (.ref so), .val (.ref b), .val (.int len), .val (.long (vZ_0 w len)), .second, .val (.int (vZ_1 w len)), .val (.int (vZ_2 w len)), .val (.long (vZ_3 w len)), .second, .val (.int (vZ_4 w len)), .unset, .unset, .unset, .unset, .unset, .unset, .unset, .unset, .unset, .unset, .unset, .unset, .unset, .unset, .unset, .unset, .unset, .unset, .unset, .unset, .unset, .unset, .unset, .unset, .unset, .unset]) iZ_106 rfl ?_
  refine g_aload C iZ_108 rfl rfl ?_
  refine g_callV C (rmA l Z aZ hw so b len.toNatClampNeg (advC len.toNatClampNeg (inF w len.toNatClampNeg len.toNatClampNeg)) h26 n0 Z26 F_counts_so_cC26 P26_0 (own_len5 hwl) ge_b ne_b) (a := so) iZ_110 (hw _ (List.mem_of_getElem? (i := 40) rfl)) (hw _ (List.mem_of_getElem? (i := 41) rfl)) (fun s hZ => notFace_of_selects (args := #[]) (mvT hZ (hw _ (List.mem_of_getElem? (i := 43) rfl)))) (hw _ (List.mem_of_getElem? (i := 43) rfl)) (hw _ (List.mem_of_getElem? (i := 42) rfl)) (hw _ (List.mem_of_getElem? (i := 7) rfl)) (hw _ (List.mem_of_getElem? (i := 44) rfl)) (by decide) E_so_cC26 (argsL := []) (rest := []) rfl rfl pd5 rfl rfl 0 (Nat.le_of_eq rfl) (by decide) (by decide) (by decide) (by decide) rfl rfl ?_
  rintro _ h29 ⟨rfl, KC29, P29_0⟩
  refine Go.some' ?_
  have E_so_cC29 := Exa.keep E_so_cC26 KC29
  have F_counts_so_cC29 := Fld.keep F_counts_so_cC26 KC29 (ninS ne_b nin0)
  have K29 := Keep.trans K26 KC29 (allS (Or.inl (List.mem_of_getElem? (i := 0) rfl)) all0)
  have Z29 : n0 ≤ h29.size := Nat.le_trans Z26 KC29.1
  refine g_istore C (Ls' := #[.val (.int p0), .val (.int p1), .val (.int p2), .val (.int w), .val (.int o), .val (.ref so), .val (.ref b), .val (.int len), .val (.long (vZ_0 w len)), .second, .val (.int (vZ_1 w len)), .val (.int (vZ_2 w len)), .val (.long (vZ_3 w len)), .second, .val (.int (vZ_4 w len)), .val (.int (vZ_5 w len)), .unset, .unset, .unset, .unset, .unset, .unset, .unset, .unset, .unset, .unset, .unset, .unset, .unset, .unset, .unset, .unset, .unset, .unset, .unset, .unset, .unset, .unset, .unset, .unset, .unset]) iZ_113 rfl ?_
  refine g_aload C iZ_115 rfl rfl ?_
  refine g_callS C (rmK l Z aZ hw b len.toNatClampNeg (advC len.toNatClampNeg (advC len.toNatClampNeg (inF w len.toNatClampNeg len.toNatClampNeg))) h29 n0 Z29 P29_0) iZ_117 (hw _ (List.mem_of_getElem? (i := 26) rfl)) (hw _ (List.mem_of_getElem? (i := 27) rfl)) (hw _ (List.mem_of_getElem? (i := 28) rfl)) (hw _ (List.mem_of_getElem? (i := 29) rfl)) (by decide) (argsL := [(.ref b)]) (rest := []) rfl rfl pd3 rfl rfl 0 (Nat.le_of_eq rfl) (by decide) (by decide) (by decide) (by decide) rfl rfl ?_
  rintro _ _ ⟨rfl, he30⟩
  refine Go.heap he30.symm ?_
  refine Go.some' ?_
  refine g_lstore C (Ls' := #[.val (.int p0), .val (.int p1), .val (.int p2), .val (.int w), .val (.int o), .val (.ref so), .val (.ref b), .val (.int len), .val (.long (vZ_0 w len)), .second, .val (.int (vZ_1 w len)), .val (.int (vZ_2 w len)), .val (.long (vZ_3 w len)), .second, .val (.int (vZ_4 w len)), .val (.int (vZ_5 w len)), .val (.long (vZ_6 w len)), .second, .unset, .unset, .unset, .unset, .unset, .unset, .unset, .unset, .unset, .unset, .unset, .unset, .unset, .unset, .unset, .unset, .unset, .unset, .unset, .unset, .unset, .unset, .unset]) iZ_120 rfl ?_
  refine g_aload C iZ_122 rfl rfl ?_
  refine g_iloadN C iZ_124 rfl ?_
  refine g_callS C (rmV l Z aZ hw b w len.toNatClampNeg (advC len.toNatClampNeg (advC len.toNatClampNeg (inF w len.toNatClampNeg len.toNatClampNeg))) h29 n0 Z29 P29_0) iZ_125 (hw _ (List.mem_of_getElem? (i := 37) rfl)) (hw _ (List.mem_of_getElem? (i := 38) rfl)) (hw _ (List.mem_of_getElem? (i := 28) rfl)) (hw _ (List.mem_of_getElem? (i := 39) rfl)) (by decide) (argsL := [(.ref b), (.int w)]) (rest := []) rfl rfl pd4 rfl rfl 0 (Nat.le_of_eq rfl) (by decide) (by decide) (by decide) (by decide) rfl rfl ?_
  rintro _ _ ⟨rfl, he31⟩
  refine Go.heap he31.symm ?_
  refine Go.some' ?_
  refine g_istore C (Ls' := #[.val (.int p0), .val (.int p1), .val (.int p2), .val (.int w), .val (.int o), .val (.ref so), .val (.ref b), .val (.int len), .val (.long (vZ_0 w len)), .second, .val (.int (vZ_1 w len)), .val (.int (vZ_2 w len)), .val (.long (vZ_3 w len)), .second, .val (.int (vZ_4 w len)), .val (.int (vZ_5 w len)), .val (.long (vZ_6 w len)), .second, .val (.int (vZ_7 w len)), .unset, .unset, .unset, .unset, .unset, .unset, .unset, .unset, .unset, .unset, .unset, .unset, .unset, .unset, .unset, .unset, .unset, .unset, .unset, .unset, .unset, .unset]) iZ_128 rfl ?_
  refine g_aload C iZ_130 rfl rfl ?_
  refine g_callV C (rmA l Z aZ hw so b len.toNatClampNeg (advC len.toNatClampNeg (advC len.toNatClampNeg (inF w len.toNatClampNeg len.toNatClampNeg))) h29 n0 Z29 F_counts_so_cC29 P29_0 (own_len5 hwl) ge_b ne_b) (a := so) iZ_132 (hw _ (List.mem_of_getElem? (i := 40) rfl)) (hw _ (List.mem_of_getElem? (i := 41) rfl)) (fun s hZ => notFace_of_selects (args := #[]) (mvT hZ (hw _ (List.mem_of_getElem? (i := 43) rfl)))) (hw _ (List.mem_of_getElem? (i := 43) rfl)) (hw _ (List.mem_of_getElem? (i := 42) rfl)) (hw _ (List.mem_of_getElem? (i := 7) rfl)) (hw _ (List.mem_of_getElem? (i := 44) rfl)) (by decide) E_so_cC29 (argsL := []) (rest := []) rfl rfl pd5 rfl rfl 0 (Nat.le_of_eq rfl) (by decide) (by decide) (by decide) (by decide) rfl rfl ?_
  rintro _ h32 ⟨rfl, KC32, P32_0⟩
  refine Go.some' ?_
  have E_so_cC32 := Exa.keep E_so_cC29 KC32
  have F_counts_so_cC32 := Fld.keep F_counts_so_cC29 KC32 (ninS ne_b nin0)
  have K32 := Keep.trans K29 KC32 (allS (Or.inl (List.mem_of_getElem? (i := 0) rfl)) all0)
  have Z32 : n0 ≤ h32.size := Nat.le_trans Z29 KC32.1
  refine g_istore C (Ls' := #[.val (.int p0), .val (.int p1), .val (.int p2), .val (.int w), .val (.int o), .val (.ref so), .val (.ref b), .val (.int len), .val (.long (vZ_0 w len)), .second, .val (.int (vZ_1 w len)), .val (.int (vZ_2 w len)), .val (.long (vZ_3 w len)), .second, .val (.int (vZ_4 w len)), .val (.int (vZ_5 w len)), .val (.long (vZ_6 w len)), .second, .val (.int (vZ_7 w len)), .val (.int (vZ_8 w len)), .unset, .unset, .unset, .unset, .unset, .unset, .unset, .unset, .unset, .unset, .unset, .unset, .unset, .unset, .unset, .unset, .unset, .unset, .unset, .unset, .unset]) iZ_135 rfl ?_
  refine g_aload C iZ_137 rfl rfl ?_
  refine g_callS C (rmK l Z aZ hw b len.toNatClampNeg (advC len.toNatClampNeg (advC len.toNatClampNeg (advC len.toNatClampNeg (inF w len.toNatClampNeg len.toNatClampNeg)))) h32 n0 Z32 P32_0) iZ_139 (hw _ (List.mem_of_getElem? (i := 26) rfl)) (hw _ (List.mem_of_getElem? (i := 27) rfl)) (hw _ (List.mem_of_getElem? (i := 28) rfl)) (hw _ (List.mem_of_getElem? (i := 29) rfl)) (by decide) (argsL := [(.ref b)]) (rest := []) rfl rfl pd3 rfl rfl 0 (Nat.le_of_eq rfl) (by decide) (by decide) (by decide) (by decide) rfl rfl ?_
  rintro _ _ ⟨rfl, he33⟩
  refine Go.heap he33.symm ?_
  refine Go.some' ?_
  refine g_lstore C (Ls' := #[.val (.int p0), .val (.int p1), .val (.int p2), .val (.int w), .val (.int o), .val (.ref so), .val (.ref b), .val (.int len), .val (.long (vZ_0 w len)), .second, .val (.int (vZ_1 w len)), .val (.int (vZ_2 w len)), .val (.long (vZ_3 w len)), .second, .val (.int (vZ_4 w len)), .val (.int (vZ_5 w len)), .val (.long (vZ_6 w len)), .second, .val (.int (vZ_7 w len)), .val (.int (vZ_8 w len)), .val (.long (vZ_9 w len)), .second, .unset, .unset, .unset, .unset, .unset, .unset, .unset, .unset, .unset, .unset, .unset, .unset, .unset, .unset, .unset, .unset, .unset, .unset, .unset]) iZ_142 rfl ?_
  refine g_aload C iZ_144 rfl rfl ?_
  refine g_iloadN C iZ_146 rfl ?_
  refine g_callS C (rmV l Z aZ hw b w len.toNatClampNeg (advC len.toNatClampNeg (advC len.toNatClampNeg (advC len.toNatClampNeg (inF w len.toNatClampNeg len.toNatClampNeg)))) h32 n0 Z32 P32_0) iZ_147 (hw _ (List.mem_of_getElem? (i := 37) rfl)) (hw _ (List.mem_of_getElem? (i := 38) rfl)) (hw _ (List.mem_of_getElem? (i := 28) rfl)) (hw _ (List.mem_of_getElem? (i := 39) rfl)) (by decide) (argsL := [(.ref b), (.int w)]) (rest := []) rfl rfl pd4 rfl rfl 0 (Nat.le_of_eq rfl) (by decide) (by decide) (by decide) (by decide) rfl rfl ?_
  rintro _ _ ⟨rfl, he34⟩
  refine Go.heap he34.symm ?_
  refine Go.some' ?_
  refine g_istore C (Ls' := #[.val (.int p0), .val (.int p1), .val (.int p2), .val (.int w), .val (.int o), .val (.ref so), .val (.ref b), .val (.int len), .val (.long (vZ_0 w len)), .second, .val (.int (vZ_1 w len)), .val (.int (vZ_2 w len)), .val (.long (vZ_3 w len)), .second, .val (.int (vZ_4 w len)), .val (.int (vZ_5 w len)), .val (.long (vZ_6 w len)), .second, .val (.int (vZ_7 w len)), .val (.int (vZ_8 w len)), .val (.long (vZ_9 w len)), .second, .val (.int (vZ_10 w len)), .unset, .unset, .unset, .unset, .unset, .unset, .unset, .unset, .unset, .unset, .unset, .unset, .unset, .unset, .unset, .unset, .unset, .unset]) iZ_150 rfl ?_
  refine g_aload C iZ_152 rfl rfl ?_
  refine g_callV C (rmA l Z aZ hw so b len.toNatClampNeg (advC len.toNatClampNeg (advC len.toNatClampNeg (advC len.toNatClampNeg (inF w len.toNatClampNeg len.toNatClampNeg)))) h32 n0 Z32 F_counts_so_cC32 P32_0 (own_len5 hwl) ge_b ne_b) (a := so) iZ_154 (hw _ (List.mem_of_getElem? (i := 40) rfl)) (hw _ (List.mem_of_getElem? (i := 41) rfl)) (fun s hZ => notFace_of_selects (args := #[]) (mvT hZ (hw _ (List.mem_of_getElem? (i := 43) rfl)))) (hw _ (List.mem_of_getElem? (i := 43) rfl)) (hw _ (List.mem_of_getElem? (i := 42) rfl)) (hw _ (List.mem_of_getElem? (i := 7) rfl)) (hw _ (List.mem_of_getElem? (i := 44) rfl)) (by decide) E_so_cC32 (argsL := []) (rest := []) rfl rfl pd5 rfl rfl 0 (Nat.le_of_eq rfl) (by decide) (by decide) (by decide) (by decide) rfl rfl ?_
  rintro _ h35 ⟨rfl, KC35, P35_0⟩
  refine Go.some' ?_
  have E_so_cC35 := Exa.keep E_so_cC32 KC35
  have F_counts_so_cC35 := Fld.keep F_counts_so_cC32 KC35 (ninS ne_b nin0)
  have K35 := Keep.trans K32 KC35 (allS (Or.inl (List.mem_of_getElem? (i := 0) rfl)) all0)
  have Z35 : n0 ≤ h35.size := Nat.le_trans Z32 KC35.1
  refine g_istore C (Ls' := #[.val (.int p0), .val (.int p1), .val (.int p2), .val (.int w), .val (.int o), .val (.ref so), .val (.ref b), .val (.int len), .val (.long (vZ_0 w len)), .second, .val (.int (vZ_1 w len)), .val (.int (vZ_2 w len)), .val (.long (vZ_3 w len)), .second, .val (.int (vZ_4 w len)), .val (.int (vZ_5 w len)), .val (.long (vZ_6 w len)), .second, .val (.int (vZ_7 w len)), .val (.int (vZ_8 w len)), .val (.long (vZ_9 w len)), .second, .val (.int (vZ_10 w len)), .val (.int (vZ_11 w len)), .unset, .unset, .unset, .unset, .unset, .unset, .unset, .unset, .unset, .unset, .unset, .unset, .unset, .unset, .unset, .unset, .unset]) iZ_157 rfl ?_
  refine g_aload C iZ_159 rfl rfl ?_
  refine g_callS C (rmK l Z aZ hw b len.toNatClampNeg (advC len.toNatClampNeg (advC len.toNatClampNeg (advC len.toNatClampNeg (advC len.toNatClampNeg (inF w len.toNatClampNeg len.toNatClampNeg))))) h35 n0 Z35 P35_0) iZ_161 (hw _ (List.mem_of_getElem? (i := 26) rfl)) (hw _ (List.mem_of_getElem? (i := 27) rfl)) (hw _ (List.mem_of_getElem? (i := 28) rfl)) (hw _ (List.mem_of_getElem? (i := 29) rfl)) (by decide) (argsL := [(.ref b)]) (rest := []) rfl rfl pd3 rfl rfl 0 (Nat.le_of_eq rfl) (by decide) (by decide) (by decide) (by decide) rfl rfl ?_
  rintro _ _ ⟨rfl, he36⟩
  refine Go.heap he36.symm ?_
  refine Go.some' ?_
  refine g_lstore C (Ls' := #[.val (.int p0), .val (.int p1), .val (.int p2), .val (.int w), .val (.int o), .val (.ref so), .val (.ref b), .val (.int len), .val (.long (vZ_0 w len)), .second, .val (.int (vZ_1 w len)), .val (.int (vZ_2 w len)), .val (.long (vZ_3 w len)), .second, .val (.int (vZ_4 w len)), .val (.int (vZ_5 w len)), .val (.long (vZ_6 w len)), .second, .val (.int (vZ_7 w len)), .val (.int (vZ_8 w len)), .val (.long (vZ_9 w len)), .second, .val (.int (vZ_10 w len)), .val (.int (vZ_11 w len)), .val (.long (vZ_12 w len)), .second, .unset, .unset, .unset, .unset, .unset, .unset, .unset, .unset, .unset, .unset, .unset, .unset, .unset, .unset, .unset]) iZ_164 rfl ?_
  refine g_aload C iZ_166 rfl rfl ?_
  refine g_iloadN C iZ_168 rfl ?_
  refine g_callS C (rmV l Z aZ hw b w len.toNatClampNeg (advC len.toNatClampNeg (advC len.toNatClampNeg (advC len.toNatClampNeg (advC len.toNatClampNeg (inF w len.toNatClampNeg len.toNatClampNeg))))) h35 n0 Z35 P35_0) iZ_169 (hw _ (List.mem_of_getElem? (i := 37) rfl)) (hw _ (List.mem_of_getElem? (i := 38) rfl)) (hw _ (List.mem_of_getElem? (i := 28) rfl)) (hw _ (List.mem_of_getElem? (i := 39) rfl)) (by decide) (argsL := [(.ref b), (.int w)]) (rest := []) rfl rfl pd4 rfl rfl 0 (Nat.le_of_eq rfl) (by decide) (by decide) (by decide) (by decide) rfl rfl ?_
  rintro _ _ ⟨rfl, he37⟩
  refine Go.heap he37.symm ?_
  refine Go.some' ?_
  refine g_istore C (Ls' := #[.val (.int p0), .val (.int p1), .val (.int p2), .val (.int w), .val (.int o), .val (.ref so), .val (.ref b), .val (.int len), .val (.long (vZ_0 w len)), .second, .val (.int (vZ_1 w len)), .val (.int (vZ_2 w len)), .val (.long (vZ_3 w len)), .second, .val (.int (vZ_4 w len)), .val (.int (vZ_5 w len)), .val (.long (vZ_6 w len)), .second, .val (.int (vZ_7 w len)), .val (.int (vZ_8 w len)), .val (.long (vZ_9 w len)), .second, .val (.int (vZ_10 w len)), .val (.int (vZ_11 w len)), .val (.long (vZ_12 w len)), .second, .val (.int (vZ_13 w len)), .unset, .unset, .unset, .unset, .unset, .unset, .unset, .unset, .unset, .unset, .unset, .unset, .unset, .unset]) iZ_172 rfl ?_
  refine g_aload C iZ_174 rfl rfl ?_
  refine g_callV C (rmA l Z aZ hw so b len.toNatClampNeg (advC len.toNatClampNeg (advC len.toNatClampNeg (advC len.toNatClampNeg (advC len.toNatClampNeg (inF w len.toNatClampNeg len.toNatClampNeg))))) h35 n0 Z35 F_counts_so_cC35 P35_0 (own_len5 hwl) ge_b ne_b) (a := so) iZ_176 (hw _ (List.mem_of_getElem? (i := 40) rfl)) (hw _ (List.mem_of_getElem? (i := 41) rfl)) (fun s hZ => notFace_of_selects (args := #[]) (mvT hZ (hw _ (List.mem_of_getElem? (i := 43) rfl)))) (hw _ (List.mem_of_getElem? (i := 43) rfl)) (hw _ (List.mem_of_getElem? (i := 42) rfl)) (hw _ (List.mem_of_getElem? (i := 7) rfl)) (hw _ (List.mem_of_getElem? (i := 44) rfl)) (by decide) E_so_cC35 (argsL := []) (rest := []) rfl rfl pd5 rfl rfl 0 (Nat.le_of_eq rfl) (by decide) (by decide) (by decide) (by decide) rfl rfl ?_
  rintro _ h38 ⟨rfl, KC38, P38_0⟩
  refine Go.some' ?_
  have E_so_cC38 := Exa.keep E_so_cC35 KC38
  have F_counts_so_cC38 := Fld.keep F_counts_so_cC35 KC38 (ninS ne_b nin0)
  have K38 := Keep.trans K35 KC38 (allS (Or.inl (List.mem_of_getElem? (i := 0) rfl)) all0)
  have Z38 : n0 ≤ h38.size := Nat.le_trans Z35 KC38.1
  refine g_istore C (Ls' := #[.val (.int p0), .val (.int p1), .val (.int p2), .val (.int w), .val (.int o), .val (.ref so), .val (.ref b), .val (.int len), .val (.long (vZ_0 w len)), .second, .val (.int (vZ_1 w len)), .val (.int (vZ_2 w len)), .val (.long (vZ_3 w len)), .second, .val (.int (vZ_4 w len)), .val (.int (vZ_5 w len)), .val (.long (vZ_6 w len)), .second, .val (.int (vZ_7 w len)), .val (.int (vZ_8 w len)), .val (.long (vZ_9 w len)), .second, .val (.int (vZ_10 w len)), .val (.int (vZ_11 w len)), .val (.long (vZ_12 w len)), .second, .val (.int (vZ_13 w len)), .val (.int (vZ_14 w len)), .unset, .unset, .unset, .unset, .unset, .unset, .unset, .unset, .unset, .unset, .unset, .unset, .unset]) iZ_179 rfl ?_
  refine g_aload C iZ_181 rfl rfl ?_
  refine g_callS C (rmK l Z aZ hw b len.toNatClampNeg (advC len.toNatClampNeg (advC len.toNatClampNeg (advC len.toNatClampNeg (advC len.toNatClampNeg (advC len.toNatClampNeg (inF w len.toNatClampNeg len.toNatClampNeg)))))) h38 n0 Z38 P38_0) iZ_183 (hw _ (List.mem_of_getElem? (i := 26) rfl)) (hw _ (List.mem_of_getElem? (i := 27) rfl)) (hw _ (List.mem_of_getElem? (i := 28) rfl)) (hw _ (List.mem_of_getElem? (i := 29) rfl)) (by decide) (argsL := [(.ref b)]) (rest := []) rfl rfl pd3 rfl rfl 0 (Nat.le_of_eq rfl) (by decide) (by decide) (by decide) (by decide) rfl rfl ?_
  rintro _ _ ⟨rfl, he39⟩
  refine Go.heap he39.symm ?_
  refine Go.some' ?_
  refine g_lstore C (Ls' := #[.val (.int p0), .val (.int p1), .val (.int p2), .val (.int w), .val (.int o), .val (.ref so), .val (.ref b), .val (.int len), .val (.long (vZ_0 w len)), .second, .val (.int (vZ_1 w len)), .val (.int (vZ_2 w len)), .val (.long (vZ_3 w len)), .second, .val (.int (vZ_4 w len)), .val (.int (vZ_5 w len)), .val (.long (vZ_6 w len)), .second, .val (.int (vZ_7 w len)), .val (.int (vZ_8 w len)), .val (.long (vZ_9 w len)), .second, .val (.int (vZ_10 w len)), .val (.int (vZ_11 w len)), .val (.long (vZ_12 w len)), .second, .val (.int (vZ_13 w len)), .val (.int (vZ_14 w len)), .val (.long (vZ_15 w len)), .second, .unset, .unset, .unset, .unset, .unset, .unset, .unset, .unset, .unset, .unset, .unset]) iZ_186 rfl ?_
  refine g_aload C iZ_188 rfl rfl ?_
  refine g_iloadN C iZ_190 rfl ?_
  refine g_callS C (rmV l Z aZ hw b w len.toNatClampNeg (advC len.toNatClampNeg (advC len.toNatClampNeg (advC len.toNatClampNeg (advC len.toNatClampNeg (advC len.toNatClampNeg (inF w len.toNatClampNeg len.toNatClampNeg)))))) h38 n0 Z38 P38_0) iZ_191 (hw _ (List.mem_of_getElem? (i := 37) rfl)) (hw _ (List.mem_of_getElem? (i := 38) rfl)) (hw _ (List.mem_of_getElem? (i := 28) rfl)) (hw _ (List.mem_of_getElem? (i := 39) rfl)) (by decide) (argsL := [(.ref b), (.int w)]) (rest := []) rfl rfl pd4 rfl rfl 0 (Nat.le_of_eq rfl) (by decide) (by decide) (by decide) (by decide) rfl rfl ?_
  rintro _ _ ⟨rfl, he40⟩
  refine Go.heap he40.symm ?_
  refine Go.some' ?_
  refine g_istore C (Ls' := #[.val (.int p0), .val (.int p1), .val (.int p2), .val (.int w), .val (.int o), .val (.ref so), .val (.ref b), .val (.int len), .val (.long (vZ_0 w len)), .second, .val (.int (vZ_1 w len)), .val (.int (vZ_2 w len)), .val (.long (vZ_3 w len)), .second, .val (.int (vZ_4 w len)), .val (.int (vZ_5 w len)), .val (.long (vZ_6 w len)), .second, .val (.int (vZ_7 w len)), .val (.int (vZ_8 w len)), .val (.long (vZ_9 w len)), .second, .val (.int (vZ_10 w len)), .val (.int (vZ_11 w len)), .val (.long (vZ_12 w len)), .second, .val (.int (vZ_13 w len)), .val (.int (vZ_14 w len)), .val (.long (vZ_15 w len)), .second, .val (.int (vZ_16 w len)), .unset, .unset, .unset, .unset, .unset, .unset, .unset, .unset, .unset, .unset]) iZ_194 rfl ?_
  refine g_aload C iZ_196 rfl rfl ?_
  refine g_callV C (rmA l Z aZ hw so b len.toNatClampNeg (advC len.toNatClampNeg (advC len.toNatClampNeg (advC len.toNatClampNeg (advC len.toNatClampNeg (advC len.toNatClampNeg (inF w len.toNatClampNeg len.toNatClampNeg)))))) h38 n0 Z38 F_counts_so_cC38 P38_0 (own_len5 hwl) ge_b ne_b) (a := so) iZ_198 (hw _ (List.mem_of_getElem? (i := 40) rfl)) (hw _ (List.mem_of_getElem? (i := 41) rfl)) (fun s hZ => notFace_of_selects (args := #[]) (mvT hZ (hw _ (List.mem_of_getElem? (i := 43) rfl)))) (hw _ (List.mem_of_getElem? (i := 43) rfl)) (hw _ (List.mem_of_getElem? (i := 42) rfl)) (hw _ (List.mem_of_getElem? (i := 7) rfl)) (hw _ (List.mem_of_getElem? (i := 44) rfl)) (by decide) E_so_cC38 (argsL := []) (rest := []) rfl rfl pd5 rfl rfl 0 (Nat.le_of_eq rfl) (by decide) (by decide) (by decide) (by decide) rfl rfl ?_
  rintro _ h41 ⟨rfl, KC41, P41_0⟩
  refine Go.some' ?_
  have E_so_cC41 := Exa.keep E_so_cC38 KC41
  have F_counts_so_cC41 := Fld.keep F_counts_so_cC38 KC41 (ninS ne_b nin0)
  have K41 := Keep.trans K38 KC41 (allS (Or.inl (List.mem_of_getElem? (i := 0) rfl)) all0)
  have Z41 : n0 ≤ h41.size := Nat.le_trans Z38 KC41.1
  refine g_istore C (Ls' := #[.val (.int p0), .val (.int p1), .val (.int p2), .val (.int w), .val (.int o), .val (.ref so), .val (.ref b), .val (.int len), .val (.long (vZ_0 w len)), .second, .val (.int (vZ_1 w len)), .val (.int (vZ_2 w len)), .val (.long (vZ_3 w len)), .second, .val (.int (vZ_4 w len)), .val (.int (vZ_5 w len)), .val (.long (vZ_6 w len)), .second, .val (.int (vZ_7 w len)), .val (.int (vZ_8 w len)), .val (.long (vZ_9 w len)), .second, .val (.int (vZ_10 w len)), .val (.int (vZ_11 w len)), .val (.long (vZ_12 w len)), .second, .val (.int (vZ_13 w len)), .val (.int (vZ_14 w len)), .val (.long (vZ_15 w len)), .second, .val (.int (vZ_16 w len)), .val (.int (vZ_17 w len)), .unset, .unset, .unset, .unset, .unset, .unset, .unset, .unset, .unset]) iZ_201 rfl ?_
  refine g_aload C iZ_203 rfl rfl ?_
  refine g_callS C (rmK l Z aZ hw b len.toNatClampNeg (advC len.toNatClampNeg (advC len.toNatClampNeg (advC len.toNatClampNeg (advC len.toNatClampNeg (advC len.toNatClampNeg (advC len.toNatClampNeg (inF w len.toNatClampNeg len.toNatClampNeg))))))) h41 n0 Z41 P41_0) iZ_205 (hw _ (List.mem_of_getElem? (i := 26) rfl)) (hw _ (List.mem_of_getElem? (i := 27) rfl)) (hw _ (List.mem_of_getElem? (i := 28) rfl)) (hw _ (List.mem_of_getElem? (i := 29) rfl)) (by decide) (argsL := [(.ref b)]) (rest := []) rfl rfl pd3 rfl rfl 0 (Nat.le_of_eq rfl) (by decide) (by decide) (by decide) (by decide) rfl rfl ?_
  rintro _ _ ⟨rfl, he42⟩
  refine Go.heap he42.symm ?_
  refine Go.some' ?_
  refine g_lstore C (Ls' := #[.val (.int p0), .val (.int p1), .val (.int p2), .val (.int w), .val (.int o), .val (.ref so), .val (.ref b), .val (.int len), .val (.long (vZ_0 w len)), .second, .val (.int (vZ_1 w len)), .val (.int (vZ_2 w len)), .val (.long (vZ_3 w len)), .second, .val (.int (vZ_4 w len)), .val (.int (vZ_5 w len)), .val (.long (vZ_6 w len)), .second, .val (.int (vZ_7 w len)), .val (.int (vZ_8 w len)), .val (.long (vZ_9 w len)), .second, .val (.int (vZ_10 w len)), .val (.int (vZ_11 w len)), .val (.long (vZ_12 w len)), .second, .val (.int (vZ_13 w len)), .val (.int (vZ_14 w len)), .val (.long (vZ_15 w len)), .second, .val (.int (vZ_16 w len)), .val (.int (vZ_17 w len)), .val (.long (vZ_18 w len)), .second, .unset, .unset, .unset, .unset, .unset, .unset, .unset]) iZ_208 rfl ?_
  refine g_aload C iZ_210 rfl rfl ?_
  refine g_iloadN C iZ_212 rfl ?_
  refine g_callS C (rmV l Z aZ hw b w len.toNatClampNeg (advC len.toNatClampNeg (advC len.toNatClampNeg (advC len.toNatClampNeg (advC len.toNatClampNeg (advC len.toNatClampNeg (advC len.toNatClampNeg (inF w len.toNatClampNeg len.toNatClampNeg))))))) h41 n0 Z41 P41_0) iZ_213 (hw _ (List.mem_of_getElem? (i := 37) rfl)) (hw _ (List.mem_of_getElem? (i := 38) rfl)) (hw _ (List.mem_of_getElem? (i := 28) rfl)) (hw _ (List.mem_of_getElem? (i := 39) rfl)) (by decide) (argsL := [(.ref b), (.int w)]) (rest := []) rfl rfl pd4 rfl rfl 0 (Nat.le_of_eq rfl) (by decide) (by decide) (by decide) (by decide) rfl rfl ?_
  rintro _ _ ⟨rfl, he43⟩
  refine Go.heap he43.symm ?_
  refine Go.some' ?_
  refine g_istore C (Ls' := #[.val (.int p0), .val (.int p1), .val (.int p2), .val (.int w), .val (.int o), .val (.ref so), .val (.ref b), .val (.int len), .val (.long (vZ_0 w len)), .second, .val (.int (vZ_1 w len)), .val (.int (vZ_2 w len)), .val (.long (vZ_3 w len)), .second, .val (.int (vZ_4 w len)), .val (.int (vZ_5 w len)), .val (.long (vZ_6 w len)), .second, .val (.int (vZ_7 w len)), .val (.int (vZ_8 w len)), .val (.long (vZ_9 w len)), .second, .val (.int (vZ_10 w len)), .val (.int (vZ_11 w len)), .val (.long (vZ_12 w len)), .second, .val (.int (vZ_13 w len)), .val (.int (vZ_14 w len)), .val (.long (vZ_15 w len)), .second, .val (.int (vZ_16 w len)), .val (.int (vZ_17 w len)), .val (.long (vZ_18 w len)), .second, .val (.int (vZ_19 w len)), .unset, .unset, .unset, .unset, .unset, .unset]) iZ_216 rfl ?_
  refine g_aload C iZ_218 rfl rfl ?_
  refine g_callV C (rmA l Z aZ hw so b len.toNatClampNeg (advC len.toNatClampNeg (advC len.toNatClampNeg (advC len.toNatClampNeg (advC len.toNatClampNeg (advC len.toNatClampNeg (advC len.toNatClampNeg (inF w len.toNatClampNeg len.toNatClampNeg))))))) h41 n0 Z41 F_counts_so_cC41 P41_0 (own_len5 hwl) ge_b ne_b) (a := so) iZ_220 (hw _ (List.mem_of_getElem? (i := 40) rfl)) (hw _ (List.mem_of_getElem? (i := 41) rfl)) (fun s hZ => notFace_of_selects (args := #[]) (mvT hZ (hw _ (List.mem_of_getElem? (i := 43) rfl)))) (hw _ (List.mem_of_getElem? (i := 43) rfl)) (hw _ (List.mem_of_getElem? (i := 42) rfl)) (hw _ (List.mem_of_getElem? (i := 7) rfl)) (hw _ (List.mem_of_getElem? (i := 44) rfl)) (by decide) E_so_cC41 (argsL := []) (rest := []) rfl rfl pd5 rfl rfl 0 (Nat.le_of_eq rfl) (by decide) (by decide) (by decide) (by decide) rfl rfl ?_
  rintro _ h44 ⟨rfl, KC44, P44_0⟩
  refine Go.some' ?_
  have E_so_cC44 := Exa.keep E_so_cC41 KC44
  have F_counts_so_cC44 := Fld.keep F_counts_so_cC41 KC44 (ninS ne_b nin0)
  have K44 := Keep.trans K41 KC44 (allS (Or.inl (List.mem_of_getElem? (i := 0) rfl)) all0)
  have Z44 : n0 ≤ h44.size := Nat.le_trans Z41 KC44.1
  refine g_istore C (Ls' := #[.val (.int p0), .val (.int p1), .val (.int p2), .val (.int w), .val (.int o), .val (.ref so), .val (.ref b), .val (.int len), .val (.long (vZ_0 w len)), .second, .val (.int (vZ_1 w len)), .val (.int (vZ_2 w len)), .val (.long (vZ_3 w len)), .second, .val (.int (vZ_4 w len)), .val (.int (vZ_5 w len)), .val (.long (vZ_6 w len)), .second, .val (.int (vZ_7 w len)), .val (.int (vZ_8 w len)), .val (.long (vZ_9 w len)), .second, .val (.int (vZ_10 w len)), .val (.int (vZ_11 w len)), .val (.long (vZ_12 w len)), .second, .val (.int (vZ_13 w len)), .val (.int (vZ_14 w len)), .val (.long (vZ_15 w len)), .second, .val (.int (vZ_16 w len)), .val (.int (vZ_17 w len)), .val (.long (vZ_18 w len)), .second, .val (.int (vZ_19 w len)), .val (.int (vZ_20 w len)), .unset, .unset, .unset, .unset, .unset]) iZ_223 rfl ?_
  refine g_aload C iZ_225 rfl rfl ?_
  refine g_callS C (rmK l Z aZ hw b len.toNatClampNeg (advC len.toNatClampNeg (advC len.toNatClampNeg (advC len.toNatClampNeg (advC len.toNatClampNeg (advC len.toNatClampNeg (advC len.toNatClampNeg (advC len.toNatClampNeg (inF w len.toNatClampNeg len.toNatClampNeg)))))))) h44 n0 Z44 P44_0) iZ_227 (hw _ (List.mem_of_getElem? (i := 26) rfl)) (hw _ (List.mem_of_getElem? (i := 27) rfl)) (hw _ (List.mem_of_getElem? (i := 28) rfl)) (hw _ (List.mem_of_getElem? (i := 29) rfl)) (by decide) (argsL := [(.ref b)]) (rest := []) rfl rfl pd3 rfl rfl 0 (Nat.le_of_eq rfl) (by decide) (by decide) (by decide) (by decide) rfl rfl ?_
  rintro _ _ ⟨rfl, he45⟩
  refine Go.heap he45.symm ?_
  refine Go.some' ?_
  refine g_lstore C (Ls' := #[.val (.int p0), .val (.int p1), .val (.int p2), .val (.int w), .val (.int o), .val (.ref so), .val (.ref b), .val (.int len), .val (.long (vZ_0 w len)), .second, .val (.int (vZ_1 w len)), .val (.int (vZ_2 w len)), .val (.long (vZ_3 w len)), .second, .val (.int (vZ_4 w len)), .val (.int (vZ_5 w len)), .val (.long (vZ_6 w len)), .second, .val (.int (vZ_7 w len)), .val (.int (vZ_8 w len)), .val (.long (vZ_9 w len)), .second, .val (.int (vZ_10 w len)), .val (.int (vZ_11 w len)), .val (.long (vZ_12 w len)), .second, .val (.int (vZ_13 w len)), .val (.int (vZ_14 w len)), .val (.long (vZ_15 w len)), .second, .val (.int (vZ_16 w len)), .val (.int (vZ_17 w len)), .val (.long (vZ_18 w len)), .second, .val (.int (vZ_19 w len)), .val (.int (vZ_20 w len)), .val (.long (vZ_21 w len)), .second, .unset, .unset, .unset]) iZ_230 rfl ?_
  refine g_aload C iZ_232 rfl rfl ?_
  refine g_iloadN C iZ_234 rfl ?_
  refine g_callS C (rmV l Z aZ hw b w len.toNatClampNeg (advC len.toNatClampNeg (advC len.toNatClampNeg (advC len.toNatClampNeg (advC len.toNatClampNeg (advC len.toNatClampNeg (advC len.toNatClampNeg (advC len.toNatClampNeg (inF w len.toNatClampNeg len.toNatClampNeg)))))))) h44 n0 Z44 P44_0) iZ_235 (hw _ (List.mem_of_getElem? (i := 37) rfl)) (hw _ (List.mem_of_getElem? (i := 38) rfl)) (hw _ (List.mem_of_getElem? (i := 28) rfl)) (hw _ (List.mem_of_getElem? (i := 39) rfl)) (by decide) (argsL := [(.ref b), (.int w)]) (rest := []) rfl rfl pd4 rfl rfl 0 (Nat.le_of_eq rfl) (by decide) (by decide) (by decide) (by decide) rfl rfl ?_
  rintro _ _ ⟨rfl, he46⟩
  refine Go.heap he46.symm ?_
  refine Go.some' ?_
  refine g_istore C (Ls' := #[.val (.int p0), .val (.int p1), .val (.int p2), .val (.int w), .val (.int o), .val (.ref so), .val (.ref b), .val (.int len), .val (.long (vZ_0 w len)), .second, .val (.int (vZ_1 w len)), .val (.int (vZ_2 w len)), .val (.long (vZ_3 w len)), .second, .val (.int (vZ_4 w len)), .val (.int (vZ_5 w len)), .val (.long (vZ_6 w len)), .second, .val (.int (vZ_7 w len)), .val (.int (vZ_8 w len)), .val (.long (vZ_9 w len)), .second, .val (.int (vZ_10 w len)), .val (.int (vZ_11 w len)), .val (.long (vZ_12 w len)), .second, .val (.int (vZ_13 w len)), .val (.int (vZ_14 w len)), .val (.long (vZ_15 w len)), .second, .val (.int (vZ_16 w len)), .val (.int (vZ_17 w len)), .val (.long (vZ_18 w len)), .second, .val (.int (vZ_19 w len)), .val (.int (vZ_20 w len)), .val (.long (vZ_21 w len)), .second, .val (.int (vZ_22 w len)), .unset, .unset]) iZ_238 rfl ?_
  refine g_iloadN C iZ_240 rfl ?_
  refine g_iload C iZ_241 rfl ?_
  refine g_callS C (rmE l Z aZ hw w len h44 n0 Z44) iZ_243 (hw _ (List.mem_of_getElem? (i := 45) rfl)) (hw _ (List.mem_of_getElem? (i := 46) rfl)) (hw _ (List.mem_of_getElem? (i := 28) rfl)) (hw _ (List.mem_of_getElem? (i := 47) rfl)) (by decide) (argsL := [(.int w), (.int len)]) (rest := []) rfl rfl pd0 rfl rfl 0 (Nat.le_of_eq rfl) (by decide) (by decide) (by decide) (by decide) rfl rfl ?_
  rintro _ _ ⟨rfl, he47⟩
  refine Go.heap he47.symm ?_
  refine Go.some' ?_
  refine g_istore C (Ls' := #[.val (.int p0), .val (.int p1), .val (.int p2), .val (.int w), .val (.int o), .val (.ref so), .val (.ref b), .val (.int len), .val (.long (vZ_0 w len)), .second, .val (.int (vZ_1 w len)), .val (.int (vZ_2 w len)), .val (.long (vZ_3 w len)), .second, .val (.int (vZ_4 w len)), .val (.int (vZ_5 w len)), .val (.long (vZ_6 w len)), .second, .val (.int (vZ_7 w len)), .val (.int (vZ_8 w len)), .val (.long (vZ_9 w len)), .second, .val (.int (vZ_10 w len)), .val (.int (vZ_11 w len)), .val (.long (vZ_12 w len)), .second, .val (.int (vZ_13 w len)), .val (.int (vZ_14 w len)), .val (.long (vZ_15 w len)), .second, .val (.int (vZ_16 w len)), .val (.int (vZ_17 w len)), .val (.long (vZ_18 w len)), .second, .val (.int (vZ_19 w len)), .val (.int (vZ_20 w len)), .val (.long (vZ_21 w len)), .second, .val (.int (vZ_22 w len)), .val (.int (ret_E w len)), .unset]) iZ_246 rfl ?_
  refine g_iload C iZ_248 rfl ?_
  refine Go.join (mkF m 293 #[.val (.int p0), .val (.int p1), .val (.int p2), .val (.int w), .val (.int o), .val (.ref so), .val (.ref b), .val (.int len), .val (.long (vZ_0 w len)), .second, .val (.int (vZ_1 w len)), .val (.int (vZ_2 w len)), .val (.long (vZ_3 w len)), .second, .val (.int (vZ_4 w len)), .val (.int (vZ_5 w len)), .val (.long (vZ_6 w len)), .second, .val (.int (vZ_7 w len)), .val (.int (vZ_8 w len)), .val (.long (vZ_9 w len)), .second, .val (.int (vZ_10 w len)), .val (.int (vZ_11 w len)), .val (.long (vZ_12 w len)), .second, .val (.int (vZ_13 w len)), .val (.int (vZ_14 w len)), .val (.long (vZ_15 w len)), .second, .val (.int (vZ_16 w len)), .val (.int (vZ_17 w len)), .val (.long (vZ_18 w len)), .second, .val (.int (vZ_19 w len)), .val (.int (vZ_20 w len)), .val (.long (vZ_21 w len)), .second, .val (.int (vZ_22 w len)), .val (.int (ret_E w len)), .unset] [(.int (vZ_30 w len))]) ?_ (fun J => ?_)
  · refine g_istore C (Ls' := #[.val (.int p0), .val (.int p1), .val (.int p2), .val (.int w), .val (.int o), .val (.ref so), .val (.ref b), .val (.int len), .val (.long (vZ_0 w len)), .second, .val (.int (vZ_1 w len)), .val (.int (vZ_2 w len)), .val (.long (vZ_3 w len)), .second, .val (.int (vZ_4 w len)), .val (.int (vZ_5 w len)), .val (.long (vZ_6 w len)), .second, .val (.int (vZ_7 w len)), .val (.int (vZ_8 w len)), .val (.long (vZ_9 w len)), .second, .val (.int (vZ_10 w len)), .val (.int (vZ_11 w len)), .val (.long (vZ_12 w len)), .second, .val (.int (vZ_13 w len)), .val (.int (vZ_14 w len)), .val (.long (vZ_15 w len)), .second, .val (.int (vZ_16 w len)), .val (.int (vZ_17 w len)), .val (.long (vZ_18 w len)), .second, .val (.int (vZ_19 w len)), .val (.int (vZ_20 w len)), .val (.long (vZ_21 w len)), .second, .val (.int (vZ_22 w len)), .val (.int (ret_E w len)), .val (.int (vZ_30 w len))]) iZ_293 rfl ?_
    refine g_iload C iZ_295 rfl ?_
    refine Go.join (mkF m 481 #[.val (.int p0), .val (.int p1), .val (.int p2), .val (.int w), .val (.int o), .val (.ref so), .val (.ref b), .val (.int len), .val (.long (vZ_0 w len)), .second, .val (.int (vZ_1 w len)), .val (.int (vZ_2 w len)), .val (.long (vZ_3 w len)), .second, .val (.int (vZ_4 w len)), .val (.int (vZ_5 w len)), .val (.long (vZ_6 w len)), .second, .val (.int (vZ_7 w len)), .val (.int (vZ_8 w len)), .val (.long (vZ_9 w len)), .second, .val (.int (vZ_10 w len)), .val (.int (vZ_11 w len)), .val (.long (vZ_12 w len)), .second, .val (.int (vZ_13 w len)), .val (.int (vZ_14 w len)), .val (.long (vZ_15 w len)), .second, .val (.int (vZ_16 w len)), .val (.int (vZ_17 w len)), .val (.long (vZ_18 w len)), .second, .val (.int (vZ_19 w len)), .val (.int (vZ_20 w len)), .val (.long (vZ_21 w len)), .second, .val (.int (vZ_22 w len)), .val (.int (ret_E w len)), .val (.int (vZ_30 w len))] [(.int (vZ_45 w len))]) ?_ (fun J => ?_)
    · exact g_retNar C (t := .boolean) iZ_481 rfl (by simp) (by decide) (by decide) (show _ = _ from congrArg (fun z => some (Value.int z)) (leafZ_0 w len hwl))
    · refine g_if_eq C iZ_297 (fun hc297_1 => ?_) (fun hc297_1 => ?_)
      · refine g_iconst C (0 : Int32) iZ_480 rfl ?_
        have e0 : (vZ_45 w len) = (0 : Int32) := by simp only [vZ_45, if_pos hc297_1]
        exact Go.cast J (by rw [e0])
      · refine g_iload C iZ_300 rfl ?_
        refine g_lload C iZ_302 rfl ?_
        refine g_lload C iZ_304 rfl ?_
        refine g_iconst C (0 : Int32) iZ_306 rfl ?_
        refine g_iload C iZ_307 rfl ?_
        refine g_iconst C (1 : Int32) iZ_309 rfl ?_
        refine g_isub C iZ_310 ?_
        refine Go.join (mkF m 319 #[.val (.int p0), .val (.int p1), .val (.int p2), .val (.int w), .val (.int o), .val (.ref so), .val (.ref b), .val (.int len), .val (.long (vZ_0 w len)), .second, .val (.int (vZ_1 w len)), .val (.int (vZ_2 w len)), .val (.long (vZ_3 w len)), .second, .val (.int (vZ_4 w len)), .val (.int (vZ_5 w len)), .val (.long (vZ_6 w len)), .second, .val (.int (vZ_7 w len)), .val (.int (vZ_8 w len)), .val (.long (vZ_9 w len)), .second, .val (.int (vZ_10 w len)), .val (.int (vZ_11 w len)), .val (.long (vZ_12 w len)), .second, .val (.int (vZ_13 w len)), .val (.int (vZ_14 w len)), .val (.long (vZ_15 w len)), .second, .val (.int (vZ_16 w len)), .val (.int (vZ_17 w len)), .val (.long (vZ_18 w len)), .second, .val (.int (vZ_19 w len)), .val (.int (vZ_20 w len)), .val (.long (vZ_21 w len)), .second, .val (.int (vZ_22 w len)), .val (.int (ret_E w len)), .val (.int (vZ_30 w len))] [(.int (vZ_31 w len)), (.long (vZ_3 w len)), (.long (vZ_0 w len)), (.int (vZ_2 w len))]) ?_ (fun J => ?_)
        · refine g_callS C (rmS l Z aZ hw (vZ_2 w len) (vZ_0 w len) (vZ_3 w len) (vZ_31 w len) h44 n0 Z44) iZ_319 (hw _ (List.mem_of_getElem? (i := 48) rfl)) (hw _ (List.mem_of_getElem? (i := 49) rfl)) (hw _ (List.mem_of_getElem? (i := 28) rfl)) (hw _ (List.mem_of_getElem? (i := 50) rfl)) (by decide) (argsL := [(.int (vZ_2 w len)), (.long (vZ_0 w len)), (.long (vZ_3 w len)), (.int (vZ_31 w len))]) (rest := []) rfl rfl pd6 rfl rfl 0 (Nat.le_of_eq rfl) (by decide) (by decide) (by decide) (by decide) rfl rfl ?_
          rintro _ _ ⟨rfl, he48⟩
          refine Go.heap he48.symm ?_
          refine Go.some' ?_
          refine g_if_eq C iZ_322 (fun hc322_1 => ?_) (fun hc322_1 => ?_)
          · refine g_iconst C (0 : Int32) iZ_480 rfl ?_
            have e0 : (vZ_45 w len) = (0 : Int32) := by simp only [vZ_45, if_neg hc297_1, if_pos hc322_1]
            exact Go.cast J (by rw [e0])
          · refine g_iload C iZ_325 rfl ?_
            refine g_lload C iZ_327 rfl ?_
            refine g_lload C iZ_329 rfl ?_
            refine g_iconst C (1 : Int32) iZ_331 rfl ?_
            refine g_iload C iZ_332 rfl ?_
            refine g_iconst C (1 : Int32) iZ_334 rfl ?_
            refine g_isub C iZ_335 ?_
            refine Go.join (mkF m 344 #[.val (.int p0), .val (.int p1), .val (.int p2), .val (.int w), .val (.int o), .val (.ref so), .val (.ref b), .val (.int len), .val (.long (vZ_0 w len)), .second, .val (.int (vZ_1 w len)), .val (.int (vZ_2 w len)), .val (.long (vZ_3 w len)), .second, .val (.int (vZ_4 w len)), .val (.int (vZ_5 w len)), .val (.long (vZ_6 w len)), .second, .val (.int (vZ_7 w len)), .val (.int (vZ_8 w len)), .val (.long (vZ_9 w len)), .second, .val (.int (vZ_10 w len)), .val (.int (vZ_11 w len)), .val (.long (vZ_12 w len)), .second, .val (.int (vZ_13 w len)), .val (.int (vZ_14 w len)), .val (.long (vZ_15 w len)), .second, .val (.int (vZ_16 w len)), .val (.int (vZ_17 w len)), .val (.long (vZ_18 w len)), .second, .val (.int (vZ_19 w len)), .val (.int (vZ_20 w len)), .val (.long (vZ_21 w len)), .second, .val (.int (vZ_22 w len)), .val (.int (ret_E w len)), .val (.int (vZ_30 w len))] [(.int (vZ_32 w len)), (.long (vZ_6 w len)), (.long (vZ_3 w len)), (.int (vZ_5 w len))]) ?_ (fun J => ?_)
            · refine g_callS C (rmS l Z aZ hw (vZ_5 w len) (vZ_3 w len) (vZ_6 w len) (vZ_32 w len) h44 n0 Z44) iZ_344 (hw _ (List.mem_of_getElem? (i := 48) rfl)) (hw _ (List.mem_of_getElem? (i := 49) rfl)) (hw _ (List.mem_of_getElem? (i := 28) rfl)) (hw _ (List.mem_of_getElem? (i := 50) rfl)) (by decide) (argsL := [(.int (vZ_5 w len)), (.long (vZ_3 w len)), (.long (vZ_6 w len)), (.int (vZ_32 w len))]) (rest := []) rfl rfl pd6 rfl rfl 0 (Nat.le_of_eq rfl) (by decide) (by decide) (by decide) (by decide) rfl rfl ?_
              rintro _ _ ⟨rfl, he49⟩
              refine Go.heap he49.symm ?_
              refine Go.some' ?_
              refine g_if_eq C iZ_347 (fun hc347_1 => ?_) (fun hc347_1 => ?_)
              · refine g_iconst C (0 : Int32) iZ_480 rfl ?_
                have e0 : (vZ_45 w len) = (0 : Int32) := by simp only [vZ_45, if_neg hc297_1, if_neg hc322_1, if_pos hc347_1]
                exact Go.cast J (by rw [e0])
              · refine g_iload C iZ_350 rfl ?_
                refine g_lload C iZ_352 rfl ?_
                refine g_lload C iZ_354 rfl ?_
                refine g_iconst C (2 : Int32) iZ_356 rfl ?_
                refine g_iload C iZ_357 rfl ?_
                refine g_iconst C (1 : Int32) iZ_359 rfl ?_
                refine g_isub C iZ_360 ?_
                refine Go.join (mkF m 369 #[.val (.int p0), .val (.int p1), .val (.int p2), .val (.int w), .val (.int o), .val (.ref so), .val (.ref b), .val (.int len), .val (.long (vZ_0 w len)), .second, .val (.int (vZ_1 w len)), .val (.int (vZ_2 w len)), .val (.long (vZ_3 w len)), .second, .val (.int (vZ_4 w len)), .val (.int (vZ_5 w len)), .val (.long (vZ_6 w len)), .second, .val (.int (vZ_7 w len)), .val (.int (vZ_8 w len)), .val (.long (vZ_9 w len)), .second, .val (.int (vZ_10 w len)), .val (.int (vZ_11 w len)), .val (.long (vZ_12 w len)), .second, .val (.int (vZ_13 w len)), .val (.int (vZ_14 w len)), .val (.long (vZ_15 w len)), .second, .val (.int (vZ_16 w len)), .val (.int (vZ_17 w len)), .val (.long (vZ_18 w len)), .second, .val (.int (vZ_19 w len)), .val (.int (vZ_20 w len)), .val (.long (vZ_21 w len)), .second, .val (.int (vZ_22 w len)), .val (.int (ret_E w len)), .val (.int (vZ_30 w len))] [(.int (vZ_33 w len)), (.long (vZ_9 w len)), (.long (vZ_6 w len)), (.int (vZ_8 w len))]) ?_ (fun J => ?_)
                · refine g_callS C (rmS l Z aZ hw (vZ_8 w len) (vZ_6 w len) (vZ_9 w len) (vZ_33 w len) h44 n0 Z44) iZ_369 (hw _ (List.mem_of_getElem? (i := 48) rfl)) (hw _ (List.mem_of_getElem? (i := 49) rfl)) (hw _ (List.mem_of_getElem? (i := 28) rfl)) (hw _ (List.mem_of_getElem? (i := 50) rfl)) (by decide) (argsL := [(.int (vZ_8 w len)), (.long (vZ_6 w len)), (.long (vZ_9 w len)), (.int (vZ_33 w len))]) (rest := []) rfl rfl pd6 rfl rfl 0 (Nat.le_of_eq rfl) (by decide) (by decide) (by decide) (by decide) rfl rfl ?_
                  rintro _ _ ⟨rfl, he50⟩
                  refine Go.heap he50.symm ?_
                  refine Go.some' ?_
                  refine g_if_eq C iZ_372 (fun hc372_1 => ?_) (fun hc372_1 => ?_)
                  · refine g_iconst C (0 : Int32) iZ_480 rfl ?_
                    have e0 : (vZ_45 w len) = (0 : Int32) := by simp only [vZ_45, if_neg hc297_1, if_neg hc322_1, if_neg hc347_1, if_pos hc372_1]
                    exact Go.cast J (by rw [e0])
                  · refine g_iload C iZ_375 rfl ?_
                    refine g_lload C iZ_377 rfl ?_
                    refine g_lload C iZ_379 rfl ?_
                    refine g_iconst C (3 : Int32) iZ_381 rfl ?_
                    refine g_iload C iZ_382 rfl ?_
                    refine g_iconst C (1 : Int32) iZ_384 rfl ?_
                    refine g_isub C iZ_385 ?_
                    refine Go.join (mkF m 394 #[.val (.int p0), .val (.int p1), .val (.int p2), .val (.int w), .val (.int o), .val (.ref so), .val (.ref b), .val (.int len), .val (.long (vZ_0 w len)), .second, .val (.int (vZ_1 w len)), .val (.int (vZ_2 w len)), .val (.long (vZ_3 w len)), .second, .val (.int (vZ_4 w len)), .val (.int (vZ_5 w len)), .val (.long (vZ_6 w len)), .second, .val (.int (vZ_7 w len)), .val (.int (vZ_8 w len)), .val (.long (vZ_9 w len)), .second, .val (.int (vZ_10 w len)), .val (.int (vZ_11 w len)), .val (.long (vZ_12 w len)), .second, .val (.int (vZ_13 w len)), .val (.int (vZ_14 w len)), .val (.long (vZ_15 w len)), .second, .val (.int (vZ_16 w len)), .val (.int (vZ_17 w len)), .val (.long (vZ_18 w len)), .second, .val (.int (vZ_19 w len)), .val (.int (vZ_20 w len)), .val (.long (vZ_21 w len)), .second, .val (.int (vZ_22 w len)), .val (.int (ret_E w len)), .val (.int (vZ_30 w len))] [(.int (vZ_34 w len)), (.long (vZ_12 w len)), (.long (vZ_9 w len)), (.int (vZ_11 w len))]) ?_ (fun J => ?_)
                    · refine g_callS C (rmS l Z aZ hw (vZ_11 w len) (vZ_9 w len) (vZ_12 w len) (vZ_34 w len) h44 n0 Z44) iZ_394 (hw _ (List.mem_of_getElem? (i := 48) rfl)) (hw _ (List.mem_of_getElem? (i := 49) rfl)) (hw _ (List.mem_of_getElem? (i := 28) rfl)) (hw _ (List.mem_of_getElem? (i := 50) rfl)) (by decide) (argsL := [(.int (vZ_11 w len)), (.long (vZ_9 w len)), (.long (vZ_12 w len)), (.int (vZ_34 w len))]) (rest := []) rfl rfl pd6 rfl rfl 0 (Nat.le_of_eq rfl) (by decide) (by decide) (by decide) (by decide) rfl rfl ?_
                      rintro _ _ ⟨rfl, he51⟩
                      refine Go.heap he51.symm ?_
                      refine Go.some' ?_
                      refine g_if_eq C iZ_397 (fun hc397_1 => ?_) (fun hc397_1 => ?_)
                      · refine g_iconst C (0 : Int32) iZ_480 rfl ?_
                        have e0 : (vZ_45 w len) = (0 : Int32) := by simp only [vZ_45, if_neg hc297_1, if_neg hc322_1, if_neg hc347_1, if_neg hc372_1, if_pos hc397_1]
                        exact Go.cast J (by rw [e0])
                      · refine g_iload C iZ_400 rfl ?_
                        refine g_lload C iZ_402 rfl ?_
                        refine g_lload C iZ_404 rfl ?_
                        refine g_iconst C (4 : Int32) iZ_406 rfl ?_
                        refine g_iload C iZ_407 rfl ?_
                        refine g_iconst C (1 : Int32) iZ_409 rfl ?_
                        refine g_isub C iZ_410 ?_
                        refine Go.join (mkF m 419 #[.val (.int p0), .val (.int p1), .val (.int p2), .val (.int w), .val (.int o), .val (.ref so), .val (.ref b), .val (.int len), .val (.long (vZ_0 w len)), .second, .val (.int (vZ_1 w len)), .val (.int (vZ_2 w len)), .val (.long (vZ_3 w len)), .second, .val (.int (vZ_4 w len)), .val (.int (vZ_5 w len)), .val (.long (vZ_6 w len)), .second, .val (.int (vZ_7 w len)), .val (.int (vZ_8 w len)), .val (.long (vZ_9 w len)), .second, .val (.int (vZ_10 w len)), .val (.int (vZ_11 w len)), .val (.long (vZ_12 w len)), .second, .val (.int (vZ_13 w len)), .val (.int (vZ_14 w len)), .val (.long (vZ_15 w len)), .second, .val (.int (vZ_16 w len)), .val (.int (vZ_17 w len)), .val (.long (vZ_18 w len)), .second, .val (.int (vZ_19 w len)), .val (.int (vZ_20 w len)), .val (.long (vZ_21 w len)), .second, .val (.int (vZ_22 w len)), .val (.int (ret_E w len)), .val (.int (vZ_30 w len))] [(.int (vZ_35 w len)), (.long (vZ_15 w len)), (.long (vZ_12 w len)), (.int (vZ_14 w len))]) ?_ (fun J => ?_)
                        · refine g_callS C (rmS l Z aZ hw (vZ_14 w len) (vZ_12 w len) (vZ_15 w len) (vZ_35 w len) h44 n0 Z44) iZ_419 (hw _ (List.mem_of_getElem? (i := 48) rfl)) (hw _ (List.mem_of_getElem? (i := 49) rfl)) (hw _ (List.mem_of_getElem? (i := 28) rfl)) (hw _ (List.mem_of_getElem? (i := 50) rfl)) (by decide) (argsL := [(.int (vZ_14 w len)), (.long (vZ_12 w len)), (.long (vZ_15 w len)), (.int (vZ_35 w len))]) (rest := []) rfl rfl pd6 rfl rfl 0 (Nat.le_of_eq rfl) (by decide) (by decide) (by decide) (by decide) rfl rfl ?_
                          rintro _ _ ⟨rfl, he52⟩
                          refine Go.heap he52.symm ?_
                          refine Go.some' ?_
                          refine g_if_eq C iZ_422 (fun hc422_1 => ?_) (fun hc422_1 => ?_)
                          · refine g_iconst C (0 : Int32) iZ_480 rfl ?_
                            have e0 : (vZ_45 w len) = (0 : Int32) := by simp only [vZ_45, if_neg hc297_1, if_neg hc322_1, if_neg hc347_1, if_neg hc372_1, if_neg hc397_1, if_pos hc422_1]
                            exact Go.cast J (by rw [e0])
                          · refine g_iload C iZ_425 rfl ?_
                            refine g_lload C iZ_427 rfl ?_
                            refine g_lload C iZ_429 rfl ?_
                            refine g_iconst C (5 : Int32) iZ_431 rfl ?_
                            refine g_iload C iZ_432 rfl ?_
                            refine g_iconst C (1 : Int32) iZ_434 rfl ?_
                            refine g_isub C iZ_435 ?_
                            refine Go.join (mkF m 444 #[.val (.int p0), .val (.int p1), .val (.int p2), .val (.int w), .val (.int o), .val (.ref so), .val (.ref b), .val (.int len), .val (.long (vZ_0 w len)), .second, .val (.int (vZ_1 w len)), .val (.int (vZ_2 w len)), .val (.long (vZ_3 w len)), .second, .val (.int (vZ_4 w len)), .val (.int (vZ_5 w len)), .val (.long (vZ_6 w len)), .second, .val (.int (vZ_7 w len)), .val (.int (vZ_8 w len)), .val (.long (vZ_9 w len)), .second, .val (.int (vZ_10 w len)), .val (.int (vZ_11 w len)), .val (.long (vZ_12 w len)), .second, .val (.int (vZ_13 w len)), .val (.int (vZ_14 w len)), .val (.long (vZ_15 w len)), .second, .val (.int (vZ_16 w len)), .val (.int (vZ_17 w len)), .val (.long (vZ_18 w len)), .second, .val (.int (vZ_19 w len)), .val (.int (vZ_20 w len)), .val (.long (vZ_21 w len)), .second, .val (.int (vZ_22 w len)), .val (.int (ret_E w len)), .val (.int (vZ_30 w len))] [(.int (vZ_36 w len)), (.long (vZ_18 w len)), (.long (vZ_15 w len)), (.int (vZ_17 w len))]) ?_ (fun J => ?_)
                            · refine g_callS C (rmS l Z aZ hw (vZ_17 w len) (vZ_15 w len) (vZ_18 w len) (vZ_36 w len) h44 n0 Z44) iZ_444 (hw _ (List.mem_of_getElem? (i := 48) rfl)) (hw _ (List.mem_of_getElem? (i := 49) rfl)) (hw _ (List.mem_of_getElem? (i := 28) rfl)) (hw _ (List.mem_of_getElem? (i := 50) rfl)) (by decide) (argsL := [(.int (vZ_17 w len)), (.long (vZ_15 w len)), (.long (vZ_18 w len)), (.int (vZ_36 w len))]) (rest := []) rfl rfl pd6 rfl rfl 0 (Nat.le_of_eq rfl) (by decide) (by decide) (by decide) (by decide) rfl rfl ?_
                              rintro _ _ ⟨rfl, he53⟩
                              refine Go.heap he53.symm ?_
                              refine Go.some' ?_
                              refine g_if_eq C iZ_447 (fun hc447_1 => ?_) (fun hc447_1 => ?_)
                              · refine g_iconst C (0 : Int32) iZ_480 rfl ?_
                                have e0 : (vZ_45 w len) = (0 : Int32) := by simp only [vZ_45, if_neg hc297_1, if_neg hc322_1, if_neg hc347_1, if_neg hc372_1, if_neg hc397_1, if_neg hc422_1, if_pos hc447_1]
                                exact Go.cast J (by rw [e0])
                              · refine g_iload C iZ_450 rfl ?_
                                refine g_lload C iZ_452 rfl ?_
                                refine g_lload C iZ_454 rfl ?_
                                refine g_bipush C (6 : Int32) iZ_456 rfl ?_
                                refine g_iload C iZ_458 rfl ?_
                                refine g_iconst C (1 : Int32) iZ_460 rfl ?_
                                refine g_isub C iZ_461 ?_
                                refine Go.join (mkF m 470 #[.val (.int p0), .val (.int p1), .val (.int p2), .val (.int w), .val (.int o), .val (.ref so), .val (.ref b), .val (.int len), .val (.long (vZ_0 w len)), .second, .val (.int (vZ_1 w len)), .val (.int (vZ_2 w len)), .val (.long (vZ_3 w len)), .second, .val (.int (vZ_4 w len)), .val (.int (vZ_5 w len)), .val (.long (vZ_6 w len)), .second, .val (.int (vZ_7 w len)), .val (.int (vZ_8 w len)), .val (.long (vZ_9 w len)), .second, .val (.int (vZ_10 w len)), .val (.int (vZ_11 w len)), .val (.long (vZ_12 w len)), .second, .val (.int (vZ_13 w len)), .val (.int (vZ_14 w len)), .val (.long (vZ_15 w len)), .second, .val (.int (vZ_16 w len)), .val (.int (vZ_17 w len)), .val (.long (vZ_18 w len)), .second, .val (.int (vZ_19 w len)), .val (.int (vZ_20 w len)), .val (.long (vZ_21 w len)), .second, .val (.int (vZ_22 w len)), .val (.int (ret_E w len)), .val (.int (vZ_30 w len))] [(.int (vZ_37 w len)), (.long (vZ_21 w len)), (.long (vZ_18 w len)), (.int (vZ_20 w len))]) ?_ (fun J => ?_)
                                · refine g_callS C (rmS l Z aZ hw (vZ_20 w len) (vZ_18 w len) (vZ_21 w len) (vZ_37 w len) h44 n0 Z44) iZ_470 (hw _ (List.mem_of_getElem? (i := 48) rfl)) (hw _ (List.mem_of_getElem? (i := 49) rfl)) (hw _ (List.mem_of_getElem? (i := 28) rfl)) (hw _ (List.mem_of_getElem? (i := 50) rfl)) (by decide) (argsL := [(.int (vZ_20 w len)), (.long (vZ_18 w len)), (.long (vZ_21 w len)), (.int (vZ_37 w len))]) (rest := []) rfl rfl pd6 rfl rfl 0 (Nat.le_of_eq rfl) (by decide) (by decide) (by decide) (by decide) rfl rfl ?_
                                  rintro _ _ ⟨rfl, he54⟩
                                  refine Go.heap he54.symm ?_
                                  refine Go.some' ?_
                                  refine g_if_eq C iZ_473 (fun hc473_1 => ?_) (fun hc473_1 => ?_)
                                  · refine g_iconst C (0 : Int32) iZ_480 rfl ?_
                                    have e0 : (vZ_45 w len) = (0 : Int32) := by simp only [vZ_45, if_neg hc297_1, if_neg hc322_1, if_neg hc347_1, if_neg hc372_1, if_neg hc397_1, if_neg hc422_1, if_neg hc447_1, if_pos hc473_1]
                                    exact Go.cast J (by rw [e0])
                                  · refine g_iconst C (1 : Int32) iZ_476 rfl ?_
                                    refine g_goto C iZ_477 ?_
                                    have e0 : (vZ_45 w len) = (1 : Int32) := by simp only [vZ_45, if_neg hc297_1, if_neg hc322_1, if_neg hc347_1, if_neg hc372_1, if_neg hc397_1, if_neg hc422_1, if_neg hc447_1, if_neg hc473_1]
                                    exact Go.cast J (by rw [e0])
                                · refine g_icmp_ge C iZ_462 (fun hc462_1 => ?_) (fun hc462_1 => ?_)
                                  · refine g_iconst C (1 : Int32) iZ_465 rfl ?_
                                    refine g_goto C iZ_466 ?_
                                    have e0 : (vZ_37 w len) = (1 : Int32) := by simp only [vZ_37, if_pos hc462_1]
                                    exact Go.cast J (by rw [e0])
                                  · refine g_iconst C (0 : Int32) iZ_469 rfl ?_
                                    have e0 : (vZ_37 w len) = (0 : Int32) := by simp only [vZ_37, if_neg hc462_1]
                                    exact Go.cast J (by rw [e0])
                            · refine g_icmp_ge C iZ_436 (fun hc436_1 => ?_) (fun hc436_1 => ?_)
                              · refine g_iconst C (1 : Int32) iZ_439 rfl ?_
                                refine g_goto C iZ_440 ?_
                                have e0 : (vZ_36 w len) = (1 : Int32) := by simp only [vZ_36, if_pos hc436_1]
                                exact Go.cast J (by rw [e0])
                              · refine g_iconst C (0 : Int32) iZ_443 rfl ?_
                                have e0 : (vZ_36 w len) = (0 : Int32) := by simp only [vZ_36, if_neg hc436_1]
                                exact Go.cast J (by rw [e0])
                        · refine g_icmp_ge C iZ_411 (fun hc411_1 => ?_) (fun hc411_1 => ?_)
                          · refine g_iconst C (1 : Int32) iZ_414 rfl ?_
                            refine g_goto C iZ_415 ?_
                            have e0 : (vZ_35 w len) = (1 : Int32) := by simp only [vZ_35, if_pos hc411_1]
                            exact Go.cast J (by rw [e0])
                          · refine g_iconst C (0 : Int32) iZ_418 rfl ?_
                            have e0 : (vZ_35 w len) = (0 : Int32) := by simp only [vZ_35, if_neg hc411_1]
                            exact Go.cast J (by rw [e0])
                    · refine g_icmp_ge C iZ_386 (fun hc386_1 => ?_) (fun hc386_1 => ?_)
                      · refine g_iconst C (1 : Int32) iZ_389 rfl ?_
                        refine g_goto C iZ_390 ?_
                        have e0 : (vZ_34 w len) = (1 : Int32) := by simp only [vZ_34, if_pos hc386_1]
                        exact Go.cast J (by rw [e0])
                      · refine g_iconst C (0 : Int32) iZ_393 rfl ?_
                        have e0 : (vZ_34 w len) = (0 : Int32) := by simp only [vZ_34, if_neg hc386_1]
                        exact Go.cast J (by rw [e0])
                · refine g_icmp_ge C iZ_361 (fun hc361_1 => ?_) (fun hc361_1 => ?_)
                  · refine g_iconst C (1 : Int32) iZ_364 rfl ?_
                    refine g_goto C iZ_365 ?_
                    have e0 : (vZ_33 w len) = (1 : Int32) := by simp only [vZ_33, if_pos hc361_1]
                    exact Go.cast J (by rw [e0])
                  · refine g_iconst C (0 : Int32) iZ_368 rfl ?_
                    have e0 : (vZ_33 w len) = (0 : Int32) := by simp only [vZ_33, if_neg hc361_1]
                    exact Go.cast J (by rw [e0])
            · refine g_icmp_ge C iZ_336 (fun hc336_1 => ?_) (fun hc336_1 => ?_)
              · refine g_iconst C (1 : Int32) iZ_339 rfl ?_
                refine g_goto C iZ_340 ?_
                have e0 : (vZ_32 w len) = (1 : Int32) := by simp only [vZ_32, if_pos hc336_1]
                exact Go.cast J (by rw [e0])
              · refine g_iconst C (0 : Int32) iZ_343 rfl ?_
                have e0 : (vZ_32 w len) = (0 : Int32) := by simp only [vZ_32, if_neg hc336_1]
                exact Go.cast J (by rw [e0])
        · refine g_icmp_ge C iZ_311 (fun hc311_1 => ?_) (fun hc311_1 => ?_)
          · refine g_iconst C (1 : Int32) iZ_314 rfl ?_
            refine g_goto C iZ_315 ?_
            have e0 : (vZ_31 w len) = (1 : Int32) := by simp only [vZ_31, if_pos hc311_1]
            exact Go.cast J (by rw [e0])
          · refine g_iconst C (0 : Int32) iZ_318 rfl ?_
            have e0 : (vZ_31 w len) = (0 : Int32) := by simp only [vZ_31, if_neg hc311_1]
            exact Go.cast J (by rw [e0])
  · refine g_if_eq C iZ_250 (fun hc250_1 => ?_) (fun hc250_1 => ?_)
    · refine g_iconst C (0 : Int32) iZ_292 rfl ?_
      have e0 : (vZ_30 w len) = (0 : Int32) := by simp only [vZ_30, if_pos hc250_1]
      exact Go.cast J (by rw [e0])
    · refine g_iload C iZ_253 rfl ?_
      refine g_if_eq C iZ_255 (fun hc255_1 => ?_) (fun hc255_1 => ?_)
      · refine g_iconst C (0 : Int32) iZ_292 rfl ?_
        have e0 : (vZ_30 w len) = (0 : Int32) := by simp only [vZ_30, if_neg hc250_1, if_pos hc255_1]
        exact Go.cast J (by rw [e0])
      · refine g_iload C iZ_258 rfl ?_
        refine g_if_eq C iZ_260 (fun hc260_1 => ?_) (fun hc260_1 => ?_)
        · refine g_iconst C (0 : Int32) iZ_292 rfl ?_
          have e0 : (vZ_30 w len) = (0 : Int32) := by simp only [vZ_30, if_neg hc250_1, if_neg hc255_1, if_pos hc260_1]
          exact Go.cast J (by rw [e0])
        · refine g_iload C iZ_263 rfl ?_
          refine g_if_eq C iZ_265 (fun hc265_1 => ?_) (fun hc265_1 => ?_)
          · refine g_iconst C (0 : Int32) iZ_292 rfl ?_
            have e0 : (vZ_30 w len) = (0 : Int32) := by simp only [vZ_30, if_neg hc250_1, if_neg hc255_1, if_neg hc260_1, if_pos hc265_1]
            exact Go.cast J (by rw [e0])
          · refine g_iload C iZ_268 rfl ?_
            refine g_if_eq C iZ_270 (fun hc270_1 => ?_) (fun hc270_1 => ?_)
            · refine g_iconst C (0 : Int32) iZ_292 rfl ?_
              have e0 : (vZ_30 w len) = (0 : Int32) := by simp only [vZ_30, if_neg hc250_1, if_neg hc255_1, if_neg hc260_1, if_neg hc265_1, if_pos hc270_1]
              exact Go.cast J (by rw [e0])
            · refine g_iload C iZ_273 rfl ?_
              refine g_if_eq C iZ_275 (fun hc275_1 => ?_) (fun hc275_1 => ?_)
              · refine g_iconst C (0 : Int32) iZ_292 rfl ?_
                have e0 : (vZ_30 w len) = (0 : Int32) := by simp only [vZ_30, if_neg hc250_1, if_neg hc255_1, if_neg hc260_1, if_neg hc265_1, if_neg hc270_1, if_pos hc275_1]
                exact Go.cast J (by rw [e0])
              · refine g_iload C iZ_278 rfl ?_
                refine g_if_eq C iZ_280 (fun hc280_1 => ?_) (fun hc280_1 => ?_)
                · refine g_iconst C (0 : Int32) iZ_292 rfl ?_
                  have e0 : (vZ_30 w len) = (0 : Int32) := by simp only [vZ_30, if_neg hc250_1, if_neg hc255_1, if_neg hc260_1, if_neg hc265_1, if_neg hc270_1, if_neg hc275_1, if_pos hc280_1]
                  exact Go.cast J (by rw [e0])
                · refine g_iload C iZ_283 rfl ?_
                  refine g_if_eq C iZ_285 (fun hc285_1 => ?_) (fun hc285_1 => ?_)
                  · refine g_iconst C (0 : Int32) iZ_292 rfl ?_
                    have e0 : (vZ_30 w len) = (0 : Int32) := by simp only [vZ_30, if_neg hc250_1, if_neg hc255_1, if_neg hc260_1, if_neg hc265_1, if_neg hc270_1, if_neg hc275_1, if_neg hc280_1, if_pos hc285_1]
                    exact Go.cast J (by rw [e0])
                  · refine g_iconst C (1 : Int32) iZ_288 rfl ?_
                    refine g_goto C iZ_289 ?_
                    have e0 : (vZ_30 w len) = (1 : Int32) := by simp only [vZ_30, if_neg hc250_1, if_neg hc255_1, if_neg hc260_1, if_neg hc265_1, if_neg hc270_1, if_neg hc275_1, if_neg hc280_1, if_neg hc285_1]
                    exact Go.cast J (by rw [e0])
theorem own_w5 (x : Int32) : 1 ≤ ((1 : Int32) + ((x &&& (2147483647 : Int32)) % (5 : Int32))).toInt ∧ ((1 : Int32) + ((x &&& (2147483647 : Int32)) % (5 : Int32))).toInt ≤ 5 := by
  have h := (c_and x 2147483647 (by decide)).1
  have h2 := (c_irem (x &&& 2147483647) 5 5 rfl).1 h
  have g1 := c_iadd 1 ((x &&& (2147483647 : Int32)) % (5 : Int32))
  have g2 := rng32 ((1 : Int32) + ((x &&& (2147483647 : Int32)) % (5 : Int32)))
  have g3 : (1 : Int32).toInt = 1 := rfl
  omega
theorem own_o1 (x : Int32) : 1 ≤ ((1 : Int32) + (x &&& (7 : Int32))).toInt := by
  have h := c_and x 7 (by decide)
  have g1 := c_iadd 1 (x &&& 7)
  have g2 := rng32 (1 + (x &&& 7))
  have g3 : (1 : Int32).toInt = 1 := rfl
  have g4 : (7 : Int32).toInt = 7 := rfl
  omega
theorem own_o2 (x : Int32) : 1 ≤ (vX_0 (1 : Int32) x).toInt := by
  have g3 : (1 : Int32).toInt = 1 := rfl
  simp only [vX_0, Int32.lt_iff_toInt_lt]; split <;> omega
theorem pd7 : parseMethodDescriptor "(II)V" = some ⟨[.int, .int], none⟩ := by decide +kernel
theorem pd8 : parseMethodDescriptor "()[I" = some ⟨[], some (.array .int)⟩ := by decide +kernel
theorem pn9 : plainFor (⟨"com/example/bandweave/bandweave/cover/SplitsAdvancePinLaw", "law", "(III)Z"⟩ : MethodName) = true := by decide +kernel
theorem iM_0 : I1 code 0 (.iconst 1) 1 1 := ⟨at_0, rfl⟩
theorem iM_1 : I1 code 1 (.iload_n 0) 1 2 := ⟨at_1, rfl⟩
theorem iM_2 : I1 code 2 (.ldc 7) 2 4 := ⟨at_2, rfl⟩
theorem iM_4 : I1 code 4 (.iand) 1 5 := ⟨at_4, rfl⟩
theorem iM_5 : I1 code 5 (.iconst 5) 1 6 := ⟨at_5, rfl⟩
theorem iM_6 : I1 code 6 (.irem) 1 7 := ⟨at_6, rfl⟩
theorem iM_7 : I1 code 7 (.iadd) 1 8 := ⟨at_7, rfl⟩
theorem iM_8 : I1 code 8 (.istore_n 3) 1 9 := ⟨at_8, rfl⟩
theorem iM_9 : I1 code 9 (.iload_n 2) 1 10 := ⟨at_9, rfl⟩
theorem iM_10 : I1 code 10 (.iconst 1) 1 11 := ⟨at_10, rfl⟩
theorem iM_11 : I1 code 11 (.iand) 1 12 := ⟨at_11, rfl⟩
theorem iM_12 : B1 code 12 (.ifCond .eq 12) 12 24 15 := ⟨at_12, rfl, by decide, by decide⟩
theorem iM_15 : I1 code 15 (.iconst 1) 1 16 := ⟨at_15, rfl⟩
theorem iM_16 : I1 code 16 (.iload_n 1) 1 17 := ⟨at_16, rfl⟩
theorem iM_17 : I1 code 17 (.bipush 7) 2 19 := ⟨at_17, rfl⟩
theorem iM_19 : I1 code 19 (.iand) 1 20 := ⟨at_19, rfl⟩
theorem iM_20 : I1 code 20 (.iadd) 1 21 := ⟨at_20, rfl⟩
theorem iM_21 : B1 code 21 (.goto 11) 11 32 24 := ⟨at_21, rfl, by decide, by decide⟩
theorem iM_24 : I1 code 24 (.iconst 1) 1 25 := ⟨at_24, rfl⟩
theorem iM_25 : I1 code 25 (.iload_n 1) 1 26 := ⟨at_25, rfl⟩
theorem iM_26 : I1 code 26 (.ldc 7) 2 28 := ⟨at_26, rfl⟩
theorem iM_28 : I1 code 28 (.iand) 1 29 := ⟨at_28, rfl⟩
theorem iM_29 : I1 code 29 (.invokestatic 8) 3 32 := ⟨at_29, rfl⟩
theorem iM_32 : I1 code 32 (.istore 4) 2 34 := ⟨at_32, rfl⟩
theorem iM_34 : I1 code 34 (.new 14) 3 37 := ⟨at_34, rfl⟩
theorem iM_37 : I1 code 37 (.dup) 1 38 := ⟨at_37, rfl⟩
theorem iM_38 : I1 code 38 (.iload_n 3) 1 39 := ⟨at_38, rfl⟩
theorem iM_39 : I1 code 39 (.iload 4) 2 41 := ⟨at_39, rfl⟩
theorem iM_41 : I1 code 41 (.invokespecial 16) 3 44 := ⟨at_41, rfl⟩
theorem iM_44 : I1 code 44 (.astore 5) 2 46 := ⟨at_44, rfl⟩
theorem iM_46 : I1 code 46 (.aload 5) 2 48 := ⟨at_46, rfl⟩
theorem iM_48 : I1 code 48 (.invokevirtual 19) 3 51 := ⟨at_48, rfl⟩
theorem iM_51 : I1 code 51 (.astore 6) 2 53 := ⟨at_51, rfl⟩
theorem iM_53 : I1 code 53 (.iload 4) 2 55 := ⟨at_53, rfl⟩
theorem iM_55 : I1 code 55 (.iload_n 3) 1 56 := ⟨at_55, rfl⟩
theorem iM_56 : I1 code 56 (.invokestatic 23) 3 59 := ⟨at_56, rfl⟩
theorem iM_59 : I1 code 59 (.istore 7) 2 61 := ⟨at_59, rfl⟩
def vM_0 (p0 : Int32) (p1 : Int32) (p2 : Int32) : Int32 := (if (p2 &&& (1 : Int32)) = (0 : Int32) then (vX_0 (1 : Int32) (p1 &&& (2147483647 : Int32))) else ((1 : Int32) + (p1 &&& (7 : Int32))))
theorem own_o (p0 p1 p2 : Int32) : 1 ≤ (vM_0 p0 p1 p2).toInt := by
  simp only [vM_0]; split
  · exact own_o2 _
  · exact own_o1 _
theorem efM (m : MethodId) (p0 : Int32) (p1 : Int32) (p2 : Int32) : entryFrame m #[(.int p0), (.int p1), (.int p2)] maxLocals = mkF m 0 #[.val (.int p0), .val (.int p1), .val (.int p2), .unset, .unset, .unset, .unset, .unset, .unset, .unset, .unset, .unset, .unset, .unset, .unset, .unset, .unset, .unset, .unset, .unset, .unset, .unset, .unset, .unset, .unset, .unset, .unset, .unset, .unset, .unset, .unset, .unset, .unset, .unset, .unset, .unset, .unset, .unset, .unset, .unset, .unset] [] := by first | (simp [entryFrame, mkF, argsToLocals, Value.category, maxLocals]; done) | rfl
def QM (Z : State) (p0 : Int32) (p1 : Int32) (p2 : Int32) (h0 : Heap) (n0 : Nat) (v : Option Value) (h : Heap) : Prop := v = some (.int 1)
set_option maxRecDepth 65536 in
set_option maxHeartbeats 40000000 in
theorem rmM (l : Launch) (Z : State) (aZ : Array Value) (hw : ∀ d ∈ tables_1, d.before aZ Z = true) (p0 : Int32) (p1 : Int32) (p2 : Int32) (h0 : Heap) (n0 : Nat) (Z0 : n0 ≤ h0.size) :
    Ctr l Z x code maxLocals ret room_1 #[(.int p0), (.int p1), (.int p2)] h0 n0 (QM Z p0 p1 p2 h0 n0) := by
  refine Ctr.of_go pn9 (fun m => efM m p0 p1 p2) ?_
  intro p e s m below meth c hnm C
  refine g_iconst C (1 : Int32) iM_0 rfl ?_
  refine g_iloadN C iM_1 rfl ?_
  refine g_ldcInt C iM_2 (hw _ (List.mem_of_getElem? (i := 0) rfl)) ?_
  refine g_iand C iM_4 ?_
  refine g_iconst C (5 : Int32) iM_5 rfl ?_
  refine g_irem C iM_6 (by decide) ?_
  refine g_iadd C iM_7 ?_
  refine g_istoreN C (Ls' := #[.val (.int p0), .val (.int p1), .val (.int p2), .val (.int ((1 : Int32) + ((p0 &&& (2147483647 : Int32)) % (5 : Int32)))), .unset, .unset, .unset, .unset, .unset, .unset, .unset, .unset, .unset, .unset, .unset, .unset, .unset, .unset, .unset, .unset, .unset, .unset, .unset, .unset, .unset, .unset, .unset, .unset, .unset, .unset, .unset, .unset, .unset, .unset, .unset, .unset, .unset, .unset, .unset, .unset, .unset]) iM_8 rfl ?_
  refine g_iloadN C iM_9 rfl ?_
  refine g_iconst C (1 : Int32) iM_10 rfl ?_
  refine g_iand C iM_11 ?_
  refine Go.join (mkF m 32 #[.val (.int p0), .val (.int p1), .val (.int p2), .val (.int ((1 : Int32) + ((p0 &&& (2147483647 : Int32)) % (5 : Int32)))), .unset, .unset, .unset, .unset, .unset, .unset, .unset, .unset, .unset, .unset, .unset, .unset, .unset, .unset, .unset, .unset, .unset, .unset, .unset, .unset, .unset, .unset, .unset, .unset, .unset, .unset, .unset, .unset, .unset, .unset, .unset, .unset, .unset, .unset, .unset, .unset, .unset] [(.int (vM_0 p0 p1 p2))]) ?_ (fun J => ?_)
  · refine g_istore C (Ls' := #[.val (.int p0), .val (.int p1), .val (.int p2), .val (.int ((1 : Int32) + ((p0 &&& (2147483647 : Int32)) % (5 : Int32)))), .val (.int (vM_0 p0 p1 p2)), .unset, .unset, .unset, .unset, .unset, .unset, .unset, .unset, .unset, .unset, .unset, .unset, .unset, .unset, .unset, .unset, .unset, .unset, .unset, .unset, .unset, .unset, .unset, .unset, .unset, .unset, .unset, .unset, .unset, .unset, .unset, .unset, .unset, .unset, .unset, .unset]) iM_32 rfl ?_
    refine g_newO C iM_34 (hw _ (List.mem_of_getElem? (i := 5) rfl)) (hw _ (List.mem_of_getElem? (i := 6) rfl)) (hw _ (List.mem_of_getElem? (i := 7) rfl)) (by decide) (by decide) rfl rfl (fun h56 b56 g56 E56 A56 D56 => ?_)
    have ge56 : n0 ≤ b56 := Nat.le_trans Z0 (Nat.le_of_eq g56.symm)
    have fr56 : h0.size ≤ b56 := Nat.le_trans (Keep.refl h0 []).1 (Nat.le_of_eq g56.symm)
    have K56 := Keep.ext (Keep.refl h0 []) E56
    have Z56 : n0 ≤ h56.size := Nat.le_trans Z0 E56.1
    have F56_counts : Fld Z h56 b56 "com/example/bandweave/bandweave/cover/Splits" "counts" "[I" .null := D56 (Or.inr (hw _ (List.mem_of_getElem? (i := 19) rfl))) (ty := (.array .int)) (by decide)
    refine g_dup C iM_37 rfl ?_
    refine g_iloadN C iM_38 rfl ?_
    refine g_iload C iM_39 rfl ?_
    refine g_callI C (rmI l Z aZ hw b56 ((1 : Int32) + ((p0 &&& (2147483647 : Int32)) % (5 : Int32))) (vM_0 p0 p1 p2) .null h56 n0 Z56 ⟨(own_w5 p0).1, (own_w5 p0).2, own_o p0 p1 p2⟩ A56 F56_counts ge56) (a := b56) iM_41 rfl (hw _ (List.mem_of_getElem? (i := 8) rfl)) (hw _ (List.mem_of_getElem? (i := 9) rfl)) (hw _ (List.mem_of_getElem? (i := 7) rfl)) (hw _ (List.mem_of_getElem? (i := 10) rfl)) rfl (by decide) (argsL := [(.int ((1 : Int32) + ((p0 &&& (2147483647 : Int32)) % (5 : Int32)))), (.int (vM_0 p0 p1 p2))]) (rest := [(.ref b56)]) rfl rfl pd7 rfl rfl 1 (Nat.le_of_eq rfl) (by decide) (by decide) (by decide) (by decide) rfl rfl ?_
    rintro _ h57 ⟨r57_fb0, rfl, ⟨ge57_fb0, fh57_fb0⟩, KC57, P57_0, P57_1, P57_2⟩
    refine Go.none' ?_
    have ne_b56_r57_fb0 : b56 ≠ r57_fb0 := Nat.ne_of_lt (Nat.lt_of_lt_of_le A56.lt fh57_fb0)
    have fr57_fb0 : h0.size ≤ r57_fb0 := Nat.le_trans K56.1 fh57_fb0
    have E_b56_cC57 := Exa.keep A56 KC57
    have K57 := Keep.trans K56 KC57 (allS (Or.inr fr56) all0)
    have Z57 : n0 ≤ h57.size := Nat.le_trans Z56 KC57.1
    refine g_astore C (Ls' := #[.val (.int p0), .val (.int p1), .val (.int p2), .val (.int ((1 : Int32) + ((p0 &&& (2147483647 : Int32)) % (5 : Int32)))), .val (.int (vM_0 p0 p1 p2)), .val (.ref b56), .unset, .unset, .unset, .unset, .unset, .unset, .unset, .unset, .unset, .unset, .unset, .unset, .unset, .unset, .unset, .unset, .unset, .unset, .unset, .unset, .unset, .unset, .unset, .unset, .unset, .unset, .unset, .unset, .unset, .unset, .unset, .unset, .unset, .unset, .unset]) iM_44 rfl rfl ?_
    refine g_aload C iM_46 rfl rfl ?_
    refine g_callV C (rmU l Z aZ hw b56 r57_fb0 h57 n0 Z57 P57_2) (a := b56) iM_48 (hw _ (List.mem_of_getElem? (i := 20) rfl)) (hw _ (List.mem_of_getElem? (i := 21) rfl)) (fun s hZ => notFace_of_selects (args := #[]) (mvT hZ (hw _ (List.mem_of_getElem? (i := 23) rfl)))) (hw _ (List.mem_of_getElem? (i := 23) rfl)) (hw _ (List.mem_of_getElem? (i := 22) rfl)) (hw _ (List.mem_of_getElem? (i := 7) rfl)) (hw _ (List.mem_of_getElem? (i := 24) rfl)) (by decide) P57_1 (argsL := []) (rest := []) rfl rfl pd8 rfl rfl 0 (Nat.le_of_eq rfl) (by decide) (by decide) (by decide) (by decide) rfl rfl ?_
    rintro _ _ ⟨rfl, he58⟩
    refine Go.heap he58.symm ?_
    refine Go.some' ?_
    refine g_astore C (Ls' := #[.val (.int p0), .val (.int p1), .val (.int p2), .val (.int ((1 : Int32) + ((p0 &&& (2147483647 : Int32)) % (5 : Int32)))), .val (.int (vM_0 p0 p1 p2)), .val (.ref b56), .val (.ref r57_fb0), .unset, .unset, .unset, .unset, .unset, .unset, .unset, .unset, .unset, .unset, .unset, .unset, .unset, .unset, .unset, .unset, .unset, .unset, .unset, .unset, .unset, .unset, .unset, .unset, .unset, .unset, .unset, .unset, .unset, .unset, .unset, .unset, .unset, .unset]) iM_51 rfl rfl ?_
    refine g_iload C iM_53 rfl ?_
    refine g_iloadN C iM_55 rfl ?_
    refine g_callS C (rmY l Z aZ hw (vM_0 p0 p1 p2) ((1 : Int32) + ((p0 &&& (2147483647 : Int32)) % (5 : Int32))) h57 n0 Z57) iM_56 (hw _ (List.mem_of_getElem? (i := 25) rfl)) (hw _ (List.mem_of_getElem? (i := 15) rfl)) (hw _ (List.mem_of_getElem? (i := 3) rfl)) (hw _ (List.mem_of_getElem? (i := 16) rfl)) (by decide) (argsL := [(.int (vM_0 p0 p1 p2)), (.int ((1 : Int32) + ((p0 &&& (2147483647 : Int32)) % (5 : Int32))))]) (rest := []) rfl rfl pd0 rfl rfl 0 (Nat.le_of_eq rfl) (by decide) (by decide) (by decide) (by decide) rfl rfl ?_
    rintro _ _ ⟨rfl, he59⟩
    refine Go.heap he59.symm ?_
    refine Go.some' ?_
    refine g_istore C (Ls' := #[.val (.int p0), .val (.int p1), .val (.int p2), .val (.int ((1 : Int32) + ((p0 &&& (2147483647 : Int32)) % (5 : Int32)))), .val (.int (vM_0 p0 p1 p2)), .val (.ref b56), .val (.ref r57_fb0), .val (.int (vY_0 (vM_0 p0 p1 p2) ((1 : Int32) + ((p0 &&& (2147483647 : Int32)) % (5 : Int32))))), .unset, .unset, .unset, .unset, .unset, .unset, .unset, .unset, .unset, .unset, .unset, .unset, .unset, .unset, .unset, .unset, .unset, .unset, .unset, .unset, .unset, .unset, .unset, .unset, .unset, .unset, .unset, .unset, .unset, .unset, .unset, .unset, .unset]) iM_59 rfl ?_
    have hyv := own_yv (vM_0 p0 p1 p2) ((1 : Int32) + ((p0 &&& (2147483647 : Int32)) % (5 : Int32)))
    have hw5 := own_w5 p0
    have ho := own_o p0 p1 p2
    exact segZ l Z aZ hw p0 p1 p2 ((1 : Int32) + ((p0 &&& (2147483647 : Int32)) % (5 : Int32))) (vM_0 p0 p1 p2) (vY_0 (vM_0 p0 p1 p2) ((1 : Int32) + ((p0 &&& (2147483647 : Int32)) % (5 : Int32)))) b56 r57_fb0 h57 n0 Z57 ⟨hw5.1, hw5.2, by omega, by omega⟩ P57_1 P57_2 P57_0 ge57_fb0 ne_b56_r57_fb0 C
  · refine g_if_eq C iM_12 (fun hc12_1 => ?_) (fun hc12_1 => ?_)
    · refine g_iconst C (1 : Int32) iM_24 rfl ?_
      refine g_iloadN C iM_25 rfl ?_
      refine g_ldcInt C iM_26 (hw _ (List.mem_of_getElem? (i := 0) rfl)) ?_
      refine g_iand C iM_28 ?_
      refine g_callS C (rmX l Z aZ hw (1 : Int32) (p1 &&& (2147483647 : Int32)) h0 n0 Z0) iM_29 (hw _ (List.mem_of_getElem? (i := 1) rfl)) (hw _ (List.mem_of_getElem? (i := 2) rfl)) (hw _ (List.mem_of_getElem? (i := 3) rfl)) (hw _ (List.mem_of_getElem? (i := 4) rfl)) (by decide) (argsL := [(.int (1 : Int32)), (.int (p1 &&& (2147483647 : Int32)))]) (rest := []) rfl rfl pd0 rfl rfl 0 (Nat.le_of_eq rfl) (by decide) (by decide) (by decide) (by decide) rfl rfl ?_
      rintro _ _ ⟨rfl, he55⟩
      refine Go.heap he55.symm ?_
      refine Go.some' ?_
      have e0 : (vM_0 p0 p1 p2) = (vX_0 (1 : Int32) (p1 &&& (2147483647 : Int32))) := by simp only [vM_0, if_pos hc12_1]
      exact Go.cast J (by rw [e0])
    · refine g_iconst C (1 : Int32) iM_15 rfl ?_
      refine g_iloadN C iM_16 rfl ?_
      refine g_bipush C (7 : Int32) iM_17 rfl ?_
      refine g_iand C iM_19 ?_
      refine g_iadd C iM_20 ?_
      refine g_goto C iM_21 ?_
      have e0 : (vM_0 p0 p1 p2) = ((1 : Int32) + (p1 &&& (7 : Int32))) := by simp only [vM_0, if_neg hc12_1]
      exact Go.cast J (by rw [e0])
set_option maxRecDepth 65536 in
set_option maxHeartbeats 40000000 in
theorem comes_1 {Post : Tables → Env → Array Value → State → Outcome → State → Prop} (hpost : ∀ tb e args s v u, (limb_1_1.after args s (.returned v) u = true ∧ limb_1_2.after args s (.returned v) u = true ∧ True) → FrameEnd s (.returned v) u (Jvm.fieldLocs frame_1_writes args s ++ Jvm.arrayLocs frame_1_arrays args s ++ Jvm.staticLocs frame_1_statics s) 16 128 → Post tb e args s (.returned v) u) :
    ArmFor flags0 classFile x code maxLocals ret World_1 tables_1 room_1 Calls_1 rest_1 Pre_1 Post := by
  intro l hfl _ _ p e ha hc hk s m args below hf hA hF happ hP
  obtain ⟨hcalls, hrest, hpre⟩ := hP
  obtain ⟨-, -, -, hnamed, -, -, -, hat⟩ := (Spec.applies_iff hf).mp happ
  obtain ⟨hg, hn⟩ := and_e (Cond.before_iff.mp (show (Jvm.Cond.and given_1 narrow_1).before args s = true from hpre))
  obtain ⟨gg1, gg2⟩ := and_e hg
  obtain ⟨gg3, gg4⟩ := and_e gg2
  obtain ⟨gg5, gg6⟩ := and_e gg4
  obtain ⟨w0, w1, w2, rfl⟩ : ∃ w0 w1 w2 : Value, args = #[w0, w1, w2] := by
    have hs : args.size = 3 := by simpa [Cond.value, given_1] using gg1
    obtain ⟨L⟩ := args
    match L, hs with
    | [w0, w1, w2], _ => exact ⟨w0, w1, w2, rfl⟩
  have hw := fun d (hd : d ∈ tables_1) => atoms_spec (ws := Jvm.Cond.code x code maxLocals ret :: tables_1) hat d (List.mem_cons_of_mem _ hd)
  have hfit : Fit s := fun {y c} hc i hi => by
    obtain ⟨ha, rfl⟩ := Array.getElem?_eq_some_iff.mp hc
    have q := List.all_eq_true.mp ((Array.all_eq_true_iff_forall_mem.mp hF) _ (Array.getElem_mem ha)) i (List.mem_range.mpr hi)
    simpa [Array.getElem?_eq_getElem hi] using q
  obtain ⟨i0, ei0⟩ := is_v gg3
  obtain rfl : w0 = (.int i0) := Option.some.inj ei0
  obtain ⟨i1, ei1⟩ := is_v gg5
  obtain rfl : w1 = (.int i1) := Option.some.inj ei1
  obtain ⟨i2, ei2⟩ := is_v gg6
  obtain rfl : w2 = (.int i2) := Option.some.inj ei2
  obtain ⟨n, o, h1, h2, h3, _, L, rfl, ⟨rfl, N⟩, hq⟩ := rmM l s _ hw i0 i1 i2 s.heap s.heap.size (Nat.le_refl _) tables_1 p e ha hc hk s m _ below hf ((Spec.applies_iff_loose hf).mp happ).1 ⟨rfl, State.Warmed39.refl s, rfl⟩ trivial
  refine ⟨n, _, h1, h2, h3, hpost _ _ _ _ _ _ ⟨Cond.after_iff.mpr rfl, Cond.after_iff.mpr (eq_i res_at (Term.int_eval (1)) rfl), trivial⟩ ⟨hq.1, hq.2.1, (hq.2.2.sift fun y hy => Or.inr (N y hy)).mono (by decide) (by decide)⟩⟩
theorem main_1_1 : Claimed_1_1 := comes_1 fun _ _ _ _ _ _ h hF => ⟨h.1, hF⟩
theorem main_1_2 : Claimed_1_2 := comes_1 fun _ _ _ _ _ _ h hF => ⟨h.2.1, hF⟩
end Jvm.Pilot.@@N@@
namespace Jvm.Pilot.@@N@@
open Jvm Jvm.ClassFile Sem Op Lib Jvm.Free Jvm.Stand Jvm.Pilot.@@N@@.Jvm.D
/-! MADE BY PROGRAM (witnessworld.py) out of the Statement's table words and the real class files: 10 classes; the members and pool entries that the words name. The judged class is class 1, her method 1. -/
namespace start1
open Jvm.ClassFile
def u (s : String) : CpInfo := .utf8 (stringToUtf16 s)
/-- a pool by its gaps: so many unusable entries, then the entry; so many at the end -/
def gap : Nat → List CpInfo → List CpInfo
  | 0, r => r
  | n + 1, r => .unusable :: gap n r
def poolList (es : List (Nat × CpInfo)) (last : Nat) : List CpInfo := es.foldr (fun e r => gap e.1 (e.2 :: r)) (gap last [])
def pool (es : List (Nat × CpInfo)) (last : Nat) : Array CpInfo := ⟨poolList es last⟩
def fileOf (pool : Array CpInfo) (this : Nat) (attrs : Array Attribute := #[]) (ms : Array MethodInfo := #[]) (fl : Nat := 33) (sup : Nat := 0) (ifs : Array Nat := #[]) (fds : Array FieldInfo := #[]) : ClassFile where
  minorVersion := 0
  majorVersion := 65
  constantPool := pool
  accessFlags := fl
  thisClass := this
  superClass := sup
  interfaces := ifs
  fields := fds
  methods := ms
  attributes := attrs
def plain (name : String) (sup : Option ClassId) : Class where
  name := name
  kind := .ordinary
  loader := none
  accessFlags := 33
  super := sup
  interfaces := #[]
  cf := none
  fields := #[]
  methods := #[]
  instanceTypes := #[]
  staticTypes := #[]
  resolved := #[]
  callSites := []
  init := .initialized
  statics := none
  mirror := none

def pool0 : Array CpInfo := pool [(5, u "<init>"), (0, u "()V"), (1, .class_ 10), (1, u "java/lang/Object")] 113

def k0c0 : Code := { maxStack := 0, maxLocals := 1, code := object_method_1_code, exceptionTable := #[], attributes := #[] }
def k0m0 : Method := { name := "<init>", desc := "()V", sig := { parameters := [], returnType := none }, accessFlags := 1, code := some k0c0 }
/-- java/lang/Object -/
def k0 : Class := { plain "java/lang/Object" none with
  accessFlags := 33
  interfaces := #[]
  cf := some (fileOf pool0 8 #[] #[{ accessFlags := 1, nameIndex := 5, descriptorIndex := 6, attributes := #[] }] 33 0 #[] #[])
  fields := #[]
  methods := #[k0m0]
  instanceTypes := #[]
  staticTypes := #[]
  resolved := Array.replicate 124 none
  statics := none }

def pool1 : Array CpInfo := pool [(2, .class_ 4), (1, u "java/lang/Object"), (0, u "<init>"), (0, u "()V"), (0, .integer 2147483647), (0, .methodref 9 10), (0, .class_ 11), (0, .nameAndType 12 13), (0, u "java/lang/Math"), (0, u "max"), (0, u "(II)I"), (0, .class_ 15), (0, u "com/example/bandweave/bandweave/cover/Splits"), (0, .methodref 14 17), (0, .nameAndType 5 18), (0, u "(II)V"), (0, .methodref 14 20), (0, .nameAndType 21 22), (0, u "current"), (0, u "()[I"), (0, .methodref 9 24), (0, .nameAndType 25 13), (0, u "min"), (0, .methodref 27 28), (0, .class_ 29), (0, .nameAndType 30 31), (0, u "com/example/bandweave/bandweave/cover/SplitsAdvancePinLaw"), (0, u "key"), (0, u "([I)J"), (0, .methodref 27 33), (0, .nameAndType 34 35), (0, u "valid"), (0, u "([II)Z"), (0, .methodref 14 37), (0, .nameAndType 38 39), (0, u "advance"), (0, u "()Z"), (0, .methodref 27 41), (0, .nameAndType 42 13), (0, u "expected"), (0, .methodref 27 44), (0, .nameAndType 45 46), (0, u "step"), (0, u "(ZJJZ)Z"), (0, .methodref 27 48), (0, .nameAndType 49 50), (0, u "get"), (0, u "([II)I"), (0, .long 4096), (1, .long 4608), (1, .long 4672), (1, .long 4680), (1, .long 4681), (1, .methodref 27 62), (0, .nameAndType 63 64), (0, u "f"), (0, u "(I)J"), (2, u "law"), (0, u "(III)Z")] 5

def k1m0 : Method := { name := "<init>", desc := "()V", sig := { parameters := [], returnType := none }, accessFlags := 1, code := none }
def k1c1 : Code := { maxStack := 8, maxLocals := 41, code := code, exceptionTable := #[], attributes := #[] }
def k1m1 : Method := { name := "law", desc := "(III)Z", sig := { parameters := [.int, .int, .int], returnType := some .boolean }, accessFlags := 9, code := some k1c1 }
def k1c2 : Code := { maxStack := 4, maxLocals := 6, code := method_3_code, exceptionTable := #[], attributes := #[] }
def k1m2 : Method := { name := "step", desc := "(ZJJZ)Z", sig := { parameters := [.boolean, .long, .long, .boolean], returnType := some .boolean }, accessFlags := 10, code := some k1c2 }
def k1c3 : Code := { maxStack := 2, maxLocals := 2, code := method_4_code, exceptionTable := #[], attributes := #[] }
def k1m3 : Method := { name := "get", desc := "([II)I", sig := { parameters := [(.array .int), .int], returnType := some .int }, accessFlags := 10, code := some k1c3 }
def k1c4 : Code := { maxStack := 2, maxLocals := 7, code := method_5_code, exceptionTable := #[], attributes := #[] }
def k1m4 : Method := { name := "valid", desc := "([II)Z", sig := { parameters := [(.array .int), .int], returnType := some .boolean }, accessFlags := 10, code := some k1c4 }
def k1c5 : Code := { maxStack := 2, maxLocals := 1, code := method_6_code, exceptionTable := #[], attributes := #[] }
def k1m5 : Method := { name := "f", desc := "(I)J", sig := { parameters := [.int], returnType := some .long }, accessFlags := 10, code := some k1c5 }
def k1c6 : Code := { maxStack := 4, maxLocals := 1, code := method_7_code, exceptionTable := #[], attributes := #[] }
def k1m6 : Method := { name := "key", desc := "([I)J", sig := { parameters := [(.array .int)], returnType := some .long }, accessFlags := 10, code := some k1c6 }
def k1c7 : Code := { maxStack := 2, maxLocals := 2, code := method_8_code, exceptionTable := #[], attributes := #[] }
def k1m7 : Method := { name := "expected", desc := "(II)I", sig := { parameters := [.int, .int], returnType := some .int }, accessFlags := 10, code := some k1c7 }
/-- com/example/bandweave/bandweave/cover/SplitsAdvancePinLaw -/
def k1 : Class := { plain "com/example/bandweave/bandweave/cover/SplitsAdvancePinLaw" (some 0) with
  accessFlags := 49
  interfaces := #[]
  cf := some (fileOf pool1 27 #[] #[{ accessFlags := 1, nameIndex := 5, descriptorIndex := 6, attributes := #[] }, { accessFlags := 9, nameIndex := 67, descriptorIndex := 68, attributes := #[] }, { accessFlags := 10, nameIndex := 45, descriptorIndex := 46, attributes := #[] }, { accessFlags := 10, nameIndex := 49, descriptorIndex := 50, attributes := #[] }, { accessFlags := 10, nameIndex := 34, descriptorIndex := 35, attributes := #[] }, { accessFlags := 10, nameIndex := 63, descriptorIndex := 64, attributes := #[] }, { accessFlags := 10, nameIndex := 30, descriptorIndex := 31, attributes := #[] }, { accessFlags := 10, nameIndex := 42, descriptorIndex := 13, attributes := #[] }] 49 2 #[] #[])
  fields := #[]
  methods := #[k1m0, k1m1, k1m2, k1m3, k1m4, k1m5, k1m6, k1m7]
  instanceTypes := #[]
  staticTypes := #[]
  resolved := Array.replicate 74 none
  statics := none }

def pool2 : Array CpInfo := pool [(1, .class_ 2), (0, u "java/lang/Math"), (1, .class_ 6), (1, u "java/lang/Object"), (0, u "<init>"), (0, u "()V"), (89, .class_ 100), (1, u "java/lang/Math$RandomNumberGeneratorHolder"), (71, u "negativeZeroFloatBits"), (0, u "J"), (2, u "negativeZeroDoubleBits"), (21, u "max"), (2, u "min"), (43, u "$assertionsDisabled"), (0, u "Z"), (88, u "(II)I"), (2, u "twoToTheDoubleScaleDown"), (0, u "D"), (4, u "twoToTheDoubleScaleUp"), (9, u "E"), (3, u "PI"), (2, u "TAU"), (2, u "DEGREES_TO_RADIANS"), (0, u "RADIANS_TO_DEGREES")] 94

def k2m0 : Method := { name := "<init>", desc := "()V", sig := { parameters := [], returnType := none }, accessFlags := 2, code := none }
def k2c1 : Code := { maxStack := 2, maxLocals := 2, code := jdk_29_method_65_code, exceptionTable := #[], attributes := #[] }
def k2m1 : Method := { name := "max", desc := "(II)I", sig := { parameters := [.int, .int], returnType := some .int }, accessFlags := 9, code := some k2c1 }
def k2c2 : Code := { maxStack := 2, maxLocals := 2, code := jdk_29_method_69_code, exceptionTable := #[], attributes := #[] }
def k2m2 : Method := { name := "min", desc := "(II)I", sig := { parameters := [.int, .int], returnType := some .int }, accessFlags := 9, code := some k2c2 }
/-- java/lang/Math -/
def k2 : Class := { plain "java/lang/Math" (some 0) with
  accessFlags := 49
  interfaces := #[]
  cf := some (fileOf pool2 1 #[.nestMembers #[98]] #[{ accessFlags := 2, nameIndex := 7, descriptorIndex := 8, attributes := #[] }, { accessFlags := 9, nameIndex := 198, descriptorIndex := 335, attributes := #[] }, { accessFlags := 9, nameIndex := 201, descriptorIndex := 335, attributes := #[] }] 49 4 #[] #[{ accessFlags := 25, nameIndex := 354, descriptorIndex := 339, attributes := #[] }, { accessFlags := 25, nameIndex := 358, descriptorIndex := 339, attributes := #[] }, { accessFlags := 25, nameIndex := 361, descriptorIndex := 339, attributes := #[] }, { accessFlags := 26, nameIndex := 364, descriptorIndex := 339, attributes := #[] }, { accessFlags := 26, nameIndex := 365, descriptorIndex := 339, attributes := #[] }, { accessFlags := 26, nameIndex := 172, descriptorIndex := 173, attributes := #[] }, { accessFlags := 26, nameIndex := 176, descriptorIndex := 173, attributes := #[] }, { accessFlags := 8, nameIndex := 344, descriptorIndex := 339, attributes := #[] }, { accessFlags := 8, nameIndex := 338, descriptorIndex := 339, attributes := #[] }, { accessFlags := 4120, nameIndex := 245, descriptorIndex := 246, attributes := #[] }])
  fields := #[{ name := "E", type := .double, accessFlags := 25, slot := 0, constantValue := 0 }, { name := "PI", type := .double, accessFlags := 25, slot := 1, constantValue := 0 }, { name := "TAU", type := .double, accessFlags := 25, slot := 2, constantValue := 0 }, { name := "DEGREES_TO_RADIANS", type := .double, accessFlags := 26, slot := 3, constantValue := 0 }, { name := "RADIANS_TO_DEGREES", type := .double, accessFlags := 26, slot := 4, constantValue := 0 }, { name := "negativeZeroFloatBits", type := .long, accessFlags := 26, slot := 5, constantValue := 0 }, { name := "negativeZeroDoubleBits", type := .long, accessFlags := 26, slot := 6, constantValue := 0 }, { name := "twoToTheDoubleScaleUp", type := .double, accessFlags := 8, slot := 7, constantValue := 0 }, { name := "twoToTheDoubleScaleDown", type := .double, accessFlags := 8, slot := 8, constantValue := 0 }, { name := "$assertionsDisabled", type := .boolean, accessFlags := 4120, slot := 9, constantValue := 0 }]
  methods := #[k2m0, k2m1, k2m2]
  instanceTypes := #[]
  staticTypes := #[.double, .double, .double, .double, .double, .long, .long, .double, .double, .boolean]
  resolved := Array.replicate 460 none
  statics := none }

def pool3 : Array CpInfo := pool [(1, .methodref 2 3), (0, .class_ 4), (0, .nameAndType 5 6), (0, u "java/lang/Object"), (0, u "<init>"), (0, u "()V"), (9, .methodref 17 18), (0, .class_ 19), (0, .nameAndType 20 21), (0, u "java/lang/Math"), (0, u "min"), (0, u "(II)I"), (0, .fieldref 23 24), (0, .class_ 25), (0, .nameAndType 26 27), (0, u "com/example/bandweave/bandweave/cover/Splits"), (0, u "counts"), (0, u "[I"), (17, u "(II)V"), (4, u "current"), (0, u "()[I"), (0, u "advance"), (0, u "()Z")] 23

def k3c0 : Code := { maxStack := 6, maxLocals := 4, code := prog_9_method_1_code, exceptionTable := #[], attributes := #[] }
def k3m0 : Method := { name := "<init>", desc := "(II)V", sig := { parameters := [.int, .int], returnType := none }, accessFlags := 1, code := some k3c0 }
def k3c1 : Code := { maxStack := 1, maxLocals := 1, code := prog_9_method_2_code, exceptionTable := #[], attributes := #[] }
def k3m1 : Method := { name := "current", desc := "()[I", sig := { parameters := [], returnType := some (.array .int) }, accessFlags := 1, code := some k3c1 }
def k3c2 : Code := { maxStack := 6, maxLocals := 5, code := prog_9_method_3_code, exceptionTable := #[], attributes := #[] }
def k3m2 : Method := { name := "advance", desc := "()Z", sig := { parameters := [], returnType := some .boolean }, accessFlags := 1, code := some k3c2 }
/-- com/example/bandweave/bandweave/cover/Splits -/
def k3 : Class := { plain "com/example/bandweave/bandweave/cover/Splits" (some 0) with
  accessFlags := 49
  interfaces := #[]
  cf := some (fileOf pool3 23 #[] #[{ accessFlags := 1, nameIndex := 5, descriptorIndex := 45, attributes := #[] }, { accessFlags := 1, nameIndex := 50, descriptorIndex := 51, attributes := #[] }, { accessFlags := 1, nameIndex := 52, descriptorIndex := 53, attributes := #[] }] 49 2 #[] #[{ accessFlags := 18, nameIndex := 26, descriptorIndex := 27, attributes := #[] }])
  fields := #[{ name := "counts", type := (.array .int), accessFlags := 18, slot := 0, constantValue := 0 }]
  methods := #[k3m0, k3m1, k3m2]
  instanceTypes := #[(.array .int)]
  staticTypes := #[]
  resolved := Array.replicate 77 none
  statics := none }

def pool4 : Array CpInfo := pool [(1, u "java/lang/Cloneable"), (0, .class_ 1), (0, u "java/lang/Object"), (0, .class_ 3)] 3

/-- java/lang/Cloneable -/
def k4 : Class := { plain "java/lang/Cloneable" (some 0) with
  accessFlags := 1537
  interfaces := #[]
  cf := some (fileOf pool4 2 #[] #[] 1537 4 #[] #[])
  fields := #[]
  methods := #[]
  instanceTypes := #[]
  staticTypes := #[]
  resolved := Array.replicate 8 none
  statics := none }

def pool5 : Array CpInfo := pool [(1, u "java/io/Serializable"), (0, .class_ 1), (0, u "java/lang/Object"), (0, .class_ 3)] 3

/-- java/io/Serializable -/
def k5 : Class := { plain "java/io/Serializable" (some 0) with
  accessFlags := 1537
  interfaces := #[]
  cf := some (fileOf pool5 2 #[] #[] 1537 4 #[] #[])
  fields := #[]
  methods := #[]
  instanceTypes := #[]
  staticTypes := #[]
  resolved := Array.replicate 8 none
  statics := none }

/-- the primitive byte -/
def k6 : Class := { plain "byte" none with kind := .primitive 'B', accessFlags := 0x411 }
/-- [B -/
def k7 : Class := { plain "[B" (some 0) with kind := .array 6 .byte, interfaces := #[4, 5], accessFlags := 1041 }

/-- the primitive int -/
def k8 : Class := { plain "int" none with kind := .primitive 'I', accessFlags := 0x411 }
/-- [I -/
def k9 : Class := { plain "[I" (some 0) with kind := .array 8 .int, interfaces := #[4, 5], accessFlags := 1041 }

def heap : Heap := #[]
def classes : Array Class := #[k0, k1, k2, k3, k4, k5, k6, k7, k8, k9]
def interned : List (Array UInt16 × Addr) := []
def slotsUsed : Nat := 0
def theMethod : MethodId := ⟨1, 1⟩
def args0 : Array Value := #[.int 5, .int 6, .int 7]
def aboutOver (below : List Frame) : State where
  vm := { classes := classes, interned := interned.toArray }
  heap := heap
  slotsUsed := slotsUsed
  threads := #[{ frames := .invoking theMethod args0 :: below }]
def below0 : List Frame := [.native { method := ⟨0, 0⟩, args := #[] }]
def about1 : State := aboutOver below0
def p0 : Program := .bare "" "" ""
def e0 : Env := launch0.env 0 0 0
theorem w_frames : about1.frames = Frame.invoking theMethod args0 :: below0 := rfl
set_option maxRecDepth 65536 in
theorem w_args : argsFit about1.vm theMethod args0 = true := by decide +kernel
set_option maxRecDepth 65536 in
theorem w_heap : heapFits about1 = true := by decide +kernel
set_option maxRecDepth 65536 in
theorem w_runnable : about1.curStatus? = some .runnable := by decide +kernel
set_option maxRecDepth 65536 in
theorem w_alone : about1.alone = true := by decide +kernel
set_option maxRecDepth 65536 in
theorem w_named : about1.methodNamed? x = some theMethod := by decide +kernel
set_option maxRecDepth 65536 in
theorem w_hears : about1.hears theMethod below0 = true := by decide +kernel
set_option maxRecDepth 65536 in
theorem w_ripe : about1.ripe theMethod args0 below0 = true := by decide +kernel
theorem w_running : about1.status = .running := rfl
set_option maxRecDepth 65536 in
theorem w_room : about1.hasRoom e0.platform room_1 = true :=
  launch0.hasRoom_least _ room_1 (by decide +kernel) (by decide +kernel) (by decide +kernel) (by decide +kernel) (by decide +kernel) (by decide +kernel)
theorem allAtoms_all (ts : List Jvm.Cond) (a : Array Jvm.Value) (st : Jvm.State) : (allAtoms ts).before a st = ts.all (fun c => c.before a st) := by
  induction ts with
  | nil => rfl
  | cons c t ih =>
    show (Jvm.Cond.and c (allAtoms t)).before a st = _
    rw [Jvm.Cond.before_and, ih, List.all_cons]
def words1 : List Jvm.Cond := Jvm.Cond.code x code maxLocals ret :: tables_1
/-- a 'code' word, met by the world's own term for the bytes: nothing is compared byte by byte -/
theorem code_word {y : MethodName} {bytes : ByteArray} {mx : Nat} {rt : Option FieldType} {a : Array Value} {s : State} {m : MethodId} {meth : Method} {c : Code} (h1 : s.methodNamed? y = some m) (h2 : s.vm.method? m = some meth) (h3 : meth.code = some c) (h4 : c.code = bytes)
    (h5 : (c.maxLocals == mx && c.exceptionTable.isEmpty && decide (c.maxStack ≤ mostOperands) && decide (meth.sig.returnType = rt) && !meth.locks && decide (parseMethodDescriptor y.desc = some meth.sig)) = true) : (Jvm.Cond.code y bytes mx rt).before a s = true := by
  simp only [Bool.and_eq_true, beq_iff_eq, Bool.not_eq_true', decide_eq_true_eq] at h5
  obtain ⟨⟨⟨⟨⟨g1, g2⟩, g3⟩, g4⟩, g5⟩, g6⟩ := h5
  simp [Cond.before, Cond.holds, Cond.value, h1, h2, h3, h4, g1, g2, g3, g4, g5, g6]
def isCode : Jvm.Cond → Bool
  | .code _ _ _ _ => true
  | _ => false
theorem all_split {L : List Jvm.Cond} {P : Jvm.Cond → Bool} (h1 : L.all (fun c => isCode c || P c) = true) (h2 : ∀ c ∈ L.filter isCode, P c = true) : L.all P = true := by
  refine List.all_eq_true.mpr fun c hc => ?_
  have h := List.all_eq_true.mp h1 c hc
  rcases Bool.eq_false_or_eq_true (isCode c) with hi | hi
  · exact h2 c (List.mem_filter.mpr ⟨hc, hi⟩)
  · simpa [hi] using h
set_option maxRecDepth 65536 in
theorem w_c0 : (Jvm.Cond.code x code maxLocals ret).before args0 about1 = true := code_word (m := ⟨1, 1⟩) (meth := k1m1) (c := k1c1) (by decide +kernel) rfl rfl rfl (by decide +kernel)
set_option maxRecDepth 65536 in
theorem w_c1 : (Jvm.Cond.code ({ cls := "java/lang/Math", name := "max", desc := "(II)I" } : Jvm.MethodName) jdk_29_method_65_code (2 : Nat) (Option.some Jvm.ClassFile.FieldType.int)).before args0 about1 = true := code_word (m := ⟨2, 1⟩) (meth := k2m1) (c := k2c1) (by decide +kernel) rfl rfl rfl (by decide +kernel)
set_option maxRecDepth 65536 in
theorem w_c2 : (Jvm.Cond.code ({ cls := "com/example/bandweave/bandweave/cover/Splits", name := "<init>", desc := "(II)V" } : Jvm.MethodName) prog_9_method_1_code (4 : Nat) (Option.none : Option Jvm.ClassFile.FieldType)).before args0 about1 = true := code_word (m := ⟨3, 0⟩) (meth := k3m0) (c := k3c0) (by decide +kernel) rfl rfl rfl (by decide +kernel)
set_option maxRecDepth 65536 in
theorem w_c3 : (Jvm.Cond.code ({ cls := "java/lang/Object", name := "<init>", desc := "()V" } : Jvm.MethodName) object_method_1_code (1 : Nat) (Option.none : Option Jvm.ClassFile.FieldType)).before args0 about1 = true := code_word (m := ⟨0, 0⟩) (meth := k0m0) (c := k0c0) (by decide +kernel) rfl rfl rfl (by decide +kernel)
set_option maxRecDepth 65536 in
theorem w_c4 : (Jvm.Cond.code ({ cls := "java/lang/Math", name := "min", desc := "(II)I" } : Jvm.MethodName) jdk_29_method_69_code (2 : Nat) (Option.some Jvm.ClassFile.FieldType.int)).before args0 about1 = true := code_word (m := ⟨2, 2⟩) (meth := k2m2) (c := k2c2) (by decide +kernel) rfl rfl rfl (by decide +kernel)
set_option maxRecDepth 65536 in
theorem w_c5 : (Jvm.Cond.code ({ cls := "com/example/bandweave/bandweave/cover/Splits", name := "current", desc := "()[I" } : Jvm.MethodName) prog_9_method_2_code (1 : Nat) (Option.some (Jvm.ClassFile.FieldType.array Jvm.ClassFile.FieldType.int))).before args0 about1 = true := code_word (m := ⟨3, 1⟩) (meth := k3m1) (c := k3c1) (by decide +kernel) rfl rfl rfl (by decide +kernel)
set_option maxRecDepth 65536 in
theorem w_c6 : (Jvm.Cond.code ({ cls := "com/example/bandweave/bandweave/cover/SplitsAdvancePinLaw", name := "key", desc := "([I)J" } : Jvm.MethodName) method_7_code (1 : Nat) (Option.some Jvm.ClassFile.FieldType.long)).before args0 about1 = true := code_word (m := ⟨1, 6⟩) (meth := k1m6) (c := k1c6) (by decide +kernel) rfl rfl rfl (by decide +kernel)
set_option maxRecDepth 65536 in
theorem w_c7 : (Jvm.Cond.code ({ cls := "com/example/bandweave/bandweave/cover/SplitsAdvancePinLaw", name := "get", desc := "([II)I" } : Jvm.MethodName) method_4_code (2 : Nat) (Option.some Jvm.ClassFile.FieldType.int)).before args0 about1 = true := code_word (m := ⟨1, 3⟩) (meth := k1m3) (c := k1c3) (by decide +kernel) rfl rfl rfl (by decide +kernel)
set_option maxRecDepth 65536 in
theorem w_c8 : (Jvm.Cond.code ({ cls := "com/example/bandweave/bandweave/cover/SplitsAdvancePinLaw", name := "f", desc := "(I)J" } : Jvm.MethodName) method_6_code (1 : Nat) (Option.some Jvm.ClassFile.FieldType.long)).before args0 about1 = true := code_word (m := ⟨1, 5⟩) (meth := k1m5) (c := k1c5) (by decide +kernel) rfl rfl rfl (by decide +kernel)
set_option maxRecDepth 65536 in
theorem w_c9 : (Jvm.Cond.code ({ cls := "com/example/bandweave/bandweave/cover/SplitsAdvancePinLaw", name := "valid", desc := "([II)Z" } : Jvm.MethodName) method_5_code (7 : Nat) (Option.some Jvm.ClassFile.FieldType.boolean)).before args0 about1 = true := code_word (m := ⟨1, 4⟩) (meth := k1m4) (c := k1c4) (by decide +kernel) rfl rfl rfl (by decide +kernel)
set_option maxRecDepth 65536 in
theorem w_c10 : (Jvm.Cond.code ({ cls := "com/example/bandweave/bandweave/cover/Splits", name := "advance", desc := "()Z" } : Jvm.MethodName) prog_9_method_3_code (5 : Nat) (Option.some Jvm.ClassFile.FieldType.boolean)).before args0 about1 = true := code_word (m := ⟨3, 2⟩) (meth := k3m2) (c := k3c2) (by decide +kernel) rfl rfl rfl (by decide +kernel)
set_option maxRecDepth 65536 in
theorem w_c11 : (Jvm.Cond.code ({ cls := "com/example/bandweave/bandweave/cover/SplitsAdvancePinLaw", name := "expected", desc := "(II)I" } : Jvm.MethodName) method_8_code (2 : Nat) (Option.some Jvm.ClassFile.FieldType.int)).before args0 about1 = true := code_word (m := ⟨1, 7⟩) (meth := k1m7) (c := k1c7) (by decide +kernel) rfl rfl rfl (by decide +kernel)
set_option maxRecDepth 65536 in
theorem w_c12 : (Jvm.Cond.code ({ cls := "com/example/bandweave/bandweave/cover/SplitsAdvancePinLaw", name := "step", desc := "(ZJJZ)Z" } : Jvm.MethodName) method_3_code (6 : Nat) (Option.some Jvm.ClassFile.FieldType.boolean)).before args0 about1 = true := code_word (m := ⟨1, 2⟩) (meth := k1m2) (c := k1c2) (by decide +kernel) rfl rfl rfl (by decide +kernel)
def codes1 : List Jvm.Cond := [Jvm.Cond.code x code maxLocals ret, Jvm.Cond.code ({ cls := "java/lang/Math", name := "max", desc := "(II)I" } : Jvm.MethodName) jdk_29_method_65_code (2 : Nat) (Option.some Jvm.ClassFile.FieldType.int), Jvm.Cond.code ({ cls := "com/example/bandweave/bandweave/cover/Splits", name := "<init>", desc := "(II)V" } : Jvm.MethodName) prog_9_method_1_code (4 : Nat) (Option.none : Option Jvm.ClassFile.FieldType), Jvm.Cond.code ({ cls := "java/lang/Object", name := "<init>", desc := "()V" } : Jvm.MethodName) object_method_1_code (1 : Nat) (Option.none : Option Jvm.ClassFile.FieldType), Jvm.Cond.code ({ cls := "java/lang/Math", name := "min", desc := "(II)I" } : Jvm.MethodName) jdk_29_method_69_code (2 : Nat) (Option.some Jvm.ClassFile.FieldType.int), Jvm.Cond.code ({ cls := "com/example/bandweave/bandweave/cover/Splits", name := "current", desc := "()[I" } : Jvm.MethodName) prog_9_method_2_code (1 : Nat) (Option.some (Jvm.ClassFile.FieldType.array Jvm.ClassFile.FieldType.int)), Jvm.Cond.code ({ cls := "com/example/bandweave/bandweave/cover/SplitsAdvancePinLaw", name := "key", desc := "([I)J" } : Jvm.MethodName) method_7_code (1 : Nat) (Option.some Jvm.ClassFile.FieldType.long), Jvm.Cond.code ({ cls := "com/example/bandweave/bandweave/cover/SplitsAdvancePinLaw", name := "get", desc := "([II)I" } : Jvm.MethodName) method_4_code (2 : Nat) (Option.some Jvm.ClassFile.FieldType.int), Jvm.Cond.code ({ cls := "com/example/bandweave/bandweave/cover/SplitsAdvancePinLaw", name := "f", desc := "(I)J" } : Jvm.MethodName) method_6_code (1 : Nat) (Option.some Jvm.ClassFile.FieldType.long), Jvm.Cond.code ({ cls := "com/example/bandweave/bandweave/cover/SplitsAdvancePinLaw", name := "valid", desc := "([II)Z" } : Jvm.MethodName) method_5_code (7 : Nat) (Option.some Jvm.ClassFile.FieldType.boolean), Jvm.Cond.code ({ cls := "com/example/bandweave/bandweave/cover/Splits", name := "advance", desc := "()Z" } : Jvm.MethodName) prog_9_method_3_code (5 : Nat) (Option.some Jvm.ClassFile.FieldType.boolean), Jvm.Cond.code ({ cls := "com/example/bandweave/bandweave/cover/SplitsAdvancePinLaw", name := "expected", desc := "(II)I" } : Jvm.MethodName) method_8_code (2 : Nat) (Option.some Jvm.ClassFile.FieldType.int), Jvm.Cond.code ({ cls := "com/example/bandweave/bandweave/cover/SplitsAdvancePinLaw", name := "step", desc := "(ZJJZ)Z" } : Jvm.MethodName) method_3_code (6 : Nat) (Option.some Jvm.ClassFile.FieldType.boolean)]
set_option maxRecDepth 65536 in
theorem codes_eq : words1.filter isCode = codes1 := rfl
theorem w_codes : ∀ c ∈ words1.filter isCode, c.before args0 about1 = true := by
  rw [codes_eq]
  intro c hc
  simp only [codes1, List.mem_cons, List.not_mem_nil, or_false] at hc
  rcases hc with rfl | rfl | rfl | rfl | rfl | rfl | rfl | rfl | rfl | rfl | rfl | rfl | rfl
  · exact w_c0
  · exact w_c1
  · exact w_c2
  · exact w_c3
  · exact w_c4
  · exact w_c5
  · exact w_c6
  · exact w_c7
  · exact w_c8
  · exact w_c9
  · exact w_c10
  · exact w_c11
  · exact w_c12
set_option maxRecDepth 65536 in
theorem w_t1 : (words1.take 24).all (fun c => isCode c || c.before args0 about1) = true := by decide +kernel
set_option maxRecDepth 65536 in
theorem w_t2 : ((words1.drop 24).take 24).all (fun c => isCode c || c.before args0 about1) = true := by decide +kernel
set_option maxRecDepth 65536 in
theorem w_t3 : ((words1.drop 24).drop 24).all (fun c => isCode c || c.before args0 about1) = true := by decide +kernel
theorem w_tables : (allAtoms (Jvm.Cond.code x code maxLocals ret :: tables_1)).before args0 about1 = true := by
  rw [allAtoms_all]
  show words1.all (fun c => c.before args0 about1) = true
  refine all_split ?_ w_codes
  rw [← List.take_append_drop 24 words1, List.all_append, w_t1, ← List.take_append_drop 24 (words1.drop 24), List.all_append, w_t2, w_t3]
  rfl
set_option maxRecDepth 65536 in
theorem w_case : (Jvm.Cond.and given_1 narrow_1).before args0 about1 = true := by decide +kernel
theorem w_applies : (headSpec (Jvm.Cond.code x code maxLocals ret :: tables_1) room_1).applies x e0.platform about1 = true :=
  (Spec.applies_iff w_frames).mpr ⟨w_running, w_runnable, w_alone, w_named, w_hears, w_ripe, w_room, w_tables⟩
theorem atStart : AtStart classFile x code maxLocals ret World_1 tables_1 room_1 Calls_1 rest_1 Pre_1 launch0 p0 e0 about1 theMethod args0 below0 :=
  ⟨lists_1, trivial, launch0.admits_env _ _ _, launch0.least_env, fairChoices_fair.cas, fairChoices_fair.clock, w_frames, w_args, w_heap, w_applies, trivial, trivial, w_case⟩
end start1
theorem witness_1 : WitnessClaimed_1 := ⟨start1.p0, start1.e0, start1.about1, start1.theMethod, start1.args0, start1.below0, start1.atStart⟩
end Jvm.Pilot.@@N@@
