import JvmDerived
import JvmDerived.Pilot.@@N@@Statement
import JvmDerived.Pilot.@@N@@Code
set_option linter.unusedVariables false
set_option linter.unusedSimpArgs false
namespace Jvm.OwnGo
open Sem ClassFile Op Lib Jvm.Stand Jvm.Free Jvm.LawKit Jvm.RoadKit
/-- one instruction: where it stands, what it is, its length, the next pc -/
def I1 (code : ByteArray) (pc : Nat) (i : Instr) (len pc' : Nat) : Prop := decode code pc = .ok (i, len) ∧ pc + len = pc'
/-- a branch: besides, where it leads -/
def B1 (code : ByteArray) (pc : Nat) (i : Instr) (o : Int) (pcT pcF : Nat) : Prop := decode code pc = .ok (i, 3) ∧ pc + 3 = pcF ∧ 0 ≤ (pc : Int) + o ∧ ((pc : Int) + o).toNat = pcT
/-- what is fixed while a body runs -/
def Cx (p : Program) (s : State) (m : MethodId) (meth : Method) (c : Code) (Z : State) (code : ByteArray) (maxL : Nat) (own : String) (ret : Option FieldType) : Prop :=
  p.tables.exec = Jvm.exec ∧ c.code = code ∧ c.maxLocals = maxL ∧ Z.Warmed39 s.vm ∧ s.vm.findClass own = some m.cls ∧ meth.sig.returnType = ret ∧ meth.locks = false
/-- from the frame g, over every state that stands there with the heap h, the body ends, and ends in Q -/
def Go (p : Program) (l : Launch) (e : Env) (R : Room) (s : State) (m : MethodId) (args : Array Value) (below : List Frame) (meth : Method) (c : Code) (n0 K N : Nat) (Q : Option Value → Heap → Prop) (h : Heap) (ck cn : Nat) (g : JFrame) : Prop :=
  ∀ (T : State) (locs : List Loc), Stand p l e R s m args below meth c T locs ck cn → T.heap = h → Fr n0 locs →
    ∃ s₂ o, Steps p.tables e below (T.setTop g) s₂ ∧ s₂.status = .running ∧ Ended s₂ below o ∧ ∃ v L, o = .returned v ∧ (Q v s₂.heap ∧ Fr n0 L) ∧ FrameEnd s o s₂ L K N
/-- a body's contract: from these arguments over this heap it returns as Q says, and writes nothing below n0 -/
def Ctr (l : Launch) (Z : State) (y : MethodName) (code : ByteArray) (maxL : Nat) (ret : Option FieldType) (rm : Room) (as' : Array Value) (h0 : Heap) (n0 : Nat) (Q : Option Value → Heap → Prop) : Prop :=
  ∀ ws : List Cond, MetFree l y (head1 (Cond.code y code maxL ret :: ws) rm) (fun a U => a = as' ∧ Z.Warmed39 U.vm ∧ U.heap = h0) (fun _ _ _ _ _ => True)
    (fun _ U o U' => ∃ v L, o = .returned v ∧ (Q v U'.heap ∧ Fr n0 L) ∧ FrameEnd U o U' L rm.cells rm.slots)
section
variable {p : Program} {l : Launch} {e : Env} {R : Room} {s : State} {m : MethodId} {args : Array Value} {below : List Frame} {meth : Method} {c : Code} {n0 K N : Nat} {Q : Option Value → Heap → Prop} {h : Heap} {ck cn : Nat} {Z : State} {a0 : Array Value} {code : ByteArray} {maxL : Nat} {own : String} {ret : Option FieldType}
theorem Ctr.of_go {y : MethodName} {rm : Room} {as' : Array Value} {h0 : Heap} {Ls : Array Slot} (hpl : plainFor y = true) (hef : ∀ m, entryFrame m as' maxL = mkF m 0 Ls [])
    (hgo : ∀ p e s m below meth c, meth.name = y.name → Cx p s m meth c Z code maxL y.cls ret → Go p l e rm s m as' below meth c n0 rm.cells rm.slots Q h0 0 0 (mkF m 0 Ls [])) : Ctr l Z y code maxL ret rm as' h0 n0 Q := fun ws => by
  refine MetFree.of_bodySF hpl hisR ?_
  intro p e s m args below meth c s₁ Bd hml0 hP hK
  obtain ⟨rfl, hZ, hh⟩ := hP
  have X0 : Stand p l e rm s m args below meth c s₁ [] 0 0 := Stand.of_body Bd
  have e0 : s₁.heap = h0 := by rw [← hh, Bd.state]; rfl
  obtain ⟨s₂, o, g1, g2, g3, v, L, g4, g5, g6⟩ := hgo p e s m below meth c (name_of_methodNamed Bd.named Bd.method).1 ⟨Bd.exec, Bd.bytes, hml0, hZ, findClass_of_methodNamed Bd.named, Bd.returns, Bd.notSynchronized⟩ s₁ [] X0 e0 (Fr.nil n0)
  exact ⟨s₂, o, castTop (hef m) g1, g2, g3, v, L, g4, g5, g6⟩
theorem Go.step {g g' : JFrame} (st : ∀ (T : State) (locs : List Loc), Stand p l e R s m args below meth c T locs ck cn → T.heap = h → ∀ target, Steps p.tables e below (T.setTop g') target → Steps p.tables e below (T.setTop g) target)
    (k : Go p l e R s m args below meth c n0 K N Q h ck cn g') : Go p l e R s m args below meth c n0 K N Q h ck cn g := fun T locs X eT hN => by
  obtain ⟨s₂, o, h1, r⟩ := k T locs X eT hN
  exact ⟨s₂, o, st T locs X eT _ h1, r⟩
/-- a step that moves the state: heap, counts -/
theorem Go.move {g g' : JFrame} {h' : Heap} {ck' cn' : Nat} {T : State} {locs : List Loc} (hN : Fr n0 locs) {T' : State} {locs' : List Loc} (X' : Stand p l e R s m args below meth c T' locs' ck' cn') (e' : T'.heap = h') (hN' : Fr n0 locs')
    (st : ∀ target, Steps p.tables e below (T'.setTop g') target → Steps p.tables e below (T.setTop g) target) (k : Go p l e R s m args below meth c n0 K N Q h' ck' cn' g') :
    ∃ s₂ o, Steps p.tables e below (T.setTop g) s₂ ∧ s₂.status = .running ∧ Ended s₂ below o ∧ ∃ v L, o = .returned v ∧ (Q v s₂.heap ∧ Fr n0 L) ∧ FrameEnd s o s₂ L K N := by
  obtain ⟨s₂, o, h1, r⟩ := k T' locs' X' e' hN'
  exact ⟨s₂, o, st _ h1, r⟩
theorem Go.join {g : JFrame} (g' : JFrame) (J : Go p l e R s m args below meth c n0 K N Q h ck cn g') (k : Go p l e R s m args below meth c n0 K N Q h ck cn g' → Go p l e R s m args below meth c n0 K N Q h ck cn g) : Go p l e R s m args below meth c n0 K N Q h ck cn g := k J
theorem Go.cast {g g' : JFrame} (k : Go p l e R s m args below meth c n0 K N Q h ck cn g') (q : g = g') : Go p l e R s m args below meth c n0 K N Q h ck cn g := q ▸ k
theorem Go.more {g : JFrame} {ck' cn' : Nat} (hc : ck ≤ ck') (hs : cn ≤ cn') (k : Go p l e R s m args below meth c n0 K N Q h ck' cn' g) : Go p l e R s m args below meth c n0 K N Q h ck cn g := fun T locs X eT hN => k T locs (X.more hc hs) eT hN
theorem Go.heap {g : JFrame} {h' : Heap} (q : h' = h) (k : Go p l e R s m args below meth c n0 K N Q h' ck cn g) : Go p l e R s m args below meth c n0 K N Q h ck cn g := q ▸ k
theorem Go.some' {v : Value} {pc : Nat} {Ls : Array Slot} {st : List Value} (k : Go p l e R s m args below meth c n0 K N Q h ck cn (mkF m pc Ls (v :: st))) : Go p l e R s m args below meth c n0 K N Q h ck cn (mkF m pc Ls ((some v).toList ++ st)) := k
theorem Go.none' {pc : Nat} {Ls : Array Slot} {st : List Value} (k : Go p l e R s m args below meth c n0 K N Q h ck cn (mkF m pc Ls st)) : Go p l e R s m args below meth c n0 K N Q h ck cn (mkF m pc Ls ((none : Option Value).toList ++ st)) := k
theorem g_iadd (C : Cx p s m meth c Z code maxL own ret) {pc pc' : Nat} {Ls : Array Slot} {st : List Value} {x y : Int32} (hd : I1 code pc (.iadd) 1 pc') (k : Go p l e R s m args below meth c n0 K N Q h ck cn (mkF m pc' Ls (.int (x + y) :: st))) : Go p l e R s m args below meth c n0 K N Q h ck cn (mkF m pc Ls (.int y :: .int x :: st)) := by
  obtain ⟨hd, rfl⟩ := hd
  exact Go.step (fun T locs X _ t k => XS.iadd X.here C.1 rfl (hb C.2.1 hd) rfl k) k
theorem g_isub (C : Cx p s m meth c Z code maxL own ret) {pc pc' : Nat} {Ls : Array Slot} {st : List Value} {x y : Int32} (hd : I1 code pc (.isub) 1 pc') (k : Go p l e R s m args below meth c n0 K N Q h ck cn (mkF m pc' Ls (.int (x - y) :: st))) : Go p l e R s m args below meth c n0 K N Q h ck cn (mkF m pc Ls (.int y :: .int x :: st)) := by
  obtain ⟨hd, rfl⟩ := hd
  exact Go.step (fun T locs X _ t k => XS.isub X.here C.1 rfl (hb C.2.1 hd) rfl k) k
theorem g_imul (C : Cx p s m meth c Z code maxL own ret) {pc pc' : Nat} {Ls : Array Slot} {st : List Value} {x y : Int32} (hd : I1 code pc (.imul) 1 pc') (k : Go p l e R s m args below meth c n0 K N Q h ck cn (mkF m pc' Ls (.int (x * y) :: st))) : Go p l e R s m args below meth c n0 K N Q h ck cn (mkF m pc Ls (.int y :: .int x :: st)) := by
  obtain ⟨hd, rfl⟩ := hd
  exact Go.step (fun T locs X _ t k => XS.imul X.here C.1 rfl (hb C.2.1 hd) rfl k) k
theorem g_iand (C : Cx p s m meth c Z code maxL own ret) {pc pc' : Nat} {Ls : Array Slot} {st : List Value} {x y : Int32} (hd : I1 code pc (.iand) 1 pc') (k : Go p l e R s m args below meth c n0 K N Q h ck cn (mkF m pc' Ls (.int (x &&& y) :: st))) : Go p l e R s m args below meth c n0 K N Q h ck cn (mkF m pc Ls (.int y :: .int x :: st)) := by
  obtain ⟨hd, rfl⟩ := hd
  exact Go.step (fun T locs X _ t k => XS.iand X.here C.1 rfl (hb C.2.1 hd) rfl k) k
theorem g_ior (C : Cx p s m meth c Z code maxL own ret) {pc pc' : Nat} {Ls : Array Slot} {st : List Value} {x y : Int32} (hd : I1 code pc (.ior) 1 pc') (k : Go p l e R s m args below meth c n0 K N Q h ck cn (mkF m pc' Ls (.int (x ||| y) :: st))) : Go p l e R s m args below meth c n0 K N Q h ck cn (mkF m pc Ls (.int y :: .int x :: st)) := by
  obtain ⟨hd, rfl⟩ := hd
  exact Go.step (fun T locs X _ t k => XS.ior X.here C.1 rfl (hb C.2.1 hd) rfl k) k
theorem g_ixor (C : Cx p s m meth c Z code maxL own ret) {pc pc' : Nat} {Ls : Array Slot} {st : List Value} {x y : Int32} (hd : I1 code pc (.ixor) 1 pc') (k : Go p l e R s m args below meth c n0 K N Q h ck cn (mkF m pc' Ls (.int (x ^^^ y) :: st))) : Go p l e R s m args below meth c n0 K N Q h ck cn (mkF m pc Ls (.int y :: .int x :: st)) := by
  obtain ⟨hd, rfl⟩ := hd
  exact Go.step (fun T locs X _ t k => XS.ixor X.here C.1 rfl (hb C.2.1 hd) rfl k) k
theorem g_ishl (C : Cx p s m meth c Z code maxL own ret) {pc pc' : Nat} {Ls : Array Slot} {st : List Value} {x y : Int32} (hd : I1 code pc (.ishl) 1 pc') (k : Go p l e R s m args below meth c n0 K N Q h ck cn (mkF m pc' Ls (.int (x <<< (y &&& 31)) :: st))) : Go p l e R s m args below meth c n0 K N Q h ck cn (mkF m pc Ls (.int y :: .int x :: st)) := by
  obtain ⟨hd, rfl⟩ := hd
  exact Go.step (fun T locs X _ t k => XS.ishl X.here C.1 rfl (hb C.2.1 hd) rfl k) k
theorem g_ishr (C : Cx p s m meth c Z code maxL own ret) {pc pc' : Nat} {Ls : Array Slot} {st : List Value} {x y : Int32} (hd : I1 code pc (.ishr) 1 pc') (k : Go p l e R s m args below meth c n0 K N Q h ck cn (mkF m pc' Ls (.int (x >>> (y &&& 31)) :: st))) : Go p l e R s m args below meth c n0 K N Q h ck cn (mkF m pc Ls (.int y :: .int x :: st)) := by
  obtain ⟨hd, rfl⟩ := hd
  exact Go.step (fun T locs X _ t k => XS.ishr X.here C.1 rfl (hb C.2.1 hd) rfl k) k
theorem g_iushr (C : Cx p s m meth c Z code maxL own ret) {pc pc' : Nat} {Ls : Array Slot} {st : List Value} {x y : Int32} (hd : I1 code pc (.iushr) 1 pc') (k : Go p l e R s m args below meth c n0 K N Q h ck cn (mkF m pc' Ls (.int ((x.toUInt32 >>> (y &&& 31).toUInt32).toInt32) :: st))) : Go p l e R s m args below meth c n0 K N Q h ck cn (mkF m pc Ls (.int y :: .int x :: st)) := by
  obtain ⟨hd, rfl⟩ := hd
  exact Go.step (fun T locs X _ t k => XS.iushr X.here C.1 rfl (hb C.2.1 hd) rfl k) k
theorem g_ladd (C : Cx p s m meth c Z code maxL own ret) {pc pc' : Nat} {Ls : Array Slot} {st : List Value} {x y : Int64} (hd : I1 code pc (.ladd) 1 pc') (k : Go p l e R s m args below meth c n0 K N Q h ck cn (mkF m pc' Ls (.long (x + y) :: st))) : Go p l e R s m args below meth c n0 K N Q h ck cn (mkF m pc Ls (.long y :: .long x :: st)) := by
  obtain ⟨hd, rfl⟩ := hd
  exact Go.step (fun T locs X _ t k => XS.ladd X.here C.1 rfl (hb C.2.1 hd) rfl k) k
theorem g_lsub (C : Cx p s m meth c Z code maxL own ret) {pc pc' : Nat} {Ls : Array Slot} {st : List Value} {x y : Int64} (hd : I1 code pc (.lsub) 1 pc') (k : Go p l e R s m args below meth c n0 K N Q h ck cn (mkF m pc' Ls (.long (x - y) :: st))) : Go p l e R s m args below meth c n0 K N Q h ck cn (mkF m pc Ls (.long y :: .long x :: st)) := by
  obtain ⟨hd, rfl⟩ := hd
  exact Go.step (fun T locs X _ t k => XS.lsub X.here C.1 rfl (hb C.2.1 hd) rfl k) k
theorem g_lmul (C : Cx p s m meth c Z code maxL own ret) {pc pc' : Nat} {Ls : Array Slot} {st : List Value} {x y : Int64} (hd : I1 code pc (.lmul) 1 pc') (k : Go p l e R s m args below meth c n0 K N Q h ck cn (mkF m pc' Ls (.long (x * y) :: st))) : Go p l e R s m args below meth c n0 K N Q h ck cn (mkF m pc Ls (.long y :: .long x :: st)) := by
  obtain ⟨hd, rfl⟩ := hd
  exact Go.step (fun T locs X _ t k => XS.lmul X.here C.1 rfl (hb C.2.1 hd) rfl k) k
theorem g_land (C : Cx p s m meth c Z code maxL own ret) {pc pc' : Nat} {Ls : Array Slot} {st : List Value} {x y : Int64} (hd : I1 code pc (.land) 1 pc') (k : Go p l e R s m args below meth c n0 K N Q h ck cn (mkF m pc' Ls (.long (x &&& y) :: st))) : Go p l e R s m args below meth c n0 K N Q h ck cn (mkF m pc Ls (.long y :: .long x :: st)) := by
  obtain ⟨hd, rfl⟩ := hd
  exact Go.step (fun T locs X _ t k => XS.land X.here C.1 rfl (hb C.2.1 hd) rfl k) k
theorem g_lor (C : Cx p s m meth c Z code maxL own ret) {pc pc' : Nat} {Ls : Array Slot} {st : List Value} {x y : Int64} (hd : I1 code pc (.lor) 1 pc') (k : Go p l e R s m args below meth c n0 K N Q h ck cn (mkF m pc' Ls (.long (x ||| y) :: st))) : Go p l e R s m args below meth c n0 K N Q h ck cn (mkF m pc Ls (.long y :: .long x :: st)) := by
  obtain ⟨hd, rfl⟩ := hd
  exact Go.step (fun T locs X _ t k => XS.lor X.here C.1 rfl (hb C.2.1 hd) rfl k) k
theorem g_lxor (C : Cx p s m meth c Z code maxL own ret) {pc pc' : Nat} {Ls : Array Slot} {st : List Value} {x y : Int64} (hd : I1 code pc (.lxor) 1 pc') (k : Go p l e R s m args below meth c n0 K N Q h ck cn (mkF m pc' Ls (.long (x ^^^ y) :: st))) : Go p l e R s m args below meth c n0 K N Q h ck cn (mkF m pc Ls (.long y :: .long x :: st)) := by
  obtain ⟨hd, rfl⟩ := hd
  exact Go.step (fun T locs X _ t k => XS.lxor X.here C.1 rfl (hb C.2.1 hd) rfl k) k
theorem g_lshl (C : Cx p s m meth c Z code maxL own ret) {pc pc' : Nat} {Ls : Array Slot} {st : List Value} {x : Int64} {y : Int32} (hd : I1 code pc (.lshl) 1 pc') (k : Go p l e R s m args below meth c n0 K N Q h ck cn (mkF m pc' Ls (.long (x <<< (y &&& 0x3f).toInt64) :: st))) : Go p l e R s m args below meth c n0 K N Q h ck cn (mkF m pc Ls (.int y :: .long x :: st)) := by
  obtain ⟨hd, rfl⟩ := hd
  exact Go.step (fun T locs X _ t k => XS.lshl X.here C.1 rfl (hb C.2.1 hd) rfl k) k
theorem g_lshr (C : Cx p s m meth c Z code maxL own ret) {pc pc' : Nat} {Ls : Array Slot} {st : List Value} {x : Int64} {y : Int32} (hd : I1 code pc (.lshr) 1 pc') (k : Go p l e R s m args below meth c n0 K N Q h ck cn (mkF m pc' Ls (.long (x >>> (y &&& 0x3f).toInt64) :: st))) : Go p l e R s m args below meth c n0 K N Q h ck cn (mkF m pc Ls (.int y :: .long x :: st)) := by
  obtain ⟨hd, rfl⟩ := hd
  exact Go.step (fun T locs X _ t k => XS.lshr X.here C.1 rfl (hb C.2.1 hd) rfl k) k
theorem g_lushr (C : Cx p s m meth c Z code maxL own ret) {pc pc' : Nat} {Ls : Array Slot} {st : List Value} {x : Int64} {y : Int32} (hd : I1 code pc (.lushr) 1 pc') (k : Go p l e R s m args below meth c n0 K N Q h ck cn (mkF m pc' Ls (.long ((x.toUInt64 >>> (y &&& 0x3f).toInt64.toUInt64).toInt64) :: st))) : Go p l e R s m args below meth c n0 K N Q h ck cn (mkF m pc Ls (.int y :: .long x :: st)) := by
  obtain ⟨hd, rfl⟩ := hd
  exact Go.step (fun T locs X _ t k => XS.lushr X.here C.1 rfl (hb C.2.1 hd) rfl k) k
theorem g_lcmp (C : Cx p s m meth c Z code maxL own ret) {pc pc' : Nat} {Ls : Array Slot} {st : List Value} {x y : Int64} (hd : I1 code pc (.lcmp) 1 pc') (k : Go p l e R s m args below meth c n0 K N Q h ck cn (mkF m pc' Ls (.int (lcmpW x y) :: st))) : Go p l e R s m args below meth c n0 K N Q h ck cn (mkF m pc Ls (.long y :: .long x :: st)) := by
  obtain ⟨hd, rfl⟩ := hd
  exact Go.step (fun T locs X _ t k => XS.lcmp X.here C.1 rfl (hb C.2.1 hd) rfl k) k
theorem g_ineg (C : Cx p s m meth c Z code maxL own ret) {pc pc' : Nat} {Ls : Array Slot} {st : List Value} {x : Int32} (hd : I1 code pc (.ineg) 1 pc') (k : Go p l e R s m args below meth c n0 K N Q h ck cn (mkF m pc' Ls (.int (-x) :: st))) : Go p l e R s m args below meth c n0 K N Q h ck cn (mkF m pc Ls (.int x :: st)) := by
  obtain ⟨hd, rfl⟩ := hd
  exact Go.step (fun T locs X _ t k => XS.ineg X.here C.1 rfl (hb C.2.1 hd) rfl k) k
theorem g_lneg (C : Cx p s m meth c Z code maxL own ret) {pc pc' : Nat} {Ls : Array Slot} {st : List Value} {x : Int64} (hd : I1 code pc (.lneg) 1 pc') (k : Go p l e R s m args below meth c n0 K N Q h ck cn (mkF m pc' Ls (.long (-x) :: st))) : Go p l e R s m args below meth c n0 K N Q h ck cn (mkF m pc Ls (.long x :: st)) := by
  obtain ⟨hd, rfl⟩ := hd
  exact Go.step (fun T locs X _ t k => XS.lneg X.here C.1 rfl (hb C.2.1 hd) rfl k) k
theorem g_i2l (C : Cx p s m meth c Z code maxL own ret) {pc pc' : Nat} {Ls : Array Slot} {st : List Value} {x : Int32} (hd : I1 code pc (.i2l) 1 pc') (k : Go p l e R s m args below meth c n0 K N Q h ck cn (mkF m pc' Ls (.long x.toInt64 :: st))) : Go p l e R s m args below meth c n0 K N Q h ck cn (mkF m pc Ls (.int x :: st)) := by
  obtain ⟨hd, rfl⟩ := hd
  exact Go.step (fun T locs X _ t k => XS.i2l X.here C.1 rfl (hb C.2.1 hd) rfl k) k
theorem g_l2i (C : Cx p s m meth c Z code maxL own ret) {pc pc' : Nat} {Ls : Array Slot} {st : List Value} {x : Int64} (hd : I1 code pc (.l2i) 1 pc') (k : Go p l e R s m args below meth c n0 K N Q h ck cn (mkF m pc' Ls (.int x.toInt32 :: st))) : Go p l e R s m args below meth c n0 K N Q h ck cn (mkF m pc Ls (.long x :: st)) := by
  obtain ⟨hd, rfl⟩ := hd
  exact Go.step (fun T locs X _ t k => XS.l2i X.here C.1 rfl (hb C.2.1 hd) rfl k) k
theorem g_i2b (C : Cx p s m meth c Z code maxL own ret) {pc pc' : Nat} {Ls : Array Slot} {st : List Value} {x : Int32} (hd : I1 code pc (.i2b) 1 pc') (k : Go p l e R s m args below meth c n0 K N Q h ck cn (mkF m pc' Ls (.int x.toInt8.toInt32 :: st))) : Go p l e R s m args below meth c n0 K N Q h ck cn (mkF m pc Ls (.int x :: st)) := by
  obtain ⟨hd, rfl⟩ := hd
  exact Go.step (fun T locs X _ t k => XS.i2b X.here C.1 rfl (hb C.2.1 hd) rfl k) k
theorem g_i2s (C : Cx p s m meth c Z code maxL own ret) {pc pc' : Nat} {Ls : Array Slot} {st : List Value} {x : Int32} (hd : I1 code pc (.i2s) 1 pc') (k : Go p l e R s m args below meth c n0 K N Q h ck cn (mkF m pc' Ls (.int x.toInt16.toInt32 :: st))) : Go p l e R s m args below meth c n0 K N Q h ck cn (mkF m pc Ls (.int x :: st)) := by
  obtain ⟨hd, rfl⟩ := hd
  exact Go.step (fun T locs X _ t k => XS.i2s X.here C.1 rfl (hb C.2.1 hd) rfl k) k
theorem g_i2c (C : Cx p s m meth c Z code maxL own ret) {pc pc' : Nat} {Ls : Array Slot} {st : List Value} {x : Int32} (hd : I1 code pc (.i2c) 1 pc') (k : Go p l e R s m args below meth c n0 K N Q h ck cn (mkF m pc' Ls (.int x.toUInt32.toUInt16.toUInt32.toInt32 :: st))) : Go p l e R s m args below meth c n0 K N Q h ck cn (mkF m pc Ls (.int x :: st)) := by
  obtain ⟨hd, rfl⟩ := hd
  exact Go.step (fun T locs X _ t k => XS.i2c X.here C.1 rfl (hb C.2.1 hd) rfl k) k
theorem g_idiv (C : Cx p s m meth c Z code maxL own ret) {pc pc' : Nat} {Ls : Array Slot} {st : List Value} {x y : Int32} (hd : I1 code pc (.idiv) 1 pc') (hy : y ≠ 0) (k : Go p l e R s m args below meth c n0 K N Q h ck cn (mkF m pc' Ls (.int (x / y) :: st))) : Go p l e R s m args below meth c n0 K N Q h ck cn (mkF m pc Ls (.int y :: .int x :: st)) := by
  obtain ⟨hd, rfl⟩ := hd
  exact Go.step (fun T locs X _ t k => XS.idiv X.here C.1 rfl (hb C.2.1 hd) rfl hy k) k
theorem g_ldiv (C : Cx p s m meth c Z code maxL own ret) {pc pc' : Nat} {Ls : Array Slot} {st : List Value} {x y : Int64} (hd : I1 code pc (.ldiv) 1 pc') (hy : y ≠ 0) (k : Go p l e R s m args below meth c n0 K N Q h ck cn (mkF m pc' Ls (.long (x / y) :: st))) : Go p l e R s m args below meth c n0 K N Q h ck cn (mkF m pc Ls (.long y :: .long x :: st)) := by
  obtain ⟨hd, rfl⟩ := hd
  exact Go.step (fun T locs X _ t k => XS.ldiv X.here C.1 rfl (hb C.2.1 hd) rfl hy k) k
theorem g_irem (C : Cx p s m meth c Z code maxL own ret) {pc pc' : Nat} {Ls : Array Slot} {st : List Value} {x y : Int32} (hd : I1 code pc .irem 1 pc') (hy : y ≠ 0) (k : Go p l e R s m args below meth c n0 K N Q h ck cn (mkF m pc' Ls (.int (x % y) :: st))) : Go p l e R s m args below meth c n0 K N Q h ck cn (mkF m pc Ls (.int y :: .int x :: st)) := by
  obtain ⟨hd, rfl⟩ := hd
  exact Go.step (fun T locs X _ t k => iremM X C.1 rfl (hb C.2.1 hd) rfl hy k) k
theorem g_lrem (C : Cx p s m meth c Z code maxL own ret) {pc pc' : Nat} {Ls : Array Slot} {st : List Value} {x y : Int64} (hd : I1 code pc .lrem 1 pc') (hy : y ≠ 0) (k : Go p l e R s m args below meth c n0 K N Q h ck cn (mkF m pc' Ls (.long (x % y) :: st))) : Go p l e R s m args below meth c n0 K N Q h ck cn (mkF m pc Ls (.long y :: .long x :: st)) := by
  obtain ⟨hd, rfl⟩ := hd
  exact Go.step (fun T locs X _ t k => XS.lrem X.here C.1 rfl (hb C.2.1 hd) rfl hy (by rw [lrem_mod]; exact k)) k
theorem g_iloadN (C : Cx p s m meth c Z code maxL own ret) {pc pc' : Nat} {Ls : Array Slot} {st : List Value} {k : Fin 4} {v : Int32} (hd : I1 code pc (.iload_n k) 1 pc') (hl : Ls[k.val]? = some (.val (.int v))) (k : Go p l e R s m args below meth c n0 K N Q h ck cn (mkF m pc' Ls (.int v :: st))) : Go p l e R s m args below meth c n0 K N Q h ck cn (mkF m pc Ls (st)) := by
  obtain ⟨hd, rfl⟩ := hd
  exact Go.step (fun T locs X _ t k => XS.iloadN X.here C.1 rfl (hb C.2.1 hd) hl k) k
theorem g_iload (C : Cx p s m meth c Z code maxL own ret) {pc pc' : Nat} {Ls : Array Slot} {st : List Value} {k : Nat} {v : Int32} (hd : I1 code pc (.iload k) 2 pc') (hl : Ls[k]? = some (.val (.int v))) (k : Go p l e R s m args below meth c n0 K N Q h ck cn (mkF m pc' Ls (.int v :: st))) : Go p l e R s m args below meth c n0 K N Q h ck cn (mkF m pc Ls (st)) := by
  obtain ⟨hd, rfl⟩ := hd
  exact Go.step (fun T locs X _ t k => XS.iload X.here C.1 rfl (hb C.2.1 hd) hl k) k
theorem g_istoreN (C : Cx p s m meth c Z code maxL own ret) {pc pc' : Nat} {Ls : Array Slot} {st : List Value} {k : Fin 4} {x : Int32} {Ls' : Array Slot} (hd : I1 code pc (.istore_n k) 1 pc') (hl : storeLocals Ls k.val (.int x) = some Ls') (k : Go p l e R s m args below meth c n0 K N Q h ck cn (mkF m pc' Ls' (st))) : Go p l e R s m args below meth c n0 K N Q h ck cn (mkF m pc Ls (.int x :: st)) := by
  obtain ⟨hd, rfl⟩ := hd
  exact Go.step (fun T locs X _ t k => XS.istoreN X.here C.1 rfl (hb C.2.1 hd) rfl hl k) k
theorem g_istore (C : Cx p s m meth c Z code maxL own ret) {pc pc' : Nat} {Ls : Array Slot} {st : List Value} {k : Nat} {x : Int32} {Ls' : Array Slot} (hd : I1 code pc (.istore k) 2 pc') (hl : storeLocals Ls k (.int x) = some Ls') (k : Go p l e R s m args below meth c n0 K N Q h ck cn (mkF m pc' Ls' (st))) : Go p l e R s m args below meth c n0 K N Q h ck cn (mkF m pc Ls (.int x :: st)) := by
  obtain ⟨hd, rfl⟩ := hd
  exact Go.step (fun T locs X _ t k => XS.istore X.here C.1 rfl (hb C.2.1 hd) rfl hl k) k
theorem g_lloadN (C : Cx p s m meth c Z code maxL own ret) {pc pc' : Nat} {Ls : Array Slot} {st : List Value} {k : Fin 4} {v : Int64} (hd : I1 code pc (.lload_n k) 1 pc') (hl : Ls[k.val]? = some (.val (.long v))) (k : Go p l e R s m args below meth c n0 K N Q h ck cn (mkF m pc' Ls (.long v :: st))) : Go p l e R s m args below meth c n0 K N Q h ck cn (mkF m pc Ls (st)) := by
  obtain ⟨hd, rfl⟩ := hd
  exact Go.step (fun T locs X _ t k => XS.lloadN X.here C.1 rfl (hb C.2.1 hd) hl k) k
theorem g_lload (C : Cx p s m meth c Z code maxL own ret) {pc pc' : Nat} {Ls : Array Slot} {st : List Value} {k : Nat} {v : Int64} (hd : I1 code pc (.lload k) 2 pc') (hl : Ls[k]? = some (.val (.long v))) (k : Go p l e R s m args below meth c n0 K N Q h ck cn (mkF m pc' Ls (.long v :: st))) : Go p l e R s m args below meth c n0 K N Q h ck cn (mkF m pc Ls (st)) := by
  obtain ⟨hd, rfl⟩ := hd
  exact Go.step (fun T locs X _ t k => XS.lload X.here C.1 rfl (hb C.2.1 hd) hl k) k
theorem g_lstoreN (C : Cx p s m meth c Z code maxL own ret) {pc pc' : Nat} {Ls : Array Slot} {st : List Value} {k : Fin 4} {x : Int64} {Ls' : Array Slot} (hd : I1 code pc (.lstore_n k) 1 pc') (hl : storeLocals Ls k.val (.long x) = some Ls') (k : Go p l e R s m args below meth c n0 K N Q h ck cn (mkF m pc' Ls' (st))) : Go p l e R s m args below meth c n0 K N Q h ck cn (mkF m pc Ls (.long x :: st)) := by
  obtain ⟨hd, rfl⟩ := hd
  exact Go.step (fun T locs X _ t k => XS.lstoreN X.here C.1 rfl (hb C.2.1 hd) rfl hl k) k
theorem g_lstore (C : Cx p s m meth c Z code maxL own ret) {pc pc' : Nat} {Ls : Array Slot} {st : List Value} {k : Nat} {x : Int64} {Ls' : Array Slot} (hd : I1 code pc (.lstore k) 2 pc') (hl : storeLocals Ls k (.long x) = some Ls') (k : Go p l e R s m args below meth c n0 K N Q h ck cn (mkF m pc' Ls' (st))) : Go p l e R s m args below meth c n0 K N Q h ck cn (mkF m pc Ls (.long x :: st)) := by
  obtain ⟨hd, rfl⟩ := hd
  exact Go.step (fun T locs X _ t k => XS.lstore X.here C.1 rfl (hb C.2.1 hd) rfl hl k) k
theorem g_aloadN (C : Cx p s m meth c Z code maxL own ret) {pc pc' : Nat} {Ls : Array Slot} {st : List Value} {k : Fin 4} {v : Value} (hd : I1 code pc (.aload_n k) 1 pc') (hl : Ls[k.val]? = some (.val v)) (hv : v.isRef = true) (k : Go p l e R s m args below meth c n0 K N Q h ck cn (mkF m pc' Ls (v :: st))) : Go p l e R s m args below meth c n0 K N Q h ck cn (mkF m pc Ls (st)) := by
  obtain ⟨hd, rfl⟩ := hd
  exact Go.step (fun T locs X _ t k => XS.aloadN X.here C.1 rfl (hb C.2.1 hd) hl hv k) k
theorem g_aload (C : Cx p s m meth c Z code maxL own ret) {pc pc' : Nat} {Ls : Array Slot} {st : List Value} {k : Nat} {v : Value} (hd : I1 code pc (.aload k) 2 pc') (hl : Ls[k]? = some (.val v)) (hv : v.isRef = true) (k : Go p l e R s m args below meth c n0 K N Q h ck cn (mkF m pc' Ls (v :: st))) : Go p l e R s m args below meth c n0 K N Q h ck cn (mkF m pc Ls (st)) := by
  obtain ⟨hd, rfl⟩ := hd
  exact Go.step (fun T locs X _ t k => XS.aload X.here C.1 rfl (hb C.2.1 hd) hl hv k) k
theorem g_astoreN (C : Cx p s m meth c Z code maxL own ret) {pc pc' : Nat} {Ls : Array Slot} {st : List Value} {k : Fin 4} {x : Value} {Ls' : Array Slot} (hd : I1 code pc (.astore_n k) 1 pc') (hv : x.isRef = true) (hl : storeLocals Ls k.val x = some Ls') (k : Go p l e R s m args below meth c n0 K N Q h ck cn (mkF m pc' Ls' (st))) : Go p l e R s m args below meth c n0 K N Q h ck cn (mkF m pc Ls (x :: st)) := by
  obtain ⟨hd, rfl⟩ := hd
  exact Go.step (fun T locs X _ t k => XS.astoreN X.here C.1 rfl (hb C.2.1 hd) rfl hv hl k) k
theorem g_astore (C : Cx p s m meth c Z code maxL own ret) {pc pc' : Nat} {Ls : Array Slot} {st : List Value} {k : Nat} {x : Value} {Ls' : Array Slot} (hd : I1 code pc (.astore k) 2 pc') (hv : x.isRef = true) (hl : storeLocals Ls k x = some Ls') (k : Go p l e R s m args below meth c n0 K N Q h ck cn (mkF m pc' Ls' (st))) : Go p l e R s m args below meth c n0 K N Q h ck cn (mkF m pc Ls (x :: st)) := by
  obtain ⟨hd, rfl⟩ := hd
  exact Go.step (fun T locs X _ t k => XS.astore X.here C.1 rfl (hb C.2.1 hd) rfl hv hl k) k
theorem g_iinc (C : Cx p s m meth c Z code maxL own ret) {pc pc' : Nat} {Ls : Array Slot} {st : List Value} {k : Nat} {cst : Int} {x : Int32} {Ls' : Array Slot} (hd : I1 code pc (.iinc k cst) 3 pc') (hl : Ls[k]? = some (.val (.int x))) (hl' : storeLocals Ls k (.int (x + Int32.ofInt cst)) = some Ls') (k : Go p l e R s m args below meth c n0 K N Q h ck cn (mkF m pc' Ls' (st))) : Go p l e R s m args below meth c n0 K N Q h ck cn (mkF m pc Ls (st)) := by
  obtain ⟨hd, rfl⟩ := hd
  exact Go.step (fun T locs X _ t k => XS.iinc X.here C.1 rfl (hb C.2.1 hd) hl hl' k) k
theorem g_iconst (C : Cx p s m meth c Z code maxL own ret) {pc pc' : Nat} {Ls : Array Slot} {st : List Value} {i : Int} (v : Int32) (hd : I1 code pc (.iconst i) 1 pc') (hv : Int32.ofInt i = v) (k : Go p l e R s m args below meth c n0 K N Q h ck cn (mkF m pc' Ls (.int v :: st))) : Go p l e R s m args below meth c n0 K N Q h ck cn (mkF m pc Ls st) := by
  obtain ⟨hd, rfl⟩ := hd
  subst hv
  exact Go.step (fun T locs X _ t k => XS.iconst X.here C.1 rfl (hb C.2.1 hd) k) k
theorem g_bipush (C : Cx p s m meth c Z code maxL own ret) {pc pc' : Nat} {Ls : Array Slot} {st : List Value} {i : Int} (v : Int32) (hd : I1 code pc (.bipush i) 2 pc') (hv : (Int8.ofInt i).toInt32 = v) (k : Go p l e R s m args below meth c n0 K N Q h ck cn (mkF m pc' Ls (.int v :: st))) : Go p l e R s m args below meth c n0 K N Q h ck cn (mkF m pc Ls st) := by
  obtain ⟨hd, rfl⟩ := hd
  subst hv
  exact Go.step (fun T locs X _ t k => XS.bipush X.here C.1 rfl (hb C.2.1 hd) k) k
theorem g_sipush (C : Cx p s m meth c Z code maxL own ret) {pc pc' : Nat} {Ls : Array Slot} {st : List Value} {i : Int} (v : Int32) (hd : I1 code pc (.sipush i) 3 pc') (hv : (Int16.ofInt i).toInt32 = v) (k : Go p l e R s m args below meth c n0 K N Q h ck cn (mkF m pc' Ls (.int v :: st))) : Go p l e R s m args below meth c n0 K N Q h ck cn (mkF m pc Ls st) := by
  obtain ⟨hd, rfl⟩ := hd
  subst hv
  exact Go.step (fun T locs X _ t k => XS.sipush X.here C.1 rfl (hb C.2.1 hd) k) k
theorem g_lconst (C : Cx p s m meth c Z code maxL own ret) {pc pc' : Nat} {Ls : Array Slot} {st : List Value} {i : Fin 2} (v : Int64) (hd : I1 code pc (.lconst i) 1 pc') (hv : Int64.ofNat i = v) (k : Go p l e R s m args below meth c n0 K N Q h ck cn (mkF m pc' Ls (.long v :: st))) : Go p l e R s m args below meth c n0 K N Q h ck cn (mkF m pc Ls st) := by
  obtain ⟨hd, rfl⟩ := hd
  subst hv
  exact Go.step (fun T locs X _ t k => XS.lconst X.here C.1 rfl (hb C.2.1 hd) k) k
theorem g_aconstNull (C : Cx p s m meth c Z code maxL own ret) {pc pc' : Nat} {Ls : Array Slot} {st : List Value}  (hd : I1 code pc (.aconst_null) 1 pc') (k : Go p l e R s m args below meth c n0 K N Q h ck cn (mkF m pc' Ls (.null :: st))) : Go p l e R s m args below meth c n0 K N Q h ck cn (mkF m pc Ls (st)) := by
  obtain ⟨hd, rfl⟩ := hd
  exact Go.step (fun T locs X _ t k => XS.aconstNull X.here C.1 rfl (hb C.2.1 hd)  k) k
theorem g_ldcInt (C : Cx p s m meth c Z code maxL own ret) {pc pc' : Nat} {Ls : Array Slot} {st : List Value} {i : Nat} {v : Int32} (hd : I1 code pc (.ldc i) 2 pc') (w : (Cond.constant own i v).before a0 Z = true) (k : Go p l e R s m args below meth c n0 K N Q h ck cn (mkF m pc' Ls (.int v :: st))) : Go p l e R s m args below meth c n0 K N Q h ck cn (mkF m pc Ls st) := by
  obtain ⟨hd, rfl⟩ := hd
  exact Go.step (fun T locs X _ t k => X.ldcInt C.1 C.2.2.2.2.1 (mvT C.2.2.2.1 w) (g := mkF m pc Ls st) rfl (hb C.2.1 hd) _ k) k
theorem g_ldcwInt (C : Cx p s m meth c Z code maxL own ret) {pc pc' : Nat} {Ls : Array Slot} {st : List Value} {i : Nat} {v : Int32} (hd : I1 code pc (.ldc_w i) 3 pc') (w : (Cond.constant own i v).before a0 Z = true) (k : Go p l e R s m args below meth c n0 K N Q h ck cn (mkF m pc' Ls (.int v :: st))) : Go p l e R s m args below meth c n0 K N Q h ck cn (mkF m pc Ls st) := by
  obtain ⟨hd, rfl⟩ := hd
  exact Go.step (fun T locs X _ t k => X.ldcwInt C.1 C.2.2.2.2.1 (mvT C.2.2.2.1 w) (g := mkF m pc Ls st) rfl (hb C.2.1 hd) _ k) k
theorem g_ldc2Long (C : Cx p s m meth c Z code maxL own ret) {pc pc' : Nat} {Ls : Array Slot} {st : List Value} {i : Nat} {v : Int64} (hd : I1 code pc (.ldc2_w i) 3 pc') (w : (Cond.constantLong own i v).before a0 Z = true) (k : Go p l e R s m args below meth c n0 K N Q h ck cn (mkF m pc' Ls (.long v :: st))) : Go p l e R s m args below meth c n0 K N Q h ck cn (mkF m pc Ls st) := by
  obtain ⟨hd, rfl⟩ := hd
  exact Go.step (fun T locs X _ t k => X.ldc2Long C.1 C.2.2.2.2.1 (mvT C.2.2.2.1 w) (g := mkF m pc Ls st) rfl (hb C.2.1 hd) _ k) k
theorem g_dup (C : Cx p s m meth c Z code maxL own ret) {pc pc' : Nat} {Ls : Array Slot} {st : List Value} {x : Value} (hd : I1 code pc (.dup) 1 pc') (hc : x.category = 1) (k : Go p l e R s m args below meth c n0 K N Q h ck cn (mkF m pc' Ls (x :: x :: st))) : Go p l e R s m args below meth c n0 K N Q h ck cn (mkF m pc Ls (x :: st)) := by
  obtain ⟨hd, rfl⟩ := hd
  exact Go.step (fun T locs X _ t k => XS.dup X.here C.1 rfl (hb C.2.1 hd) rfl hc k) k
theorem g_pop (C : Cx p s m meth c Z code maxL own ret) {pc pc' : Nat} {Ls : Array Slot} {st : List Value} {x : Value} (hd : I1 code pc (.pop) 1 pc') (hc : x.category = 1) (k : Go p l e R s m args below meth c n0 K N Q h ck cn (mkF m pc' Ls (st))) : Go p l e R s m args below meth c n0 K N Q h ck cn (mkF m pc Ls (x :: st)) := by
  obtain ⟨hd, rfl⟩ := hd
  exact Go.step (fun T locs X _ t k => XS.pop X.here C.1 rfl (hb C.2.1 hd) rfl hc k) k
theorem g_dupX1 (C : Cx p s m meth c Z code maxL own ret) {pc pc' : Nat} {Ls : Array Slot} {st : List Value} {x y : Value} (hd : I1 code pc (.dup_x1) 1 pc') (hc : x.category = 1) (hc' : y.category = 1) (k : Go p l e R s m args below meth c n0 K N Q h ck cn (mkF m pc' Ls (x :: y :: x :: st))) : Go p l e R s m args below meth c n0 K N Q h ck cn (mkF m pc Ls (x :: y :: st)) := by
  obtain ⟨hd, rfl⟩ := hd
  exact Go.step (fun T locs X _ t k => XS.dupX1 X.here C.1 rfl (hb C.2.1 hd) rfl hc hc' k) k
theorem g_dup2 (C : Cx p s m meth c Z code maxL own ret) {pc pc' : Nat} {Ls : Array Slot} {st : List Value} {x y : Value} (hd : I1 code pc (.dup2) 1 pc') (hc : x.category = 1) (hc' : y.category = 1) (k : Go p l e R s m args below meth c n0 K N Q h ck cn (mkF m pc' Ls (x :: y :: x :: y :: st))) : Go p l e R s m args below meth c n0 K N Q h ck cn (mkF m pc Ls (x :: y :: st)) := by
  obtain ⟨hd, rfl⟩ := hd
  exact Go.step (fun T locs X _ t k => Jvm.Free.XT.dup2 X.here C.1 rfl (hb C.2.1 hd) rfl hc hc' k) k
theorem g_dup2L (C : Cx p s m meth c Z code maxL own ret) {pc pc' : Nat} {Ls : Array Slot} {st : List Value} {x : Int64} (hd : I1 code pc (.dup2) 1 pc') (k : Go p l e R s m args below meth c n0 K N Q h ck cn (mkF m pc' Ls (.long x :: .long x :: st))) : Go p l e R s m args below meth c n0 K N Q h ck cn (mkF m pc Ls (.long x :: st)) := by
  obtain ⟨hd, rfl⟩ := hd
  exact Go.step (fun T locs X _ t k => Jvm.Free.XT.dup2L X.here C.1 rfl (hb C.2.1 hd) rfl k) k
theorem g_goto (C : Cx p s m meth c Z code maxL own ret) {pc pcT pcF : Nat} {Ls : Array Slot} {st : List Value} {o : Int} (hd : B1 code pc (.goto o) o pcT pcF) (k : Go p l e R s m args below meth c n0 K N Q h ck cn (mkF m pcT Ls st)) : Go p l e R s m args below meth c n0 K N Q h ck cn (mkF m pc Ls st) := by
  obtain ⟨hd, -, ho, hp⟩ := hd
  exact Go.step (fun T locs X _ t k => XS.goto X.here C.1 rfl (pc0 := pc) rfl (hb C.2.1 hd) ho hp k) k
theorem g_icmp_lt (C : Cx p s m meth c Z code maxL own ret) {pc pcT pcF : Nat} {Ls : Array Slot} {st : List Value} {o : Int} {x y : Int32} (hd : B1 code pc (.if_icmp .lt o) o pcT pcF) (kt : x < y → Go p l e R s m args below meth c n0 K N Q h ck cn (mkF m pcT Ls st)) (kf : ¬ (x < y) → Go p l e R s m args below meth c n0 K N Q h ck cn (mkF m pcF Ls st)) : Go p l e R s m args below meth c n0 K N Q h ck cn (mkF m pc Ls (.int y :: .int x :: st)) := by
  obtain ⟨hd, rfl, ho, hp⟩ := hd
  by_cases q : x < y
  · exact Go.step (fun T locs X _ t k => XS.icmpYes X.here C.1 rfl (pc0 := pc) rfl (hb C.2.1 hd) rfl ((tlt q).1) ho hp k) (kt q)
  · exact Go.step (fun T locs X _ t k => XS.icmpNo X.here C.1 rfl (hb C.2.1 hd) rfl ((flt q).1) k) (kf q)
theorem g_if_lt (C : Cx p s m meth c Z code maxL own ret) {pc pcT pcF : Nat} {Ls : Array Slot} {st : List Value} {o : Int} {x : Int32} (hd : B1 code pc (.ifCond .lt o) o pcT pcF) (kt : x < 0 → Go p l e R s m args below meth c n0 K N Q h ck cn (mkF m pcT Ls st)) (kf : ¬ (x < 0) → Go p l e R s m args below meth c n0 K N Q h ck cn (mkF m pcF Ls st)) : Go p l e R s m args below meth c n0 K N Q h ck cn (mkF m pc Ls (.int x :: st)) := by
  obtain ⟨hd, rfl, ho, hp⟩ := hd
  by_cases q : x < 0
  · exact Go.step (fun T locs X _ t k => XS.ifYes X.here C.1 rfl (pc0 := pc) rfl (hb C.2.1 hd) rfl ((if0 _ _).trans (tlt q).1) ho hp k) (kt q)
  · exact Go.step (fun T locs X _ t k => XS.ifNo X.here C.1 rfl (hb C.2.1 hd) rfl ((if0 _ _).trans (flt q).1) k) (kf q)
theorem g_ifl_lt (C : Cx p s m meth c Z code maxL own ret) {pc pcT pcF : Nat} {Ls : Array Slot} {st : List Value} {o : Int} {x y : Int64} (hd : B1 code pc (.ifCond .lt o) o pcT pcF) (kt : x < y → Go p l e R s m args below meth c n0 K N Q h ck cn (mkF m pcT Ls st)) (kf : ¬ (x < y) → Go p l e R s m args below meth c n0 K N Q h ck cn (mkF m pcF Ls st)) : Go p l e R s m args below meth c n0 K N Q h ck cn (mkF m pc Ls (.int (lcmpW x y) :: st)) := by
  obtain ⟨hd, rfl, ho, hp⟩ := hd
  by_cases q : x < y
  · exact Go.step (fun T locs X _ t k => XS.ifYes X.here C.1 rfl (pc0 := pc) rfl (hb C.2.1 hd) rfl ((if0 _ _).trans (tlt ((lw_lt x y).mpr q)).1) ho hp k) (kt q)
  · exact Go.step (fun T locs X _ t k => XS.ifNo X.here C.1 rfl (hb C.2.1 hd) rfl ((if0 _ _).trans (flt (fun z => q ((lw_lt x y).mp z))).1) k) (kf q)
theorem g_icmp_ge (C : Cx p s m meth c Z code maxL own ret) {pc pcT pcF : Nat} {Ls : Array Slot} {st : List Value} {o : Int} {x y : Int32} (hd : B1 code pc (.if_icmp .ge o) o pcT pcF) (kt : x < y → Go p l e R s m args below meth c n0 K N Q h ck cn (mkF m pcF Ls st)) (kf : ¬ (x < y) → Go p l e R s m args below meth c n0 K N Q h ck cn (mkF m pcT Ls st)) : Go p l e R s m args below meth c n0 K N Q h ck cn (mkF m pc Ls (.int y :: .int x :: st)) := by
  obtain ⟨hd, rfl, ho, hp⟩ := hd
  by_cases q : x < y
  · exact Go.step (fun T locs X _ t k => XS.icmpNo X.here C.1 rfl (hb C.2.1 hd) rfl ((tlt q).2.1) k) (kt q)
  · exact Go.step (fun T locs X _ t k => XS.icmpYes X.here C.1 rfl (pc0 := pc) rfl (hb C.2.1 hd) rfl ((flt q).2.1) ho hp k) (kf q)
theorem g_if_ge (C : Cx p s m meth c Z code maxL own ret) {pc pcT pcF : Nat} {Ls : Array Slot} {st : List Value} {o : Int} {x : Int32} (hd : B1 code pc (.ifCond .ge o) o pcT pcF) (kt : x < 0 → Go p l e R s m args below meth c n0 K N Q h ck cn (mkF m pcF Ls st)) (kf : ¬ (x < 0) → Go p l e R s m args below meth c n0 K N Q h ck cn (mkF m pcT Ls st)) : Go p l e R s m args below meth c n0 K N Q h ck cn (mkF m pc Ls (.int x :: st)) := by
  obtain ⟨hd, rfl, ho, hp⟩ := hd
  by_cases q : x < 0
  · exact Go.step (fun T locs X _ t k => XS.ifNo X.here C.1 rfl (hb C.2.1 hd) rfl ((if0 _ _).trans (tlt q).2.1) k) (kt q)
  · exact Go.step (fun T locs X _ t k => XS.ifYes X.here C.1 rfl (pc0 := pc) rfl (hb C.2.1 hd) rfl ((if0 _ _).trans (flt q).2.1) ho hp k) (kf q)
theorem g_ifl_ge (C : Cx p s m meth c Z code maxL own ret) {pc pcT pcF : Nat} {Ls : Array Slot} {st : List Value} {o : Int} {x y : Int64} (hd : B1 code pc (.ifCond .ge o) o pcT pcF) (kt : x < y → Go p l e R s m args below meth c n0 K N Q h ck cn (mkF m pcF Ls st)) (kf : ¬ (x < y) → Go p l e R s m args below meth c n0 K N Q h ck cn (mkF m pcT Ls st)) : Go p l e R s m args below meth c n0 K N Q h ck cn (mkF m pc Ls (.int (lcmpW x y) :: st)) := by
  obtain ⟨hd, rfl, ho, hp⟩ := hd
  by_cases q : x < y
  · exact Go.step (fun T locs X _ t k => XS.ifNo X.here C.1 rfl (hb C.2.1 hd) rfl ((if0 _ _).trans (tlt ((lw_lt x y).mpr q)).2.1) k) (kt q)
  · exact Go.step (fun T locs X _ t k => XS.ifYes X.here C.1 rfl (pc0 := pc) rfl (hb C.2.1 hd) rfl ((if0 _ _).trans (flt (fun z => q ((lw_lt x y).mp z))).2.1) ho hp k) (kf q)
theorem g_icmp_gt (C : Cx p s m meth c Z code maxL own ret) {pc pcT pcF : Nat} {Ls : Array Slot} {st : List Value} {o : Int} {x y : Int32} (hd : B1 code pc (.if_icmp .gt o) o pcT pcF) (kt : y < x → Go p l e R s m args below meth c n0 K N Q h ck cn (mkF m pcT Ls st)) (kf : ¬ (y < x) → Go p l e R s m args below meth c n0 K N Q h ck cn (mkF m pcF Ls st)) : Go p l e R s m args below meth c n0 K N Q h ck cn (mkF m pc Ls (.int y :: .int x :: st)) := by
  obtain ⟨hd, rfl, ho, hp⟩ := hd
  by_cases q : y < x
  · exact Go.step (fun T locs X _ t k => XS.icmpYes X.here C.1 rfl (pc0 := pc) rfl (hb C.2.1 hd) rfl ((tlt q).2.2.1) ho hp k) (kt q)
  · exact Go.step (fun T locs X _ t k => XS.icmpNo X.here C.1 rfl (hb C.2.1 hd) rfl ((flt q).2.2.1) k) (kf q)
theorem g_if_gt (C : Cx p s m meth c Z code maxL own ret) {pc pcT pcF : Nat} {Ls : Array Slot} {st : List Value} {o : Int} {x : Int32} (hd : B1 code pc (.ifCond .gt o) o pcT pcF) (kt : 0 < x → Go p l e R s m args below meth c n0 K N Q h ck cn (mkF m pcT Ls st)) (kf : ¬ (0 < x) → Go p l e R s m args below meth c n0 K N Q h ck cn (mkF m pcF Ls st)) : Go p l e R s m args below meth c n0 K N Q h ck cn (mkF m pc Ls (.int x :: st)) := by
  obtain ⟨hd, rfl, ho, hp⟩ := hd
  by_cases q : 0 < x
  · exact Go.step (fun T locs X _ t k => XS.ifYes X.here C.1 rfl (pc0 := pc) rfl (hb C.2.1 hd) rfl ((if0 _ _).trans (tlt q).2.2.1) ho hp k) (kt q)
  · exact Go.step (fun T locs X _ t k => XS.ifNo X.here C.1 rfl (hb C.2.1 hd) rfl ((if0 _ _).trans (flt q).2.2.1) k) (kf q)
theorem g_ifl_gt (C : Cx p s m meth c Z code maxL own ret) {pc pcT pcF : Nat} {Ls : Array Slot} {st : List Value} {o : Int} {x y : Int64} (hd : B1 code pc (.ifCond .gt o) o pcT pcF) (kt : y < x → Go p l e R s m args below meth c n0 K N Q h ck cn (mkF m pcT Ls st)) (kf : ¬ (y < x) → Go p l e R s m args below meth c n0 K N Q h ck cn (mkF m pcF Ls st)) : Go p l e R s m args below meth c n0 K N Q h ck cn (mkF m pc Ls (.int (lcmpW x y) :: st)) := by
  obtain ⟨hd, rfl, ho, hp⟩ := hd
  by_cases q : y < x
  · exact Go.step (fun T locs X _ t k => XS.ifYes X.here C.1 rfl (pc0 := pc) rfl (hb C.2.1 hd) rfl ((if0 _ _).trans (tlt ((lw_gt x y).mpr q)).2.2.1) ho hp k) (kt q)
  · exact Go.step (fun T locs X _ t k => XS.ifNo X.here C.1 rfl (hb C.2.1 hd) rfl ((if0 _ _).trans (flt (fun z => q ((lw_gt x y).mp z))).2.2.1) k) (kf q)
theorem g_icmp_le (C : Cx p s m meth c Z code maxL own ret) {pc pcT pcF : Nat} {Ls : Array Slot} {st : List Value} {o : Int} {x y : Int32} (hd : B1 code pc (.if_icmp .le o) o pcT pcF) (kt : y < x → Go p l e R s m args below meth c n0 K N Q h ck cn (mkF m pcF Ls st)) (kf : ¬ (y < x) → Go p l e R s m args below meth c n0 K N Q h ck cn (mkF m pcT Ls st)) : Go p l e R s m args below meth c n0 K N Q h ck cn (mkF m pc Ls (.int y :: .int x :: st)) := by
  obtain ⟨hd, rfl, ho, hp⟩ := hd
  by_cases q : y < x
  · exact Go.step (fun T locs X _ t k => XS.icmpNo X.here C.1 rfl (hb C.2.1 hd) rfl ((tlt q).2.2.2) k) (kt q)
  · exact Go.step (fun T locs X _ t k => XS.icmpYes X.here C.1 rfl (pc0 := pc) rfl (hb C.2.1 hd) rfl ((flt q).2.2.2) ho hp k) (kf q)
theorem g_if_le (C : Cx p s m meth c Z code maxL own ret) {pc pcT pcF : Nat} {Ls : Array Slot} {st : List Value} {o : Int} {x : Int32} (hd : B1 code pc (.ifCond .le o) o pcT pcF) (kt : 0 < x → Go p l e R s m args below meth c n0 K N Q h ck cn (mkF m pcF Ls st)) (kf : ¬ (0 < x) → Go p l e R s m args below meth c n0 K N Q h ck cn (mkF m pcT Ls st)) : Go p l e R s m args below meth c n0 K N Q h ck cn (mkF m pc Ls (.int x :: st)) := by
  obtain ⟨hd, rfl, ho, hp⟩ := hd
  by_cases q : 0 < x
  · exact Go.step (fun T locs X _ t k => XS.ifNo X.here C.1 rfl (hb C.2.1 hd) rfl ((if0 _ _).trans (tlt q).2.2.2) k) (kt q)
  · exact Go.step (fun T locs X _ t k => XS.ifYes X.here C.1 rfl (pc0 := pc) rfl (hb C.2.1 hd) rfl ((if0 _ _).trans (flt q).2.2.2) ho hp k) (kf q)
theorem g_ifl_le (C : Cx p s m meth c Z code maxL own ret) {pc pcT pcF : Nat} {Ls : Array Slot} {st : List Value} {o : Int} {x y : Int64} (hd : B1 code pc (.ifCond .le o) o pcT pcF) (kt : y < x → Go p l e R s m args below meth c n0 K N Q h ck cn (mkF m pcF Ls st)) (kf : ¬ (y < x) → Go p l e R s m args below meth c n0 K N Q h ck cn (mkF m pcT Ls st)) : Go p l e R s m args below meth c n0 K N Q h ck cn (mkF m pc Ls (.int (lcmpW x y) :: st)) := by
  obtain ⟨hd, rfl, ho, hp⟩ := hd
  by_cases q : y < x
  · exact Go.step (fun T locs X _ t k => XS.ifNo X.here C.1 rfl (hb C.2.1 hd) rfl ((if0 _ _).trans (tlt ((lw_gt x y).mpr q)).2.2.2) k) (kt q)
  · exact Go.step (fun T locs X _ t k => XS.ifYes X.here C.1 rfl (pc0 := pc) rfl (hb C.2.1 hd) rfl ((if0 _ _).trans (flt (fun z => q ((lw_gt x y).mp z))).2.2.2) ho hp k) (kf q)
theorem g_icmp_eq (C : Cx p s m meth c Z code maxL own ret) {pc pcT pcF : Nat} {Ls : Array Slot} {st : List Value} {o : Int} {x y : Int32} (hd : B1 code pc (.if_icmp .eq o) o pcT pcF) (kt : x = y → Go p l e R s m args below meth c n0 K N Q h ck cn (mkF m pcT Ls st)) (kf : ¬ (x = y) → Go p l e R s m args below meth c n0 K N Q h ck cn (mkF m pcF Ls st)) : Go p l e R s m args below meth c n0 K N Q h ck cn (mkF m pc Ls (.int y :: .int x :: st)) := by
  obtain ⟨hd, rfl, ho, hp⟩ := hd
  by_cases q : x = y
  · exact Go.step (fun T locs X _ t k => XS.icmpYes X.here C.1 rfl (pc0 := pc) rfl (hb C.2.1 hd) rfl ((teq q).1) ho hp k) (kt q)
  · exact Go.step (fun T locs X _ t k => XS.icmpNo X.here C.1 rfl (hb C.2.1 hd) rfl ((feq q).1) k) (kf q)
theorem g_if_eq (C : Cx p s m meth c Z code maxL own ret) {pc pcT pcF : Nat} {Ls : Array Slot} {st : List Value} {o : Int} {x : Int32} (hd : B1 code pc (.ifCond .eq o) o pcT pcF) (kt : x = 0 → Go p l e R s m args below meth c n0 K N Q h ck cn (mkF m pcT Ls st)) (kf : ¬ (x = 0) → Go p l e R s m args below meth c n0 K N Q h ck cn (mkF m pcF Ls st)) : Go p l e R s m args below meth c n0 K N Q h ck cn (mkF m pc Ls (.int x :: st)) := by
  obtain ⟨hd, rfl, ho, hp⟩ := hd
  by_cases q : x = 0
  · exact Go.step (fun T locs X _ t k => XS.ifYes X.here C.1 rfl (pc0 := pc) rfl (hb C.2.1 hd) rfl ((if0 _ _).trans (teq q).1) ho hp k) (kt q)
  · exact Go.step (fun T locs X _ t k => XS.ifNo X.here C.1 rfl (hb C.2.1 hd) rfl ((if0 _ _).trans (feq q).1) k) (kf q)
theorem g_ifl_eq (C : Cx p s m meth c Z code maxL own ret) {pc pcT pcF : Nat} {Ls : Array Slot} {st : List Value} {o : Int} {x y : Int64} (hd : B1 code pc (.ifCond .eq o) o pcT pcF) (kt : x = y → Go p l e R s m args below meth c n0 K N Q h ck cn (mkF m pcT Ls st)) (kf : ¬ (x = y) → Go p l e R s m args below meth c n0 K N Q h ck cn (mkF m pcF Ls st)) : Go p l e R s m args below meth c n0 K N Q h ck cn (mkF m pc Ls (.int (lcmpW x y) :: st)) := by
  obtain ⟨hd, rfl, ho, hp⟩ := hd
  by_cases q : x = y
  · exact Go.step (fun T locs X _ t k => XS.ifYes X.here C.1 rfl (pc0 := pc) rfl (hb C.2.1 hd) rfl ((if0 _ _).trans (teq ((lw_eq x y).mpr q)).1) ho hp k) (kt q)
  · exact Go.step (fun T locs X _ t k => XS.ifNo X.here C.1 rfl (hb C.2.1 hd) rfl ((if0 _ _).trans (feq (fun z => q ((lw_eq x y).mp z))).1) k) (kf q)
theorem g_icmp_ne (C : Cx p s m meth c Z code maxL own ret) {pc pcT pcF : Nat} {Ls : Array Slot} {st : List Value} {o : Int} {x y : Int32} (hd : B1 code pc (.if_icmp .ne o) o pcT pcF) (kt : x = y → Go p l e R s m args below meth c n0 K N Q h ck cn (mkF m pcF Ls st)) (kf : ¬ (x = y) → Go p l e R s m args below meth c n0 K N Q h ck cn (mkF m pcT Ls st)) : Go p l e R s m args below meth c n0 K N Q h ck cn (mkF m pc Ls (.int y :: .int x :: st)) := by
  obtain ⟨hd, rfl, ho, hp⟩ := hd
  by_cases q : x = y
  · exact Go.step (fun T locs X _ t k => XS.icmpNo X.here C.1 rfl (hb C.2.1 hd) rfl ((teq q).2) k) (kt q)
  · exact Go.step (fun T locs X _ t k => XS.icmpYes X.here C.1 rfl (pc0 := pc) rfl (hb C.2.1 hd) rfl ((feq q).2) ho hp k) (kf q)
theorem g_if_ne (C : Cx p s m meth c Z code maxL own ret) {pc pcT pcF : Nat} {Ls : Array Slot} {st : List Value} {o : Int} {x : Int32} (hd : B1 code pc (.ifCond .ne o) o pcT pcF) (kt : x = 0 → Go p l e R s m args below meth c n0 K N Q h ck cn (mkF m pcF Ls st)) (kf : ¬ (x = 0) → Go p l e R s m args below meth c n0 K N Q h ck cn (mkF m pcT Ls st)) : Go p l e R s m args below meth c n0 K N Q h ck cn (mkF m pc Ls (.int x :: st)) := by
  obtain ⟨hd, rfl, ho, hp⟩ := hd
  by_cases q : x = 0
  · exact Go.step (fun T locs X _ t k => XS.ifNo X.here C.1 rfl (hb C.2.1 hd) rfl ((if0 _ _).trans (teq q).2) k) (kt q)
  · exact Go.step (fun T locs X _ t k => XS.ifYes X.here C.1 rfl (pc0 := pc) rfl (hb C.2.1 hd) rfl ((if0 _ _).trans (feq q).2) ho hp k) (kf q)
theorem g_ifl_ne (C : Cx p s m meth c Z code maxL own ret) {pc pcT pcF : Nat} {Ls : Array Slot} {st : List Value} {o : Int} {x y : Int64} (hd : B1 code pc (.ifCond .ne o) o pcT pcF) (kt : x = y → Go p l e R s m args below meth c n0 K N Q h ck cn (mkF m pcF Ls st)) (kf : ¬ (x = y) → Go p l e R s m args below meth c n0 K N Q h ck cn (mkF m pcT Ls st)) : Go p l e R s m args below meth c n0 K N Q h ck cn (mkF m pc Ls (.int (lcmpW x y) :: st)) := by
  obtain ⟨hd, rfl, ho, hp⟩ := hd
  by_cases q : x = y
  · exact Go.step (fun T locs X _ t k => XS.ifNo X.here C.1 rfl (hb C.2.1 hd) rfl ((if0 _ _).trans (teq ((lw_eq x y).mpr q)).2) k) (kt q)
  · exact Go.step (fun T locs X _ t k => XS.ifYes X.here C.1 rfl (pc0 := pc) rfl (hb C.2.1 hd) rfl ((if0 _ _).trans (feq (fun z => q ((lw_eq x y).mp z))).2) ho hp k) (kf q)
theorem g_ifnullN (C : Cx p s m meth c Z code maxL own ret) {pc pcT pcF : Nat} {Ls : Array Slot} {st : List Value} {o : Int} {b : Addr} (hd : B1 code pc (.ifnull o) o pcT pcF) (k : Go p l e R s m args below meth c n0 K N Q h ck cn (mkF m pcF Ls st)) : Go p l e R s m args below meth c n0 K N Q h ck cn (mkF m pc Ls (.ref b :: st)) := by
  obtain ⟨hd, rfl, ho, hp⟩ := hd
  exact Go.step (fun T locs X _ t k => XS.ifnullNo X.here C.1 rfl (hb C.2.1 hd) rfl k) k
theorem g_ifnullY (C : Cx p s m meth c Z code maxL own ret) {pc pcT pcF : Nat} {Ls : Array Slot} {st : List Value} {o : Int} (hd : B1 code pc (.ifnull o) o pcT pcF) (k : Go p l e R s m args below meth c n0 K N Q h ck cn (mkF m pcT Ls st)) : Go p l e R s m args below meth c n0 K N Q h ck cn (mkF m pc Ls (.null :: st)) := by
  obtain ⟨hd, rfl, ho, hp⟩ := hd
  exact Go.step (fun T locs X _ t k => XS.ifnullYes X.here C.1 rfl (pc0 := pc) rfl (hb C.2.1 hd) rfl ho hp k) k
theorem g_ifnonnullY (C : Cx p s m meth c Z code maxL own ret) {pc pcT pcF : Nat} {Ls : Array Slot} {st : List Value} {o : Int} {b : Addr} (hd : B1 code pc (.ifnonnull o) o pcT pcF) (k : Go p l e R s m args below meth c n0 K N Q h ck cn (mkF m pcT Ls st)) : Go p l e R s m args below meth c n0 K N Q h ck cn (mkF m pc Ls (.ref b :: st)) := by
  obtain ⟨hd, rfl, ho, hp⟩ := hd
  exact Go.step (fun T locs X _ t k => XS.ifnonnullYes X.here C.1 rfl (pc0 := pc) rfl (hb C.2.1 hd) rfl ho hp k) k
theorem g_ifnonnullN (C : Cx p s m meth c Z code maxL own ret) {pc pcT pcF : Nat} {Ls : Array Slot} {st : List Value} {o : Int} (hd : B1 code pc (.ifnonnull o) o pcT pcF) (k : Go p l e R s m args below meth c n0 K N Q h ck cn (mkF m pcF Ls st)) : Go p l e R s m args below meth c n0 K N Q h ck cn (mkF m pc Ls (.null :: st)) := by
  obtain ⟨hd, rfl, ho, hp⟩ := hd
  exact Go.step (fun T locs X _ t k => XS.ifnonnullNo X.here C.1 rfl (hb C.2.1 hd) rfl k) k
theorem g_acmp_eq (C : Cx p s m meth c Z code maxL own ret) {pc pcT pcF : Nat} {Ls : Array Slot} {st : List Value} {o : Int} {x y : Value} (h1 : x.isRef = true) (h2 : y.isRef = true) (hd : B1 code pc (.if_acmp .eq o) o pcT pcF) (kt : x = y → Go p l e R s m args below meth c n0 K N Q h ck cn (mkF m pcT Ls st)) (kf : ¬ x = y → Go p l e R s m args below meth c n0 K N Q h ck cn (mkF m pcF Ls st)) : Go p l e R s m args below meth c n0 K N Q h ck cn (mkF m pc Ls (y :: x :: st)) := by
  obtain ⟨hd, rfl, ho, rfl⟩ := hd
  by_cases q : x = y
  · exact Go.step (fun T locs X _ t k => Jvm.RoadKit.acmp X C.1 rfl h1 h2 (pc0 := pc) (same := true) rfl (hb C.2.1 hd) rfl (by simp [q]) ho rfl k) (kt q)
  · exact Go.step (fun T locs X _ t k => Jvm.RoadKit.acmp X C.1 rfl h1 h2 (pc0 := pc) (same := false) rfl (hb C.2.1 hd) rfl (by simp [q]) ho rfl k) (kf q)
theorem g_acmp_ne (C : Cx p s m meth c Z code maxL own ret) {pc pcT pcF : Nat} {Ls : Array Slot} {st : List Value} {o : Int} {x y : Value} (h1 : x.isRef = true) (h2 : y.isRef = true) (hd : B1 code pc (.if_acmp .ne o) o pcT pcF) (kt : x = y → Go p l e R s m args below meth c n0 K N Q h ck cn (mkF m pcF Ls st)) (kf : ¬ x = y → Go p l e R s m args below meth c n0 K N Q h ck cn (mkF m pcT Ls st)) : Go p l e R s m args below meth c n0 K N Q h ck cn (mkF m pc Ls (y :: x :: st)) := by
  obtain ⟨hd, rfl, ho, rfl⟩ := hd
  by_cases q : x = y
  · exact Go.step (fun T locs X _ t k => Jvm.RoadKit.acmp X C.1 rfl h1 h2 (pc0 := pc) (same := true) rfl (hb C.2.1 hd) rfl (by simp [q]) ho rfl k) (kt q)
  · exact Go.step (fun T locs X _ t k => Jvm.RoadKit.acmp X C.1 rfl h1 h2 (pc0 := pc) (same := false) rfl (hb C.2.1 hd) rfl (by simp [q]) ho rfl k) (kf q)
theorem ret0 {v : Option Value} {g : JFrame} (hlk : meth.locks = false) (hret : meth.sig.returnType = none → v = none) (hck : ck ≤ K) (hcn : cn ≤ N) (hQ : Q v h)
    (st : ∀ (T : State) (locs : List Loc) (fs : List Frame), Stand p l e R s m args below meth c T locs ck cn → (∀ (f : JFrame) (acts : List Action), f.method = m → f.locked = none → f.entered = [] → (doReturn e (T.setTop f) acts v).1 = T.setFrames fs) → Steps p.tables e below (T.setTop g) (T.setFrames fs)) :
    Go p l e R s m args below meth c n0 K N Q h ck cn g := fun T locs X eT hN => by
  obtain ⟨fs, hr, hrun, hended, hW, hsame⟩ := X.leave (v := v) hret hlk
  exact ⟨_, _, st T locs fs X hr, hrun, hended, v, locs, rfl, ⟨by show Q v T.heap; rw [eT]; exact hQ, hN⟩, ⟨_, rfl⟩, hW, hsame.mono hck hcn⟩
theorem g_retV (C : Cx p s m meth c Z code maxL own ret) {pc : Nat} {Ls : Array Slot} {pc' : Nat} (hd : I1 code pc .return_ 1 pc') (hret : ret = none) (hck : ck ≤ K) (hcn : cn ≤ N) (hQ : Q none h) : Go p l e R s m args below meth c n0 K N Q h ck cn (mkF m pc Ls []) := by
  obtain ⟨hd, -⟩ := hd
  exact ret0 C.2.2.2.2.2.2 (fun _ => rfl) hck hcn hQ (fun T locs fs X hr => X.returnOut C.1 (C.2.2.2.2.2.1.trans hret) (hb C.2.1 hd) hr)
theorem g_retInt (C : Cx p s m meth c Z code maxL own ret) {pc : Nat} {Ls : Array Slot} {pc' : Nat} {st : List Value} {z : Int32} (hd : I1 code pc .ireturn 1 pc') (hret : ret = some .int) (hck : ck ≤ K) (hcn : cn ≤ N) (hQ : Q (some (.int z)) h) : Go p l e R s m args below meth c n0 K N Q h ck cn (mkF m pc Ls (.int z :: st)) := by
  obtain ⟨hd, -⟩ := hd
  have hr' := C.2.2.2.2.2.1.trans hret
  exact ret0 C.2.2.2.2.2.2 (fun q => by rw [hr'] at q; cases q) hck hcn hQ (fun T locs fs X hr => retOut X C.1 hr' rfl (Or.inl ⟨rfl, Or.inl rfl, z, rfl⟩) (hb C.2.1 hd) hr)
theorem g_retLong (C : Cx p s m meth c Z code maxL own ret) {pc : Nat} {Ls : Array Slot} {pc' : Nat} {st : List Value} {z : Int64} (hd : I1 code pc .lreturn 1 pc') (hret : ret = some .long) (hck : ck ≤ K) (hcn : cn ≤ N) (hQ : Q (some (.long z)) h) : Go p l e R s m args below meth c n0 K N Q h ck cn (mkF m pc Ls (.long z :: st)) := by
  obtain ⟨hd, -⟩ := hd
  have hr' := C.2.2.2.2.2.1.trans hret
  exact ret0 C.2.2.2.2.2.2 (fun q => by rw [hr'] at q; cases q) hck hcn hQ (fun T locs fs X hr => retOut X C.1 hr' rfl (Or.inr (Or.inl ⟨rfl, rfl, z, rfl⟩)) (hb C.2.1 hd) hr)
theorem nar_ref {t : FieldType} {v : Value} (hv : v.isRef = true) : narrow t v = v := by
  rcases ref_cases hv with rfl | ⟨a, rfl⟩ <;> cases t <;> rfl
theorem g_retRef (C : Cx p s m meth c Z code maxL own ret) {pc : Nat} {Ls : Array Slot} {pc' : Nat} {st : List Value} {v : Value} {t : FieldType} (hd : I1 code pc .areturn 1 pc') (hret : ret = some t) (ht : t.isReference = true) (hv : v.isRef = true) (hck : ck ≤ K) (hcn : cn ≤ N) (hQ : Q (some v) h) : Go p l e R s m args below meth c n0 K N Q h ck cn (mkF m pc Ls (v :: st)) := by
  obtain ⟨hd, -⟩ := hd
  have hr' := C.2.2.2.2.2.1.trans hret
  exact ret0 C.2.2.2.2.2.2 (fun q => by rw [hr'] at q; cases q) hck hcn hQ (fun T locs fs X hr => retOut X C.1 hr' (nar_ref hv) (Or.inr (Or.inr (Or.inr (Or.inr ⟨rfl, ht, hv⟩)))) (hb C.2.1 hd) hr)
theorem g_retNar (C : Cx p s m meth c Z code maxL own ret) {pc : Nat} {Ls : Array Slot} {pc' : Nat} {st : List Value} {z : Int32} {t : FieldType} (hd : I1 code pc .ireturn 1 pc') (hret : ret = some t) (ht : t = .boolean ∨ t = .byte ∨ t = .char ∨ t = .short) (hck : ck ≤ K) (hcn : cn ≤ N) (hQ : Q (some (.int (nar t z))) h) : Go p l e R s m args below meth c n0 K N Q h ck cn (mkF m pc Ls (.int z :: st)) := by
  obtain ⟨hd, -⟩ := hd
  have hr' := C.2.2.2.2.2.1.trans hret
  exact ret0 C.2.2.2.2.2.2 (fun q => by rw [hr'] at q; cases q) hck hcn hQ (fun T locs fs X hr => retN X C.1 hr' ht (hb C.2.1 hd) hr)
theorem g_getF (C : Cx p s m meth c Z code maxL own ret) {pc pc' : Nat} {Ls : Array Slot} {st : List Value} {R0 O n d host : String} {index : Nat} {a : Addr} {v : Value} (hd : I1 code pc (.getfield index) 3 pc') (w : (Cond.fieldLink own index R0 n d).before a0 Z = true ∨ (Cond.fieldLinkNest own index R0 n d host).before a0 Z = true) (via : Via Z R0 O n d) (F : Fld Z h a O n d v)
    (k : Go p l e R s m args below meth c n0 K N Q h ck cn (mkF m pc' Ls (v :: st))) : Go p l e R s m args below meth c n0 K N Q h ck cn (mkF m pc Ls (.ref a :: st)) := fun T locs X eT hN => by
  obtain ⟨hd, rfl⟩ := hd
  obtain ⟨T', X', e', st'⟩ := Jvm.RoadKit.getF X C.1 C.2.2.2.1 C.2.2.2.2.1 w via eT F (g := mkF m pc Ls (.ref a :: st)) rfl rfl (hb C.2.1 hd)
  exact Go.move hN X' e' hN st' k
theorem g_getS (C : Cx p s m meth c Z code maxL own ret) {pc pc' : Nat} {Ls : Array Slot} {st : List Value} {R0 O n d host : String} {index : Nat} {v : Value} (hd : I1 code pc (.getstatic index) 3 pc') (w : (Cond.fieldLink own index R0 n d).before a0 Z = true ∨ (Cond.fieldLinkNest own index R0 n d host).before a0 Z = true) (via : Via Z R0 O n d) (F : Sta Z h O n d v)
    (k : Go p l e R s m args below meth c n0 K N Q h ck cn (mkF m pc' Ls (v :: st))) : Go p l e R s m args below meth c n0 K N Q h ck cn (mkF m pc Ls st) := fun T locs X eT hN => by
  obtain ⟨hd, rfl⟩ := hd
  obtain ⟨T', X', e', st'⟩ := Jvm.RoadKit.getS2 X C.1 C.2.2.2.1 C.2.2.2.2.1 w via eT F (g := mkF m pc Ls st) rfl (hb C.2.1 hd)
  exact Go.move hN X' e' hN st' k
theorem g_putF (C : Cx p s m meth c Z code maxL own ret) {pc pc' : Nat} {Ls : Array Slot} {st : List Value} {R0 O n d host Cl : String} {index kk : Nat} {ty : FieldType} {a : Addr} {v old : Value} (hd : I1 code pc (.putfield index) 3 pc') (w : (Cond.fieldLink own index R0 n d).before a0 Z = true ∨ (Cond.fieldLinkNest own index R0 n d host).before a0 Z = true) (via : Via Z R0 O n d) (F : Fld Z h a O n d old) (E : Exa Z h a Cl)
    (L : (Cond.lays Cl O n d).before a0 Z = true ∨ ((Cond.laysFinal Cl O n d).before a0 Z = true ∧ own = O ∧ meth.name = "<init>")) (wi : (Cond.instantiable Cl kk).before a0 Z = true) (hty : parseFieldDescriptor d = some ty) (hn : narrow ty v = v) (hf : fits ty v = true) (ha : n0 ≤ a)
    (k : ∀ h', Wr h h' a (Jvm.RoadKit.slotOf Z O n d) v → Go p l e R s m args below meth c n0 K N Q h' ck cn (mkF m pc' Ls st)) : Go p l e R s m args below meth c n0 K N Q h ck cn (mkF m pc Ls (v :: .ref a :: st)) := fun T locs X eT hN => by
  obtain ⟨hd, rfl⟩ := hd
  obtain ⟨T', h', X', e', W, st'⟩ := Jvm.RoadKit.putF X C.1 C.2.2.2.1 C.2.2.2.2.1 w via eT F E L wi hty hn hf (g := mkF m pc Ls (v :: .ref a :: st)) rfl rfl (hb C.2.1 hd)
  exact Go.move hN X' e' (Fr.snoc X' hN ha) st' (k h' W)
theorem g_putFN (C : Cx p s m meth c Z code maxL own ret) {pc pc' : Nat} {Ls : Array Slot} {st : List Value} {R0 O n d Cl : String} {index kk : Nat} {ty : FieldType} {a : Addr} {v v' old : Value} (hd : I1 code pc (.putfield index) 3 pc') (w : (Cond.fieldLink own index R0 n d).before a0 Z = true) (via : Via Z R0 O n d) (F : Fld Z h a O n d old) (E : Exa Z h a Cl)
    (L : (Cond.lays Cl O n d).before a0 Z = true ∨ ((Cond.laysFinal Cl O n d).before a0 Z = true ∧ own = O ∧ meth.name = "<init>")) (wi : (Cond.instantiable Cl kk).before a0 Z = true) (hty : parseFieldDescriptor d = some ty) (hn : narrow ty v = v') (hf : fits ty v' = true) (ha : n0 ≤ a)
    (k : ∀ h', Wr h h' a (Jvm.RoadKit.slotOf Z O n d) v' → Go p l e R s m args below meth c n0 K N Q h' ck cn (mkF m pc' Ls st)) : Go p l e R s m args below meth c n0 K N Q h ck cn (mkF m pc Ls (v :: .ref a :: st)) := fun T locs X eT hN => by
  obtain ⟨hd, rfl⟩ := hd
  obtain ⟨T', h', X', e', W, st'⟩ := Jvm.RoadKit.putFN X C.1 C.2.2.2.1 C.2.2.2.2.1 w via eT F E L wi hty hn hf (g := mkF m pc Ls (v :: .ref a :: st)) rfl rfl (hb C.2.1 hd)
  exact Go.move hN X' e' (Fr.snoc X' hN ha) st' (k h' W)
theorem g_newO (C : Cx p s m meth c Z code maxL own ret) {pc pc' : Nat} {Ls : Array Slot} {st : List Value} {Cl : String} {index n : Nat} (hd : I1 code pc (.new index) 3 pc') (w : (Cond.classLink own index Cl).before a0 Z = true) (wi : (Cond.instantiable Cl n).before a0 Z = true) (wz : (Cond.initialized Cl).before a0 Z = true) (hc : ck + 1 ≤ R.cells) (hl : cn + n ≤ R.slots) {ck' cn' : Nat} (hck : ck + 1 = ck') (hcn : cn + n = cn')
    (k : ∀ (h' : Heap) (a : Addr), a = h.size → Ext h h' → Exa Z h' a Cl → (∀ {O nm d : String} {ty : FieldType}, Laid Z a0 Cl O nm d → parseFieldDescriptor d = some ty → Fld Z h' a O nm d (defaultValue ty)) → Go p l e R s m args below meth c n0 K N Q h' ck' cn' (mkF m pc' Ls (.ref a :: st))) : Go p l e R s m args below meth c n0 K N Q h ck cn (mkF m pc Ls st) := fun T locs X eT hN => by
  obtain ⟨hd, rfl⟩ := hd
  subst hck hcn
  obtain ⟨T', h', X', e', E, A, D, -, st'⟩ := Jvm.RoadKit.newO X C.1 C.2.2.2.1 C.2.2.2.2.1 w wi wz eT (g := mkF m pc Ls st) rfl (hb C.2.1 hd) hc hl
  exact Go.move hN X' e' hN st' (k h' _ rfl E A D)
theorem g_initO (C : Cx p s m meth c Z code maxL own ret) {pc pc' : Nat} {Ls : Array Slot} {st : List Value} {a : Addr} {idx : Nat} (hd : I1 code pc (.invokespecial idx) 3 pc') (w1 : (Cond.methodLink own idx Lib.objectInit).before a0 Z = true) (w2 : (Cond.instanceMethod Lib.objectInit).before a0 Z = true) (w3 : (Cond.code Lib.objectInit ⟨#[0xb1]⟩ 1 none).before a0 Z = true) (hsz : Ls.size = maxL)
    (hf : 1 ≤ R.frames) (W : Nat) (hW : 2 * 0 + (st.map fun v => v.category).sum ≤ W) (hl : W + 12 ≤ R.locals) (k : Go p l e R s m args below meth c n0 K N Q h ck cn (mkF m pc' Ls st)) : Go p l e R s m args below meth c n0 K N Q h ck cn (mkF m pc Ls (.ref a :: st)) := fun T locs X eT hN => by
  obtain ⟨hd, rfl⟩ := hd
  obtain ⟨T', X', e', st'⟩ := Jvm.RoadKit.initO X C.1 C.2.2.2.1 C.2.2.2.2.1 w1 w2 w3 eT (g := mkF m pc Ls (.ref a :: st)) rfl (hsz.trans C.2.2.1.symm) rfl (hb C.2.1 hd) hf (W := W) hW hl
  exact Go.move hN X' e' hN st' k
theorem g_castY (C : Cx p s m meth c Z code maxL own ret) {pc pc' : Nat} {Ls : Array Slot} {st : List Value} {Kl : String} {index : Nat} {a : Addr} (hd : I1 code pc (.checkcast index) 3 pc') (w : (Cond.classLink own index Kl).before a0 Z = true) (F : Ins Z h a Kl true) (k : Go p l e R s m args below meth c n0 K N Q h ck cn (mkF m pc' Ls (.ref a :: st))) : Go p l e R s m args below meth c n0 K N Q h ck cn (mkF m pc Ls (.ref a :: st)) := fun T locs X eT hN => by
  obtain ⟨hd, rfl⟩ := hd
  obtain ⟨T', X', e', st'⟩ := Jvm.RoadKit.castY X C.1 C.2.2.2.1 C.2.2.2.2.1 w eT F (g := mkF m pc Ls (.ref a :: st)) rfl rfl (hb C.2.1 hd)
  exact Go.move hN X' e' hN st' k
theorem g_castNull (C : Cx p s m meth c Z code maxL own ret) {pc pc' : Nat} {Ls : Array Slot} {st : List Value} {index : Nat} (hd : I1 code pc (.checkcast index) 3 pc') (k : Go p l e R s m args below meth c n0 K N Q h ck cn (mkF m pc' Ls (.null :: st))) : Go p l e R s m args below meth c n0 K N Q h ck cn (mkF m pc Ls (.null :: st)) := by
  obtain ⟨hd, rfl⟩ := hd
  exact Go.step (fun T locs X _ t k => X.checkcastNull C.1 (g := mkF m pc Ls (.null :: st)) rfl rfl (hb C.2.1 hd) _ k) k
theorem g_instY (C : Cx p s m meth c Z code maxL own ret) {pc pc' : Nat} {Ls : Array Slot} {st : List Value} {Kl : String} {index : Nat} {a : Addr} (hd : I1 code pc (.instanceof index) 3 pc') (w : (Cond.classLink own index Kl).before a0 Z = true) (F : Ins Z h a Kl true) (k : Go p l e R s m args below meth c n0 K N Q h ck cn (mkF m pc' Ls (.int 1 :: st))) : Go p l e R s m args below meth c n0 K N Q h ck cn (mkF m pc Ls (.ref a :: st)) := fun T locs X eT hN => by
  obtain ⟨hd, rfl⟩ := hd
  obtain ⟨T', X', e', st'⟩ := Jvm.RoadKit.instY X C.1 C.2.2.2.1 C.2.2.2.2.1 w eT F (g := mkF m pc Ls (.ref a :: st)) rfl rfl (hb C.2.1 hd)
  exact Go.move hN X' e' hN st' k
theorem g_instNo (C : Cx p s m meth c Z code maxL own ret) {pc pc' : Nat} {Ls : Array Slot} {st : List Value} {Kl Cl : String} {index : Nat} {a : Addr} (hd : I1 code pc (.instanceof index) 3 pc') (w : (Cond.classLink own index Kl).before a0 Z = true) (E : Exa Z h a Cl) (F : ∃ c t, Z.vm.findClass Cl = some c ∧ Z.vm.findClass Kl = some t ∧ Z.vm.assignable c t = false) (k : Go p l e R s m args below meth c n0 K N Q h ck cn (mkF m pc' Ls (.int 0 :: st))) : Go p l e R s m args below meth c n0 K N Q h ck cn (mkF m pc Ls (.ref a :: st)) := fun T locs X eT hN => by
  obtain ⟨hd, rfl⟩ := hd
  obtain ⟨T', X', e', st'⟩ := Jvm.RoadKit.instNo X C.1 C.2.2.2.1 C.2.2.2.2.1 w eT E F (g := mkF m pc Ls (.ref a :: st)) rfl rfl (hb C.2.1 hd)
  exact Go.move hN X' e' hN st' k
theorem g_instNull (C : Cx p s m meth c Z code maxL own ret) {pc pc' : Nat} {Ls : Array Slot} {st : List Value} {index : Nat} (hd : I1 code pc (.instanceof index) 3 pc') (k : Go p l e R s m args below meth c n0 K N Q h ck cn (mkF m pc' Ls (.int 0 :: st))) : Go p l e R s m args below meth c n0 K N Q h ck cn (mkF m pc Ls (.null :: st)) := by
  obtain ⟨hd, rfl⟩ := hd
  exact Go.step (fun T locs X _ t k => X.instanceofNull C.1 (g := mkF m pc Ls (.null :: st)) rfl rfl (hb C.2.1 hd) _ k) k
/-- an array of n places: what each holds -/
def AV (Z : State) (h : Heap) (a : Addr) (ty : FieldType) (n : Nat) (f : Nat → Value) : Prop := ∃ c : Cell, Arr Z h a c ty ∧ c.slots.size = n ∧ n < 2 ^ 31 ∧ ∀ i, i < n → c.slots[i]? = some (f i)
theorem AV.lt {a : Addr} {ty : FieldType} {n : Nat} {f : Nat → Value} (F : AV Z h a ty n f) : a < h.size := by obtain ⟨c, A, -⟩ := F; exact A.lt
theorem AV.ext {h' : Heap} {a : Addr} {ty : FieldType} {n : Nat} {f : Nat → Value} (F : AV Z h a ty n f) (E : Ext h h') : AV Z h' a ty n f := by obtain ⟨c, A, r⟩ := F; exact ⟨c, A.ext E, r⟩
theorem AV.other {h' : Heap} {a b : Addr} {sl : Nat} {v : Value} {ty : FieldType} {n : Nat} {f : Nat → Value} (F : AV Z h b ty n f) (W : Wr h h' a sl v) (q : b ≠ a) : AV Z h' b ty n f := by obtain ⟨c, A, r⟩ := F; exact ⟨c, A.other W q, r⟩
theorem AV.keep {h' : Heap} {ws : List Addr} {a : Addr} {ty : FieldType} {n : Nat} {f : Nat → Value} (F : AV Z h a ty n f) (K : Keep h h' ws) (q : a ∉ ws) : AV Z h' a ty n f := by obtain ⟨c, A, r⟩ := F; exact ⟨c, ⟨K.2.1 a c A.1 q, A.2⟩, r⟩
theorem AV.congr {a : Addr} {ty : FieldType} {n : Nat} {f g : Nat → Value} (F : AV Z h a ty n f) (q : ∀ i, i < n → f i = g i) : AV Z h a ty n g := by obtain ⟨c, A, r1, r2, r3⟩ := F; exact ⟨c, A, r1, r2, fun i hi => by rw [← q i hi]; exact r3 i hi⟩
theorem AV.ofNew {a : Addr} {ty : FieldType} {cA : ClassId} {z : Int32} (A : Arr Z h a (newA cA ty z) ty) (q : ¬ z < 0) : AV Z h a ty z.toNatClampNeg (fun _ => defaultValue ty) :=
  ⟨_, A, sz_new _ _ _, (back32 q).2, fun i hi => by simp [newA, hi]⟩
theorem AV.set {h' : Heap} {a : Addr} {ty : FieldType} {n : Nat} {f : Nat → Value} {j : Nat} {v : Value} (F : AV Z h a ty n f) (W : Wr h h' a j v) : AV Z h' a ty n (fun i => if i = j then v else f i) := by
  obtain ⟨c, A, r1, r2, r3⟩ := F
  obtain ⟨cell, w1, w2, w3, w4⟩ := W
  cases w1.symm.trans A.1
  refine ⟨c.setSlot j v, A.same ⟨c, w1, w2, w3, w4⟩, by rw [sz_set, r1], r2, fun i hi => ?_⟩
  by_cases q : i = j
  · subst q; simp [Cell.setSlot, w3]
  · simp only [q, if_false]; rw [← r3 i hi]; exact Array.getElem?_setIfInBounds_ne (Ne.symm q)
/-- the place lies inside -/
def Inb (j : Int32) (n : Nat) : Prop := ¬ j < 0 ∧ j.toNatClampNeg < n
theorem Inb.not {j : Int32} {n : Nat} (q : Inb j n) : ¬ (j < 0 ∨ n ≤ j.toNatClampNeg) := fun r => r.elim q.1 (fun z => Nat.not_lt.mpr z q.2)
theorem inb_int {j : Int32} {n : Nat} (h1 : 0 ≤ j.toInt) (h2 : j.toInt < n) : Inb j n := ⟨by simp only [Int32.lt_iff_toInt_lt, Int32.reduceToInt]; omega, by simp only [Int32.toNatClampNeg]; omega⟩
theorem g_newP (C : Cx p s m meth c Z code maxL own ret) {pc pc' : Nat} {Ls : Array Slot} {st : List Value} {aty : ArrayType} {n : Int32} (hd : I1 code pc (.newarray aty) 2 pc') (w : (Cond.arrayClass (newarray.typeOf aty)).before a0 Z = true) (hn : ¬ n < 0) (cap : Nat) (hcap : n.toNatClampNeg ≤ cap) (hb8 : cap * 8 ≤ 536870912) (hc : ck + 1 ≤ R.cells) (hl : cn + cap ≤ R.slots) {ck' cn' : Nat} (hck : ck + 1 = ck') (hcn : cn + cap = cn')
    (k : ∀ (h' : Heap) (a : Addr), a = h.size → Ext h h' → AV Z h' a (newarray.typeOf aty) n.toNatClampNeg (fun _ => defaultValue (newarray.typeOf aty)) → Go p l e R s m args below meth c n0 K N Q h' ck' cn' (mkF m pc' Ls (.ref a :: st))) : Go p l e R s m args below meth c n0 K N Q h ck cn (mkF m pc Ls (.int n :: st)) := fun T locs X eT hN => by
  obtain ⟨hd, rfl⟩ := hd
  subst hck hcn
  obtain ⟨T', h', cA, X', e', E, A, st'⟩ := Jvm.RoadKit.newP X C.1 C.2.2.2.1 w eT (g := mkF m pc Ls (.int n :: st)) rfl (hb C.2.1 hd) rfl hn hcap hb8 hc hl
  exact Go.move hN X' e' hN st' (k h' _ rfl E (AV.ofNew A hn))
theorem g_alen (C : Cx p s m meth c Z code maxL own ret) {pc pc' : Nat} {Ls : Array Slot} {st : List Value} {a : Addr} {ty : FieldType} {n : Nat} {f : Nat → Value} (z : Int32) (hd : I1 code pc .arraylength 1 pc') (F : AV Z h a ty n f) (hz : n.toInt32 = z) (k : Go p l e R s m args below meth c n0 K N Q h ck cn (mkF m pc' Ls (.int z :: st))) : Go p l e R s m args below meth c n0 K N Q h ck cn (mkF m pc Ls (.ref a :: st)) := by
  obtain ⟨hd, rfl⟩ := hd
  obtain ⟨cl, A, r1, r2, r3⟩ := F
  subst hz
  exact Go.step (fun T locs X eT t k => X.arraylength C.1 (by rw [eT]; exact A.1) (State.isArrayOf_alike C.2.2.2.1.alike A.2.1) (g := mkF m pc Ls (.ref a :: st)) rfl rfl (hb C.2.1 hd) _ (by rw [r1]; exact k)) k
theorem g_iald (C : Cx p s m meth c Z code maxL own ret) {pc pc' : Nat} {Ls : Array Slot} {st : List Value} {a : Addr} {j : Int32} {n : Nat} {f : Nat → Value} (v : Value) (hd : I1 code pc .iaload 1 pc') (F : AV Z h a .int n f) (hj : Inb j n) (hv : f j.toNatClampNeg = v) (k : Go p l e R s m args below meth c n0 K N Q h ck cn (mkF m pc' Ls (v :: st))) : Go p l e R s m args below meth c n0 K N Q h ck cn (mkF m pc Ls (.int j :: .ref a :: st)) := by
  obtain ⟨hd, rfl⟩ := hd
  obtain ⟨cl, A, r1, r2, r3⟩ := F
  subst hv
  exact Go.step (fun T locs X eT t k => X.iaload C.1 (by rw [eT]; exact A.1) (State.isArrayOf_alike C.2.2.2.1.alike A.2.1) A.2.2 (by rw [r1]; exact hj.not) (r3 _ hj.2) (g := mkF m pc Ls (.int j :: .ref a :: st)) rfl rfl (hb C.2.1 hd) _ k) k
theorem g_lald (C : Cx p s m meth c Z code maxL own ret) {pc pc' : Nat} {Ls : Array Slot} {st : List Value} {a : Addr} {j : Int32} {n : Nat} {f : Nat → Value} (v : Value) (hd : I1 code pc .laload 1 pc') (F : AV Z h a .long n f) (hj : Inb j n) (hv : f j.toNatClampNeg = v) (k : Go p l e R s m args below meth c n0 K N Q h ck cn (mkF m pc' Ls (v :: st))) : Go p l e R s m args below meth c n0 K N Q h ck cn (mkF m pc Ls (.int j :: .ref a :: st)) := by
  obtain ⟨hd, rfl⟩ := hd
  obtain ⟨cl, A, r1, r2, r3⟩ := F
  subst hv
  exact Go.step (fun T locs X eT t k => X.laload C.1 (by rw [eT]; exact A.1) (State.isArrayOf_alike C.2.2.2.1.alike A.2.1) A.2.2 (by rw [r1]; exact hj.not) (r3 _ hj.2) (g := mkF m pc Ls (.int j :: .ref a :: st)) rfl rfl (hb C.2.1 hd) _ k) k
theorem g_cald (C : Cx p s m meth c Z code maxL own ret) {pc pc' : Nat} {Ls : Array Slot} {st : List Value} {a : Addr} {j : Int32} {n : Nat} {f : Nat → Value} (v : Value) (hd : I1 code pc .caload 1 pc') (F : AV Z h a .char n f) (hj : Inb j n) (hv : f j.toNatClampNeg = v) (k : Go p l e R s m args below meth c n0 K N Q h ck cn (mkF m pc' Ls (v :: st))) : Go p l e R s m args below meth c n0 K N Q h ck cn (mkF m pc Ls (.int j :: .ref a :: st)) := by
  obtain ⟨hd, rfl⟩ := hd
  obtain ⟨cl, A, r1, r2, r3⟩ := F
  subst hv
  exact Go.step (fun T locs X eT t k => X.caload C.1 (by rw [eT]; exact A.1) (State.isArrayOf_alike C.2.2.2.1.alike A.2.1) A.2.2 (by rw [r1]; exact hj.not) (r3 _ hj.2) (g := mkF m pc Ls (.int j :: .ref a :: st)) rfl rfl (hb C.2.1 hd) _ k) k
theorem g_sald (C : Cx p s m meth c Z code maxL own ret) {pc pc' : Nat} {Ls : Array Slot} {st : List Value} {a : Addr} {j : Int32} {n : Nat} {f : Nat → Value} (v : Value) (hd : I1 code pc .saload 1 pc') (F : AV Z h a .short n f) (hj : Inb j n) (hv : f j.toNatClampNeg = v) (k : Go p l e R s m args below meth c n0 K N Q h ck cn (mkF m pc' Ls (v :: st))) : Go p l e R s m args below meth c n0 K N Q h ck cn (mkF m pc Ls (.int j :: .ref a :: st)) := by
  obtain ⟨hd, rfl⟩ := hd
  obtain ⟨cl, A, r1, r2, r3⟩ := F
  subst hv
  exact Go.step (fun T locs X eT t k => X.saload C.1 (by rw [eT]; exact A.1) (State.isArrayOf_alike C.2.2.2.1.alike A.2.1) A.2.2 (by rw [r1]; exact hj.not) (r3 _ hj.2) (g := mkF m pc Ls (.int j :: .ref a :: st)) rfl rfl (hb C.2.1 hd) _ k) k
theorem g_bald (C : Cx p s m meth c Z code maxL own ret) {pc pc' : Nat} {Ls : Array Slot} {st : List Value} {a : Addr} {j : Int32} {n : Nat} {f : Nat → Value} (v : Value) (hd : I1 code pc .baload 1 pc') (F : AV Z h a .byte n f) (hj : Inb j n) (hv : f j.toNatClampNeg = v) (k : Go p l e R s m args below meth c n0 K N Q h ck cn (mkF m pc' Ls (v :: st))) : Go p l e R s m args below meth c n0 K N Q h ck cn (mkF m pc Ls (.int j :: .ref a :: st)) := by
  obtain ⟨hd, rfl⟩ := hd
  obtain ⟨cl, A, r1, r2, r3⟩ := F
  subst hv
  exact Go.step (fun T locs X eT t k => X.baloadBytes C.1 (by rw [eT]; exact A.1) (State.isArrayOf_alike C.2.2.2.1.alike A.2.1) A.2.2 (by rw [r1]; exact hj.not) (r3 _ hj.2) (g := mkF m pc Ls (.int j :: .ref a :: st)) rfl rfl (hb C.2.1 hd) _ k) k
theorem g_zald (C : Cx p s m meth c Z code maxL own ret) {pc pc' : Nat} {Ls : Array Slot} {st : List Value} {a : Addr} {j : Int32} {n : Nat} {f : Nat → Value} (v : Value) (hd : I1 code pc .baload 1 pc') (F : AV Z h a .boolean n f) (hj : Inb j n) (hv : f j.toNatClampNeg = v) (k : Go p l e R s m args below meth c n0 K N Q h ck cn (mkF m pc' Ls (v :: st))) : Go p l e R s m args below meth c n0 K N Q h ck cn (mkF m pc Ls (.int j :: .ref a :: st)) := by
  obtain ⟨hd, rfl⟩ := hd
  obtain ⟨cl, A, r1, r2, r3⟩ := F
  subst hv
  exact Go.step (fun T locs X eT t k => X.baloadBooleans C.1 (by rw [eT]; exact A.1) (State.isArrayOf_alike C.2.2.2.1.alike A.2.1) A.2.2 (by rw [r1]; exact hj.not) (r3 _ hj.2) (g := mkF m pc Ls (.int j :: .ref a :: st)) rfl rfl (hb C.2.1 hd) _ k) k
theorem g_aald (C : Cx p s m meth c Z code maxL own ret) {pc pc' : Nat} {Ls : Array Slot} {st : List Value} {a : Addr} {j : Int32} {ty : FieldType} {n : Nat} {f : Nat → Value} (v : Value) (hd : I1 code pc .aaload 1 pc') (F : AV Z h a ty n f) (hj : Inb j n) (hv : f j.toNatClampNeg = v) (ht : ty.isReference = true) (k : Go p l e R s m args below meth c n0 K N Q h ck cn (mkF m pc' Ls (v :: st))) : Go p l e R s m args below meth c n0 K N Q h ck cn (mkF m pc Ls (.int j :: .ref a :: st)) := by
  obtain ⟨hd, rfl⟩ := hd
  obtain ⟨cl, A, r1, r2, r3⟩ := F
  subst hv
  exact Go.step (fun T locs X eT t k => X.aaload C.1 (by rw [eT]; exact A.1) (State.isArrayOf_alike C.2.2.2.1.alike A.2.1) ht A.2.2 (by rw [r1]; exact hj.not) (r3 _ hj.2) (g := mkF m pc Ls (.int j :: .ref a :: st)) rfl rfl (hb C.2.1 hd) _ k) k
theorem g_iast (C : Cx p s m meth c Z code maxL own ret) {pc pc' : Nat} {Ls : Array Slot} {st : List Value} {a : Addr} {j : Int32} {x : Int32} {n : Nat} {f : Nat → Value} (hd : I1 code pc .iastore 1 pc') (F : AV Z h a .int n f) (hj : Inb j n) (ha : n0 ≤ a)
    (k : ∀ h', Wr h h' a j.toNatClampNeg (.int x) → AV Z h' a .int n (fun i => if i = j.toNatClampNeg then .int x else f i) → Go p l e R s m args below meth c n0 K N Q h' ck cn (mkF m pc' Ls st)) : Go p l e R s m args below meth c n0 K N Q h ck cn (mkF m pc Ls (.int x :: .int j :: .ref a :: st)) := fun T locs X eT hN => by
  obtain ⟨hd, rfl⟩ := hd
  have F' := F
  obtain ⟨cl, A, r1, r2, r3⟩ := F
  obtain ⟨T', h', X', e', W, st'⟩ := Jvm.RoadKit.stI X C.1 C.2.2.2.1 eT A (by rw [r1]; exact hj.not) (g := mkF m pc Ls (.int x :: .int j :: .ref a :: st)) rfl rfl (hb C.2.1 hd)
  exact Go.move hN X' e' (Fr.snoc X' hN ha) st' (k h' W (F'.set W))
theorem g_last (C : Cx p s m meth c Z code maxL own ret) {pc pc' : Nat} {Ls : Array Slot} {st : List Value} {a : Addr} {j : Int32} {x : Int64} {n : Nat} {f : Nat → Value} (hd : I1 code pc .lastore 1 pc') (F : AV Z h a .long n f) (hj : Inb j n) (ha : n0 ≤ a)
    (k : ∀ h', Wr h h' a j.toNatClampNeg (.long x) → AV Z h' a .long n (fun i => if i = j.toNatClampNeg then .long x else f i) → Go p l e R s m args below meth c n0 K N Q h' ck cn (mkF m pc' Ls st)) : Go p l e R s m args below meth c n0 K N Q h ck cn (mkF m pc Ls (.long x :: .int j :: .ref a :: st)) := fun T locs X eT hN => by
  obtain ⟨hd, rfl⟩ := hd
  have F' := F
  obtain ⟨cl, A, r1, r2, r3⟩ := F
  obtain ⟨T', h', X', e', W, st'⟩ := Jvm.RoadKit.stJ X C.1 C.2.2.2.1 eT A (by rw [r1]; exact hj.not) (g := mkF m pc Ls (.long x :: .int j :: .ref a :: st)) rfl rfl (hb C.2.1 hd)
  exact Go.move hN X' e' (Fr.snoc X' hN ha) st' (k h' W (F'.set W))
theorem g_cast (C : Cx p s m meth c Z code maxL own ret) {pc pc' : Nat} {Ls : Array Slot} {st : List Value} {a : Addr} {j : Int32} {x : Int32} {n : Nat} {f : Nat → Value} (hd : I1 code pc .castore 1 pc') (F : AV Z h a .char n f) (hj : Inb j n) (ha : n0 ≤ a)
    (k : ∀ h', Wr h h' a j.toNatClampNeg (.int (nar .char x)) → AV Z h' a .char n (fun i => if i = j.toNatClampNeg then .int (nar .char x) else f i) → Go p l e R s m args below meth c n0 K N Q h' ck cn (mkF m pc' Ls st)) : Go p l e R s m args below meth c n0 K N Q h ck cn (mkF m pc Ls (.int x :: .int j :: .ref a :: st)) := fun T locs X eT hN => by
  obtain ⟨hd, rfl⟩ := hd
  have F' := F
  obtain ⟨cl, A, r1, r2, r3⟩ := F
  obtain ⟨T', h', X', e', W, st'⟩ := Jvm.RoadKit.stC X C.1 C.2.2.2.1 eT A (by rw [r1]; exact hj.not) (g := mkF m pc Ls (.int x :: .int j :: .ref a :: st)) rfl rfl (hb C.2.1 hd)
  exact Go.move hN X' e' (Fr.snoc X' hN ha) st' (k h' W (F'.set W))
theorem g_sast (C : Cx p s m meth c Z code maxL own ret) {pc pc' : Nat} {Ls : Array Slot} {st : List Value} {a : Addr} {j : Int32} {x : Int32} {n : Nat} {f : Nat → Value} (hd : I1 code pc .sastore 1 pc') (F : AV Z h a .short n f) (hj : Inb j n) (ha : n0 ≤ a)
    (k : ∀ h', Wr h h' a j.toNatClampNeg (.int (nar .short x)) → AV Z h' a .short n (fun i => if i = j.toNatClampNeg then .int (nar .short x) else f i) → Go p l e R s m args below meth c n0 K N Q h' ck cn (mkF m pc' Ls st)) : Go p l e R s m args below meth c n0 K N Q h ck cn (mkF m pc Ls (.int x :: .int j :: .ref a :: st)) := fun T locs X eT hN => by
  obtain ⟨hd, rfl⟩ := hd
  have F' := F
  obtain ⟨cl, A, r1, r2, r3⟩ := F
  obtain ⟨T', h', X', e', W, st'⟩ := Jvm.RoadKit.stS X C.1 C.2.2.2.1 eT A (by rw [r1]; exact hj.not) (g := mkF m pc Ls (.int x :: .int j :: .ref a :: st)) rfl rfl (hb C.2.1 hd)
  exact Go.move hN X' e' (Fr.snoc X' hN ha) st' (k h' W (F'.set W))
theorem g_bast (C : Cx p s m meth c Z code maxL own ret) {pc pc' : Nat} {Ls : Array Slot} {st : List Value} {a : Addr} {j : Int32} {x : Int32} {n : Nat} {f : Nat → Value} (hd : I1 code pc .bastore 1 pc') (F : AV Z h a .byte n f) (hj : Inb j n) (ha : n0 ≤ a)
    (k : ∀ h', Wr h h' a j.toNatClampNeg (.int (nar .byte x)) → AV Z h' a .byte n (fun i => if i = j.toNatClampNeg then .int (nar .byte x) else f i) → Go p l e R s m args below meth c n0 K N Q h' ck cn (mkF m pc' Ls st)) : Go p l e R s m args below meth c n0 K N Q h ck cn (mkF m pc Ls (.int x :: .int j :: .ref a :: st)) := fun T locs X eT hN => by
  obtain ⟨hd, rfl⟩ := hd
  have F' := F
  obtain ⟨cl, A, r1, r2, r3⟩ := F
  obtain ⟨T', h', X', e', W, st'⟩ := Jvm.RoadKit.stB X C.1 C.2.2.2.1 eT A (by rw [r1]; exact hj.not) (g := mkF m pc Ls (.int x :: .int j :: .ref a :: st)) rfl rfl (hb C.2.1 hd)
  exact Go.move hN X' e' (Fr.snoc X' hN ha) st' (k h' W (F'.set W))
theorem g_zast (C : Cx p s m meth c Z code maxL own ret) {pc pc' : Nat} {Ls : Array Slot} {st : List Value} {a : Addr} {j : Int32} {x : Int32} {n : Nat} {f : Nat → Value} (hd : I1 code pc .bastore 1 pc') (F : AV Z h a .boolean n f) (hj : Inb j n) (ha : n0 ≤ a)
    (k : ∀ h', Wr h h' a j.toNatClampNeg (.int (nar .boolean x)) → AV Z h' a .boolean n (fun i => if i = j.toNatClampNeg then .int (nar .boolean x) else f i) → Go p l e R s m args below meth c n0 K N Q h' ck cn (mkF m pc' Ls st)) : Go p l e R s m args below meth c n0 K N Q h ck cn (mkF m pc Ls (.int x :: .int j :: .ref a :: st)) := fun T locs X eT hN => by
  obtain ⟨hd, rfl⟩ := hd
  have F' := F
  obtain ⟨cl, A, r1, r2, r3⟩ := F
  obtain ⟨T', h', X', e', W, st'⟩ := Jvm.RoadKit.stZ X C.1 C.2.2.2.1 eT A (by rw [r1]; exact hj.not) (g := mkF m pc Ls (.int x :: .int j :: .ref a :: st)) rfl rfl (hb C.2.1 hd)
  exact Go.move hN X' e' (Fr.snoc X' hN ha) st' (k h' W (F'.set W))
theorem g_iastI (C : Cx p s m meth c Z code maxL own ret) {pc pc' : Nat} {Ls : Array Slot} {st : List Value} {a : Addr} {j : Int32} {x : Int32} {n : Nat} {f : Nat → Int32} (hd : I1 code pc .iastore 1 pc') (F : AV Z h a .int n (fun ix => .int (f ix))) (hj : Inb j n) (ha : n0 ≤ a)
    (k : ∀ h', Wr h h' a j.toNatClampNeg (.int (x)) → AV Z h' a .int n (fun ix => .int (if ix = j.toNatClampNeg then x else f ix)) → Go p l e R s m args below meth c n0 K N Q h' ck cn (mkF m pc' Ls st)) : Go p l e R s m args below meth c n0 K N Q h ck cn (mkF m pc Ls (.int x :: .int j :: .ref a :: st)) :=
  g_iast C hd F hj ha (fun h' W V => k h' W (AV.congr V (fun ix _ => by split <;> rfl)))
theorem g_lastI (C : Cx p s m meth c Z code maxL own ret) {pc pc' : Nat} {Ls : Array Slot} {st : List Value} {a : Addr} {j : Int32} {x : Int64} {n : Nat} {f : Nat → Int64} (hd : I1 code pc .lastore 1 pc') (F : AV Z h a .long n (fun ix => .long (f ix))) (hj : Inb j n) (ha : n0 ≤ a)
    (k : ∀ h', Wr h h' a j.toNatClampNeg (.long (x)) → AV Z h' a .long n (fun ix => .long (if ix = j.toNatClampNeg then x else f ix)) → Go p l e R s m args below meth c n0 K N Q h' ck cn (mkF m pc' Ls st)) : Go p l e R s m args below meth c n0 K N Q h ck cn (mkF m pc Ls (.long x :: .int j :: .ref a :: st)) :=
  g_last C hd F hj ha (fun h' W V => k h' W (AV.congr V (fun ix _ => by split <;> rfl)))
theorem g_castI (C : Cx p s m meth c Z code maxL own ret) {pc pc' : Nat} {Ls : Array Slot} {st : List Value} {a : Addr} {j : Int32} {x : Int32} {n : Nat} {f : Nat → Int32} (hd : I1 code pc .castore 1 pc') (F : AV Z h a .char n (fun ix => .int (f ix))) (hj : Inb j n) (ha : n0 ≤ a)
    (k : ∀ h', Wr h h' a j.toNatClampNeg (.int (nar .char x)) → AV Z h' a .char n (fun ix => .int (if ix = j.toNatClampNeg then nar .char x else f ix)) → Go p l e R s m args below meth c n0 K N Q h' ck cn (mkF m pc' Ls st)) : Go p l e R s m args below meth c n0 K N Q h ck cn (mkF m pc Ls (.int x :: .int j :: .ref a :: st)) :=
  g_cast C hd F hj ha (fun h' W V => k h' W (AV.congr V (fun ix _ => by split <;> rfl)))
theorem g_sastI (C : Cx p s m meth c Z code maxL own ret) {pc pc' : Nat} {Ls : Array Slot} {st : List Value} {a : Addr} {j : Int32} {x : Int32} {n : Nat} {f : Nat → Int32} (hd : I1 code pc .sastore 1 pc') (F : AV Z h a .short n (fun ix => .int (f ix))) (hj : Inb j n) (ha : n0 ≤ a)
    (k : ∀ h', Wr h h' a j.toNatClampNeg (.int (nar .short x)) → AV Z h' a .short n (fun ix => .int (if ix = j.toNatClampNeg then nar .short x else f ix)) → Go p l e R s m args below meth c n0 K N Q h' ck cn (mkF m pc' Ls st)) : Go p l e R s m args below meth c n0 K N Q h ck cn (mkF m pc Ls (.int x :: .int j :: .ref a :: st)) :=
  g_sast C hd F hj ha (fun h' W V => k h' W (AV.congr V (fun ix _ => by split <;> rfl)))
theorem g_bastI (C : Cx p s m meth c Z code maxL own ret) {pc pc' : Nat} {Ls : Array Slot} {st : List Value} {a : Addr} {j : Int32} {x : Int32} {n : Nat} {f : Nat → Int32} (hd : I1 code pc .bastore 1 pc') (F : AV Z h a .byte n (fun ix => .int (f ix))) (hj : Inb j n) (ha : n0 ≤ a)
    (k : ∀ h', Wr h h' a j.toNatClampNeg (.int (nar .byte x)) → AV Z h' a .byte n (fun ix => .int (if ix = j.toNatClampNeg then nar .byte x else f ix)) → Go p l e R s m args below meth c n0 K N Q h' ck cn (mkF m pc' Ls st)) : Go p l e R s m args below meth c n0 K N Q h ck cn (mkF m pc Ls (.int x :: .int j :: .ref a :: st)) :=
  g_bast C hd F hj ha (fun h' W V => k h' W (AV.congr V (fun ix _ => by split <;> rfl)))
theorem g_zastI (C : Cx p s m meth c Z code maxL own ret) {pc pc' : Nat} {Ls : Array Slot} {st : List Value} {a : Addr} {j : Int32} {x : Int32} {n : Nat} {f : Nat → Int32} (hd : I1 code pc .bastore 1 pc') (F : AV Z h a .boolean n (fun ix => .int (f ix))) (hj : Inb j n) (ha : n0 ≤ a)
    (k : ∀ h', Wr h h' a j.toNatClampNeg (.int (nar .boolean x)) → AV Z h' a .boolean n (fun ix => .int (if ix = j.toNatClampNeg then nar .boolean x else f ix)) → Go p l e R s m args below meth c n0 K N Q h' ck cn (mkF m pc' Ls st)) : Go p l e R s m args below meth c n0 K N Q h ck cn (mkF m pc Ls (.int x :: .int j :: .ref a :: st)) :=
  g_zast C hd F hj ha (fun h' W V => k h' W (AV.congr V (fun ix _ => by split <;> rfl)))
/-- the array class ad holds references of the class C -/
def OvA (Z : State) (ad C : String) : Prop := ∃ cA ty, Z.vm.findClass ad = some cA ∧ OvrA Z cA ty C
/-- what a short array of references holds -/
def rfs (L : List Value) (ix : Nat) : Value := L.getD ix .null
theorem g_newPE (C : Cx p s m meth c Z code maxL own ret) {pc pc' : Nat} {Ls : Array Slot} {st : List Value} {aty : ArrayType} {n : Int32} (hd : I1 code pc (.newarray aty) 2 pc') (w : (Cond.arrayClass (newarray.typeOf aty)).before a0 Z = true) (hn : ¬ n < 0) (cap : Nat) (hcap : n.toNatClampNeg ≤ cap) (hb8 : cap * 8 ≤ 536870912) (hc : ck + 1 ≤ R.cells) (hl : cn + cap ≤ R.slots) {ck' cn' : Nat} (hck : ck + 1 = ck') (hcn : cn + cap = cn') (ad : String) (had : "[" ++ (newarray.typeOf aty).toString = ad)
    (k : ∀ (h' : Heap) (a : Addr), a = h.size → Ext h h' → AV Z h' a (newarray.typeOf aty) n.toNatClampNeg (fun _ => defaultValue (newarray.typeOf aty)) → Exa Z h' a ad → Go p l e R s m args below meth c n0 K N Q h' ck' cn' (mkF m pc' Ls (.ref a :: st))) : Go p l e R s m args below meth c n0 K N Q h ck cn (mkF m pc Ls (.int n :: st)) := fun T locs X eT hN => by
  obtain ⟨hd, rfl⟩ := hd
  subst hck hcn
  obtain ⟨T', h', cA, X', e', E, A, Ea, st'⟩ := Jvm.RoadKit.newPE X C.1 C.2.2.2.1 w eT (g := mkF m pc Ls (.int n :: st)) rfl (hb C.2.1 hd) rfl hn hcap hb8 hc hl had
  exact Go.move hN X' e' hN st' (k h' _ rfl E (AV.ofNew A hn) Ea)
theorem g_newRA (C : Cx p s m meth c Z code maxL own ret) {pc pc' : Nat} {Ls : Array Slot} {st : List Value} {ty0 : FieldType} {index : Nat} {n : Int32} {Cl ad : String} (hd : I1 code pc (.anewarray index) 3 pc') (hC : (FieldType.array ty0).toString = Cl) (w1 : (Cond.classLink own index Cl).before a0 Z = true) (w2 : (Cond.arrayOver (.array ty0)).before a0 Z = true) (hn : ¬ n < 0) (cap : Nat) (hcap : n.toNatClampNeg ≤ cap) (hb8 : cap * 8 ≤ 536870912) (hc : ck + 1 ≤ R.cells) (hl : cn + cap ≤ R.slots) {ck' cn' : Nat} (hck : ck + 1 = ck') (hcn : cn + cap = cn') (had : "[" ++ Cl = ad)
    (k : ∀ (h' : Heap) (a : Addr), a = h.size → Ext h h' → AV Z h' a (.array ty0) n.toNatClampNeg (fun _ => .null) → Exa Z h' a ad → OvA Z ad Cl → Go p l e R s m args below meth c n0 K N Q h' ck' cn' (mkF m pc' Ls (.ref a :: st))) : Go p l e R s m args below meth c n0 K N Q h ck cn (mkF m pc Ls (.int n :: st)) := fun T locs X eT hN => by
  obtain ⟨hd, rfl⟩ := hd
  subst hck hcn
  obtain ⟨T', h', cA, X', e', E, A, Ea, O, st'⟩ := Jvm.RoadKit.newRA X C.1 C.2.2.2.1 C.2.2.2.2.1 hC w1 w2 eT (g := mkF m pc Ls (.int n :: st)) rfl (hb C.2.1 hd) rfl hn hcap hb8 hc hl had
  refine Go.move hN X' e' hN st' (k h' _ rfl E (AV.ofNew A hn) Ea ⟨cA, ty0, ?_, O⟩)
  obtain ⟨cell, kk, q1, q2, -⟩ := Ea
  cases q1.symm.trans A.1
  exact q2
theorem g_aast (C : Cx p s m meth c Z code maxL own ret) {pc pc' : Nat} {Ls : Array Slot} {st : List Value} {a y : Addr} {j : Int32} {ty : FieldType} {n : Nat} {f : Nat → Value} {ad Cl : String} (hd : I1 code pc .aastore 1 pc') (F : AV Z h a ty n f) (ht : ty.isReference = true) (hj : Inb j n) (ha : n0 ≤ a) (E : Exa Z h a ad) (O : OvA Z ad Cl) (I : Ins Z h y Cl true)
    (k : ∀ h', Wr h h' a j.toNatClampNeg (.ref y) → AV Z h' a ty n (fun i => if i = j.toNatClampNeg then .ref y else f i) → Go p l e R s m args below meth c n0 K N Q h' ck cn (mkF m pc' Ls st)) : Go p l e R s m args below meth c n0 K N Q h ck cn (mkF m pc Ls (.ref y :: .int j :: .ref a :: st)) := fun T locs X eT hN => by
  obtain ⟨hd, rfl⟩ := hd
  have F' := F
  obtain ⟨cl, A, r1, r2, r3⟩ := F
  obtain ⟨cell, kk, q1, q2, -⟩ := E
  cases q1.symm.trans A.1
  obtain ⟨cA, ty0, o1, o2⟩ := O
  obtain ⟨T', h', X', e', W, st'⟩ := Jvm.RoadKit.stR X C.1 C.2.2.2.1 eT A (by rw [r1]; exact hj.not) ht (Sto.ofVA A (Option.some.inj (q2.symm.trans o1)) o2 I) (g := mkF m pc Ls (.ref y :: .int j :: .ref a :: st)) rfl rfl (hb C.2.1 hd)
  exact Go.move hN X' e' (Fr.snoc X' hN ha) st' (k h' W (F'.set W))
theorem g_callS (C : Cx p s m meth c Z code maxL own ret) {pc pc' : Nat} {Ls : Array Slot} {y : MethodName} {ycode : ByteArray} {ymax : Nat} {yret : Option FieldType} {rm : Room} {as' : Array Value} {Q' : Option Value → Heap → Prop} {index : Nat} (hC : Ctr l Z y ycode ymax yret rm as' h n0 Q') (hd : I1 code pc (.invokestatic index) 3 pc') (w1 : (Cond.methodLink own index y).before a0 Z = true) (w2 : (Cond.static y).before a0 Z = true) (w3 : (Cond.initialized y.cls).before a0 Z = true) (w4 : (Cond.code y ycode ymax yret).before a0 Z = true) (hy : y.cls ≠ "java/lang/invoke/MethodHandle" ∧ y.cls ≠ "java/lang/invoke/VarHandle")
    {argsL st rest : List Value} (hst : st = argsL.reverse ++ rest) (has : argsL.toArray = as') {ps : List FieldType} {r : Option FieldType} (hpd : parseMethodDescriptor y.desc = some ⟨ps, r⟩) (hlen : argsL.length = ps.length) (hsz : Ls.size = maxL) (W : Nat) (hW : 2 * 0 + (rest.map fun v => v.category).sum ≤ W)
    (hf : rm.frames + 1 ≤ R.frames) (hl : W + (ymax + 11) + rm.locals ≤ R.locals) (hc : ck + rm.cells ≤ R.cells) (hs : cn + rm.slots ≤ R.slots) {ck' cn' : Nat} (hck : ck + rm.cells = ck') (hcn : cn + rm.slots = cn')
    (k : ∀ v h', Q' v h' → Go p l e R s m args below meth c n0 K N Q h' ck' cn' (mkF m pc' Ls (v.toList ++ rest))) : Go p l e R s m args below meth c n0 K N Q h ck cn (mkF m pc Ls st) := fun T locs X eT hN => by
  obtain ⟨hd, rfl⟩ := hd
  subst hck hcn hst
  obtain ⟨v, _, ⟨T', L', k', n'⟩, -, X', ⟨Lc, hQ, l1, l2, l3⟩, st'⟩ := Jvm.LawKit.callS X C.1 C.2.2.2.2.1 (mvT C.2.2.2.1 w1) (mvT C.2.2.2.1 w2) (mvT C.2.2.2.1 w3) (mvT C.2.2.2.1 w4) hy (backOf (W := W) (Q := fun v h L => Q' v h ∧ Fr n0 L) (hC []) C.2.2.2.1 w4 w3 hf hl) (g := mkF m pc Ls (argsL.reverse ++ rest)) rfl (hsz.trans C.2.2.1.symm) (argsL := argsL) (rest := rest) (lenOf hpd hlen) rfl hW (hb C.2.1 hd) (fun _ _ => ⟨has, eT, hc, hs⟩)
  dsimp only [Pt.U, Pt.locs, Pt.cells, Pt.slots] at X' l1 l2 l3 st' hQ
  subst l1 l2 l3
  exact Go.move hN X' rfl (Fr.app hN hQ.2) st' (k v _ hQ.1)
theorem g_callI (C : Cx p s m meth c Z code maxL own ret) {pc pc' : Nat} {Ls : Array Slot} {y : MethodName} {ycode : ByteArray} {ymax : Nat} {yret : Option FieldType} {rm : Room} {as' : Array Value} {Q' : Option Value → Heap → Prop} {index : Nat} (hC : Ctr l Z y ycode ymax yret rm as' h n0 Q') {a : Addr} (hd : I1 code pc (.invokespecial index) 3 pc') (hy1 : y.name = "<init>") (w1 : (Cond.methodLink own index y).before a0 Z = true) (w2 : (Cond.instanceMethod y).before a0 Z = true) (w3 : (Cond.initialized y.cls).before a0 Z = true) (w4 : (Cond.code y ycode ymax none).before a0 Z = true) (hyr : yret = none) (hy : y.cls ≠ "java/lang/invoke/MethodHandle" ∧ y.cls ≠ "java/lang/invoke/VarHandle")
    {argsL st rest : List Value} (hst : st = argsL.reverse ++ .ref a :: rest) (has : (.ref a :: argsL).toArray = as') {ps : List FieldType} {r : Option FieldType} (hpd : parseMethodDescriptor y.desc = some ⟨ps, r⟩) (hlen : argsL.length = ps.length) (hsz : Ls.size = maxL) (W : Nat) (hW : 2 * 0 + (rest.map fun v => v.category).sum ≤ W)
    (hf : rm.frames + 1 ≤ R.frames) (hl : W + (ymax + 11) + rm.locals ≤ R.locals) (hc : ck + rm.cells ≤ R.cells) (hs : cn + rm.slots ≤ R.slots) {ck' cn' : Nat} (hck : ck + rm.cells = ck') (hcn : cn + rm.slots = cn')
    (k : ∀ v h', Q' v h' → Go p l e R s m args below meth c n0 K N Q h' ck' cn' (mkF m pc' Ls (v.toList ++ rest))) : Go p l e R s m args below meth c n0 K N Q h ck cn (mkF m pc Ls st) := fun T locs X eT hN => by
  obtain ⟨hd, rfl⟩ := hd
  subst hck hcn hst
  subst hyr
  obtain ⟨v, _, ⟨T', L', k', n'⟩, -, X', ⟨Lc, hQ, l1, l2, l3⟩, st'⟩ := X.specialBack C.1 hy1 C.2.2.2.2.1 (mvT C.2.2.2.1 w1) (mvT C.2.2.2.1 w2) (mvT C.2.2.2.1 w4) hy (backOf (W := W) (Q := fun v h L => Q' v h ∧ Fr n0 L) (hC []) C.2.2.2.1 w4 w3 hf hl) (g := mkF m pc Ls (argsL.reverse ++ .ref a :: rest)) rfl (hsz.trans C.2.2.1.symm) (Steps.refl _) (a := a) (argsL := argsL) (rest := rest) (lenOf hpd hlen) rfl hW (hb C.2.1 hd) (fun _ _ => ⟨has, eT, hc, hs⟩)
  dsimp only [Pt.U, Pt.locs, Pt.cells, Pt.slots] at X' l1 l2 l3 st' hQ
  subst l1 l2 l3
  exact Go.move hN X' rfl (Fr.app hN hQ.2) (fun _ z => st'.trans z) (k v _ hQ.1)
theorem g_callV (C : Cx p s m meth c Z code maxL own ret) {pc pc' : Nat} {Ls : Array Slot} {y : MethodName} {ycode : ByteArray} {ymax : Nat} {yret : Option FieldType} {rm : Room} {as' : Array Value} {Q' : Option Value → Heap → Prop} {index : Nat} (hC : Ctr l Z y ycode ymax yret rm as' h n0 Q') {a : Addr} {x : MethodName} {Cl : String} (hd : I1 code pc (.invokevirtual index) 3 pc') (w1 : (Cond.methodLink own index x).before a0 Z = true) (w2 : (Cond.declares x).before a0 Z = true) (hnf : ∀ s : State, Z.Warmed39 s.vm → NotFace s x) (w5 : (Cond.selects Cl x y).before a0 Z = true) (w6 : (Cond.instanceMethod y).before a0 Z = true) (w3 : (Cond.initialized y.cls).before a0 Z = true) (w4 : (Cond.code y ycode ymax yret).before a0 Z = true) (hy : x.cls ≠ "java/lang/invoke/MethodHandle" ∧ x.cls ≠ "java/lang/invoke/VarHandle") (E : Exa Z h a Cl)
    {argsL st rest : List Value} (hst : st = argsL.reverse ++ .ref a :: rest) (has : (.ref a :: argsL).toArray = as') {ps : List FieldType} {r : Option FieldType} (hpd : parseMethodDescriptor x.desc = some ⟨ps, r⟩) (hlen : argsL.length = ps.length) (hsz : Ls.size = maxL) (W : Nat) (hW : 2 * 0 + (rest.map fun v => v.category).sum ≤ W)
    (hf : rm.frames + 1 ≤ R.frames) (hl : W + (ymax + 11) + rm.locals ≤ R.locals) (hc : ck + rm.cells ≤ R.cells) (hs : cn + rm.slots ≤ R.slots) {ck' cn' : Nat} (hck : ck + rm.cells = ck') (hcn : cn + rm.slots = cn')
    (k : ∀ v h', Q' v h' → Go p l e R s m args below meth c n0 K N Q h' ck' cn' (mkF m pc' Ls (v.toList ++ rest))) : Go p l e R s m args below meth c n0 K N Q h ck cn (mkF m pc Ls st) := fun T locs X eT hN => by
  obtain ⟨hd, rfl⟩ := hd
  subst hck hcn hst
  obtain ⟨cq, kq, q1, q2, q3⟩ := isOf C.2.2.2.1 eT E
  obtain ⟨v, _, ⟨T', L', k', n'⟩, -, X', ⟨Lc, hQ, l1, l2, l3⟩, st'⟩ := X.virtualBack C.1 (y := x) (z := y) C.2.2.2.2.1 (mvT C.2.2.2.1 w1) (mvT C.2.2.2.1 w2) (hnf s C.2.2.2.1) (mvT C.2.2.2.1 w5) (mvT C.2.2.2.1 w6) hy (backOf (W := W) (Q := fun v h L => Q' v h ∧ Fr n0 L) (hC []) C.2.2.2.1 w4 w3 hf hl) q1 q3 (g := mkF m pc Ls (argsL.reverse ++ .ref a :: rest)) rfl (hsz.trans C.2.2.1.symm) (Steps.refl _) (argsL := argsL) (rest := rest) (lenOf hpd hlen) rfl hW (hb C.2.1 hd) (fun _ _ => ⟨has, eT, hc, hs⟩)
  dsimp only [Pt.U, Pt.locs, Pt.cells, Pt.slots] at X' l1 l2 l3 st' hQ
  subst l1 l2 l3
  exact Go.move hN X' rfl (Fr.app hN hQ.2) (fun _ z => st'.trans z) (k v _ hQ.1)
theorem g_callP (C : Cx p s m meth c Z code maxL own ret) {pc pc' : Nat} {Ls : Array Slot} {y : MethodName} {ycode : ByteArray} {ymax : Nat} {yret : Option FieldType} {rm : Room} {as' : Array Value} {Q' : Option Value → Heap → Prop} {index : Nat} (hC : Ctr l Z y ycode ymax yret rm as' h n0 Q') {a : Addr} {Cl : String} (hd : I1 code pc (.invokevirtual index) 3 pc') (w1 : (Cond.methodLink own index y).before a0 Z = true) (w2 : (Cond.instanceMethod y).before a0 Z = true) (w5 : (Cond.selects y.cls y y).before a0 Z = true) (w6 : (Cond.privateMethod y).before a0 Z = true) (w3 : (Cond.initialized y.cls).before a0 Z = true) (w4 : (Cond.code y ycode ymax yret).before a0 Z = true) (hy : y.cls ≠ "java/lang/invoke/MethodHandle" ∧ y.cls ≠ "java/lang/invoke/VarHandle") (E : Exa Z h a Cl)
    {argsL st rest : List Value} (hst : st = argsL.reverse ++ .ref a :: rest) (has : (.ref a :: argsL).toArray = as') {ps : List FieldType} {r : Option FieldType} (hpd : parseMethodDescriptor y.desc = some ⟨ps, r⟩) (hlen : argsL.length = ps.length) (hsz : Ls.size = maxL) (W : Nat) (hW : 2 * 0 + (rest.map fun v => v.category).sum ≤ W)
    (hf : rm.frames + 1 ≤ R.frames) (hl : W + (ymax + 11) + rm.locals ≤ R.locals) (hc : ck + rm.cells ≤ R.cells) (hs : cn + rm.slots ≤ R.slots) {ck' cn' : Nat} (hck : ck + rm.cells = ck') (hcn : cn + rm.slots = cn')
    (k : ∀ v h', Q' v h' → Go p l e R s m args below meth c n0 K N Q h' ck' cn' (mkF m pc' Ls (v.toList ++ rest))) : Go p l e R s m args below meth c n0 K N Q h ck cn (mkF m pc Ls st) := fun T locs X eT hN => by
  obtain ⟨hd, rfl⟩ := hd
  subst hck hcn hst
  obtain ⟨cq, q1, q2⟩ := E.cell
  obtain ⟨v, _, ⟨T', L', k', n'⟩, -, X', ⟨Lc, hQ, l1, l2, l3⟩, st'⟩ := X.privateBack C.1 (y := y) C.2.2.2.2.1 (mvT C.2.2.2.1 w1) (mvT C.2.2.2.1 w2) (mvT C.2.2.2.1 w5) (Cond.privateMethod_at (mvP C.2.2.2.1 w6 (args := #[]))) (mvT C.2.2.2.1 w4) hy (backOf (W := W) (Q := fun v h L => Q' v h ∧ Fr n0 L) (hC []) C.2.2.2.1 w4 w3 hf hl) (g := mkF m pc Ls (argsL.reverse ++ .ref a :: rest)) rfl (hsz.trans C.2.2.1.symm) (Steps.refl _) (a := a) (by rw [eT]; exact q1) q2 (argsL := argsL) (rest := rest) (lenOf hpd hlen) rfl hW (hb C.2.1 hd) (fun _ _ => ⟨has, eT, hc, hs⟩)
  dsimp only [Pt.U, Pt.locs, Pt.cells, Pt.slots] at X' l1 l2 l3 st' hQ
  subst l1 l2 l3
  exact Go.move hN X' rfl (Fr.app hN hQ.2) (fun _ z => st'.trans z) (k v _ hQ.1)
end
end Jvm.OwnGo
namespace Jvm.OwnGo
open Jvm.RoadKit
theorem nar_b (x : Int32) : nar .boolean x = x &&& 1 := rfl
theorem nbT {P : Prop} [Decidable P] : nar .boolean (if P then (1 : Int32) else (0 : Int32)) = 1 ↔ P := by
  by_cases h : P
  · simp only [if_pos h]; exact ⟨fun _ => h, fun _ => rfl⟩
  · simp only [if_neg h]; exact ⟨fun q => absurd q (by decide), fun q => absurd q h⟩
theorem own_nat {i : Nat} (h : i < 2147483648) : i.toInt32.toInt = i := len_toInt h
theorem own_cl {i : Nat} (h : i < 2147483648) : i.toInt32.toNatClampNeg = i := by simp only [Int32.toNatClampNeg, own_nat h]; omega
theorem own_lt {i n : Nat} (hi : i < 2147483648) (hn : n < 2147483648) : i.toInt32 < n.toInt32 ↔ i < n := by
  rw [Int32.lt_iff_toInt_lt, own_nat hi, own_nat hn]; omega
theorem own_inN {i n : Nat} (hi : i < 2147483648) (h : i < n) : Inb i.toInt32 n := inb_int (by rw [own_nat hi]; omega) (by rw [own_nat hi]; omega)
theorem own_rd {α : Type} (F : Nat → α) {i : Nat} (h : i < 2147483648) : F i.toInt32.toNatClampNeg = F i := by rw [own_cl h]
theorem own_succ {i : Nat} (h : i < 2147483647) : i.toInt32 + (1 : Int32) = (i + 1).toInt32 := by
  rw [← Int32.toInt_inj]
  have h1 := c_iadd i.toInt32 1
  have h2 := rng32 (i.toInt32 + 1)
  have h3 : (1 : Int32).toInt = 1 := rfl
  rw [own_nat (by omega), h3] at h1
  rw [own_nat (by omega)]
  omega
theorem AV.small {Z : State} {h : Heap} {a : Addr} {ty : ClassFile.FieldType} {n : Nat} {f : Nat → Value} (V : AV Z h a ty n f) : n < 2147483648 := by
  obtain ⟨c, -, -, r, -⟩ := V; exact r
theorem own_inb {Z : State} {h : Heap} {a : Addr} {ty : ClassFile.FieldType} {n : Nat} {f : Nat → Value} (V : AV Z h a ty n f) {j : Int32} (h0 : ¬ (j < (0 : Int32))) (h1 : j < n.toInt32) : Inb j n := by
  have hn := V.small
  have e0 : (0 : Int32).toInt = 0 := rfl
  rw [Int32.lt_iff_toInt_lt] at h0 h1
  rw [own_nat hn] at h1
  exact inb_int (by omega) (by omega)
end Jvm.OwnGo
namespace Jvm.Pilot.@@N@@
open Jvm Jvm.ClassFile Sem Op Lib Jvm.Free Jvm.Stand Jvm.LawKit Jvm.RoadKit Bundle Jvm.Pilot.@@N@@.Jvm.D
open Jvm.OwnGo
theorem own_i2 {s : Int32} (h : s = 0 ∨ s = 1) : Inb s 2 := by rcases h with rfl | rfl <;> exact ⟨by decide, by decide⟩
theorem own_i4 {s d : Int32} (h : s = 0 ∨ s = 1) (g : d = 0 ∨ d = 1) : Inb ((s * (2 : Int32)) + d) 4 := by rcases h with rfl | rfl <;> rcases g with rfl | rfl <;> exact ⟨by decide, by decide⟩
theorem own_b1 (x : Int32) : (x &&& (1 : Int32)) = 0 ∨ (x &&& (1 : Int32)) = 1 := by
  have h := c_and x 1 (by decide)
  have g3 : (1 : Int32).toInt = 1 := rfl
  rcases (by omega : (x &&& (1 : Int32)).toInt = 0 ∨ (x &&& (1 : Int32)).toInt = 1) with q | q
  · exact Or.inl (Int32.toInt_inj.mp q)
  · exact Or.inr (Int32.toInt_inj.mp q)
theorem pn0 : plainFor (⟨"com/example/bandweave/bandweave/star/Transport", "<init>", "(II)V"⟩ : MethodName) = true := by decide +kernel
theorem iI_0 : I1 prog_33_method_1_code 0 (.aload_n 0) 1 1 := ⟨(by decide +kernel), rfl⟩
theorem iI_1 : I1 prog_33_method_1_code 1 (.invokespecial 1) 3 4 := ⟨(by decide +kernel), rfl⟩
theorem iI_4 : I1 prog_33_method_1_code 4 (.aload_n 0) 1 5 := ⟨(by decide +kernel), rfl⟩
theorem iI_5 : I1 prog_33_method_1_code 5 (.iconst 2) 1 6 := ⟨(by decide +kernel), rfl⟩
theorem iI_6 : I1 prog_33_method_1_code 6 (.newarray .int) 2 8 := ⟨(by decide +kernel), rfl⟩
theorem iI_8 : I1 prog_33_method_1_code 8 (.dup) 1 9 := ⟨(by decide +kernel), rfl⟩
theorem iI_9 : I1 prog_33_method_1_code 9 (.iconst 0) 1 10 := ⟨(by decide +kernel), rfl⟩
theorem iI_10 : I1 prog_33_method_1_code 10 (.iload_n 1) 1 11 := ⟨(by decide +kernel), rfl⟩
theorem iI_11 : I1 prog_33_method_1_code 11 (.iastore) 1 12 := ⟨(by decide +kernel), rfl⟩
theorem iI_12 : I1 prog_33_method_1_code 12 (.dup) 1 13 := ⟨(by decide +kernel), rfl⟩
theorem iI_13 : I1 prog_33_method_1_code 13 (.iconst 1) 1 14 := ⟨(by decide +kernel), rfl⟩
theorem iI_14 : I1 prog_33_method_1_code 14 (.iload_n 2) 1 15 := ⟨(by decide +kernel), rfl⟩
theorem iI_15 : I1 prog_33_method_1_code 15 (.iastore) 1 16 := ⟨(by decide +kernel), rfl⟩
theorem iI_16 : I1 prog_33_method_1_code 16 (.putfield 7) 3 19 := ⟨(by decide +kernel), rfl⟩
theorem iI_19 : I1 prog_33_method_1_code 19 (.aload_n 0) 1 20 := ⟨(by decide +kernel), rfl⟩
theorem iI_20 : I1 prog_33_method_1_code 20 (.iload_n 1) 1 21 := ⟨(by decide +kernel), rfl⟩
theorem iI_21 : I1 prog_33_method_1_code 21 (.iload_n 2) 1 22 := ⟨(by decide +kernel), rfl⟩
theorem iI_22 : I1 prog_33_method_1_code 22 (.imul) 1 23 := ⟨(by decide +kernel), rfl⟩
theorem iI_23 : I1 prog_33_method_1_code 23 (.newarray .int) 2 25 := ⟨(by decide +kernel), rfl⟩
theorem iI_25 : I1 prog_33_method_1_code 25 (.putfield 13) 3 28 := ⟨(by decide +kernel), rfl⟩
theorem iI_28 : I1 prog_33_method_1_code 28 (.aload_n 0) 1 29 := ⟨(by decide +kernel), rfl⟩
theorem iI_29 : I1 prog_33_method_1_code 29 (.aload_n 0) 1 30 := ⟨(by decide +kernel), rfl⟩
theorem iI_30 : I1 prog_33_method_1_code 30 (.getfield 13) 3 33 := ⟨(by decide +kernel), rfl⟩
theorem iI_33 : I1 prog_33_method_1_code 33 (.arraylength) 1 34 := ⟨(by decide +kernel), rfl⟩
theorem iI_34 : I1 prog_33_method_1_code 34 (.newarray .int) 2 36 := ⟨(by decide +kernel), rfl⟩
theorem iI_36 : I1 prog_33_method_1_code 36 (.putfield 16) 3 39 := ⟨(by decide +kernel), rfl⟩
theorem iI_39 : I1 prog_33_method_1_code 39 (.aload_n 0) 1 40 := ⟨(by decide +kernel), rfl⟩
theorem iI_40 : I1 prog_33_method_1_code 40 (.aload_n 0) 1 41 := ⟨(by decide +kernel), rfl⟩
theorem iI_41 : I1 prog_33_method_1_code 41 (.getfield 13) 3 44 := ⟨(by decide +kernel), rfl⟩
theorem iI_44 : I1 prog_33_method_1_code 44 (.arraylength) 1 45 := ⟨(by decide +kernel), rfl⟩
theorem iI_45 : I1 prog_33_method_1_code 45 (.newarray .int) 2 47 := ⟨(by decide +kernel), rfl⟩
theorem iI_47 : I1 prog_33_method_1_code 47 (.putfield 19) 3 50 := ⟨(by decide +kernel), rfl⟩
theorem iI_50 : I1 prog_33_method_1_code 50 (.aload_n 0) 1 51 := ⟨(by decide +kernel), rfl⟩
theorem iI_51 : I1 prog_33_method_1_code 51 (.iconst 2) 1 52 := ⟨(by decide +kernel), rfl⟩
theorem iI_52 : I1 prog_33_method_1_code 52 (.anewarray 22) 3 55 := ⟨(by decide +kernel), rfl⟩
theorem iI_55 : I1 prog_33_method_1_code 55 (.dup) 1 56 := ⟨(by decide +kernel), rfl⟩
theorem iI_56 : I1 prog_33_method_1_code 56 (.iconst 0) 1 57 := ⟨(by decide +kernel), rfl⟩
theorem iI_57 : I1 prog_33_method_1_code 57 (.iload_n 1) 1 58 := ⟨(by decide +kernel), rfl⟩
theorem iI_58 : I1 prog_33_method_1_code 58 (.newarray .int) 2 60 := ⟨(by decide +kernel), rfl⟩
theorem iI_60 : I1 prog_33_method_1_code 60 (.aastore) 1 61 := ⟨(by decide +kernel), rfl⟩
theorem iI_61 : I1 prog_33_method_1_code 61 (.dup) 1 62 := ⟨(by decide +kernel), rfl⟩
theorem iI_62 : I1 prog_33_method_1_code 62 (.iconst 1) 1 63 := ⟨(by decide +kernel), rfl⟩
theorem iI_63 : I1 prog_33_method_1_code 63 (.iload_n 2) 1 64 := ⟨(by decide +kernel), rfl⟩
theorem iI_64 : I1 prog_33_method_1_code 64 (.newarray .int) 2 66 := ⟨(by decide +kernel), rfl⟩
theorem iI_66 : I1 prog_33_method_1_code 66 (.aastore) 1 67 := ⟨(by decide +kernel), rfl⟩
theorem iI_67 : I1 prog_33_method_1_code 67 (.putfield 23) 3 70 := ⟨(by decide +kernel), rfl⟩
theorem iI_70 : I1 prog_33_method_1_code 70 (.aload_n 0) 1 71 := ⟨(by decide +kernel), rfl⟩
theorem iI_71 : I1 prog_33_method_1_code 71 (.iconst 2) 1 72 := ⟨(by decide +kernel), rfl⟩
theorem iI_72 : I1 prog_33_method_1_code 72 (.anewarray 22) 3 75 := ⟨(by decide +kernel), rfl⟩
theorem iI_75 : I1 prog_33_method_1_code 75 (.dup) 1 76 := ⟨(by decide +kernel), rfl⟩
theorem iI_76 : I1 prog_33_method_1_code 76 (.iconst 0) 1 77 := ⟨(by decide +kernel), rfl⟩
theorem iI_77 : I1 prog_33_method_1_code 77 (.iload_n 1) 1 78 := ⟨(by decide +kernel), rfl⟩
theorem iI_78 : I1 prog_33_method_1_code 78 (.newarray .int) 2 80 := ⟨(by decide +kernel), rfl⟩
theorem iI_80 : I1 prog_33_method_1_code 80 (.aastore) 1 81 := ⟨(by decide +kernel), rfl⟩
theorem iI_81 : I1 prog_33_method_1_code 81 (.dup) 1 82 := ⟨(by decide +kernel), rfl⟩
theorem iI_82 : I1 prog_33_method_1_code 82 (.iconst 1) 1 83 := ⟨(by decide +kernel), rfl⟩
theorem iI_83 : I1 prog_33_method_1_code 83 (.iload_n 2) 1 84 := ⟨(by decide +kernel), rfl⟩
theorem iI_84 : I1 prog_33_method_1_code 84 (.newarray .int) 2 86 := ⟨(by decide +kernel), rfl⟩
theorem iI_86 : I1 prog_33_method_1_code 86 (.aastore) 1 87 := ⟨(by decide +kernel), rfl⟩
theorem iI_87 : I1 prog_33_method_1_code 87 (.putfield 27) 3 90 := ⟨(by decide +kernel), rfl⟩
theorem iI_90 : I1 prog_33_method_1_code 90 (.aload_n 0) 1 91 := ⟨(by decide +kernel), rfl⟩
theorem iI_91 : I1 prog_33_method_1_code 91 (.iconst 2) 1 92 := ⟨(by decide +kernel), rfl⟩
theorem iI_92 : I1 prog_33_method_1_code 92 (.anewarray 22) 3 95 := ⟨(by decide +kernel), rfl⟩
theorem iI_95 : I1 prog_33_method_1_code 95 (.dup) 1 96 := ⟨(by decide +kernel), rfl⟩
theorem iI_96 : I1 prog_33_method_1_code 96 (.iconst 0) 1 97 := ⟨(by decide +kernel), rfl⟩
theorem iI_97 : I1 prog_33_method_1_code 97 (.iload_n 1) 1 98 := ⟨(by decide +kernel), rfl⟩
theorem iI_98 : I1 prog_33_method_1_code 98 (.newarray .int) 2 100 := ⟨(by decide +kernel), rfl⟩
theorem iI_100 : I1 prog_33_method_1_code 100 (.aastore) 1 101 := ⟨(by decide +kernel), rfl⟩
theorem iI_101 : I1 prog_33_method_1_code 101 (.dup) 1 102 := ⟨(by decide +kernel), rfl⟩
theorem iI_102 : I1 prog_33_method_1_code 102 (.iconst 1) 1 103 := ⟨(by decide +kernel), rfl⟩
theorem iI_103 : I1 prog_33_method_1_code 103 (.iload_n 2) 1 104 := ⟨(by decide +kernel), rfl⟩
theorem iI_104 : I1 prog_33_method_1_code 104 (.newarray .int) 2 106 := ⟨(by decide +kernel), rfl⟩
theorem iI_106 : I1 prog_33_method_1_code 106 (.aastore) 1 107 := ⟨(by decide +kernel), rfl⟩
theorem iI_107 : I1 prog_33_method_1_code 107 (.putfield 30) 3 110 := ⟨(by decide +kernel), rfl⟩
theorem iI_110 : I1 prog_33_method_1_code 110 (.aload_n 0) 1 111 := ⟨(by decide +kernel), rfl⟩
theorem iI_111 : I1 prog_33_method_1_code 111 (.iconst 2) 1 112 := ⟨(by decide +kernel), rfl⟩
theorem iI_112 : I1 prog_33_method_1_code 112 (.anewarray 33) 3 115 := ⟨(by decide +kernel), rfl⟩
theorem iI_115 : I1 prog_33_method_1_code 115 (.dup) 1 116 := ⟨(by decide +kernel), rfl⟩
theorem iI_116 : I1 prog_33_method_1_code 116 (.iconst 0) 1 117 := ⟨(by decide +kernel), rfl⟩
theorem iI_117 : I1 prog_33_method_1_code 117 (.iload_n 1) 1 118 := ⟨(by decide +kernel), rfl⟩
theorem iI_118 : I1 prog_33_method_1_code 118 (.newarray .boolean) 2 120 := ⟨(by decide +kernel), rfl⟩
theorem iI_120 : I1 prog_33_method_1_code 120 (.aastore) 1 121 := ⟨(by decide +kernel), rfl⟩
theorem iI_121 : I1 prog_33_method_1_code 121 (.dup) 1 122 := ⟨(by decide +kernel), rfl⟩
theorem iI_122 : I1 prog_33_method_1_code 122 (.iconst 1) 1 123 := ⟨(by decide +kernel), rfl⟩
theorem iI_123 : I1 prog_33_method_1_code 123 (.iload_n 2) 1 124 := ⟨(by decide +kernel), rfl⟩
theorem iI_124 : I1 prog_33_method_1_code 124 (.newarray .boolean) 2 126 := ⟨(by decide +kernel), rfl⟩
theorem iI_126 : I1 prog_33_method_1_code 126 (.aastore) 1 127 := ⟨(by decide +kernel), rfl⟩
theorem iI_127 : I1 prog_33_method_1_code 127 (.putfield 35) 3 130 := ⟨(by decide +kernel), rfl⟩
theorem iI_130 : I1 prog_33_method_1_code 130 (.return_) 1 131 := ⟨(by decide +kernel), rfl⟩
def vI_0  : Nat → Int32 := (fun ix => if ix = 0 then (2 : Int32) else (fun _ => (0 : Int32)) ix)
def vI_1  : Nat → Int32 := (fun ix => if ix = 1 then (2 : Int32) else vI_0 ix)
theorem efI (m : MethodId) (a0 : Addr) : entryFrame m #[(.ref a0), (.int (2 : Int32)), (.int (2 : Int32))] 3 = mkF m 0 #[.val (.ref a0), .val (.int (2 : Int32)), .val (.int (2 : Int32))] [] := by first | (simp [entryFrame, mkF, argsToLocals, Value.category]; done) | rfl
def QI (Z : State) (a0 : Addr) (w_lines_a0 : Value) (w_counts_a0 : Value) (w_least_a0 : Value) (w_most_a0 : Value) (w_totals_a0 : Value) (w_leastTotals_a0 : Value) (w_mostTotals_a0 : Value) (w_reached_a0 : Value) (h0 : Heap) (n0 : Nat) (v : Option Value) (h : Heap) : Prop := ∃ fb0 fb1 fb2 fb3 fb4 fb5 fb6 : Addr, v = none ∧ (n0 ≤ fb0 ∧ h0.size ≤ fb0) ∧ (n0 ≤ fb1 ∧ h0.size ≤ fb1) ∧ (n0 ≤ fb2 ∧ h0.size ≤ fb2) ∧ (n0 ≤ fb3 ∧ h0.size ≤ fb3) ∧ (n0 ≤ fb4 ∧ h0.size ≤ fb4) ∧ (n0 ≤ fb5 ∧ h0.size ≤ fb5) ∧ (n0 ≤ fb6 ∧ h0.size ≤ fb6) ∧ fb0 ≠ fb1 ∧ fb0 ≠ fb2 ∧ fb0 ≠ fb3 ∧ fb0 ≠ fb4 ∧ fb0 ≠ fb5 ∧ fb0 ≠ fb6 ∧ fb1 ≠ fb2 ∧ fb1 ≠ fb3 ∧ fb1 ≠ fb4 ∧ fb1 ≠ fb5 ∧ fb1 ≠ fb6 ∧ fb2 ≠ fb3 ∧ fb2 ≠ fb4 ∧ fb2 ≠ fb5 ∧ fb2 ≠ fb6 ∧ fb3 ≠ fb4 ∧ fb3 ≠ fb5 ∧ fb3 ≠ fb6 ∧ fb4 ≠ fb5 ∧ fb4 ≠ fb6 ∧ fb5 ≠ fb6 ∧ Keep h0 h [a0] ∧ AV Z h fb0 .int 2 (fun ix => .int (vI_1 ix)) ∧ AV Z h fb1 .int 4 (fun ix => .int ((fun _ => (0 : Int32)) ix)) ∧ AV Z h fb2 .int 4 (fun ix => .int ((fun _ => (0 : Int32)) ix)) ∧ AV Z h fb3 .int 4 (fun ix => .int ((fun _ => (0 : Int32)) ix)) ∧ AV Z h fb4 (.array .int) 2 (rfs [.ref fb5, .ref fb6]) ∧ AV Z h fb5 .int 2 (fun ix => .int ((fun _ => (0 : Int32)) ix)) ∧ AV Z h fb6 .int 2 (fun ix => .int ((fun _ => (0 : Int32)) ix)) ∧ Exa Z h a0 "com/example/bandweave/bandweave/star/Transport" ∧ Fld Z h a0 "com/example/bandweave/bandweave/star/Transport" "lines" "[I" (.ref fb0) ∧ Fld Z h a0 "com/example/bandweave/bandweave/star/Transport" "counts" "[I" (.ref fb1) ∧ Fld Z h a0 "com/example/bandweave/bandweave/star/Transport" "least" "[I" (.ref fb2) ∧ Fld Z h a0 "com/example/bandweave/bandweave/star/Transport" "most" "[I" (.ref fb3) ∧ Fld Z h a0 "com/example/bandweave/bandweave/star/Transport" "totals" "[[I" (.ref fb4)
set_option maxRecDepth 65536 in
set_option maxHeartbeats 40000000 in
theorem rmI (l : Launch) (Z : State) (aZ : Array Value) (hw : ∀ d ∈ tables_1, d.before aZ Z = true) (a0 : Addr) (w_lines_a0 : Value) (w_counts_a0 : Value) (w_least_a0 : Value) (w_most_a0 : Value) (w_totals_a0 : Value) (w_leastTotals_a0 : Value) (w_mostTotals_a0 : Value) (w_reached_a0 : Value) (h0 : Heap) (n0 : Nat) (Z0 : n0 ≤ h0.size) (E_a0 : Exa Z h0 a0 "com/example/bandweave/bandweave/star/Transport") (F_lines_a0 : Fld Z h0 a0 "com/example/bandweave/bandweave/star/Transport" "lines" "[I" w_lines_a0) (g_a0 : n0 ≤ a0) (F_counts_a0 : Fld Z h0 a0 "com/example/bandweave/bandweave/star/Transport" "counts" "[I" w_counts_a0) (F_least_a0 : Fld Z h0 a0 "com/example/bandweave/bandweave/star/Transport" "least" "[I" w_least_a0) (F_most_a0 : Fld Z h0 a0 "com/example/bandweave/bandweave/star/Transport" "most" "[I" w_most_a0) (F_totals_a0 : Fld Z h0 a0 "com/example/bandweave/bandweave/star/Transport" "totals" "[[I" w_totals_a0) (F_leastTotals_a0 : Fld Z h0 a0 "com/example/bandweave/bandweave/star/Transport" "leastTotals" "[[I" w_leastTotals_a0) (F_mostTotals_a0 : Fld Z h0 a0 "com/example/bandweave/bandweave/star/Transport" "mostTotals" "[[I" w_mostTotals_a0) (F_reached_a0 : Fld Z h0 a0 "com/example/bandweave/bandweave/star/Transport" "reached" "[[Z" w_reached_a0) :
    Ctr l Z (⟨"com/example/bandweave/bandweave/star/Transport", "<init>", "(II)V"⟩ : MethodName) prog_33_method_1_code 3 none ({ frames := 1, cells := 16, slots := 38, locals := 12 } : Room) #[(.ref a0), (.int (2 : Int32)), (.int (2 : Int32))] h0 n0 (QI Z a0 w_lines_a0 w_counts_a0 w_least_a0 w_most_a0 w_totals_a0 w_leastTotals_a0 w_mostTotals_a0 w_reached_a0 h0 n0) := by
  refine Ctr.of_go pn0 (fun m => efI m a0) ?_
  intro p e s m below meth c hnm C
  refine g_aloadN C iI_0 rfl rfl ?_
  refine g_initO C iI_1 (hw _ (List.mem_of_getElem? (i := 6) rfl)) (hw _ (List.mem_of_getElem? (i := 7) rfl)) (hw _ (List.mem_of_getElem? (i := 8) rfl)) rfl (by decide) 0 (Nat.le_of_eq rfl) (by decide) ?_
  refine g_aloadN C iI_4 rfl rfl ?_
  refine g_iconst C (2 : Int32) iI_5 rfl ?_
  refine g_newPE C iI_6 (hw _ (List.mem_of_getElem? (i := 9) rfl)) (by decide) 2 (by decide) (by decide) (by decide) (by decide) rfl rfl "[I" (by decide) (fun h2 b2 g2 E2 A2 X2 => ?_)
  have ne_a0_b2 : a0 ≠ b2 := Nat.ne_of_lt (Nat.lt_of_lt_of_le F_lines_a0.lt (Nat.le_of_eq g2.symm))
  have ge2 : n0 ≤ b2 := Nat.le_trans Z0 (Nat.le_of_eq g2.symm)
  have fr2 : h0.size ≤ b2 := Nat.le_trans (Keep.refl h0 [a0]).1 (Nat.le_of_eq g2.symm)
  have K2 := Keep.ext (Keep.refl h0 [a0]) E2
  have Z2 : n0 ≤ h2.size := Nat.le_trans Z0 E2.1
  have F_lines_a0_c2 := Fld.ext E2 F_lines_a0
  have F_counts_a0_c2 := Fld.ext E2 F_counts_a0
  have F_least_a0_c2 := Fld.ext E2 F_least_a0
  have F_most_a0_c2 := Fld.ext E2 F_most_a0
  have F_totals_a0_c2 := Fld.ext E2 F_totals_a0
  have F_leastTotals_a0_c2 := Fld.ext E2 F_leastTotals_a0
  have F_mostTotals_a0_c2 := Fld.ext E2 F_mostTotals_a0
  have F_reached_a0_c2 := Fld.ext E2 F_reached_a0
  have E_a0_c2 := Exa.ext E2 E_a0
  have V2 : AV Z h2 b2 .int 2 (fun ix => .int ((fun _ => (0 : Int32)) ix)) := A2
  refine g_dup C iI_8 rfl ?_
  refine g_iconst C (0 : Int32) iI_9 rfl ?_
  refine g_iloadN C iI_10 rfl ?_
  refine g_iastI C iI_11 V2 ⟨by decide, by decide⟩ ge2 (fun h3 W3 V3 => ?_)
  have F_lines_a0_c3 := Fld.other W3 F_lines_a0_c2 (Or.inl ne_a0_b2)
  have F_counts_a0_c3 := Fld.other W3 F_counts_a0_c2 (Or.inl ne_a0_b2)
  have F_least_a0_c3 := Fld.other W3 F_least_a0_c2 (Or.inl ne_a0_b2)
  have F_most_a0_c3 := Fld.other W3 F_most_a0_c2 (Or.inl ne_a0_b2)
  have F_totals_a0_c3 := Fld.other W3 F_totals_a0_c2 (Or.inl ne_a0_b2)
  have F_leastTotals_a0_c3 := Fld.other W3 F_leastTotals_a0_c2 (Or.inl ne_a0_b2)
  have F_mostTotals_a0_c3 := Fld.other W3 F_mostTotals_a0_c2 (Or.inl ne_a0_b2)
  have F_reached_a0_c3 := Fld.other W3 F_reached_a0_c2 (Or.inl ne_a0_b2)
  have E_a0_c3 := Exa.wr W3 E_a0_c2
  have E_b2_c3 := Exa.wr W3 X2
  have Vw3 : AV Z h3 b2 .int 2 (fun ix => .int (vI_0 ix)) := V3
  have K3 := Keep.wr K2 W3 (Or.inr fr2)
  have Z3 : n0 ≤ h3.size := Nat.le_trans Z2 (Keep.of_wr W3).1
  refine g_dup C iI_12 rfl ?_
  refine g_iconst C (1 : Int32) iI_13 rfl ?_
  refine g_iloadN C iI_14 rfl ?_
  refine g_iastI C iI_15 Vw3 ⟨by decide, by decide⟩ ge2 (fun h4 W4 V4 => ?_)
  have F_lines_a0_c4 := Fld.other W4 F_lines_a0_c3 (Or.inl ne_a0_b2)
  have F_counts_a0_c4 := Fld.other W4 F_counts_a0_c3 (Or.inl ne_a0_b2)
  have F_least_a0_c4 := Fld.other W4 F_least_a0_c3 (Or.inl ne_a0_b2)
  have F_most_a0_c4 := Fld.other W4 F_most_a0_c3 (Or.inl ne_a0_b2)
  have F_totals_a0_c4 := Fld.other W4 F_totals_a0_c3 (Or.inl ne_a0_b2)
  have F_leastTotals_a0_c4 := Fld.other W4 F_leastTotals_a0_c3 (Or.inl ne_a0_b2)
  have F_mostTotals_a0_c4 := Fld.other W4 F_mostTotals_a0_c3 (Or.inl ne_a0_b2)
  have F_reached_a0_c4 := Fld.other W4 F_reached_a0_c3 (Or.inl ne_a0_b2)
  have E_a0_c4 := Exa.wr W4 E_a0_c3
  have E_b2_c4 := Exa.wr W4 E_b2_c3
  have Vw4 : AV Z h4 b2 .int 2 (fun ix => .int (vI_1 ix)) := V4
  have K4 := Keep.wr K3 W4 (Or.inr fr2)
  have Z4 : n0 ≤ h4.size := Nat.le_trans Z3 (Keep.of_wr W4).1
  refine g_putF C iI_16 (host := "") (Or.inl (hw _ (List.mem_of_getElem? (i := 10) rfl))) Via.refl F_lines_a0_c4 E_a0_c4 (Or.inr ⟨(hw _ (List.mem_of_getElem? (i := 11) rfl)), rfl, hnm⟩) (hw _ (List.mem_of_getElem? (i := 1) rfl)) (ty := (.array .int)) (by decide) rfl rfl g_a0 (fun h5 W5 => ?_)
  have F_counts_a0_c5 := Fld.other W5 F_counts_a0_c4 (Or.inr (slot_ne (a0 := aZ) (Or.inr (hw _ (List.mem_of_getElem? (i := 13) rfl))) (Or.inr (hw _ (List.mem_of_getElem? (i := 11) rfl))) (by decide) (t := (.array .int)) (t' := (.array .int)) (by decide) (by decide)))
  have F_least_a0_c5 := Fld.other W5 F_least_a0_c4 (Or.inr (slot_ne (a0 := aZ) (Or.inr (hw _ (List.mem_of_getElem? (i := 15) rfl))) (Or.inr (hw _ (List.mem_of_getElem? (i := 11) rfl))) (by decide) (t := (.array .int)) (t' := (.array .int)) (by decide) (by decide)))
  have F_most_a0_c5 := Fld.other W5 F_most_a0_c4 (Or.inr (slot_ne (a0 := aZ) (Or.inr (hw _ (List.mem_of_getElem? (i := 17) rfl))) (Or.inr (hw _ (List.mem_of_getElem? (i := 11) rfl))) (by decide) (t := (.array .int)) (t' := (.array .int)) (by decide) (by decide)))
  have F_totals_a0_c5 := Fld.other W5 F_totals_a0_c4 (Or.inr (slot_ne (a0 := aZ) (Or.inr (hw _ (List.mem_of_getElem? (i := 22) rfl))) (Or.inr (hw _ (List.mem_of_getElem? (i := 11) rfl))) (by decide) (t := (.array (.array .int))) (t' := (.array .int)) (by decide) (by decide)))
  have F_leastTotals_a0_c5 := Fld.other W5 F_leastTotals_a0_c4 (Or.inr (slot_ne (a0 := aZ) (Or.inr (hw _ (List.mem_of_getElem? (i := 24) rfl))) (Or.inr (hw _ (List.mem_of_getElem? (i := 11) rfl))) (by decide) (t := (.array (.array .int))) (t' := (.array .int)) (by decide) (by decide)))
  have F_mostTotals_a0_c5 := Fld.other W5 F_mostTotals_a0_c4 (Or.inr (slot_ne (a0 := aZ) (Or.inr (hw _ (List.mem_of_getElem? (i := 26) rfl))) (Or.inr (hw _ (List.mem_of_getElem? (i := 11) rfl))) (by decide) (t := (.array (.array .int))) (t' := (.array .int)) (by decide) (by decide)))
  have F_reached_a0_c5 := Fld.other W5 F_reached_a0_c4 (Or.inr (slot_ne (a0 := aZ) (Or.inr (hw _ (List.mem_of_getElem? (i := 32) rfl))) (Or.inr (hw _ (List.mem_of_getElem? (i := 11) rfl))) (by decide) (t := (.array (.array .boolean))) (t' := (.array .int)) (by decide) (by decide)))
  have E_a0_c5 := Exa.wr W5 E_a0_c4
  have E_b2_c5 := Exa.wr W5 E_b2_c4
  have V_b2_c5 := AV.other Vw4 W5 (Ne.symm ne_a0_b2)
  have Fw5 := Fld.same W5 F_lines_a0_c4
  have K5 := Keep.wr K4 W5 (Or.inl (List.mem_of_getElem? (i := 0) rfl))
  have Z5 : n0 ≤ h5.size := Nat.le_trans Z4 (Keep.of_wr W5).1
  refine g_aloadN C iI_19 rfl rfl ?_
  refine g_iloadN C iI_20 rfl ?_
  refine g_iloadN C iI_21 rfl ?_
  refine g_imul C iI_22 ?_
  refine g_newPE C iI_23 (hw _ (List.mem_of_getElem? (i := 9) rfl)) (by decide) 4 (by decide) (by decide) (by decide) (by decide) rfl rfl "[I" (by decide) (fun h6 b6 g6 E6 A6 X6 => ?_)
  have ne_a0_b6 : a0 ≠ b6 := Nat.ne_of_lt (Nat.lt_of_lt_of_le F_counts_a0_c5.lt (Nat.le_of_eq g6.symm))
  have ne_b2_b6 : b2 ≠ b6 := Nat.ne_of_lt (Nat.lt_of_lt_of_le E_b2_c5.lt (Nat.le_of_eq g6.symm))
  have ge6 : n0 ≤ b6 := Nat.le_trans Z5 (Nat.le_of_eq g6.symm)
  have fr6 : h0.size ≤ b6 := Nat.le_trans K5.1 (Nat.le_of_eq g6.symm)
  have K6 := Keep.ext K5 E6
  have Z6 : n0 ≤ h6.size := Nat.le_trans Z5 E6.1
  have F_counts_a0_c6 := Fld.ext E6 F_counts_a0_c5
  have F_least_a0_c6 := Fld.ext E6 F_least_a0_c5
  have F_most_a0_c6 := Fld.ext E6 F_most_a0_c5
  have F_totals_a0_c6 := Fld.ext E6 F_totals_a0_c5
  have F_leastTotals_a0_c6 := Fld.ext E6 F_leastTotals_a0_c5
  have F_mostTotals_a0_c6 := Fld.ext E6 F_mostTotals_a0_c5
  have F_reached_a0_c6 := Fld.ext E6 F_reached_a0_c5
  have E_a0_c6 := Exa.ext E6 E_a0_c5
  have E_b2_c6 := Exa.ext E6 E_b2_c5
  have V_b2_c6 := V_b2_c5.ext E6
  have F_lines_a0_c6 := Fld.ext E6 Fw5
  have V6 : AV Z h6 b6 .int 4 (fun ix => .int ((fun _ => (0 : Int32)) ix)) := A6
  refine g_putF C iI_25 (host := "") (Or.inl (hw _ (List.mem_of_getElem? (i := 12) rfl))) Via.refl F_counts_a0_c6 E_a0_c6 (Or.inr ⟨(hw _ (List.mem_of_getElem? (i := 13) rfl)), rfl, hnm⟩) (hw _ (List.mem_of_getElem? (i := 1) rfl)) (ty := (.array .int)) (by decide) rfl rfl g_a0 (fun h7 W7 => ?_)
  have F_least_a0_c7 := Fld.other W7 F_least_a0_c6 (Or.inr (slot_ne (a0 := aZ) (Or.inr (hw _ (List.mem_of_getElem? (i := 15) rfl))) (Or.inr (hw _ (List.mem_of_getElem? (i := 13) rfl))) (by decide) (t := (.array .int)) (t' := (.array .int)) (by decide) (by decide)))
  have F_most_a0_c7 := Fld.other W7 F_most_a0_c6 (Or.inr (slot_ne (a0 := aZ) (Or.inr (hw _ (List.mem_of_getElem? (i := 17) rfl))) (Or.inr (hw _ (List.mem_of_getElem? (i := 13) rfl))) (by decide) (t := (.array .int)) (t' := (.array .int)) (by decide) (by decide)))
  have F_totals_a0_c7 := Fld.other W7 F_totals_a0_c6 (Or.inr (slot_ne (a0 := aZ) (Or.inr (hw _ (List.mem_of_getElem? (i := 22) rfl))) (Or.inr (hw _ (List.mem_of_getElem? (i := 13) rfl))) (by decide) (t := (.array (.array .int))) (t' := (.array .int)) (by decide) (by decide)))
  have F_leastTotals_a0_c7 := Fld.other W7 F_leastTotals_a0_c6 (Or.inr (slot_ne (a0 := aZ) (Or.inr (hw _ (List.mem_of_getElem? (i := 24) rfl))) (Or.inr (hw _ (List.mem_of_getElem? (i := 13) rfl))) (by decide) (t := (.array (.array .int))) (t' := (.array .int)) (by decide) (by decide)))
  have F_mostTotals_a0_c7 := Fld.other W7 F_mostTotals_a0_c6 (Or.inr (slot_ne (a0 := aZ) (Or.inr (hw _ (List.mem_of_getElem? (i := 26) rfl))) (Or.inr (hw _ (List.mem_of_getElem? (i := 13) rfl))) (by decide) (t := (.array (.array .int))) (t' := (.array .int)) (by decide) (by decide)))
  have F_reached_a0_c7 := Fld.other W7 F_reached_a0_c6 (Or.inr (slot_ne (a0 := aZ) (Or.inr (hw _ (List.mem_of_getElem? (i := 32) rfl))) (Or.inr (hw _ (List.mem_of_getElem? (i := 13) rfl))) (by decide) (t := (.array (.array .boolean))) (t' := (.array .int)) (by decide) (by decide)))
  have E_a0_c7 := Exa.wr W7 E_a0_c6
  have E_b2_c7 := Exa.wr W7 E_b2_c6
  have V_b2_c7 := AV.other V_b2_c6 W7 (Ne.symm ne_a0_b2)
  have F_lines_a0_c7 := Fld.other W7 F_lines_a0_c6 (Or.inr (slot_ne (a0 := aZ) (Or.inr (hw _ (List.mem_of_getElem? (i := 11) rfl))) (Or.inr (hw _ (List.mem_of_getElem? (i := 13) rfl))) (by decide) (t := (.array .int)) (t' := (.array .int)) (by decide) (by decide)))
  have E_b6_c7 := Exa.wr W7 X6
  have V_b6_c7 := AV.other V6 W7 (Ne.symm ne_a0_b6)
  have Fw7 := Fld.same W7 F_counts_a0_c6
  have K7 := Keep.wr K6 W7 (Or.inl (List.mem_of_getElem? (i := 0) rfl))
  have Z7 : n0 ≤ h7.size := Nat.le_trans Z6 (Keep.of_wr W7).1
  refine g_aloadN C iI_28 rfl rfl ?_
  refine g_aloadN C iI_29 rfl rfl ?_
  refine g_getF C iI_30 (host := "") (Or.inl (hw _ (List.mem_of_getElem? (i := 12) rfl))) Via.refl Fw7 ?_
  refine g_alen C (4 : Int32) iI_33 V_b6_c7 rfl ?_
  refine g_newPE C iI_34 (hw _ (List.mem_of_getElem? (i := 9) rfl)) (by decide) 4 (by decide) (by decide) (by decide) (by decide) rfl rfl "[I" (by decide) (fun h8 b8 g8 E8 A8 X8 => ?_)
  have ne_a0_b8 : a0 ≠ b8 := Nat.ne_of_lt (Nat.lt_of_lt_of_le F_least_a0_c7.lt (Nat.le_of_eq g8.symm))
  have ne_b6_b8 : b6 ≠ b8 := Nat.ne_of_lt (Nat.lt_of_lt_of_le E_b6_c7.lt (Nat.le_of_eq g8.symm))
  have ne_b2_b8 : b2 ≠ b8 := Nat.ne_of_lt (Nat.lt_of_lt_of_le E_b2_c7.lt (Nat.le_of_eq g8.symm))
  have ge8 : n0 ≤ b8 := Nat.le_trans Z7 (Nat.le_of_eq g8.symm)
  have fr8 : h0.size ≤ b8 := Nat.le_trans K7.1 (Nat.le_of_eq g8.symm)
  have K8 := Keep.ext K7 E8
  have Z8 : n0 ≤ h8.size := Nat.le_trans Z7 E8.1
  have F_least_a0_c8 := Fld.ext E8 F_least_a0_c7
  have F_most_a0_c8 := Fld.ext E8 F_most_a0_c7
  have F_totals_a0_c8 := Fld.ext E8 F_totals_a0_c7
  have F_leastTotals_a0_c8 := Fld.ext E8 F_leastTotals_a0_c7
  have F_mostTotals_a0_c8 := Fld.ext E8 F_mostTotals_a0_c7
  have F_reached_a0_c8 := Fld.ext E8 F_reached_a0_c7
  have E_a0_c8 := Exa.ext E8 E_a0_c7
  have E_b2_c8 := Exa.ext E8 E_b2_c7
  have V_b2_c8 := V_b2_c7.ext E8
  have F_lines_a0_c8 := Fld.ext E8 F_lines_a0_c7
  have E_b6_c8 := Exa.ext E8 E_b6_c7
  have V_b6_c8 := V_b6_c7.ext E8
  have F_counts_a0_c8 := Fld.ext E8 Fw7
  have V8 : AV Z h8 b8 .int 4 (fun ix => .int ((fun _ => (0 : Int32)) ix)) := A8
  refine g_putF C iI_36 (host := "") (Or.inl (hw _ (List.mem_of_getElem? (i := 14) rfl))) Via.refl F_least_a0_c8 E_a0_c8 (Or.inr ⟨(hw _ (List.mem_of_getElem? (i := 15) rfl)), rfl, hnm⟩) (hw _ (List.mem_of_getElem? (i := 1) rfl)) (ty := (.array .int)) (by decide) rfl rfl g_a0 (fun h9 W9 => ?_)
  have F_most_a0_c9 := Fld.other W9 F_most_a0_c8 (Or.inr (slot_ne (a0 := aZ) (Or.inr (hw _ (List.mem_of_getElem? (i := 17) rfl))) (Or.inr (hw _ (List.mem_of_getElem? (i := 15) rfl))) (by decide) (t := (.array .int)) (t' := (.array .int)) (by decide) (by decide)))
  have F_totals_a0_c9 := Fld.other W9 F_totals_a0_c8 (Or.inr (slot_ne (a0 := aZ) (Or.inr (hw _ (List.mem_of_getElem? (i := 22) rfl))) (Or.inr (hw _ (List.mem_of_getElem? (i := 15) rfl))) (by decide) (t := (.array (.array .int))) (t' := (.array .int)) (by decide) (by decide)))
  have F_leastTotals_a0_c9 := Fld.other W9 F_leastTotals_a0_c8 (Or.inr (slot_ne (a0 := aZ) (Or.inr (hw _ (List.mem_of_getElem? (i := 24) rfl))) (Or.inr (hw _ (List.mem_of_getElem? (i := 15) rfl))) (by decide) (t := (.array (.array .int))) (t' := (.array .int)) (by decide) (by decide)))
  have F_mostTotals_a0_c9 := Fld.other W9 F_mostTotals_a0_c8 (Or.inr (slot_ne (a0 := aZ) (Or.inr (hw _ (List.mem_of_getElem? (i := 26) rfl))) (Or.inr (hw _ (List.mem_of_getElem? (i := 15) rfl))) (by decide) (t := (.array (.array .int))) (t' := (.array .int)) (by decide) (by decide)))
  have F_reached_a0_c9 := Fld.other W9 F_reached_a0_c8 (Or.inr (slot_ne (a0 := aZ) (Or.inr (hw _ (List.mem_of_getElem? (i := 32) rfl))) (Or.inr (hw _ (List.mem_of_getElem? (i := 15) rfl))) (by decide) (t := (.array (.array .boolean))) (t' := (.array .int)) (by decide) (by decide)))
  have E_a0_c9 := Exa.wr W9 E_a0_c8
  have E_b2_c9 := Exa.wr W9 E_b2_c8
  have V_b2_c9 := AV.other V_b2_c8 W9 (Ne.symm ne_a0_b2)
  have F_lines_a0_c9 := Fld.other W9 F_lines_a0_c8 (Or.inr (slot_ne (a0 := aZ) (Or.inr (hw _ (List.mem_of_getElem? (i := 11) rfl))) (Or.inr (hw _ (List.mem_of_getElem? (i := 15) rfl))) (by decide) (t := (.array .int)) (t' := (.array .int)) (by decide) (by decide)))
  have E_b6_c9 := Exa.wr W9 E_b6_c8
  have V_b6_c9 := AV.other V_b6_c8 W9 (Ne.symm ne_a0_b6)
  have F_counts_a0_c9 := Fld.other W9 F_counts_a0_c8 (Or.inr (slot_ne (a0 := aZ) (Or.inr (hw _ (List.mem_of_getElem? (i := 13) rfl))) (Or.inr (hw _ (List.mem_of_getElem? (i := 15) rfl))) (by decide) (t := (.array .int)) (t' := (.array .int)) (by decide) (by decide)))
  have E_b8_c9 := Exa.wr W9 X8
  have V_b8_c9 := AV.other V8 W9 (Ne.symm ne_a0_b8)
  have Fw9 := Fld.same W9 F_least_a0_c8
  have K9 := Keep.wr K8 W9 (Or.inl (List.mem_of_getElem? (i := 0) rfl))
  have Z9 : n0 ≤ h9.size := Nat.le_trans Z8 (Keep.of_wr W9).1
  refine g_aloadN C iI_39 rfl rfl ?_
  refine g_aloadN C iI_40 rfl rfl ?_
  refine g_getF C iI_41 (host := "") (Or.inl (hw _ (List.mem_of_getElem? (i := 12) rfl))) Via.refl F_counts_a0_c9 ?_
  refine g_alen C (4 : Int32) iI_44 V_b6_c9 rfl ?_
  refine g_newPE C iI_45 (hw _ (List.mem_of_getElem? (i := 9) rfl)) (by decide) 4 (by decide) (by decide) (by decide) (by decide) rfl rfl "[I" (by decide) (fun h10 b10 g10 E10 A10 X10 => ?_)
  have ne_b8_b10 : b8 ≠ b10 := Nat.ne_of_lt (Nat.lt_of_lt_of_le E_b8_c9.lt (Nat.le_of_eq g10.symm))
  have ne_a0_b10 : a0 ≠ b10 := Nat.ne_of_lt (Nat.lt_of_lt_of_le F_most_a0_c9.lt (Nat.le_of_eq g10.symm))
  have ne_b6_b10 : b6 ≠ b10 := Nat.ne_of_lt (Nat.lt_of_lt_of_le E_b6_c9.lt (Nat.le_of_eq g10.symm))
  have ne_b2_b10 : b2 ≠ b10 := Nat.ne_of_lt (Nat.lt_of_lt_of_le E_b2_c9.lt (Nat.le_of_eq g10.symm))
  have ge10 : n0 ≤ b10 := Nat.le_trans Z9 (Nat.le_of_eq g10.symm)
  have fr10 : h0.size ≤ b10 := Nat.le_trans K9.1 (Nat.le_of_eq g10.symm)
  have K10 := Keep.ext K9 E10
  have Z10 : n0 ≤ h10.size := Nat.le_trans Z9 E10.1
  have F_most_a0_c10 := Fld.ext E10 F_most_a0_c9
  have F_totals_a0_c10 := Fld.ext E10 F_totals_a0_c9
  have F_leastTotals_a0_c10 := Fld.ext E10 F_leastTotals_a0_c9
  have F_mostTotals_a0_c10 := Fld.ext E10 F_mostTotals_a0_c9
  have F_reached_a0_c10 := Fld.ext E10 F_reached_a0_c9
  have E_a0_c10 := Exa.ext E10 E_a0_c9
  have E_b2_c10 := Exa.ext E10 E_b2_c9
  have V_b2_c10 := V_b2_c9.ext E10
  have F_lines_a0_c10 := Fld.ext E10 F_lines_a0_c9
  have E_b6_c10 := Exa.ext E10 E_b6_c9
  have V_b6_c10 := V_b6_c9.ext E10
  have F_counts_a0_c10 := Fld.ext E10 F_counts_a0_c9
  have E_b8_c10 := Exa.ext E10 E_b8_c9
  have V_b8_c10 := V_b8_c9.ext E10
  have F_least_a0_c10 := Fld.ext E10 Fw9
  have V10 : AV Z h10 b10 .int 4 (fun ix => .int ((fun _ => (0 : Int32)) ix)) := A10
  refine g_putF C iI_47 (host := "") (Or.inl (hw _ (List.mem_of_getElem? (i := 16) rfl))) Via.refl F_most_a0_c10 E_a0_c10 (Or.inr ⟨(hw _ (List.mem_of_getElem? (i := 17) rfl)), rfl, hnm⟩) (hw _ (List.mem_of_getElem? (i := 1) rfl)) (ty := (.array .int)) (by decide) rfl rfl g_a0 (fun h11 W11 => ?_)
  have F_totals_a0_c11 := Fld.other W11 F_totals_a0_c10 (Or.inr (slot_ne (a0 := aZ) (Or.inr (hw _ (List.mem_of_getElem? (i := 22) rfl))) (Or.inr (hw _ (List.mem_of_getElem? (i := 17) rfl))) (by decide) (t := (.array (.array .int))) (t' := (.array .int)) (by decide) (by decide)))
  have F_leastTotals_a0_c11 := Fld.other W11 F_leastTotals_a0_c10 (Or.inr (slot_ne (a0 := aZ) (Or.inr (hw _ (List.mem_of_getElem? (i := 24) rfl))) (Or.inr (hw _ (List.mem_of_getElem? (i := 17) rfl))) (by decide) (t := (.array (.array .int))) (t' := (.array .int)) (by decide) (by decide)))
  have F_mostTotals_a0_c11 := Fld.other W11 F_mostTotals_a0_c10 (Or.inr (slot_ne (a0 := aZ) (Or.inr (hw _ (List.mem_of_getElem? (i := 26) rfl))) (Or.inr (hw _ (List.mem_of_getElem? (i := 17) rfl))) (by decide) (t := (.array (.array .int))) (t' := (.array .int)) (by decide) (by decide)))
  have F_reached_a0_c11 := Fld.other W11 F_reached_a0_c10 (Or.inr (slot_ne (a0 := aZ) (Or.inr (hw _ (List.mem_of_getElem? (i := 32) rfl))) (Or.inr (hw _ (List.mem_of_getElem? (i := 17) rfl))) (by decide) (t := (.array (.array .boolean))) (t' := (.array .int)) (by decide) (by decide)))
  have E_a0_c11 := Exa.wr W11 E_a0_c10
  have E_b2_c11 := Exa.wr W11 E_b2_c10
  have V_b2_c11 := AV.other V_b2_c10 W11 (Ne.symm ne_a0_b2)
  have F_lines_a0_c11 := Fld.other W11 F_lines_a0_c10 (Or.inr (slot_ne (a0 := aZ) (Or.inr (hw _ (List.mem_of_getElem? (i := 11) rfl))) (Or.inr (hw _ (List.mem_of_getElem? (i := 17) rfl))) (by decide) (t := (.array .int)) (t' := (.array .int)) (by decide) (by decide)))
  have E_b6_c11 := Exa.wr W11 E_b6_c10
  have V_b6_c11 := AV.other V_b6_c10 W11 (Ne.symm ne_a0_b6)
  have F_counts_a0_c11 := Fld.other W11 F_counts_a0_c10 (Or.inr (slot_ne (a0 := aZ) (Or.inr (hw _ (List.mem_of_getElem? (i := 13) rfl))) (Or.inr (hw _ (List.mem_of_getElem? (i := 17) rfl))) (by decide) (t := (.array .int)) (t' := (.array .int)) (by decide) (by decide)))
  have E_b8_c11 := Exa.wr W11 E_b8_c10
  have V_b8_c11 := AV.other V_b8_c10 W11 (Ne.symm ne_a0_b8)
  have F_least_a0_c11 := Fld.other W11 F_least_a0_c10 (Or.inr (slot_ne (a0 := aZ) (Or.inr (hw _ (List.mem_of_getElem? (i := 15) rfl))) (Or.inr (hw _ (List.mem_of_getElem? (i := 17) rfl))) (by decide) (t := (.array .int)) (t' := (.array .int)) (by decide) (by decide)))
  have E_b10_c11 := Exa.wr W11 X10
  have V_b10_c11 := AV.other V10 W11 (Ne.symm ne_a0_b10)
  have Fw11 := Fld.same W11 F_most_a0_c10
  have K11 := Keep.wr K10 W11 (Or.inl (List.mem_of_getElem? (i := 0) rfl))
  have Z11 : n0 ≤ h11.size := Nat.le_trans Z10 (Keep.of_wr W11).1
  refine g_aloadN C iI_50 rfl rfl ?_
  refine g_iconst C (2 : Int32) iI_51 rfl ?_
  refine g_newRA C (ty0 := .int) (Cl := "[I") (ad := "[[I") iI_52 (by decide) (hw _ (List.mem_of_getElem? (i := 18) rfl)) (hw _ (List.mem_of_getElem? (i := 19) rfl)) (by decide) 2 (by decide) (by decide) (by decide) (by decide) rfl rfl (by decide) (fun h12 b12 g12 E12 A12 X12 O12 => ?_)
  have ne_b8_b12 : b8 ≠ b12 := Nat.ne_of_lt (Nat.lt_of_lt_of_le E_b8_c11.lt (Nat.le_of_eq g12.symm))
  have ne_b2_b12 : b2 ≠ b12 := Nat.ne_of_lt (Nat.lt_of_lt_of_le E_b2_c11.lt (Nat.le_of_eq g12.symm))
  have ne_b6_b12 : b6 ≠ b12 := Nat.ne_of_lt (Nat.lt_of_lt_of_le E_b6_c11.lt (Nat.le_of_eq g12.symm))
  have ne_b10_b12 : b10 ≠ b12 := Nat.ne_of_lt (Nat.lt_of_lt_of_le E_b10_c11.lt (Nat.le_of_eq g12.symm))
  have ne_a0_b12 : a0 ≠ b12 := Nat.ne_of_lt (Nat.lt_of_lt_of_le F_totals_a0_c11.lt (Nat.le_of_eq g12.symm))
  have ge12 : n0 ≤ b12 := Nat.le_trans Z11 (Nat.le_of_eq g12.symm)
  have fr12 : h0.size ≤ b12 := Nat.le_trans K11.1 (Nat.le_of_eq g12.symm)
  have K12 := Keep.ext K11 E12
  have Z12 : n0 ≤ h12.size := Nat.le_trans Z11 E12.1
  have F_totals_a0_c12 := Fld.ext E12 F_totals_a0_c11
  have F_leastTotals_a0_c12 := Fld.ext E12 F_leastTotals_a0_c11
  have F_mostTotals_a0_c12 := Fld.ext E12 F_mostTotals_a0_c11
  have F_reached_a0_c12 := Fld.ext E12 F_reached_a0_c11
  have E_a0_c12 := Exa.ext E12 E_a0_c11
  have E_b2_c12 := Exa.ext E12 E_b2_c11
  have V_b2_c12 := V_b2_c11.ext E12
  have F_lines_a0_c12 := Fld.ext E12 F_lines_a0_c11
  have E_b6_c12 := Exa.ext E12 E_b6_c11
  have V_b6_c12 := V_b6_c11.ext E12
  have F_counts_a0_c12 := Fld.ext E12 F_counts_a0_c11
  have E_b8_c12 := Exa.ext E12 E_b8_c11
  have V_b8_c12 := V_b8_c11.ext E12
  have F_least_a0_c12 := Fld.ext E12 F_least_a0_c11
  have E_b10_c12 := Exa.ext E12 E_b10_c11
  have V_b10_c12 := V_b10_c11.ext E12
  have F_most_a0_c12 := Fld.ext E12 Fw11
  have V12 : AV Z h12 b12 (.array .int) 2 (rfs [.null, .null]) := AV.congr A12 (fun ix hx => by match ix, hx with | 0, _ => rfl | 1, _ => rfl | (q + 2), h => exact absurd h (by omega))
  refine g_dup C iI_55 rfl ?_
  refine g_iconst C (0 : Int32) iI_56 rfl ?_
  refine g_iloadN C iI_57 rfl ?_
  refine g_newPE C iI_58 (hw _ (List.mem_of_getElem? (i := 9) rfl)) (by decide) 2 (by decide) (by decide) (by decide) (by decide) rfl rfl "[I" (by decide) (fun h13 b13 g13 E13 A13 X13 => ?_)
  have ne_b12_b13 : b12 ≠ b13 := Nat.ne_of_lt (Nat.lt_of_lt_of_le X12.lt (Nat.le_of_eq g13.symm))
  have ne_b8_b13 : b8 ≠ b13 := Nat.ne_of_lt (Nat.lt_of_lt_of_le E_b8_c12.lt (Nat.le_of_eq g13.symm))
  have ne_b2_b13 : b2 ≠ b13 := Nat.ne_of_lt (Nat.lt_of_lt_of_le E_b2_c12.lt (Nat.le_of_eq g13.symm))
  have ne_b6_b13 : b6 ≠ b13 := Nat.ne_of_lt (Nat.lt_of_lt_of_le E_b6_c12.lt (Nat.le_of_eq g13.symm))
  have ne_b10_b13 : b10 ≠ b13 := Nat.ne_of_lt (Nat.lt_of_lt_of_le E_b10_c12.lt (Nat.le_of_eq g13.symm))
  have ne_a0_b13 : a0 ≠ b13 := Nat.ne_of_lt (Nat.lt_of_lt_of_le F_totals_a0_c12.lt (Nat.le_of_eq g13.symm))
  have ge13 : n0 ≤ b13 := Nat.le_trans Z12 (Nat.le_of_eq g13.symm)
  have fr13 : h0.size ≤ b13 := Nat.le_trans K12.1 (Nat.le_of_eq g13.symm)
  have K13 := Keep.ext K12 E13
  have Z13 : n0 ≤ h13.size := Nat.le_trans Z12 E13.1
  have F_totals_a0_c13 := Fld.ext E13 F_totals_a0_c12
  have F_leastTotals_a0_c13 := Fld.ext E13 F_leastTotals_a0_c12
  have F_mostTotals_a0_c13 := Fld.ext E13 F_mostTotals_a0_c12
  have F_reached_a0_c13 := Fld.ext E13 F_reached_a0_c12
  have E_a0_c13 := Exa.ext E13 E_a0_c12
  have E_b2_c13 := Exa.ext E13 E_b2_c12
  have V_b2_c13 := V_b2_c12.ext E13
  have F_lines_a0_c13 := Fld.ext E13 F_lines_a0_c12
  have E_b6_c13 := Exa.ext E13 E_b6_c12
  have V_b6_c13 := V_b6_c12.ext E13
  have F_counts_a0_c13 := Fld.ext E13 F_counts_a0_c12
  have E_b8_c13 := Exa.ext E13 E_b8_c12
  have V_b8_c13 := V_b8_c12.ext E13
  have F_least_a0_c13 := Fld.ext E13 F_least_a0_c12
  have E_b10_c13 := Exa.ext E13 E_b10_c12
  have V_b10_c13 := V_b10_c12.ext E13
  have F_most_a0_c13 := Fld.ext E13 F_most_a0_c12
  have E_b12_c13 := Exa.ext E13 X12
  have V_b12_c13 := V12.ext E13
  have V13 : AV Z h13 b13 .int 2 (fun ix => .int ((fun _ => (0 : Int32)) ix)) := A13
  refine g_aast C iI_60 V_b12_c13 rfl ⟨by decide, by decide⟩ ge12 E_b12_c13 O12 (Ins.self X13) (fun h14 W14 V14 => ?_)
  have F_totals_a0_c14 := Fld.other W14 F_totals_a0_c13 (Or.inl ne_a0_b12)
  have F_leastTotals_a0_c14 := Fld.other W14 F_leastTotals_a0_c13 (Or.inl ne_a0_b12)
  have F_mostTotals_a0_c14 := Fld.other W14 F_mostTotals_a0_c13 (Or.inl ne_a0_b12)
  have F_reached_a0_c14 := Fld.other W14 F_reached_a0_c13 (Or.inl ne_a0_b12)
  have E_a0_c14 := Exa.wr W14 E_a0_c13
  have E_b2_c14 := Exa.wr W14 E_b2_c13
  have V_b2_c14 := AV.other V_b2_c13 W14 ne_b2_b12
  have F_lines_a0_c14 := Fld.other W14 F_lines_a0_c13 (Or.inl ne_a0_b12)
  have E_b6_c14 := Exa.wr W14 E_b6_c13
  have V_b6_c14 := AV.other V_b6_c13 W14 ne_b6_b12
  have F_counts_a0_c14 := Fld.other W14 F_counts_a0_c13 (Or.inl ne_a0_b12)
  have E_b8_c14 := Exa.wr W14 E_b8_c13
  have V_b8_c14 := AV.other V_b8_c13 W14 ne_b8_b12
  have F_least_a0_c14 := Fld.other W14 F_least_a0_c13 (Or.inl ne_a0_b12)
  have E_b10_c14 := Exa.wr W14 E_b10_c13
  have V_b10_c14 := AV.other V_b10_c13 W14 ne_b10_b12
  have F_most_a0_c14 := Fld.other W14 F_most_a0_c13 (Or.inl ne_a0_b12)
  have E_b12_c14 := Exa.wr W14 E_b12_c13
  have E_b13_c14 := Exa.wr W14 X13
  have V_b13_c14 := AV.other V13 W14 (Ne.symm ne_b12_b13)
  have Vw14 : AV Z h14 b12 (.array .int) 2 (rfs [.ref b13, .null]) := AV.congr V14 (fun ix hx => by match ix, hx with | 0, _ => rfl | 1, _ => rfl | (q + 2), h => exact absurd h (by omega))
  have K14 := Keep.wr K13 W14 (Or.inr fr12)
  have Z14 : n0 ≤ h14.size := Nat.le_trans Z13 (Keep.of_wr W14).1
  refine g_dup C iI_61 rfl ?_
  refine g_iconst C (1 : Int32) iI_62 rfl ?_
  refine g_iloadN C iI_63 rfl ?_
  refine g_newPE C iI_64 (hw _ (List.mem_of_getElem? (i := 9) rfl)) (by decide) 2 (by decide) (by decide) (by decide) (by decide) rfl rfl "[I" (by decide) (fun h15 b15 g15 E15 A15 X15 => ?_)
  have ne_b12_b15 : b12 ≠ b15 := Nat.ne_of_lt (Nat.lt_of_lt_of_le E_b12_c14.lt (Nat.le_of_eq g15.symm))
  have ne_b8_b15 : b8 ≠ b15 := Nat.ne_of_lt (Nat.lt_of_lt_of_le E_b8_c14.lt (Nat.le_of_eq g15.symm))
  have ne_b13_b15 : b13 ≠ b15 := Nat.ne_of_lt (Nat.lt_of_lt_of_le E_b13_c14.lt (Nat.le_of_eq g15.symm))
  have ne_b2_b15 : b2 ≠ b15 := Nat.ne_of_lt (Nat.lt_of_lt_of_le E_b2_c14.lt (Nat.le_of_eq g15.symm))
  have ne_b6_b15 : b6 ≠ b15 := Nat.ne_of_lt (Nat.lt_of_lt_of_le E_b6_c14.lt (Nat.le_of_eq g15.symm))
  have ne_b10_b15 : b10 ≠ b15 := Nat.ne_of_lt (Nat.lt_of_lt_of_le E_b10_c14.lt (Nat.le_of_eq g15.symm))
  have ne_a0_b15 : a0 ≠ b15 := Nat.ne_of_lt (Nat.lt_of_lt_of_le F_totals_a0_c14.lt (Nat.le_of_eq g15.symm))
  have ge15 : n0 ≤ b15 := Nat.le_trans Z14 (Nat.le_of_eq g15.symm)
  have fr15 : h0.size ≤ b15 := Nat.le_trans K14.1 (Nat.le_of_eq g15.symm)
  have K15 := Keep.ext K14 E15
  have Z15 : n0 ≤ h15.size := Nat.le_trans Z14 E15.1
  have F_totals_a0_c15 := Fld.ext E15 F_totals_a0_c14
  have F_leastTotals_a0_c15 := Fld.ext E15 F_leastTotals_a0_c14
  have F_mostTotals_a0_c15 := Fld.ext E15 F_mostTotals_a0_c14
  have F_reached_a0_c15 := Fld.ext E15 F_reached_a0_c14
  have E_a0_c15 := Exa.ext E15 E_a0_c14
  have E_b2_c15 := Exa.ext E15 E_b2_c14
  have V_b2_c15 := V_b2_c14.ext E15
  have F_lines_a0_c15 := Fld.ext E15 F_lines_a0_c14
  have E_b6_c15 := Exa.ext E15 E_b6_c14
  have V_b6_c15 := V_b6_c14.ext E15
  have F_counts_a0_c15 := Fld.ext E15 F_counts_a0_c14
  have E_b8_c15 := Exa.ext E15 E_b8_c14
  have V_b8_c15 := V_b8_c14.ext E15
  have F_least_a0_c15 := Fld.ext E15 F_least_a0_c14
  have E_b10_c15 := Exa.ext E15 E_b10_c14
  have V_b10_c15 := V_b10_c14.ext E15
  have F_most_a0_c15 := Fld.ext E15 F_most_a0_c14
  have E_b12_c15 := Exa.ext E15 E_b12_c14
  have E_b13_c15 := Exa.ext E15 E_b13_c14
  have V_b13_c15 := V_b13_c14.ext E15
  have V_b12_c15 := Vw14.ext E15
  have V15 : AV Z h15 b15 .int 2 (fun ix => .int ((fun _ => (0 : Int32)) ix)) := A15
  refine g_aast C iI_66 V_b12_c15 rfl ⟨by decide, by decide⟩ ge12 E_b12_c15 O12 (Ins.self X15) (fun h16 W16 V16 => ?_)
  have F_totals_a0_c16 := Fld.other W16 F_totals_a0_c15 (Or.inl ne_a0_b12)
  have F_leastTotals_a0_c16 := Fld.other W16 F_leastTotals_a0_c15 (Or.inl ne_a0_b12)
  have F_mostTotals_a0_c16 := Fld.other W16 F_mostTotals_a0_c15 (Or.inl ne_a0_b12)
  have F_reached_a0_c16 := Fld.other W16 F_reached_a0_c15 (Or.inl ne_a0_b12)
  have E_a0_c16 := Exa.wr W16 E_a0_c15
  have E_b2_c16 := Exa.wr W16 E_b2_c15
  have V_b2_c16 := AV.other V_b2_c15 W16 ne_b2_b12
  have F_lines_a0_c16 := Fld.other W16 F_lines_a0_c15 (Or.inl ne_a0_b12)
  have E_b6_c16 := Exa.wr W16 E_b6_c15
  have V_b6_c16 := AV.other V_b6_c15 W16 ne_b6_b12
  have F_counts_a0_c16 := Fld.other W16 F_counts_a0_c15 (Or.inl ne_a0_b12)
  have E_b8_c16 := Exa.wr W16 E_b8_c15
  have V_b8_c16 := AV.other V_b8_c15 W16 ne_b8_b12
  have F_least_a0_c16 := Fld.other W16 F_least_a0_c15 (Or.inl ne_a0_b12)
  have E_b10_c16 := Exa.wr W16 E_b10_c15
  have V_b10_c16 := AV.other V_b10_c15 W16 ne_b10_b12
  have F_most_a0_c16 := Fld.other W16 F_most_a0_c15 (Or.inl ne_a0_b12)
  have E_b12_c16 := Exa.wr W16 E_b12_c15
  have E_b13_c16 := Exa.wr W16 E_b13_c15
  have V_b13_c16 := AV.other V_b13_c15 W16 (Ne.symm ne_b12_b13)
  have E_b15_c16 := Exa.wr W16 X15
  have V_b15_c16 := AV.other V15 W16 (Ne.symm ne_b12_b15)
  have Vw16 : AV Z h16 b12 (.array .int) 2 (rfs [.ref b13, .ref b15]) := AV.congr V16 (fun ix hx => by match ix, hx with | 0, _ => rfl | 1, _ => rfl | (q + 2), h => exact absurd h (by omega))
  have K16 := Keep.wr K15 W16 (Or.inr fr12)
  have Z16 : n0 ≤ h16.size := Nat.le_trans Z15 (Keep.of_wr W16).1
  refine g_putF C iI_67 (host := "") (Or.inl (hw _ (List.mem_of_getElem? (i := 21) rfl))) Via.refl F_totals_a0_c16 E_a0_c16 (Or.inr ⟨(hw _ (List.mem_of_getElem? (i := 22) rfl)), rfl, hnm⟩) (hw _ (List.mem_of_getElem? (i := 1) rfl)) (ty := (.array (.array .int))) (by decide) rfl rfl g_a0 (fun h17 W17 => ?_)
  have F_leastTotals_a0_c17 := Fld.other W17 F_leastTotals_a0_c16 (Or.inr (slot_ne (a0 := aZ) (Or.inr (hw _ (List.mem_of_getElem? (i := 24) rfl))) (Or.inr (hw _ (List.mem_of_getElem? (i := 22) rfl))) (by decide) (t := (.array (.array .int))) (t' := (.array (.array .int))) (by decide) (by decide)))
  have F_mostTotals_a0_c17 := Fld.other W17 F_mostTotals_a0_c16 (Or.inr (slot_ne (a0 := aZ) (Or.inr (hw _ (List.mem_of_getElem? (i := 26) rfl))) (Or.inr (hw _ (List.mem_of_getElem? (i := 22) rfl))) (by decide) (t := (.array (.array .int))) (t' := (.array (.array .int))) (by decide) (by decide)))
  have F_reached_a0_c17 := Fld.other W17 F_reached_a0_c16 (Or.inr (slot_ne (a0 := aZ) (Or.inr (hw _ (List.mem_of_getElem? (i := 32) rfl))) (Or.inr (hw _ (List.mem_of_getElem? (i := 22) rfl))) (by decide) (t := (.array (.array .boolean))) (t' := (.array (.array .int))) (by decide) (by decide)))
  have E_a0_c17 := Exa.wr W17 E_a0_c16
  have E_b2_c17 := Exa.wr W17 E_b2_c16
  have V_b2_c17 := AV.other V_b2_c16 W17 (Ne.symm ne_a0_b2)
  have F_lines_a0_c17 := Fld.other W17 F_lines_a0_c16 (Or.inr (slot_ne (a0 := aZ) (Or.inr (hw _ (List.mem_of_getElem? (i := 11) rfl))) (Or.inr (hw _ (List.mem_of_getElem? (i := 22) rfl))) (by decide) (t := (.array .int)) (t' := (.array (.array .int))) (by decide) (by decide)))
  have E_b6_c17 := Exa.wr W17 E_b6_c16
  have V_b6_c17 := AV.other V_b6_c16 W17 (Ne.symm ne_a0_b6)
  have F_counts_a0_c17 := Fld.other W17 F_counts_a0_c16 (Or.inr (slot_ne (a0 := aZ) (Or.inr (hw _ (List.mem_of_getElem? (i := 13) rfl))) (Or.inr (hw _ (List.mem_of_getElem? (i := 22) rfl))) (by decide) (t := (.array .int)) (t' := (.array (.array .int))) (by decide) (by decide)))
  have E_b8_c17 := Exa.wr W17 E_b8_c16
  have V_b8_c17 := AV.other V_b8_c16 W17 (Ne.symm ne_a0_b8)
  have F_least_a0_c17 := Fld.other W17 F_least_a0_c16 (Or.inr (slot_ne (a0 := aZ) (Or.inr (hw _ (List.mem_of_getElem? (i := 15) rfl))) (Or.inr (hw _ (List.mem_of_getElem? (i := 22) rfl))) (by decide) (t := (.array .int)) (t' := (.array (.array .int))) (by decide) (by decide)))
  have E_b10_c17 := Exa.wr W17 E_b10_c16
  have V_b10_c17 := AV.other V_b10_c16 W17 (Ne.symm ne_a0_b10)
  have F_most_a0_c17 := Fld.other W17 F_most_a0_c16 (Or.inr (slot_ne (a0 := aZ) (Or.inr (hw _ (List.mem_of_getElem? (i := 17) rfl))) (Or.inr (hw _ (List.mem_of_getElem? (i := 22) rfl))) (by decide) (t := (.array .int)) (t' := (.array (.array .int))) (by decide) (by decide)))
  have E_b12_c17 := Exa.wr W17 E_b12_c16
  have E_b13_c17 := Exa.wr W17 E_b13_c16
  have V_b13_c17 := AV.other V_b13_c16 W17 (Ne.symm ne_a0_b13)
  have E_b15_c17 := Exa.wr W17 E_b15_c16
  have V_b15_c17 := AV.other V_b15_c16 W17 (Ne.symm ne_a0_b15)
  have V_b12_c17 := AV.other Vw16 W17 (Ne.symm ne_a0_b12)
  have Fw17 := Fld.same W17 F_totals_a0_c16
  have K17 := Keep.wr K16 W17 (Or.inl (List.mem_of_getElem? (i := 0) rfl))
  have Z17 : n0 ≤ h17.size := Nat.le_trans Z16 (Keep.of_wr W17).1
  refine g_aloadN C iI_70 rfl rfl ?_
  refine g_iconst C (2 : Int32) iI_71 rfl ?_
  refine g_newRA C (ty0 := .int) (Cl := "[I") (ad := "[[I") iI_72 (by decide) (hw _ (List.mem_of_getElem? (i := 18) rfl)) (hw _ (List.mem_of_getElem? (i := 19) rfl)) (by decide) 2 (by decide) (by decide) (by decide) (by decide) rfl rfl (by decide) (fun h18 b18 g18 E18 A18 X18 O18 => ?_)
  have ne_b12_b18 : b12 ≠ b18 := Nat.ne_of_lt (Nat.lt_of_lt_of_le E_b12_c17.lt (Nat.le_of_eq g18.symm))
  have ne_b8_b18 : b8 ≠ b18 := Nat.ne_of_lt (Nat.lt_of_lt_of_le E_b8_c17.lt (Nat.le_of_eq g18.symm))
  have ne_b15_b18 : b15 ≠ b18 := Nat.ne_of_lt (Nat.lt_of_lt_of_le E_b15_c17.lt (Nat.le_of_eq g18.symm))
  have ne_b13_b18 : b13 ≠ b18 := Nat.ne_of_lt (Nat.lt_of_lt_of_le E_b13_c17.lt (Nat.le_of_eq g18.symm))
  have ne_b2_b18 : b2 ≠ b18 := Nat.ne_of_lt (Nat.lt_of_lt_of_le E_b2_c17.lt (Nat.le_of_eq g18.symm))
  have ne_b6_b18 : b6 ≠ b18 := Nat.ne_of_lt (Nat.lt_of_lt_of_le E_b6_c17.lt (Nat.le_of_eq g18.symm))
  have ne_b10_b18 : b10 ≠ b18 := Nat.ne_of_lt (Nat.lt_of_lt_of_le E_b10_c17.lt (Nat.le_of_eq g18.symm))
  have ne_a0_b18 : a0 ≠ b18 := Nat.ne_of_lt (Nat.lt_of_lt_of_le F_leastTotals_a0_c17.lt (Nat.le_of_eq g18.symm))
  have ge18 : n0 ≤ b18 := Nat.le_trans Z17 (Nat.le_of_eq g18.symm)
  have fr18 : h0.size ≤ b18 := Nat.le_trans K17.1 (Nat.le_of_eq g18.symm)
  have K18 := Keep.ext K17 E18
  have Z18 : n0 ≤ h18.size := Nat.le_trans Z17 E18.1
  have F_leastTotals_a0_c18 := Fld.ext E18 F_leastTotals_a0_c17
  have F_mostTotals_a0_c18 := Fld.ext E18 F_mostTotals_a0_c17
  have F_reached_a0_c18 := Fld.ext E18 F_reached_a0_c17
  have E_a0_c18 := Exa.ext E18 E_a0_c17
  have E_b2_c18 := Exa.ext E18 E_b2_c17
  have V_b2_c18 := V_b2_c17.ext E18
  have F_lines_a0_c18 := Fld.ext E18 F_lines_a0_c17
  have E_b6_c18 := Exa.ext E18 E_b6_c17
  have V_b6_c18 := V_b6_c17.ext E18
  have F_counts_a0_c18 := Fld.ext E18 F_counts_a0_c17
  have E_b8_c18 := Exa.ext E18 E_b8_c17
  have V_b8_c18 := V_b8_c17.ext E18
  have F_least_a0_c18 := Fld.ext E18 F_least_a0_c17
  have E_b10_c18 := Exa.ext E18 E_b10_c17
  have V_b10_c18 := V_b10_c17.ext E18
  have F_most_a0_c18 := Fld.ext E18 F_most_a0_c17
  have E_b12_c18 := Exa.ext E18 E_b12_c17
  have E_b13_c18 := Exa.ext E18 E_b13_c17
  have V_b13_c18 := V_b13_c17.ext E18
  have E_b15_c18 := Exa.ext E18 E_b15_c17
  have V_b15_c18 := V_b15_c17.ext E18
  have V_b12_c18 := V_b12_c17.ext E18
  have F_totals_a0_c18 := Fld.ext E18 Fw17
  have V18 : AV Z h18 b18 (.array .int) 2 (rfs [.null, .null]) := AV.congr A18 (fun ix hx => by match ix, hx with | 0, _ => rfl | 1, _ => rfl | (q + 2), h => exact absurd h (by omega))
  refine g_dup C iI_75 rfl ?_
  refine g_iconst C (0 : Int32) iI_76 rfl ?_
  refine g_iloadN C iI_77 rfl ?_
  refine g_newPE C iI_78 (hw _ (List.mem_of_getElem? (i := 9) rfl)) (by decide) 2 (by decide) (by decide) (by decide) (by decide) rfl rfl "[I" (by decide) (fun h19 b19 g19 E19 A19 X19 => ?_)
  have ne_b12_b19 : b12 ≠ b19 := Nat.ne_of_lt (Nat.lt_of_lt_of_le E_b12_c18.lt (Nat.le_of_eq g19.symm))
  have ne_b8_b19 : b8 ≠ b19 := Nat.ne_of_lt (Nat.lt_of_lt_of_le E_b8_c18.lt (Nat.le_of_eq g19.symm))
  have ne_b15_b19 : b15 ≠ b19 := Nat.ne_of_lt (Nat.lt_of_lt_of_le E_b15_c18.lt (Nat.le_of_eq g19.symm))
  have ne_b13_b19 : b13 ≠ b19 := Nat.ne_of_lt (Nat.lt_of_lt_of_le E_b13_c18.lt (Nat.le_of_eq g19.symm))
  have ne_b2_b19 : b2 ≠ b19 := Nat.ne_of_lt (Nat.lt_of_lt_of_le E_b2_c18.lt (Nat.le_of_eq g19.symm))
  have ne_b6_b19 : b6 ≠ b19 := Nat.ne_of_lt (Nat.lt_of_lt_of_le E_b6_c18.lt (Nat.le_of_eq g19.symm))
  have ne_b18_b19 : b18 ≠ b19 := Nat.ne_of_lt (Nat.lt_of_lt_of_le X18.lt (Nat.le_of_eq g19.symm))
  have ne_b10_b19 : b10 ≠ b19 := Nat.ne_of_lt (Nat.lt_of_lt_of_le E_b10_c18.lt (Nat.le_of_eq g19.symm))
  have ne_a0_b19 : a0 ≠ b19 := Nat.ne_of_lt (Nat.lt_of_lt_of_le F_leastTotals_a0_c18.lt (Nat.le_of_eq g19.symm))
  have ge19 : n0 ≤ b19 := Nat.le_trans Z18 (Nat.le_of_eq g19.symm)
  have fr19 : h0.size ≤ b19 := Nat.le_trans K18.1 (Nat.le_of_eq g19.symm)
  have K19 := Keep.ext K18 E19
  have Z19 : n0 ≤ h19.size := Nat.le_trans Z18 E19.1
  have F_leastTotals_a0_c19 := Fld.ext E19 F_leastTotals_a0_c18
  have F_mostTotals_a0_c19 := Fld.ext E19 F_mostTotals_a0_c18
  have F_reached_a0_c19 := Fld.ext E19 F_reached_a0_c18
  have E_a0_c19 := Exa.ext E19 E_a0_c18
  have E_b2_c19 := Exa.ext E19 E_b2_c18
  have V_b2_c19 := V_b2_c18.ext E19
  have F_lines_a0_c19 := Fld.ext E19 F_lines_a0_c18
  have E_b6_c19 := Exa.ext E19 E_b6_c18
  have V_b6_c19 := V_b6_c18.ext E19
  have F_counts_a0_c19 := Fld.ext E19 F_counts_a0_c18
  have E_b8_c19 := Exa.ext E19 E_b8_c18
  have V_b8_c19 := V_b8_c18.ext E19
  have F_least_a0_c19 := Fld.ext E19 F_least_a0_c18
  have E_b10_c19 := Exa.ext E19 E_b10_c18
  have V_b10_c19 := V_b10_c18.ext E19
  have F_most_a0_c19 := Fld.ext E19 F_most_a0_c18
  have E_b12_c19 := Exa.ext E19 E_b12_c18
  have E_b13_c19 := Exa.ext E19 E_b13_c18
  have V_b13_c19 := V_b13_c18.ext E19
  have E_b15_c19 := Exa.ext E19 E_b15_c18
  have V_b15_c19 := V_b15_c18.ext E19
  have V_b12_c19 := V_b12_c18.ext E19
  have F_totals_a0_c19 := Fld.ext E19 F_totals_a0_c18
  have E_b18_c19 := Exa.ext E19 X18
  have V_b18_c19 := V18.ext E19
  have V19 : AV Z h19 b19 .int 2 (fun ix => .int ((fun _ => (0 : Int32)) ix)) := A19
  refine g_aast C iI_80 V_b18_c19 rfl ⟨by decide, by decide⟩ ge18 E_b18_c19 O18 (Ins.self X19) (fun h20 W20 V20 => ?_)
  have F_leastTotals_a0_c20 := Fld.other W20 F_leastTotals_a0_c19 (Or.inl ne_a0_b18)
  have F_mostTotals_a0_c20 := Fld.other W20 F_mostTotals_a0_c19 (Or.inl ne_a0_b18)
  have F_reached_a0_c20 := Fld.other W20 F_reached_a0_c19 (Or.inl ne_a0_b18)
  have E_a0_c20 := Exa.wr W20 E_a0_c19
  have E_b2_c20 := Exa.wr W20 E_b2_c19
  have V_b2_c20 := AV.other V_b2_c19 W20 ne_b2_b18
  have F_lines_a0_c20 := Fld.other W20 F_lines_a0_c19 (Or.inl ne_a0_b18)
  have E_b6_c20 := Exa.wr W20 E_b6_c19
  have V_b6_c20 := AV.other V_b6_c19 W20 ne_b6_b18
  have F_counts_a0_c20 := Fld.other W20 F_counts_a0_c19 (Or.inl ne_a0_b18)
  have E_b8_c20 := Exa.wr W20 E_b8_c19
  have V_b8_c20 := AV.other V_b8_c19 W20 ne_b8_b18
  have F_least_a0_c20 := Fld.other W20 F_least_a0_c19 (Or.inl ne_a0_b18)
  have E_b10_c20 := Exa.wr W20 E_b10_c19
  have V_b10_c20 := AV.other V_b10_c19 W20 ne_b10_b18
  have F_most_a0_c20 := Fld.other W20 F_most_a0_c19 (Or.inl ne_a0_b18)
  have E_b12_c20 := Exa.wr W20 E_b12_c19
  have E_b13_c20 := Exa.wr W20 E_b13_c19
  have V_b13_c20 := AV.other V_b13_c19 W20 ne_b13_b18
  have E_b15_c20 := Exa.wr W20 E_b15_c19
  have V_b15_c20 := AV.other V_b15_c19 W20 ne_b15_b18
  have V_b12_c20 := AV.other V_b12_c19 W20 ne_b12_b18
  have F_totals_a0_c20 := Fld.other W20 F_totals_a0_c19 (Or.inl ne_a0_b18)
  have E_b18_c20 := Exa.wr W20 E_b18_c19
  have E_b19_c20 := Exa.wr W20 X19
  have V_b19_c20 := AV.other V19 W20 (Ne.symm ne_b18_b19)
  have Vw20 : AV Z h20 b18 (.array .int) 2 (rfs [.ref b19, .null]) := AV.congr V20 (fun ix hx => by match ix, hx with | 0, _ => rfl | 1, _ => rfl | (q + 2), h => exact absurd h (by omega))
  have K20 := Keep.wr K19 W20 (Or.inr fr18)
  have Z20 : n0 ≤ h20.size := Nat.le_trans Z19 (Keep.of_wr W20).1
  refine g_dup C iI_81 rfl ?_
  refine g_iconst C (1 : Int32) iI_82 rfl ?_
  refine g_iloadN C iI_83 rfl ?_
  refine g_newPE C iI_84 (hw _ (List.mem_of_getElem? (i := 9) rfl)) (by decide) 2 (by decide) (by decide) (by decide) (by decide) rfl rfl "[I" (by decide) (fun h21 b21 g21 E21 A21 X21 => ?_)
  have ne_b12_b21 : b12 ≠ b21 := Nat.ne_of_lt (Nat.lt_of_lt_of_le E_b12_c20.lt (Nat.le_of_eq g21.symm))
  have ne_b8_b21 : b8 ≠ b21 := Nat.ne_of_lt (Nat.lt_of_lt_of_le E_b8_c20.lt (Nat.le_of_eq g21.symm))
  have ne_b15_b21 : b15 ≠ b21 := Nat.ne_of_lt (Nat.lt_of_lt_of_le E_b15_c20.lt (Nat.le_of_eq g21.symm))
  have ne_b19_b21 : b19 ≠ b21 := Nat.ne_of_lt (Nat.lt_of_lt_of_le E_b19_c20.lt (Nat.le_of_eq g21.symm))
  have ne_b13_b21 : b13 ≠ b21 := Nat.ne_of_lt (Nat.lt_of_lt_of_le E_b13_c20.lt (Nat.le_of_eq g21.symm))
  have ne_b2_b21 : b2 ≠ b21 := Nat.ne_of_lt (Nat.lt_of_lt_of_le E_b2_c20.lt (Nat.le_of_eq g21.symm))
  have ne_b6_b21 : b6 ≠ b21 := Nat.ne_of_lt (Nat.lt_of_lt_of_le E_b6_c20.lt (Nat.le_of_eq g21.symm))
  have ne_b18_b21 : b18 ≠ b21 := Nat.ne_of_lt (Nat.lt_of_lt_of_le E_b18_c20.lt (Nat.le_of_eq g21.symm))
  have ne_b10_b21 : b10 ≠ b21 := Nat.ne_of_lt (Nat.lt_of_lt_of_le E_b10_c20.lt (Nat.le_of_eq g21.symm))
  have ne_a0_b21 : a0 ≠ b21 := Nat.ne_of_lt (Nat.lt_of_lt_of_le F_leastTotals_a0_c20.lt (Nat.le_of_eq g21.symm))
  have ge21 : n0 ≤ b21 := Nat.le_trans Z20 (Nat.le_of_eq g21.symm)
  have fr21 : h0.size ≤ b21 := Nat.le_trans K20.1 (Nat.le_of_eq g21.symm)
  have K21 := Keep.ext K20 E21
  have Z21 : n0 ≤ h21.size := Nat.le_trans Z20 E21.1
  have F_leastTotals_a0_c21 := Fld.ext E21 F_leastTotals_a0_c20
  have F_mostTotals_a0_c21 := Fld.ext E21 F_mostTotals_a0_c20
  have F_reached_a0_c21 := Fld.ext E21 F_reached_a0_c20
  have E_a0_c21 := Exa.ext E21 E_a0_c20
  have E_b2_c21 := Exa.ext E21 E_b2_c20
  have V_b2_c21 := V_b2_c20.ext E21
  have F_lines_a0_c21 := Fld.ext E21 F_lines_a0_c20
  have E_b6_c21 := Exa.ext E21 E_b6_c20
  have V_b6_c21 := V_b6_c20.ext E21
  have F_counts_a0_c21 := Fld.ext E21 F_counts_a0_c20
  have E_b8_c21 := Exa.ext E21 E_b8_c20
  have V_b8_c21 := V_b8_c20.ext E21
  have F_least_a0_c21 := Fld.ext E21 F_least_a0_c20
  have E_b10_c21 := Exa.ext E21 E_b10_c20
  have V_b10_c21 := V_b10_c20.ext E21
  have F_most_a0_c21 := Fld.ext E21 F_most_a0_c20
  have E_b12_c21 := Exa.ext E21 E_b12_c20
  have E_b13_c21 := Exa.ext E21 E_b13_c20
  have V_b13_c21 := V_b13_c20.ext E21
  have E_b15_c21 := Exa.ext E21 E_b15_c20
  have V_b15_c21 := V_b15_c20.ext E21
  have V_b12_c21 := V_b12_c20.ext E21
  have F_totals_a0_c21 := Fld.ext E21 F_totals_a0_c20
  have E_b18_c21 := Exa.ext E21 E_b18_c20
  have E_b19_c21 := Exa.ext E21 E_b19_c20
  have V_b19_c21 := V_b19_c20.ext E21
  have V_b18_c21 := Vw20.ext E21
  have V21 : AV Z h21 b21 .int 2 (fun ix => .int ((fun _ => (0 : Int32)) ix)) := A21
  refine g_aast C iI_86 V_b18_c21 rfl ⟨by decide, by decide⟩ ge18 E_b18_c21 O18 (Ins.self X21) (fun h22 W22 V22 => ?_)
  have F_leastTotals_a0_c22 := Fld.other W22 F_leastTotals_a0_c21 (Or.inl ne_a0_b18)
  have F_mostTotals_a0_c22 := Fld.other W22 F_mostTotals_a0_c21 (Or.inl ne_a0_b18)
  have F_reached_a0_c22 := Fld.other W22 F_reached_a0_c21 (Or.inl ne_a0_b18)
  have E_a0_c22 := Exa.wr W22 E_a0_c21
  have E_b2_c22 := Exa.wr W22 E_b2_c21
  have V_b2_c22 := AV.other V_b2_c21 W22 ne_b2_b18
  have F_lines_a0_c22 := Fld.other W22 F_lines_a0_c21 (Or.inl ne_a0_b18)
  have E_b6_c22 := Exa.wr W22 E_b6_c21
  have V_b6_c22 := AV.other V_b6_c21 W22 ne_b6_b18
  have F_counts_a0_c22 := Fld.other W22 F_counts_a0_c21 (Or.inl ne_a0_b18)
  have E_b8_c22 := Exa.wr W22 E_b8_c21
  have V_b8_c22 := AV.other V_b8_c21 W22 ne_b8_b18
  have F_least_a0_c22 := Fld.other W22 F_least_a0_c21 (Or.inl ne_a0_b18)
  have E_b10_c22 := Exa.wr W22 E_b10_c21
  have V_b10_c22 := AV.other V_b10_c21 W22 ne_b10_b18
  have F_most_a0_c22 := Fld.other W22 F_most_a0_c21 (Or.inl ne_a0_b18)
  have E_b12_c22 := Exa.wr W22 E_b12_c21
  have E_b13_c22 := Exa.wr W22 E_b13_c21
  have V_b13_c22 := AV.other V_b13_c21 W22 ne_b13_b18
  have E_b15_c22 := Exa.wr W22 E_b15_c21
  have V_b15_c22 := AV.other V_b15_c21 W22 ne_b15_b18
  have V_b12_c22 := AV.other V_b12_c21 W22 ne_b12_b18
  have F_totals_a0_c22 := Fld.other W22 F_totals_a0_c21 (Or.inl ne_a0_b18)
  have E_b18_c22 := Exa.wr W22 E_b18_c21
  have E_b19_c22 := Exa.wr W22 E_b19_c21
  have V_b19_c22 := AV.other V_b19_c21 W22 (Ne.symm ne_b18_b19)
  have E_b21_c22 := Exa.wr W22 X21
  have V_b21_c22 := AV.other V21 W22 (Ne.symm ne_b18_b21)
  have Vw22 : AV Z h22 b18 (.array .int) 2 (rfs [.ref b19, .ref b21]) := AV.congr V22 (fun ix hx => by match ix, hx with | 0, _ => rfl | 1, _ => rfl | (q + 2), h => exact absurd h (by omega))
  have K22 := Keep.wr K21 W22 (Or.inr fr18)
  have Z22 : n0 ≤ h22.size := Nat.le_trans Z21 (Keep.of_wr W22).1
  refine g_putF C iI_87 (host := "") (Or.inl (hw _ (List.mem_of_getElem? (i := 23) rfl))) Via.refl F_leastTotals_a0_c22 E_a0_c22 (Or.inr ⟨(hw _ (List.mem_of_getElem? (i := 24) rfl)), rfl, hnm⟩) (hw _ (List.mem_of_getElem? (i := 1) rfl)) (ty := (.array (.array .int))) (by decide) rfl rfl g_a0 (fun h23 W23 => ?_)
  have F_mostTotals_a0_c23 := Fld.other W23 F_mostTotals_a0_c22 (Or.inr (slot_ne (a0 := aZ) (Or.inr (hw _ (List.mem_of_getElem? (i := 26) rfl))) (Or.inr (hw _ (List.mem_of_getElem? (i := 24) rfl))) (by decide) (t := (.array (.array .int))) (t' := (.array (.array .int))) (by decide) (by decide)))
  have F_reached_a0_c23 := Fld.other W23 F_reached_a0_c22 (Or.inr (slot_ne (a0 := aZ) (Or.inr (hw _ (List.mem_of_getElem? (i := 32) rfl))) (Or.inr (hw _ (List.mem_of_getElem? (i := 24) rfl))) (by decide) (t := (.array (.array .boolean))) (t' := (.array (.array .int))) (by decide) (by decide)))
  have E_a0_c23 := Exa.wr W23 E_a0_c22
  have E_b2_c23 := Exa.wr W23 E_b2_c22
  have V_b2_c23 := AV.other V_b2_c22 W23 (Ne.symm ne_a0_b2)
  have F_lines_a0_c23 := Fld.other W23 F_lines_a0_c22 (Or.inr (slot_ne (a0 := aZ) (Or.inr (hw _ (List.mem_of_getElem? (i := 11) rfl))) (Or.inr (hw _ (List.mem_of_getElem? (i := 24) rfl))) (by decide) (t := (.array .int)) (t' := (.array (.array .int))) (by decide) (by decide)))
  have E_b6_c23 := Exa.wr W23 E_b6_c22
  have V_b6_c23 := AV.other V_b6_c22 W23 (Ne.symm ne_a0_b6)
  have F_counts_a0_c23 := Fld.other W23 F_counts_a0_c22 (Or.inr (slot_ne (a0 := aZ) (Or.inr (hw _ (List.mem_of_getElem? (i := 13) rfl))) (Or.inr (hw _ (List.mem_of_getElem? (i := 24) rfl))) (by decide) (t := (.array .int)) (t' := (.array (.array .int))) (by decide) (by decide)))
  have E_b8_c23 := Exa.wr W23 E_b8_c22
  have V_b8_c23 := AV.other V_b8_c22 W23 (Ne.symm ne_a0_b8)
  have F_least_a0_c23 := Fld.other W23 F_least_a0_c22 (Or.inr (slot_ne (a0 := aZ) (Or.inr (hw _ (List.mem_of_getElem? (i := 15) rfl))) (Or.inr (hw _ (List.mem_of_getElem? (i := 24) rfl))) (by decide) (t := (.array .int)) (t' := (.array (.array .int))) (by decide) (by decide)))
  have E_b10_c23 := Exa.wr W23 E_b10_c22
  have V_b10_c23 := AV.other V_b10_c22 W23 (Ne.symm ne_a0_b10)
  have F_most_a0_c23 := Fld.other W23 F_most_a0_c22 (Or.inr (slot_ne (a0 := aZ) (Or.inr (hw _ (List.mem_of_getElem? (i := 17) rfl))) (Or.inr (hw _ (List.mem_of_getElem? (i := 24) rfl))) (by decide) (t := (.array .int)) (t' := (.array (.array .int))) (by decide) (by decide)))
  have E_b12_c23 := Exa.wr W23 E_b12_c22
  have E_b13_c23 := Exa.wr W23 E_b13_c22
  have V_b13_c23 := AV.other V_b13_c22 W23 (Ne.symm ne_a0_b13)
  have E_b15_c23 := Exa.wr W23 E_b15_c22
  have V_b15_c23 := AV.other V_b15_c22 W23 (Ne.symm ne_a0_b15)
  have V_b12_c23 := AV.other V_b12_c22 W23 (Ne.symm ne_a0_b12)
  have F_totals_a0_c23 := Fld.other W23 F_totals_a0_c22 (Or.inr (slot_ne (a0 := aZ) (Or.inr (hw _ (List.mem_of_getElem? (i := 22) rfl))) (Or.inr (hw _ (List.mem_of_getElem? (i := 24) rfl))) (by decide) (t := (.array (.array .int))) (t' := (.array (.array .int))) (by decide) (by decide)))
  have E_b18_c23 := Exa.wr W23 E_b18_c22
  have E_b19_c23 := Exa.wr W23 E_b19_c22
  have V_b19_c23 := AV.other V_b19_c22 W23 (Ne.symm ne_a0_b19)
  have E_b21_c23 := Exa.wr W23 E_b21_c22
  have V_b21_c23 := AV.other V_b21_c22 W23 (Ne.symm ne_a0_b21)
  have V_b18_c23 := AV.other Vw22 W23 (Ne.symm ne_a0_b18)
  have Fw23 := Fld.same W23 F_leastTotals_a0_c22
  have K23 := Keep.wr K22 W23 (Or.inl (List.mem_of_getElem? (i := 0) rfl))
  have Z23 : n0 ≤ h23.size := Nat.le_trans Z22 (Keep.of_wr W23).1
  refine g_aloadN C iI_90 rfl rfl ?_
  refine g_iconst C (2 : Int32) iI_91 rfl ?_
  refine g_newRA C (ty0 := .int) (Cl := "[I") (ad := "[[I") iI_92 (by decide) (hw _ (List.mem_of_getElem? (i := 18) rfl)) (hw _ (List.mem_of_getElem? (i := 19) rfl)) (by decide) 2 (by decide) (by decide) (by decide) (by decide) rfl rfl (by decide) (fun h24 b24 g24 E24 A24 X24 O24 => ?_)
  have ne_b12_b24 : b12 ≠ b24 := Nat.ne_of_lt (Nat.lt_of_lt_of_le E_b12_c23.lt (Nat.le_of_eq g24.symm))
  have ne_b8_b24 : b8 ≠ b24 := Nat.ne_of_lt (Nat.lt_of_lt_of_le E_b8_c23.lt (Nat.le_of_eq g24.symm))
  have ne_b15_b24 : b15 ≠ b24 := Nat.ne_of_lt (Nat.lt_of_lt_of_le E_b15_c23.lt (Nat.le_of_eq g24.symm))
  have ne_b19_b24 : b19 ≠ b24 := Nat.ne_of_lt (Nat.lt_of_lt_of_le E_b19_c23.lt (Nat.le_of_eq g24.symm))
  have ne_b13_b24 : b13 ≠ b24 := Nat.ne_of_lt (Nat.lt_of_lt_of_le E_b13_c23.lt (Nat.le_of_eq g24.symm))
  have ne_b2_b24 : b2 ≠ b24 := Nat.ne_of_lt (Nat.lt_of_lt_of_le E_b2_c23.lt (Nat.le_of_eq g24.symm))
  have ne_b6_b24 : b6 ≠ b24 := Nat.ne_of_lt (Nat.lt_of_lt_of_le E_b6_c23.lt (Nat.le_of_eq g24.symm))
  have ne_b18_b24 : b18 ≠ b24 := Nat.ne_of_lt (Nat.lt_of_lt_of_le E_b18_c23.lt (Nat.le_of_eq g24.symm))
  have ne_b10_b24 : b10 ≠ b24 := Nat.ne_of_lt (Nat.lt_of_lt_of_le E_b10_c23.lt (Nat.le_of_eq g24.symm))
  have ne_a0_b24 : a0 ≠ b24 := Nat.ne_of_lt (Nat.lt_of_lt_of_le F_mostTotals_a0_c23.lt (Nat.le_of_eq g24.symm))
  have ne_b21_b24 : b21 ≠ b24 := Nat.ne_of_lt (Nat.lt_of_lt_of_le E_b21_c23.lt (Nat.le_of_eq g24.symm))
  have ge24 : n0 ≤ b24 := Nat.le_trans Z23 (Nat.le_of_eq g24.symm)
  have fr24 : h0.size ≤ b24 := Nat.le_trans K23.1 (Nat.le_of_eq g24.symm)
  have K24 := Keep.ext K23 E24
  have Z24 : n0 ≤ h24.size := Nat.le_trans Z23 E24.1
  have F_mostTotals_a0_c24 := Fld.ext E24 F_mostTotals_a0_c23
  have F_reached_a0_c24 := Fld.ext E24 F_reached_a0_c23
  have E_a0_c24 := Exa.ext E24 E_a0_c23
  have E_b2_c24 := Exa.ext E24 E_b2_c23
  have V_b2_c24 := V_b2_c23.ext E24
  have F_lines_a0_c24 := Fld.ext E24 F_lines_a0_c23
  have E_b6_c24 := Exa.ext E24 E_b6_c23
  have V_b6_c24 := V_b6_c23.ext E24
  have F_counts_a0_c24 := Fld.ext E24 F_counts_a0_c23
  have E_b8_c24 := Exa.ext E24 E_b8_c23
  have V_b8_c24 := V_b8_c23.ext E24
  have F_least_a0_c24 := Fld.ext E24 F_least_a0_c23
  have E_b10_c24 := Exa.ext E24 E_b10_c23
  have V_b10_c24 := V_b10_c23.ext E24
  have F_most_a0_c24 := Fld.ext E24 F_most_a0_c23
  have E_b12_c24 := Exa.ext E24 E_b12_c23
  have E_b13_c24 := Exa.ext E24 E_b13_c23
  have V_b13_c24 := V_b13_c23.ext E24
  have E_b15_c24 := Exa.ext E24 E_b15_c23
  have V_b15_c24 := V_b15_c23.ext E24
  have V_b12_c24 := V_b12_c23.ext E24
  have F_totals_a0_c24 := Fld.ext E24 F_totals_a0_c23
  have E_b18_c24 := Exa.ext E24 E_b18_c23
  have E_b19_c24 := Exa.ext E24 E_b19_c23
  have V_b19_c24 := V_b19_c23.ext E24
  have E_b21_c24 := Exa.ext E24 E_b21_c23
  have V_b21_c24 := V_b21_c23.ext E24
  have V_b18_c24 := V_b18_c23.ext E24
  have F_leastTotals_a0_c24 := Fld.ext E24 Fw23
  have V24 : AV Z h24 b24 (.array .int) 2 (rfs [.null, .null]) := AV.congr A24 (fun ix hx => by match ix, hx with | 0, _ => rfl | 1, _ => rfl | (q + 2), h => exact absurd h (by omega))
  refine g_dup C iI_95 rfl ?_
  refine g_iconst C (0 : Int32) iI_96 rfl ?_
  refine g_iloadN C iI_97 rfl ?_
  refine g_newPE C iI_98 (hw _ (List.mem_of_getElem? (i := 9) rfl)) (by decide) 2 (by decide) (by decide) (by decide) (by decide) rfl rfl "[I" (by decide) (fun h25 b25 g25 E25 A25 X25 => ?_)
  have ne_b12_b25 : b12 ≠ b25 := Nat.ne_of_lt (Nat.lt_of_lt_of_le E_b12_c24.lt (Nat.le_of_eq g25.symm))
  have ne_b8_b25 : b8 ≠ b25 := Nat.ne_of_lt (Nat.lt_of_lt_of_le E_b8_c24.lt (Nat.le_of_eq g25.symm))
  have ne_b15_b25 : b15 ≠ b25 := Nat.ne_of_lt (Nat.lt_of_lt_of_le E_b15_c24.lt (Nat.le_of_eq g25.symm))
  have ne_b19_b25 : b19 ≠ b25 := Nat.ne_of_lt (Nat.lt_of_lt_of_le E_b19_c24.lt (Nat.le_of_eq g25.symm))
  have ne_b13_b25 : b13 ≠ b25 := Nat.ne_of_lt (Nat.lt_of_lt_of_le E_b13_c24.lt (Nat.le_of_eq g25.symm))
  have ne_b2_b25 : b2 ≠ b25 := Nat.ne_of_lt (Nat.lt_of_lt_of_le E_b2_c24.lt (Nat.le_of_eq g25.symm))
  have ne_b6_b25 : b6 ≠ b25 := Nat.ne_of_lt (Nat.lt_of_lt_of_le E_b6_c24.lt (Nat.le_of_eq g25.symm))
  have ne_b18_b25 : b18 ≠ b25 := Nat.ne_of_lt (Nat.lt_of_lt_of_le E_b18_c24.lt (Nat.le_of_eq g25.symm))
  have ne_b10_b25 : b10 ≠ b25 := Nat.ne_of_lt (Nat.lt_of_lt_of_le E_b10_c24.lt (Nat.le_of_eq g25.symm))
  have ne_a0_b25 : a0 ≠ b25 := Nat.ne_of_lt (Nat.lt_of_lt_of_le F_mostTotals_a0_c24.lt (Nat.le_of_eq g25.symm))
  have ne_b24_b25 : b24 ≠ b25 := Nat.ne_of_lt (Nat.lt_of_lt_of_le X24.lt (Nat.le_of_eq g25.symm))
  have ne_b21_b25 : b21 ≠ b25 := Nat.ne_of_lt (Nat.lt_of_lt_of_le E_b21_c24.lt (Nat.le_of_eq g25.symm))
  have ge25 : n0 ≤ b25 := Nat.le_trans Z24 (Nat.le_of_eq g25.symm)
  have fr25 : h0.size ≤ b25 := Nat.le_trans K24.1 (Nat.le_of_eq g25.symm)
  have K25 := Keep.ext K24 E25
  have Z25 : n0 ≤ h25.size := Nat.le_trans Z24 E25.1
  have F_mostTotals_a0_c25 := Fld.ext E25 F_mostTotals_a0_c24
  have F_reached_a0_c25 := Fld.ext E25 F_reached_a0_c24
  have E_a0_c25 := Exa.ext E25 E_a0_c24
  have E_b2_c25 := Exa.ext E25 E_b2_c24
  have V_b2_c25 := V_b2_c24.ext E25
  have F_lines_a0_c25 := Fld.ext E25 F_lines_a0_c24
  have E_b6_c25 := Exa.ext E25 E_b6_c24
  have V_b6_c25 := V_b6_c24.ext E25
  have F_counts_a0_c25 := Fld.ext E25 F_counts_a0_c24
  have E_b8_c25 := Exa.ext E25 E_b8_c24
  have V_b8_c25 := V_b8_c24.ext E25
  have F_least_a0_c25 := Fld.ext E25 F_least_a0_c24
  have E_b10_c25 := Exa.ext E25 E_b10_c24
  have V_b10_c25 := V_b10_c24.ext E25
  have F_most_a0_c25 := Fld.ext E25 F_most_a0_c24
  have E_b12_c25 := Exa.ext E25 E_b12_c24
  have E_b13_c25 := Exa.ext E25 E_b13_c24
  have V_b13_c25 := V_b13_c24.ext E25
  have E_b15_c25 := Exa.ext E25 E_b15_c24
  have V_b15_c25 := V_b15_c24.ext E25
  have V_b12_c25 := V_b12_c24.ext E25
  have F_totals_a0_c25 := Fld.ext E25 F_totals_a0_c24
  have E_b18_c25 := Exa.ext E25 E_b18_c24
  have E_b19_c25 := Exa.ext E25 E_b19_c24
  have V_b19_c25 := V_b19_c24.ext E25
  have E_b21_c25 := Exa.ext E25 E_b21_c24
  have V_b21_c25 := V_b21_c24.ext E25
  have V_b18_c25 := V_b18_c24.ext E25
  have F_leastTotals_a0_c25 := Fld.ext E25 F_leastTotals_a0_c24
  have E_b24_c25 := Exa.ext E25 X24
  have V_b24_c25 := V24.ext E25
  have V25 : AV Z h25 b25 .int 2 (fun ix => .int ((fun _ => (0 : Int32)) ix)) := A25
  refine g_aast C iI_100 V_b24_c25 rfl ⟨by decide, by decide⟩ ge24 E_b24_c25 O24 (Ins.self X25) (fun h26 W26 V26 => ?_)
  have F_mostTotals_a0_c26 := Fld.other W26 F_mostTotals_a0_c25 (Or.inl ne_a0_b24)
  have F_reached_a0_c26 := Fld.other W26 F_reached_a0_c25 (Or.inl ne_a0_b24)
  have E_a0_c26 := Exa.wr W26 E_a0_c25
  have E_b2_c26 := Exa.wr W26 E_b2_c25
  have V_b2_c26 := AV.other V_b2_c25 W26 ne_b2_b24
  have F_lines_a0_c26 := Fld.other W26 F_lines_a0_c25 (Or.inl ne_a0_b24)
  have E_b6_c26 := Exa.wr W26 E_b6_c25
  have V_b6_c26 := AV.other V_b6_c25 W26 ne_b6_b24
  have F_counts_a0_c26 := Fld.other W26 F_counts_a0_c25 (Or.inl ne_a0_b24)
  have E_b8_c26 := Exa.wr W26 E_b8_c25
  have V_b8_c26 := AV.other V_b8_c25 W26 ne_b8_b24
  have F_least_a0_c26 := Fld.other W26 F_least_a0_c25 (Or.inl ne_a0_b24)
  have E_b10_c26 := Exa.wr W26 E_b10_c25
  have V_b10_c26 := AV.other V_b10_c25 W26 ne_b10_b24
  have F_most_a0_c26 := Fld.other W26 F_most_a0_c25 (Or.inl ne_a0_b24)
  have E_b12_c26 := Exa.wr W26 E_b12_c25
  have E_b13_c26 := Exa.wr W26 E_b13_c25
  have V_b13_c26 := AV.other V_b13_c25 W26 ne_b13_b24
  have E_b15_c26 := Exa.wr W26 E_b15_c25
  have V_b15_c26 := AV.other V_b15_c25 W26 ne_b15_b24
  have V_b12_c26 := AV.other V_b12_c25 W26 ne_b12_b24
  have F_totals_a0_c26 := Fld.other W26 F_totals_a0_c25 (Or.inl ne_a0_b24)
  have E_b18_c26 := Exa.wr W26 E_b18_c25
  have E_b19_c26 := Exa.wr W26 E_b19_c25
  have V_b19_c26 := AV.other V_b19_c25 W26 ne_b19_b24
  have E_b21_c26 := Exa.wr W26 E_b21_c25
  have V_b21_c26 := AV.other V_b21_c25 W26 ne_b21_b24
  have V_b18_c26 := AV.other V_b18_c25 W26 ne_b18_b24
  have F_leastTotals_a0_c26 := Fld.other W26 F_leastTotals_a0_c25 (Or.inl ne_a0_b24)
  have E_b24_c26 := Exa.wr W26 E_b24_c25
  have E_b25_c26 := Exa.wr W26 X25
  have V_b25_c26 := AV.other V25 W26 (Ne.symm ne_b24_b25)
  have Vw26 : AV Z h26 b24 (.array .int) 2 (rfs [.ref b25, .null]) := AV.congr V26 (fun ix hx => by match ix, hx with | 0, _ => rfl | 1, _ => rfl | (q + 2), h => exact absurd h (by omega))
  have K26 := Keep.wr K25 W26 (Or.inr fr24)
  have Z26 : n0 ≤ h26.size := Nat.le_trans Z25 (Keep.of_wr W26).1
  refine g_dup C iI_101 rfl ?_
  refine g_iconst C (1 : Int32) iI_102 rfl ?_
  refine g_iloadN C iI_103 rfl ?_
  refine g_newPE C iI_104 (hw _ (List.mem_of_getElem? (i := 9) rfl)) (by decide) 2 (by decide) (by decide) (by decide) (by decide) rfl rfl "[I" (by decide) (fun h27 b27 g27 E27 A27 X27 => ?_)
  have ne_b12_b27 : b12 ≠ b27 := Nat.ne_of_lt (Nat.lt_of_lt_of_le E_b12_c26.lt (Nat.le_of_eq g27.symm))
  have ne_b8_b27 : b8 ≠ b27 := Nat.ne_of_lt (Nat.lt_of_lt_of_le E_b8_c26.lt (Nat.le_of_eq g27.symm))
  have ne_b15_b27 : b15 ≠ b27 := Nat.ne_of_lt (Nat.lt_of_lt_of_le E_b15_c26.lt (Nat.le_of_eq g27.symm))
  have ne_b19_b27 : b19 ≠ b27 := Nat.ne_of_lt (Nat.lt_of_lt_of_le E_b19_c26.lt (Nat.le_of_eq g27.symm))
  have ne_b13_b27 : b13 ≠ b27 := Nat.ne_of_lt (Nat.lt_of_lt_of_le E_b13_c26.lt (Nat.le_of_eq g27.symm))
  have ne_b2_b27 : b2 ≠ b27 := Nat.ne_of_lt (Nat.lt_of_lt_of_le E_b2_c26.lt (Nat.le_of_eq g27.symm))
  have ne_b6_b27 : b6 ≠ b27 := Nat.ne_of_lt (Nat.lt_of_lt_of_le E_b6_c26.lt (Nat.le_of_eq g27.symm))
  have ne_b18_b27 : b18 ≠ b27 := Nat.ne_of_lt (Nat.lt_of_lt_of_le E_b18_c26.lt (Nat.le_of_eq g27.symm))
  have ne_b10_b27 : b10 ≠ b27 := Nat.ne_of_lt (Nat.lt_of_lt_of_le E_b10_c26.lt (Nat.le_of_eq g27.symm))
  have ne_b25_b27 : b25 ≠ b27 := Nat.ne_of_lt (Nat.lt_of_lt_of_le E_b25_c26.lt (Nat.le_of_eq g27.symm))
  have ne_a0_b27 : a0 ≠ b27 := Nat.ne_of_lt (Nat.lt_of_lt_of_le F_mostTotals_a0_c26.lt (Nat.le_of_eq g27.symm))
  have ne_b24_b27 : b24 ≠ b27 := Nat.ne_of_lt (Nat.lt_of_lt_of_le E_b24_c26.lt (Nat.le_of_eq g27.symm))
  have ne_b21_b27 : b21 ≠ b27 := Nat.ne_of_lt (Nat.lt_of_lt_of_le E_b21_c26.lt (Nat.le_of_eq g27.symm))
  have ge27 : n0 ≤ b27 := Nat.le_trans Z26 (Nat.le_of_eq g27.symm)
  have fr27 : h0.size ≤ b27 := Nat.le_trans K26.1 (Nat.le_of_eq g27.symm)
  have K27 := Keep.ext K26 E27
  have Z27 : n0 ≤ h27.size := Nat.le_trans Z26 E27.1
  have F_mostTotals_a0_c27 := Fld.ext E27 F_mostTotals_a0_c26
  have F_reached_a0_c27 := Fld.ext E27 F_reached_a0_c26
  have E_a0_c27 := Exa.ext E27 E_a0_c26
  have E_b2_c27 := Exa.ext E27 E_b2_c26
  have V_b2_c27 := V_b2_c26.ext E27
  have F_lines_a0_c27 := Fld.ext E27 F_lines_a0_c26
  have E_b6_c27 := Exa.ext E27 E_b6_c26
  have V_b6_c27 := V_b6_c26.ext E27
  have F_counts_a0_c27 := Fld.ext E27 F_counts_a0_c26
  have E_b8_c27 := Exa.ext E27 E_b8_c26
  have V_b8_c27 := V_b8_c26.ext E27
  have F_least_a0_c27 := Fld.ext E27 F_least_a0_c26
  have E_b10_c27 := Exa.ext E27 E_b10_c26
  have V_b10_c27 := V_b10_c26.ext E27
  have F_most_a0_c27 := Fld.ext E27 F_most_a0_c26
  have E_b12_c27 := Exa.ext E27 E_b12_c26
  have E_b13_c27 := Exa.ext E27 E_b13_c26
  have V_b13_c27 := V_b13_c26.ext E27
  have E_b15_c27 := Exa.ext E27 E_b15_c26
  have V_b15_c27 := V_b15_c26.ext E27
  have V_b12_c27 := V_b12_c26.ext E27
  have F_totals_a0_c27 := Fld.ext E27 F_totals_a0_c26
  have E_b18_c27 := Exa.ext E27 E_b18_c26
  have E_b19_c27 := Exa.ext E27 E_b19_c26
  have V_b19_c27 := V_b19_c26.ext E27
  have E_b21_c27 := Exa.ext E27 E_b21_c26
  have V_b21_c27 := V_b21_c26.ext E27
  have V_b18_c27 := V_b18_c26.ext E27
  have F_leastTotals_a0_c27 := Fld.ext E27 F_leastTotals_a0_c26
  have E_b24_c27 := Exa.ext E27 E_b24_c26
  have E_b25_c27 := Exa.ext E27 E_b25_c26
  have V_b25_c27 := V_b25_c26.ext E27
  have V_b24_c27 := Vw26.ext E27
  have V27 : AV Z h27 b27 .int 2 (fun ix => .int ((fun _ => (0 : Int32)) ix)) := A27
  refine g_aast C iI_106 V_b24_c27 rfl ⟨by decide, by decide⟩ ge24 E_b24_c27 O24 (Ins.self X27) (fun h28 W28 V28 => ?_)
  have F_mostTotals_a0_c28 := Fld.other W28 F_mostTotals_a0_c27 (Or.inl ne_a0_b24)
  have F_reached_a0_c28 := Fld.other W28 F_reached_a0_c27 (Or.inl ne_a0_b24)
  have E_a0_c28 := Exa.wr W28 E_a0_c27
  have E_b2_c28 := Exa.wr W28 E_b2_c27
  have V_b2_c28 := AV.other V_b2_c27 W28 ne_b2_b24
  have F_lines_a0_c28 := Fld.other W28 F_lines_a0_c27 (Or.inl ne_a0_b24)
  have E_b6_c28 := Exa.wr W28 E_b6_c27
  have V_b6_c28 := AV.other V_b6_c27 W28 ne_b6_b24
  have F_counts_a0_c28 := Fld.other W28 F_counts_a0_c27 (Or.inl ne_a0_b24)
  have E_b8_c28 := Exa.wr W28 E_b8_c27
  have V_b8_c28 := AV.other V_b8_c27 W28 ne_b8_b24
  have F_least_a0_c28 := Fld.other W28 F_least_a0_c27 (Or.inl ne_a0_b24)
  have E_b10_c28 := Exa.wr W28 E_b10_c27
  have V_b10_c28 := AV.other V_b10_c27 W28 ne_b10_b24
  have F_most_a0_c28 := Fld.other W28 F_most_a0_c27 (Or.inl ne_a0_b24)
  have E_b12_c28 := Exa.wr W28 E_b12_c27
  have E_b13_c28 := Exa.wr W28 E_b13_c27
  have V_b13_c28 := AV.other V_b13_c27 W28 ne_b13_b24
  have E_b15_c28 := Exa.wr W28 E_b15_c27
  have V_b15_c28 := AV.other V_b15_c27 W28 ne_b15_b24
  have V_b12_c28 := AV.other V_b12_c27 W28 ne_b12_b24
  have F_totals_a0_c28 := Fld.other W28 F_totals_a0_c27 (Or.inl ne_a0_b24)
  have E_b18_c28 := Exa.wr W28 E_b18_c27
  have E_b19_c28 := Exa.wr W28 E_b19_c27
  have V_b19_c28 := AV.other V_b19_c27 W28 ne_b19_b24
  have E_b21_c28 := Exa.wr W28 E_b21_c27
  have V_b21_c28 := AV.other V_b21_c27 W28 ne_b21_b24
  have V_b18_c28 := AV.other V_b18_c27 W28 ne_b18_b24
  have F_leastTotals_a0_c28 := Fld.other W28 F_leastTotals_a0_c27 (Or.inl ne_a0_b24)
  have E_b24_c28 := Exa.wr W28 E_b24_c27
  have E_b25_c28 := Exa.wr W28 E_b25_c27
  have V_b25_c28 := AV.other V_b25_c27 W28 (Ne.symm ne_b24_b25)
  have E_b27_c28 := Exa.wr W28 X27
  have V_b27_c28 := AV.other V27 W28 (Ne.symm ne_b24_b27)
  have Vw28 : AV Z h28 b24 (.array .int) 2 (rfs [.ref b25, .ref b27]) := AV.congr V28 (fun ix hx => by match ix, hx with | 0, _ => rfl | 1, _ => rfl | (q + 2), h => exact absurd h (by omega))
  have K28 := Keep.wr K27 W28 (Or.inr fr24)
  have Z28 : n0 ≤ h28.size := Nat.le_trans Z27 (Keep.of_wr W28).1
  refine g_putF C iI_107 (host := "") (Or.inl (hw _ (List.mem_of_getElem? (i := 25) rfl))) Via.refl F_mostTotals_a0_c28 E_a0_c28 (Or.inr ⟨(hw _ (List.mem_of_getElem? (i := 26) rfl)), rfl, hnm⟩) (hw _ (List.mem_of_getElem? (i := 1) rfl)) (ty := (.array (.array .int))) (by decide) rfl rfl g_a0 (fun h29 W29 => ?_)
  have F_reached_a0_c29 := Fld.other W29 F_reached_a0_c28 (Or.inr (slot_ne (a0 := aZ) (Or.inr (hw _ (List.mem_of_getElem? (i := 32) rfl))) (Or.inr (hw _ (List.mem_of_getElem? (i := 26) rfl))) (by decide) (t := (.array (.array .boolean))) (t' := (.array (.array .int))) (by decide) (by decide)))
  have E_a0_c29 := Exa.wr W29 E_a0_c28
  have E_b2_c29 := Exa.wr W29 E_b2_c28
  have V_b2_c29 := AV.other V_b2_c28 W29 (Ne.symm ne_a0_b2)
  have F_lines_a0_c29 := Fld.other W29 F_lines_a0_c28 (Or.inr (slot_ne (a0 := aZ) (Or.inr (hw _ (List.mem_of_getElem? (i := 11) rfl))) (Or.inr (hw _ (List.mem_of_getElem? (i := 26) rfl))) (by decide) (t := (.array .int)) (t' := (.array (.array .int))) (by decide) (by decide)))
  have E_b6_c29 := Exa.wr W29 E_b6_c28
  have V_b6_c29 := AV.other V_b6_c28 W29 (Ne.symm ne_a0_b6)
  have F_counts_a0_c29 := Fld.other W29 F_counts_a0_c28 (Or.inr (slot_ne (a0 := aZ) (Or.inr (hw _ (List.mem_of_getElem? (i := 13) rfl))) (Or.inr (hw _ (List.mem_of_getElem? (i := 26) rfl))) (by decide) (t := (.array .int)) (t' := (.array (.array .int))) (by decide) (by decide)))
  have E_b8_c29 := Exa.wr W29 E_b8_c28
  have V_b8_c29 := AV.other V_b8_c28 W29 (Ne.symm ne_a0_b8)
  have F_least_a0_c29 := Fld.other W29 F_least_a0_c28 (Or.inr (slot_ne (a0 := aZ) (Or.inr (hw _ (List.mem_of_getElem? (i := 15) rfl))) (Or.inr (hw _ (List.mem_of_getElem? (i := 26) rfl))) (by decide) (t := (.array .int)) (t' := (.array (.array .int))) (by decide) (by decide)))
  have E_b10_c29 := Exa.wr W29 E_b10_c28
  have V_b10_c29 := AV.other V_b10_c28 W29 (Ne.symm ne_a0_b10)
  have F_most_a0_c29 := Fld.other W29 F_most_a0_c28 (Or.inr (slot_ne (a0 := aZ) (Or.inr (hw _ (List.mem_of_getElem? (i := 17) rfl))) (Or.inr (hw _ (List.mem_of_getElem? (i := 26) rfl))) (by decide) (t := (.array .int)) (t' := (.array (.array .int))) (by decide) (by decide)))
  have E_b12_c29 := Exa.wr W29 E_b12_c28
  have E_b13_c29 := Exa.wr W29 E_b13_c28
  have V_b13_c29 := AV.other V_b13_c28 W29 (Ne.symm ne_a0_b13)
  have E_b15_c29 := Exa.wr W29 E_b15_c28
  have V_b15_c29 := AV.other V_b15_c28 W29 (Ne.symm ne_a0_b15)
  have V_b12_c29 := AV.other V_b12_c28 W29 (Ne.symm ne_a0_b12)
  have F_totals_a0_c29 := Fld.other W29 F_totals_a0_c28 (Or.inr (slot_ne (a0 := aZ) (Or.inr (hw _ (List.mem_of_getElem? (i := 22) rfl))) (Or.inr (hw _ (List.mem_of_getElem? (i := 26) rfl))) (by decide) (t := (.array (.array .int))) (t' := (.array (.array .int))) (by decide) (by decide)))
  have E_b18_c29 := Exa.wr W29 E_b18_c28
  have E_b19_c29 := Exa.wr W29 E_b19_c28
  have V_b19_c29 := AV.other V_b19_c28 W29 (Ne.symm ne_a0_b19)
  have E_b21_c29 := Exa.wr W29 E_b21_c28
  have V_b21_c29 := AV.other V_b21_c28 W29 (Ne.symm ne_a0_b21)
  have V_b18_c29 := AV.other V_b18_c28 W29 (Ne.symm ne_a0_b18)
  have F_leastTotals_a0_c29 := Fld.other W29 F_leastTotals_a0_c28 (Or.inr (slot_ne (a0 := aZ) (Or.inr (hw _ (List.mem_of_getElem? (i := 24) rfl))) (Or.inr (hw _ (List.mem_of_getElem? (i := 26) rfl))) (by decide) (t := (.array (.array .int))) (t' := (.array (.array .int))) (by decide) (by decide)))
  have E_b24_c29 := Exa.wr W29 E_b24_c28
  have E_b25_c29 := Exa.wr W29 E_b25_c28
  have V_b25_c29 := AV.other V_b25_c28 W29 (Ne.symm ne_a0_b25)
  have E_b27_c29 := Exa.wr W29 E_b27_c28
  have V_b27_c29 := AV.other V_b27_c28 W29 (Ne.symm ne_a0_b27)
  have V_b24_c29 := AV.other Vw28 W29 (Ne.symm ne_a0_b24)
  have Fw29 := Fld.same W29 F_mostTotals_a0_c28
  have K29 := Keep.wr K28 W29 (Or.inl (List.mem_of_getElem? (i := 0) rfl))
  have Z29 : n0 ≤ h29.size := Nat.le_trans Z28 (Keep.of_wr W29).1
  refine g_aloadN C iI_110 rfl rfl ?_
  refine g_iconst C (2 : Int32) iI_111 rfl ?_
  refine g_newRA C (ty0 := .boolean) (Cl := "[Z") (ad := "[[Z") iI_112 (by decide) (hw _ (List.mem_of_getElem? (i := 27) rfl)) (hw _ (List.mem_of_getElem? (i := 28) rfl)) (by decide) 2 (by decide) (by decide) (by decide) (by decide) rfl rfl (by decide) (fun h30 b30 g30 E30 A30 X30 O30 => ?_)
  have ne_b12_b30 : b12 ≠ b30 := Nat.ne_of_lt (Nat.lt_of_lt_of_le E_b12_c29.lt (Nat.le_of_eq g30.symm))
  have ne_b8_b30 : b8 ≠ b30 := Nat.ne_of_lt (Nat.lt_of_lt_of_le E_b8_c29.lt (Nat.le_of_eq g30.symm))
  have ne_b15_b30 : b15 ≠ b30 := Nat.ne_of_lt (Nat.lt_of_lt_of_le E_b15_c29.lt (Nat.le_of_eq g30.symm))
  have ne_b19_b30 : b19 ≠ b30 := Nat.ne_of_lt (Nat.lt_of_lt_of_le E_b19_c29.lt (Nat.le_of_eq g30.symm))
  have ne_b13_b30 : b13 ≠ b30 := Nat.ne_of_lt (Nat.lt_of_lt_of_le E_b13_c29.lt (Nat.le_of_eq g30.symm))
  have ne_b2_b30 : b2 ≠ b30 := Nat.ne_of_lt (Nat.lt_of_lt_of_le E_b2_c29.lt (Nat.le_of_eq g30.symm))
  have ne_b6_b30 : b6 ≠ b30 := Nat.ne_of_lt (Nat.lt_of_lt_of_le E_b6_c29.lt (Nat.le_of_eq g30.symm))
  have ne_b27_b30 : b27 ≠ b30 := Nat.ne_of_lt (Nat.lt_of_lt_of_le E_b27_c29.lt (Nat.le_of_eq g30.symm))
  have ne_b18_b30 : b18 ≠ b30 := Nat.ne_of_lt (Nat.lt_of_lt_of_le E_b18_c29.lt (Nat.le_of_eq g30.symm))
  have ne_b10_b30 : b10 ≠ b30 := Nat.ne_of_lt (Nat.lt_of_lt_of_le E_b10_c29.lt (Nat.le_of_eq g30.symm))
  have ne_b25_b30 : b25 ≠ b30 := Nat.ne_of_lt (Nat.lt_of_lt_of_le E_b25_c29.lt (Nat.le_of_eq g30.symm))
  have ne_a0_b30 : a0 ≠ b30 := Nat.ne_of_lt (Nat.lt_of_lt_of_le F_reached_a0_c29.lt (Nat.le_of_eq g30.symm))
  have ne_b24_b30 : b24 ≠ b30 := Nat.ne_of_lt (Nat.lt_of_lt_of_le E_b24_c29.lt (Nat.le_of_eq g30.symm))
  have ne_b21_b30 : b21 ≠ b30 := Nat.ne_of_lt (Nat.lt_of_lt_of_le E_b21_c29.lt (Nat.le_of_eq g30.symm))
  have ge30 : n0 ≤ b30 := Nat.le_trans Z29 (Nat.le_of_eq g30.symm)
  have fr30 : h0.size ≤ b30 := Nat.le_trans K29.1 (Nat.le_of_eq g30.symm)
  have K30 := Keep.ext K29 E30
  have Z30 : n0 ≤ h30.size := Nat.le_trans Z29 E30.1
  have F_reached_a0_c30 := Fld.ext E30 F_reached_a0_c29
  have E_a0_c30 := Exa.ext E30 E_a0_c29
  have E_b2_c30 := Exa.ext E30 E_b2_c29
  have V_b2_c30 := V_b2_c29.ext E30
  have F_lines_a0_c30 := Fld.ext E30 F_lines_a0_c29
  have E_b6_c30 := Exa.ext E30 E_b6_c29
  have V_b6_c30 := V_b6_c29.ext E30
  have F_counts_a0_c30 := Fld.ext E30 F_counts_a0_c29
  have E_b8_c30 := Exa.ext E30 E_b8_c29
  have V_b8_c30 := V_b8_c29.ext E30
  have F_least_a0_c30 := Fld.ext E30 F_least_a0_c29
  have E_b10_c30 := Exa.ext E30 E_b10_c29
  have V_b10_c30 := V_b10_c29.ext E30
  have F_most_a0_c30 := Fld.ext E30 F_most_a0_c29
  have E_b12_c30 := Exa.ext E30 E_b12_c29
  have E_b13_c30 := Exa.ext E30 E_b13_c29
  have V_b13_c30 := V_b13_c29.ext E30
  have E_b15_c30 := Exa.ext E30 E_b15_c29
  have V_b15_c30 := V_b15_c29.ext E30
  have V_b12_c30 := V_b12_c29.ext E30
  have F_totals_a0_c30 := Fld.ext E30 F_totals_a0_c29
  have E_b18_c30 := Exa.ext E30 E_b18_c29
  have E_b19_c30 := Exa.ext E30 E_b19_c29
  have V_b19_c30 := V_b19_c29.ext E30
  have E_b21_c30 := Exa.ext E30 E_b21_c29
  have V_b21_c30 := V_b21_c29.ext E30
  have V_b18_c30 := V_b18_c29.ext E30
  have F_leastTotals_a0_c30 := Fld.ext E30 F_leastTotals_a0_c29
  have E_b24_c30 := Exa.ext E30 E_b24_c29
  have E_b25_c30 := Exa.ext E30 E_b25_c29
  have V_b25_c30 := V_b25_c29.ext E30
  have E_b27_c30 := Exa.ext E30 E_b27_c29
  have V_b27_c30 := V_b27_c29.ext E30
  have V_b24_c30 := V_b24_c29.ext E30
  have F_mostTotals_a0_c30 := Fld.ext E30 Fw29
  have V30 : AV Z h30 b30 (.array .boolean) 2 (rfs [.null, .null]) := AV.congr A30 (fun ix hx => by match ix, hx with | 0, _ => rfl | 1, _ => rfl | (q + 2), h => exact absurd h (by omega))
  refine g_dup C iI_115 rfl ?_
  refine g_iconst C (0 : Int32) iI_116 rfl ?_
  refine g_iloadN C iI_117 rfl ?_
  refine g_newPE C iI_118 (hw _ (List.mem_of_getElem? (i := 29) rfl)) (by decide) 2 (by decide) (by decide) (by decide) (by decide) rfl rfl "[Z" (by decide) (fun h31 b31 g31 E31 A31 X31 => ?_)
  have ne_b12_b31 : b12 ≠ b31 := Nat.ne_of_lt (Nat.lt_of_lt_of_le E_b12_c30.lt (Nat.le_of_eq g31.symm))
  have ne_b8_b31 : b8 ≠ b31 := Nat.ne_of_lt (Nat.lt_of_lt_of_le E_b8_c30.lt (Nat.le_of_eq g31.symm))
  have ne_b15_b31 : b15 ≠ b31 := Nat.ne_of_lt (Nat.lt_of_lt_of_le E_b15_c30.lt (Nat.le_of_eq g31.symm))
  have ne_b19_b31 : b19 ≠ b31 := Nat.ne_of_lt (Nat.lt_of_lt_of_le E_b19_c30.lt (Nat.le_of_eq g31.symm))
  have ne_b13_b31 : b13 ≠ b31 := Nat.ne_of_lt (Nat.lt_of_lt_of_le E_b13_c30.lt (Nat.le_of_eq g31.symm))
  have ne_b2_b31 : b2 ≠ b31 := Nat.ne_of_lt (Nat.lt_of_lt_of_le E_b2_c30.lt (Nat.le_of_eq g31.symm))
  have ne_b6_b31 : b6 ≠ b31 := Nat.ne_of_lt (Nat.lt_of_lt_of_le E_b6_c30.lt (Nat.le_of_eq g31.symm))
  have ne_b27_b31 : b27 ≠ b31 := Nat.ne_of_lt (Nat.lt_of_lt_of_le E_b27_c30.lt (Nat.le_of_eq g31.symm))
  have ne_b30_b31 : b30 ≠ b31 := Nat.ne_of_lt (Nat.lt_of_lt_of_le X30.lt (Nat.le_of_eq g31.symm))
  have ne_b18_b31 : b18 ≠ b31 := Nat.ne_of_lt (Nat.lt_of_lt_of_le E_b18_c30.lt (Nat.le_of_eq g31.symm))
  have ne_b10_b31 : b10 ≠ b31 := Nat.ne_of_lt (Nat.lt_of_lt_of_le E_b10_c30.lt (Nat.le_of_eq g31.symm))
  have ne_b25_b31 : b25 ≠ b31 := Nat.ne_of_lt (Nat.lt_of_lt_of_le E_b25_c30.lt (Nat.le_of_eq g31.symm))
  have ne_a0_b31 : a0 ≠ b31 := Nat.ne_of_lt (Nat.lt_of_lt_of_le F_reached_a0_c30.lt (Nat.le_of_eq g31.symm))
  have ne_b24_b31 : b24 ≠ b31 := Nat.ne_of_lt (Nat.lt_of_lt_of_le E_b24_c30.lt (Nat.le_of_eq g31.symm))
  have ne_b21_b31 : b21 ≠ b31 := Nat.ne_of_lt (Nat.lt_of_lt_of_le E_b21_c30.lt (Nat.le_of_eq g31.symm))
  have ge31 : n0 ≤ b31 := Nat.le_trans Z30 (Nat.le_of_eq g31.symm)
  have fr31 : h0.size ≤ b31 := Nat.le_trans K30.1 (Nat.le_of_eq g31.symm)
  have K31 := Keep.ext K30 E31
  have Z31 : n0 ≤ h31.size := Nat.le_trans Z30 E31.1
  have F_reached_a0_c31 := Fld.ext E31 F_reached_a0_c30
  have E_a0_c31 := Exa.ext E31 E_a0_c30
  have E_b2_c31 := Exa.ext E31 E_b2_c30
  have V_b2_c31 := V_b2_c30.ext E31
  have F_lines_a0_c31 := Fld.ext E31 F_lines_a0_c30
  have E_b6_c31 := Exa.ext E31 E_b6_c30
  have V_b6_c31 := V_b6_c30.ext E31
  have F_counts_a0_c31 := Fld.ext E31 F_counts_a0_c30
  have E_b8_c31 := Exa.ext E31 E_b8_c30
  have V_b8_c31 := V_b8_c30.ext E31
  have F_least_a0_c31 := Fld.ext E31 F_least_a0_c30
  have E_b10_c31 := Exa.ext E31 E_b10_c30
  have V_b10_c31 := V_b10_c30.ext E31
  have F_most_a0_c31 := Fld.ext E31 F_most_a0_c30
  have E_b12_c31 := Exa.ext E31 E_b12_c30
  have E_b13_c31 := Exa.ext E31 E_b13_c30
  have V_b13_c31 := V_b13_c30.ext E31
  have E_b15_c31 := Exa.ext E31 E_b15_c30
  have V_b15_c31 := V_b15_c30.ext E31
  have V_b12_c31 := V_b12_c30.ext E31
  have F_totals_a0_c31 := Fld.ext E31 F_totals_a0_c30
  have E_b18_c31 := Exa.ext E31 E_b18_c30
  have E_b19_c31 := Exa.ext E31 E_b19_c30
  have V_b19_c31 := V_b19_c30.ext E31
  have E_b21_c31 := Exa.ext E31 E_b21_c30
  have V_b21_c31 := V_b21_c30.ext E31
  have V_b18_c31 := V_b18_c30.ext E31
  have F_leastTotals_a0_c31 := Fld.ext E31 F_leastTotals_a0_c30
  have E_b24_c31 := Exa.ext E31 E_b24_c30
  have E_b25_c31 := Exa.ext E31 E_b25_c30
  have V_b25_c31 := V_b25_c30.ext E31
  have E_b27_c31 := Exa.ext E31 E_b27_c30
  have V_b27_c31 := V_b27_c30.ext E31
  have V_b24_c31 := V_b24_c30.ext E31
  have F_mostTotals_a0_c31 := Fld.ext E31 F_mostTotals_a0_c30
  have E_b30_c31 := Exa.ext E31 X30
  have V_b30_c31 := V30.ext E31
  have V31 : AV Z h31 b31 .boolean 2 (fun ix => .int ((fun _ => (0 : Int32)) ix)) := A31
  refine g_aast C iI_120 V_b30_c31 rfl ⟨by decide, by decide⟩ ge30 E_b30_c31 O30 (Ins.self X31) (fun h32 W32 V32 => ?_)
  have F_reached_a0_c32 := Fld.other W32 F_reached_a0_c31 (Or.inl ne_a0_b30)
  have E_a0_c32 := Exa.wr W32 E_a0_c31
  have E_b2_c32 := Exa.wr W32 E_b2_c31
  have V_b2_c32 := AV.other V_b2_c31 W32 ne_b2_b30
  have F_lines_a0_c32 := Fld.other W32 F_lines_a0_c31 (Or.inl ne_a0_b30)
  have E_b6_c32 := Exa.wr W32 E_b6_c31
  have V_b6_c32 := AV.other V_b6_c31 W32 ne_b6_b30
  have F_counts_a0_c32 := Fld.other W32 F_counts_a0_c31 (Or.inl ne_a0_b30)
  have E_b8_c32 := Exa.wr W32 E_b8_c31
  have V_b8_c32 := AV.other V_b8_c31 W32 ne_b8_b30
  have F_least_a0_c32 := Fld.other W32 F_least_a0_c31 (Or.inl ne_a0_b30)
  have E_b10_c32 := Exa.wr W32 E_b10_c31
  have V_b10_c32 := AV.other V_b10_c31 W32 ne_b10_b30
  have F_most_a0_c32 := Fld.other W32 F_most_a0_c31 (Or.inl ne_a0_b30)
  have E_b12_c32 := Exa.wr W32 E_b12_c31
  have E_b13_c32 := Exa.wr W32 E_b13_c31
  have V_b13_c32 := AV.other V_b13_c31 W32 ne_b13_b30
  have E_b15_c32 := Exa.wr W32 E_b15_c31
  have V_b15_c32 := AV.other V_b15_c31 W32 ne_b15_b30
  have V_b12_c32 := AV.other V_b12_c31 W32 ne_b12_b30
  have F_totals_a0_c32 := Fld.other W32 F_totals_a0_c31 (Or.inl ne_a0_b30)
  have E_b18_c32 := Exa.wr W32 E_b18_c31
  have E_b19_c32 := Exa.wr W32 E_b19_c31
  have V_b19_c32 := AV.other V_b19_c31 W32 ne_b19_b30
  have E_b21_c32 := Exa.wr W32 E_b21_c31
  have V_b21_c32 := AV.other V_b21_c31 W32 ne_b21_b30
  have V_b18_c32 := AV.other V_b18_c31 W32 ne_b18_b30
  have F_leastTotals_a0_c32 := Fld.other W32 F_leastTotals_a0_c31 (Or.inl ne_a0_b30)
  have E_b24_c32 := Exa.wr W32 E_b24_c31
  have E_b25_c32 := Exa.wr W32 E_b25_c31
  have V_b25_c32 := AV.other V_b25_c31 W32 ne_b25_b30
  have E_b27_c32 := Exa.wr W32 E_b27_c31
  have V_b27_c32 := AV.other V_b27_c31 W32 ne_b27_b30
  have V_b24_c32 := AV.other V_b24_c31 W32 ne_b24_b30
  have F_mostTotals_a0_c32 := Fld.other W32 F_mostTotals_a0_c31 (Or.inl ne_a0_b30)
  have E_b30_c32 := Exa.wr W32 E_b30_c31
  have E_b31_c32 := Exa.wr W32 X31
  have V_b31_c32 := AV.other V31 W32 (Ne.symm ne_b30_b31)
  have Vw32 : AV Z h32 b30 (.array .boolean) 2 (rfs [.ref b31, .null]) := AV.congr V32 (fun ix hx => by match ix, hx with | 0, _ => rfl | 1, _ => rfl | (q + 2), h => exact absurd h (by omega))
  have K32 := Keep.wr K31 W32 (Or.inr fr30)
  have Z32 : n0 ≤ h32.size := Nat.le_trans Z31 (Keep.of_wr W32).1
  refine g_dup C iI_121 rfl ?_
  refine g_iconst C (1 : Int32) iI_122 rfl ?_
  refine g_iloadN C iI_123 rfl ?_
  refine g_newPE C iI_124 (hw _ (List.mem_of_getElem? (i := 29) rfl)) (by decide) 2 (by decide) (by decide) (by decide) (by decide) rfl rfl "[Z" (by decide) (fun h33 b33 g33 E33 A33 X33 => ?_)
  have ne_b12_b33 : b12 ≠ b33 := Nat.ne_of_lt (Nat.lt_of_lt_of_le E_b12_c32.lt (Nat.le_of_eq g33.symm))
  have ne_b8_b33 : b8 ≠ b33 := Nat.ne_of_lt (Nat.lt_of_lt_of_le E_b8_c32.lt (Nat.le_of_eq g33.symm))
  have ne_b15_b33 : b15 ≠ b33 := Nat.ne_of_lt (Nat.lt_of_lt_of_le E_b15_c32.lt (Nat.le_of_eq g33.symm))
  have ne_b19_b33 : b19 ≠ b33 := Nat.ne_of_lt (Nat.lt_of_lt_of_le E_b19_c32.lt (Nat.le_of_eq g33.symm))
  have ne_b13_b33 : b13 ≠ b33 := Nat.ne_of_lt (Nat.lt_of_lt_of_le E_b13_c32.lt (Nat.le_of_eq g33.symm))
  have ne_b2_b33 : b2 ≠ b33 := Nat.ne_of_lt (Nat.lt_of_lt_of_le E_b2_c32.lt (Nat.le_of_eq g33.symm))
  have ne_b6_b33 : b6 ≠ b33 := Nat.ne_of_lt (Nat.lt_of_lt_of_le E_b6_c32.lt (Nat.le_of_eq g33.symm))
  have ne_b27_b33 : b27 ≠ b33 := Nat.ne_of_lt (Nat.lt_of_lt_of_le E_b27_c32.lt (Nat.le_of_eq g33.symm))
  have ne_b30_b33 : b30 ≠ b33 := Nat.ne_of_lt (Nat.lt_of_lt_of_le E_b30_c32.lt (Nat.le_of_eq g33.symm))
  have ne_b18_b33 : b18 ≠ b33 := Nat.ne_of_lt (Nat.lt_of_lt_of_le E_b18_c32.lt (Nat.le_of_eq g33.symm))
  have ne_b10_b33 : b10 ≠ b33 := Nat.ne_of_lt (Nat.lt_of_lt_of_le E_b10_c32.lt (Nat.le_of_eq g33.symm))
  have ne_b25_b33 : b25 ≠ b33 := Nat.ne_of_lt (Nat.lt_of_lt_of_le E_b25_c32.lt (Nat.le_of_eq g33.symm))
  have ne_a0_b33 : a0 ≠ b33 := Nat.ne_of_lt (Nat.lt_of_lt_of_le F_reached_a0_c32.lt (Nat.le_of_eq g33.symm))
  have ne_b24_b33 : b24 ≠ b33 := Nat.ne_of_lt (Nat.lt_of_lt_of_le E_b24_c32.lt (Nat.le_of_eq g33.symm))
  have ne_b21_b33 : b21 ≠ b33 := Nat.ne_of_lt (Nat.lt_of_lt_of_le E_b21_c32.lt (Nat.le_of_eq g33.symm))
  have ne_b31_b33 : b31 ≠ b33 := Nat.ne_of_lt (Nat.lt_of_lt_of_le E_b31_c32.lt (Nat.le_of_eq g33.symm))
  have ge33 : n0 ≤ b33 := Nat.le_trans Z32 (Nat.le_of_eq g33.symm)
  have fr33 : h0.size ≤ b33 := Nat.le_trans K32.1 (Nat.le_of_eq g33.symm)
  have K33 := Keep.ext K32 E33
  have Z33 : n0 ≤ h33.size := Nat.le_trans Z32 E33.1
  have F_reached_a0_c33 := Fld.ext E33 F_reached_a0_c32
  have E_a0_c33 := Exa.ext E33 E_a0_c32
  have E_b2_c33 := Exa.ext E33 E_b2_c32
  have V_b2_c33 := V_b2_c32.ext E33
  have F_lines_a0_c33 := Fld.ext E33 F_lines_a0_c32
  have E_b6_c33 := Exa.ext E33 E_b6_c32
  have V_b6_c33 := V_b6_c32.ext E33
  have F_counts_a0_c33 := Fld.ext E33 F_counts_a0_c32
  have E_b8_c33 := Exa.ext E33 E_b8_c32
  have V_b8_c33 := V_b8_c32.ext E33
  have F_least_a0_c33 := Fld.ext E33 F_least_a0_c32
  have E_b10_c33 := Exa.ext E33 E_b10_c32
  have V_b10_c33 := V_b10_c32.ext E33
  have F_most_a0_c33 := Fld.ext E33 F_most_a0_c32
  have E_b12_c33 := Exa.ext E33 E_b12_c32
  have E_b13_c33 := Exa.ext E33 E_b13_c32
  have V_b13_c33 := V_b13_c32.ext E33
  have E_b15_c33 := Exa.ext E33 E_b15_c32
  have V_b15_c33 := V_b15_c32.ext E33
  have V_b12_c33 := V_b12_c32.ext E33
  have F_totals_a0_c33 := Fld.ext E33 F_totals_a0_c32
  have E_b18_c33 := Exa.ext E33 E_b18_c32
  have E_b19_c33 := Exa.ext E33 E_b19_c32
  have V_b19_c33 := V_b19_c32.ext E33
  have E_b21_c33 := Exa.ext E33 E_b21_c32
  have V_b21_c33 := V_b21_c32.ext E33
  have V_b18_c33 := V_b18_c32.ext E33
  have F_leastTotals_a0_c33 := Fld.ext E33 F_leastTotals_a0_c32
  have E_b24_c33 := Exa.ext E33 E_b24_c32
  have E_b25_c33 := Exa.ext E33 E_b25_c32
  have V_b25_c33 := V_b25_c32.ext E33
  have E_b27_c33 := Exa.ext E33 E_b27_c32
  have V_b27_c33 := V_b27_c32.ext E33
  have V_b24_c33 := V_b24_c32.ext E33
  have F_mostTotals_a0_c33 := Fld.ext E33 F_mostTotals_a0_c32
  have E_b30_c33 := Exa.ext E33 E_b30_c32
  have E_b31_c33 := Exa.ext E33 E_b31_c32
  have V_b31_c33 := V_b31_c32.ext E33
  have V_b30_c33 := Vw32.ext E33
  have V33 : AV Z h33 b33 .boolean 2 (fun ix => .int ((fun _ => (0 : Int32)) ix)) := A33
  refine g_aast C iI_126 V_b30_c33 rfl ⟨by decide, by decide⟩ ge30 E_b30_c33 O30 (Ins.self X33) (fun h34 W34 V34 => ?_)
  have F_reached_a0_c34 := Fld.other W34 F_reached_a0_c33 (Or.inl ne_a0_b30)
  have E_a0_c34 := Exa.wr W34 E_a0_c33
  have E_b2_c34 := Exa.wr W34 E_b2_c33
  have V_b2_c34 := AV.other V_b2_c33 W34 ne_b2_b30
  have F_lines_a0_c34 := Fld.other W34 F_lines_a0_c33 (Or.inl ne_a0_b30)
  have E_b6_c34 := Exa.wr W34 E_b6_c33
  have V_b6_c34 := AV.other V_b6_c33 W34 ne_b6_b30
  have F_counts_a0_c34 := Fld.other W34 F_counts_a0_c33 (Or.inl ne_a0_b30)
  have E_b8_c34 := Exa.wr W34 E_b8_c33
  have V_b8_c34 := AV.other V_b8_c33 W34 ne_b8_b30
  have F_least_a0_c34 := Fld.other W34 F_least_a0_c33 (Or.inl ne_a0_b30)
  have E_b10_c34 := Exa.wr W34 E_b10_c33
  have V_b10_c34 := AV.other V_b10_c33 W34 ne_b10_b30
  have F_most_a0_c34 := Fld.other W34 F_most_a0_c33 (Or.inl ne_a0_b30)
  have E_b12_c34 := Exa.wr W34 E_b12_c33
  have E_b13_c34 := Exa.wr W34 E_b13_c33
  have V_b13_c34 := AV.other V_b13_c33 W34 ne_b13_b30
  have E_b15_c34 := Exa.wr W34 E_b15_c33
  have V_b15_c34 := AV.other V_b15_c33 W34 ne_b15_b30
  have V_b12_c34 := AV.other V_b12_c33 W34 ne_b12_b30
  have F_totals_a0_c34 := Fld.other W34 F_totals_a0_c33 (Or.inl ne_a0_b30)
  have E_b18_c34 := Exa.wr W34 E_b18_c33
  have E_b19_c34 := Exa.wr W34 E_b19_c33
  have V_b19_c34 := AV.other V_b19_c33 W34 ne_b19_b30
  have E_b21_c34 := Exa.wr W34 E_b21_c33
  have V_b21_c34 := AV.other V_b21_c33 W34 ne_b21_b30
  have V_b18_c34 := AV.other V_b18_c33 W34 ne_b18_b30
  have F_leastTotals_a0_c34 := Fld.other W34 F_leastTotals_a0_c33 (Or.inl ne_a0_b30)
  have E_b24_c34 := Exa.wr W34 E_b24_c33
  have E_b25_c34 := Exa.wr W34 E_b25_c33
  have V_b25_c34 := AV.other V_b25_c33 W34 ne_b25_b30
  have E_b27_c34 := Exa.wr W34 E_b27_c33
  have V_b27_c34 := AV.other V_b27_c33 W34 ne_b27_b30
  have V_b24_c34 := AV.other V_b24_c33 W34 ne_b24_b30
  have F_mostTotals_a0_c34 := Fld.other W34 F_mostTotals_a0_c33 (Or.inl ne_a0_b30)
  have E_b30_c34 := Exa.wr W34 E_b30_c33
  have E_b31_c34 := Exa.wr W34 E_b31_c33
  have V_b31_c34 := AV.other V_b31_c33 W34 (Ne.symm ne_b30_b31)
  have E_b33_c34 := Exa.wr W34 X33
  have V_b33_c34 := AV.other V33 W34 (Ne.symm ne_b30_b33)
  have Vw34 : AV Z h34 b30 (.array .boolean) 2 (rfs [.ref b31, .ref b33]) := AV.congr V34 (fun ix hx => by match ix, hx with | 0, _ => rfl | 1, _ => rfl | (q + 2), h => exact absurd h (by omega))
  have K34 := Keep.wr K33 W34 (Or.inr fr30)
  have Z34 : n0 ≤ h34.size := Nat.le_trans Z33 (Keep.of_wr W34).1
  refine g_putF C iI_127 (host := "") (Or.inl (hw _ (List.mem_of_getElem? (i := 31) rfl))) Via.refl F_reached_a0_c34 E_a0_c34 (Or.inr ⟨(hw _ (List.mem_of_getElem? (i := 32) rfl)), rfl, hnm⟩) (hw _ (List.mem_of_getElem? (i := 1) rfl)) (ty := (.array (.array .boolean))) (by decide) rfl rfl g_a0 (fun h35 W35 => ?_)
  have E_a0_c35 := Exa.wr W35 E_a0_c34
  have E_b2_c35 := Exa.wr W35 E_b2_c34
  have V_b2_c35 := AV.other V_b2_c34 W35 (Ne.symm ne_a0_b2)
  have F_lines_a0_c35 := Fld.other W35 F_lines_a0_c34 (Or.inr (slot_ne (a0 := aZ) (Or.inr (hw _ (List.mem_of_getElem? (i := 11) rfl))) (Or.inr (hw _ (List.mem_of_getElem? (i := 32) rfl))) (by decide) (t := (.array .int)) (t' := (.array (.array .boolean))) (by decide) (by decide)))
  have E_b6_c35 := Exa.wr W35 E_b6_c34
  have V_b6_c35 := AV.other V_b6_c34 W35 (Ne.symm ne_a0_b6)
  have F_counts_a0_c35 := Fld.other W35 F_counts_a0_c34 (Or.inr (slot_ne (a0 := aZ) (Or.inr (hw _ (List.mem_of_getElem? (i := 13) rfl))) (Or.inr (hw _ (List.mem_of_getElem? (i := 32) rfl))) (by decide) (t := (.array .int)) (t' := (.array (.array .boolean))) (by decide) (by decide)))
  have E_b8_c35 := Exa.wr W35 E_b8_c34
  have V_b8_c35 := AV.other V_b8_c34 W35 (Ne.symm ne_a0_b8)
  have F_least_a0_c35 := Fld.other W35 F_least_a0_c34 (Or.inr (slot_ne (a0 := aZ) (Or.inr (hw _ (List.mem_of_getElem? (i := 15) rfl))) (Or.inr (hw _ (List.mem_of_getElem? (i := 32) rfl))) (by decide) (t := (.array .int)) (t' := (.array (.array .boolean))) (by decide) (by decide)))
  have E_b10_c35 := Exa.wr W35 E_b10_c34
  have V_b10_c35 := AV.other V_b10_c34 W35 (Ne.symm ne_a0_b10)
  have F_most_a0_c35 := Fld.other W35 F_most_a0_c34 (Or.inr (slot_ne (a0 := aZ) (Or.inr (hw _ (List.mem_of_getElem? (i := 17) rfl))) (Or.inr (hw _ (List.mem_of_getElem? (i := 32) rfl))) (by decide) (t := (.array .int)) (t' := (.array (.array .boolean))) (by decide) (by decide)))
  have E_b12_c35 := Exa.wr W35 E_b12_c34
  have E_b13_c35 := Exa.wr W35 E_b13_c34
  have V_b13_c35 := AV.other V_b13_c34 W35 (Ne.symm ne_a0_b13)
  have E_b15_c35 := Exa.wr W35 E_b15_c34
  have V_b15_c35 := AV.other V_b15_c34 W35 (Ne.symm ne_a0_b15)
  have V_b12_c35 := AV.other V_b12_c34 W35 (Ne.symm ne_a0_b12)
  have F_totals_a0_c35 := Fld.other W35 F_totals_a0_c34 (Or.inr (slot_ne (a0 := aZ) (Or.inr (hw _ (List.mem_of_getElem? (i := 22) rfl))) (Or.inr (hw _ (List.mem_of_getElem? (i := 32) rfl))) (by decide) (t := (.array (.array .int))) (t' := (.array (.array .boolean))) (by decide) (by decide)))
  have E_b18_c35 := Exa.wr W35 E_b18_c34
  have E_b19_c35 := Exa.wr W35 E_b19_c34
  have V_b19_c35 := AV.other V_b19_c34 W35 (Ne.symm ne_a0_b19)
  have E_b21_c35 := Exa.wr W35 E_b21_c34
  have V_b21_c35 := AV.other V_b21_c34 W35 (Ne.symm ne_a0_b21)
  have V_b18_c35 := AV.other V_b18_c34 W35 (Ne.symm ne_a0_b18)
  have F_leastTotals_a0_c35 := Fld.other W35 F_leastTotals_a0_c34 (Or.inr (slot_ne (a0 := aZ) (Or.inr (hw _ (List.mem_of_getElem? (i := 24) rfl))) (Or.inr (hw _ (List.mem_of_getElem? (i := 32) rfl))) (by decide) (t := (.array (.array .int))) (t' := (.array (.array .boolean))) (by decide) (by decide)))
  have E_b24_c35 := Exa.wr W35 E_b24_c34
  have E_b25_c35 := Exa.wr W35 E_b25_c34
  have V_b25_c35 := AV.other V_b25_c34 W35 (Ne.symm ne_a0_b25)
  have E_b27_c35 := Exa.wr W35 E_b27_c34
  have V_b27_c35 := AV.other V_b27_c34 W35 (Ne.symm ne_a0_b27)
  have V_b24_c35 := AV.other V_b24_c34 W35 (Ne.symm ne_a0_b24)
  have F_mostTotals_a0_c35 := Fld.other W35 F_mostTotals_a0_c34 (Or.inr (slot_ne (a0 := aZ) (Or.inr (hw _ (List.mem_of_getElem? (i := 26) rfl))) (Or.inr (hw _ (List.mem_of_getElem? (i := 32) rfl))) (by decide) (t := (.array (.array .int))) (t' := (.array (.array .boolean))) (by decide) (by decide)))
  have E_b30_c35 := Exa.wr W35 E_b30_c34
  have E_b31_c35 := Exa.wr W35 E_b31_c34
  have V_b31_c35 := AV.other V_b31_c34 W35 (Ne.symm ne_a0_b31)
  have E_b33_c35 := Exa.wr W35 E_b33_c34
  have V_b33_c35 := AV.other V_b33_c34 W35 (Ne.symm ne_a0_b33)
  have V_b30_c35 := AV.other Vw34 W35 (Ne.symm ne_a0_b30)
  have Fw35 := Fld.same W35 F_reached_a0_c34
  have K35 := Keep.wr K34 W35 (Or.inl (List.mem_of_getElem? (i := 0) rfl))
  have Z35 : n0 ≤ h35.size := Nat.le_trans Z34 (Keep.of_wr W35).1
  exact g_retV C iI_130 rfl (by decide) (by decide) ⟨b2, b6, b8, b10, b12, b13, b15, rfl, ⟨ge2, fr2⟩, ⟨ge6, fr6⟩, ⟨ge8, fr8⟩, ⟨ge10, fr10⟩, ⟨ge12, fr12⟩, ⟨ge13, fr13⟩, ⟨ge15, fr15⟩, ne_b2_b6, ne_b2_b8, ne_b2_b10, ne_b2_b12, ne_b2_b13, ne_b2_b15, ne_b6_b8, ne_b6_b10, ne_b6_b12, ne_b6_b13, ne_b6_b15, ne_b8_b10, ne_b8_b12, ne_b8_b13, ne_b8_b15, ne_b10_b12, ne_b10_b13, ne_b10_b15, ne_b12_b13, ne_b12_b15, ne_b13_b15, K35, AV.congr V_b2_c35 (fun _ _ => rfl), AV.congr V_b6_c35 (fun _ _ => rfl), AV.congr V_b8_c35 (fun _ _ => rfl), AV.congr V_b10_c35 (fun _ _ => rfl), V_b12_c35, AV.congr V_b13_c35 (fun _ _ => rfl), AV.congr V_b15_c35 (fun _ _ => rfl), E_a0_c35, F_lines_a0_c35, F_counts_a0_c35, F_least_a0_c35, F_most_a0_c35, F_totals_a0_c35⟩
theorem pn1 : plainFor (⟨"com/example/bandweave/bandweave/star/Transport", "sourceTotal", "(I)I"⟩ : MethodName) = true := by decide +kernel
theorem iS_0 : I1 prog_33_method_7_code 0 (.aload_n 0) 1 1 := ⟨(by decide +kernel), rfl⟩
theorem iS_1 : I1 prog_33_method_7_code 1 (.getfield 23) 3 4 := ⟨(by decide +kernel), rfl⟩
theorem iS_4 : I1 prog_33_method_7_code 4 (.iconst 0) 1 5 := ⟨(by decide +kernel), rfl⟩
theorem iS_5 : I1 prog_33_method_7_code 5 (.aaload) 1 6 := ⟨(by decide +kernel), rfl⟩
theorem iS_6 : I1 prog_33_method_7_code 6 (.iload_n 1) 1 7 := ⟨(by decide +kernel), rfl⟩
theorem iS_7 : I1 prog_33_method_7_code 7 (.iaload) 1 8 := ⟨(by decide +kernel), rfl⟩
theorem iS_8 : I1 prog_33_method_7_code 8 (.ireturn) 1 9 := ⟨(by decide +kernel), rfl⟩
theorem efS (m : MethodId) (a0 : Addr) (p1 : Int32) : entryFrame m #[(.ref a0), (.int p1)] 2 = mkF m 0 #[.val (.ref a0), .val (.int p1)] [] := by first | (simp [entryFrame, mkF, argsToLocals, Value.category]; done) | rfl
def QS (Z : State) (a0 : Addr) (p1 : Int32) (tt : Addr) (t0 : Addr) (t1 : Addr) (f_t0 : Nat → Int32) (h0 : Heap) (n0 : Nat) (v : Option Value) (h : Heap) : Prop := v = some (.int (f_t0 (p1).toNatClampNeg)) ∧ h = h0
set_option maxRecDepth 65536 in
set_option maxHeartbeats 40000000 in
theorem rmS (l : Launch) (Z : State) (aZ : Array Value) (hw : ∀ d ∈ tables_1, d.before aZ Z = true) (a0 : Addr) (p1 : Int32) (tt : Addr) (t0 : Addr) (t1 : Addr) (f_t0 : Nat → Int32) (h0 : Heap) (n0 : Nat) (Z0 : n0 ≤ h0.size) (F_totals : Fld Z h0 a0 "com/example/bandweave/bandweave/star/Transport" "totals" "[[I" (.ref tt)) (V_tt : AV Z h0 tt (.array .int) 2 (rfs [.ref t0, .ref t1])) (V_t0 : AV Z h0 t0 .int 2 (fun ix => .int (f_t0 ix))) (hs : Inb p1 2) :
    Ctr l Z (⟨"com/example/bandweave/bandweave/star/Transport", "sourceTotal", "(I)I"⟩ : MethodName) prog_33_method_7_code 2 (some .int) ({ frames := 0, cells := 0, slots := 0, locals := 0 } : Room) #[(.ref a0), (.int p1)] h0 n0 (QS Z a0 p1 tt t0 t1 f_t0 h0 n0) := by
  refine Ctr.of_go pn1 (fun m => efS m a0 p1) ?_
  intro p e s m below meth c hnm C
  refine g_aloadN C iS_0 rfl rfl ?_
  refine g_getF C iS_1 (host := "") (Or.inl (hw _ (List.mem_of_getElem? (i := 21) rfl))) Via.refl F_totals ?_
  refine g_iconst C (0 : Int32) iS_4 rfl ?_
  refine g_aald C (.ref t0) iS_5 V_tt ⟨by decide, by decide⟩ rfl rfl ?_
  refine g_iloadN C iS_6 rfl ?_
  refine g_iald C (.int (f_t0 (p1).toNatClampNeg)) iS_7 V_t0 hs rfl ?_
  exact g_retInt C iS_8 rfl (by decide) (by decide) ⟨rfl, rfl⟩
theorem pn2 : plainFor (⟨"com/example/bandweave/bandweave/star/Transport", "destinationTotal", "(I)I"⟩ : MethodName) = true := by decide +kernel
theorem iD_0 : I1 prog_33_method_8_code 0 (.aload_n 0) 1 1 := ⟨(by decide +kernel), rfl⟩
theorem iD_1 : I1 prog_33_method_8_code 1 (.getfield 23) 3 4 := ⟨(by decide +kernel), rfl⟩
theorem iD_4 : I1 prog_33_method_8_code 4 (.iconst 1) 1 5 := ⟨(by decide +kernel), rfl⟩
theorem iD_5 : I1 prog_33_method_8_code 5 (.aaload) 1 6 := ⟨(by decide +kernel), rfl⟩
theorem iD_6 : I1 prog_33_method_8_code 6 (.iload_n 1) 1 7 := ⟨(by decide +kernel), rfl⟩
theorem iD_7 : I1 prog_33_method_8_code 7 (.iaload) 1 8 := ⟨(by decide +kernel), rfl⟩
theorem iD_8 : I1 prog_33_method_8_code 8 (.ireturn) 1 9 := ⟨(by decide +kernel), rfl⟩
theorem efD (m : MethodId) (a0 : Addr) (p1 : Int32) : entryFrame m #[(.ref a0), (.int p1)] 2 = mkF m 0 #[.val (.ref a0), .val (.int p1)] [] := by first | (simp [entryFrame, mkF, argsToLocals, Value.category]; done) | rfl
def QD (Z : State) (a0 : Addr) (p1 : Int32) (tt : Addr) (t0 : Addr) (t1 : Addr) (f_t1 : Nat → Int32) (h0 : Heap) (n0 : Nat) (v : Option Value) (h : Heap) : Prop := v = some (.int (f_t1 (p1).toNatClampNeg)) ∧ h = h0
set_option maxRecDepth 65536 in
set_option maxHeartbeats 40000000 in
theorem rmD (l : Launch) (Z : State) (aZ : Array Value) (hw : ∀ d ∈ tables_1, d.before aZ Z = true) (a0 : Addr) (p1 : Int32) (tt : Addr) (t0 : Addr) (t1 : Addr) (f_t1 : Nat → Int32) (h0 : Heap) (n0 : Nat) (Z0 : n0 ≤ h0.size) (F_totals : Fld Z h0 a0 "com/example/bandweave/bandweave/star/Transport" "totals" "[[I" (.ref tt)) (V_tt : AV Z h0 tt (.array .int) 2 (rfs [.ref t0, .ref t1])) (V_t1 : AV Z h0 t1 .int 2 (fun ix => .int (f_t1 ix))) (hd : Inb p1 2) :
    Ctr l Z (⟨"com/example/bandweave/bandweave/star/Transport", "destinationTotal", "(I)I"⟩ : MethodName) prog_33_method_8_code 2 (some .int) ({ frames := 0, cells := 0, slots := 0, locals := 0 } : Room) #[(.ref a0), (.int p1)] h0 n0 (QD Z a0 p1 tt t0 t1 f_t1 h0 n0) := by
  refine Ctr.of_go pn2 (fun m => efD m a0 p1) ?_
  intro p e s m below meth c hnm C
  refine g_aloadN C iD_0 rfl rfl ?_
  refine g_getF C iD_1 (host := "") (Or.inl (hw _ (List.mem_of_getElem? (i := 21) rfl))) Via.refl F_totals ?_
  refine g_iconst C (1 : Int32) iD_4 rfl ?_
  refine g_aald C (.ref t1) iD_5 V_tt ⟨by decide, by decide⟩ rfl rfl ?_
  refine g_iloadN C iD_6 rfl ?_
  refine g_iald C (.int (f_t1 (p1).toNatClampNeg)) iD_7 V_t1 hd rfl ?_
  exact g_retInt C iD_8 rfl (by decide) (by decide) ⟨rfl, rfl⟩
theorem pn3 : plainFor (⟨"com/example/bandweave/bandweave/star/Transport", "count", "(II)I"⟩ : MethodName) = true := by decide +kernel
theorem iU_0 : I1 prog_33_method_4_code 0 (.aload_n 0) 1 1 := ⟨(by decide +kernel), rfl⟩
theorem iU_1 : I1 prog_33_method_4_code 1 (.getfield 13) 3 4 := ⟨(by decide +kernel), rfl⟩
theorem iU_4 : I1 prog_33_method_4_code 4 (.iload_n 1) 1 5 := ⟨(by decide +kernel), rfl⟩
theorem iU_5 : I1 prog_33_method_4_code 5 (.aload_n 0) 1 6 := ⟨(by decide +kernel), rfl⟩
theorem iU_6 : I1 prog_33_method_4_code 6 (.getfield 7) 3 9 := ⟨(by decide +kernel), rfl⟩
theorem iU_9 : I1 prog_33_method_4_code 9 (.iconst 1) 1 10 := ⟨(by decide +kernel), rfl⟩
theorem iU_10 : I1 prog_33_method_4_code 10 (.iaload) 1 11 := ⟨(by decide +kernel), rfl⟩
theorem iU_11 : I1 prog_33_method_4_code 11 (.imul) 1 12 := ⟨(by decide +kernel), rfl⟩
theorem iU_12 : I1 prog_33_method_4_code 12 (.iload_n 2) 1 13 := ⟨(by decide +kernel), rfl⟩
theorem iU_13 : I1 prog_33_method_4_code 13 (.iadd) 1 14 := ⟨(by decide +kernel), rfl⟩
theorem iU_14 : I1 prog_33_method_4_code 14 (.iaload) 1 15 := ⟨(by decide +kernel), rfl⟩
theorem iU_15 : I1 prog_33_method_4_code 15 (.ireturn) 1 16 := ⟨(by decide +kernel), rfl⟩
theorem efU (m : MethodId) (a0 : Addr) (p1 : Int32) (p2 : Int32) : entryFrame m #[(.ref a0), (.int p1), (.int p2)] 3 = mkF m 0 #[.val (.ref a0), .val (.int p1), .val (.int p2)] [] := by first | (simp [entryFrame, mkF, argsToLocals, Value.category]; done) | rfl
def QU (Z : State) (a0 : Addr) (p1 : Int32) (p2 : Int32) (cc : Addr) (ll : Addr) (f_ll : Nat → Int32) (f_cc : Nat → Int32) (h0 : Heap) (n0 : Nat) (v : Option Value) (h : Heap) : Prop := v = some (.int (f_cc (((p1 * (f_ll 1)) + p2)).toNatClampNeg)) ∧ h = h0
set_option maxRecDepth 65536 in
set_option maxHeartbeats 40000000 in
theorem rmU (l : Launch) (Z : State) (aZ : Array Value) (hw : ∀ d ∈ tables_1, d.before aZ Z = true) (a0 : Addr) (p1 : Int32) (p2 : Int32) (cc : Addr) (ll : Addr) (f_ll : Nat → Int32) (f_cc : Nat → Int32) (h0 : Heap) (n0 : Nat) (Z0 : n0 ≤ h0.size) (F_counts : Fld Z h0 a0 "com/example/bandweave/bandweave/star/Transport" "counts" "[I" (.ref cc)) (F_lines : Fld Z h0 a0 "com/example/bandweave/bandweave/star/Transport" "lines" "[I" (.ref ll)) (V_ll : AV Z h0 ll .int 2 (fun ix => .int (f_ll ix))) (V_cc : AV Z h0 cc .int 4 (fun ix => .int (f_cc ix))) (hi : Inb ((p1 * (f_ll 1)) + p2) 4) :
    Ctr l Z (⟨"com/example/bandweave/bandweave/star/Transport", "count", "(II)I"⟩ : MethodName) prog_33_method_4_code 3 (some .int) ({ frames := 0, cells := 0, slots := 0, locals := 0 } : Room) #[(.ref a0), (.int p1), (.int p2)] h0 n0 (QU Z a0 p1 p2 cc ll f_ll f_cc h0 n0) := by
  refine Ctr.of_go pn3 (fun m => efU m a0 p1 p2) ?_
  intro p e s m below meth c hnm C
  refine g_aloadN C iU_0 rfl rfl ?_
  refine g_getF C iU_1 (host := "") (Or.inl (hw _ (List.mem_of_getElem? (i := 12) rfl))) Via.refl F_counts ?_
  refine g_iloadN C iU_4 rfl ?_
  refine g_aloadN C iU_5 rfl rfl ?_
  refine g_getF C iU_6 (host := "") (Or.inl (hw _ (List.mem_of_getElem? (i := 10) rfl))) Via.refl F_lines ?_
  refine g_iconst C (1 : Int32) iU_9 rfl ?_
  refine g_iald C (.int (f_ll 1)) iU_10 V_ll ⟨by decide, by decide⟩ rfl ?_
  refine g_imul C iU_11 ?_
  refine g_iloadN C iU_12 rfl ?_
  refine g_iadd C iU_13 ?_
  refine g_iald C (.int (f_cc (((p1 * (f_ll 1)) + p2)).toNatClampNeg)) iU_14 V_cc hi rfl ?_
  exact g_retInt C iU_15 rfl (by decide) (by decide) ⟨rfl, rfl⟩
theorem pn4 : plainFor (⟨"com/example/bandweave/bandweave/star/Transport", "set", "(IIIII)V"⟩ : MethodName) = true := by decide +kernel
theorem iW_0 : I1 prog_33_method_5_code 0 (.iload_n 1) 1 1 := ⟨(by decide +kernel), rfl⟩
theorem iW_1 : I1 prog_33_method_5_code 1 (.aload_n 0) 1 2 := ⟨(by decide +kernel), rfl⟩
theorem iW_2 : I1 prog_33_method_5_code 2 (.getfield 7) 3 5 := ⟨(by decide +kernel), rfl⟩
theorem iW_5 : I1 prog_33_method_5_code 5 (.iconst 1) 1 6 := ⟨(by decide +kernel), rfl⟩
theorem iW_6 : I1 prog_33_method_5_code 6 (.iaload) 1 7 := ⟨(by decide +kernel), rfl⟩
theorem iW_7 : I1 prog_33_method_5_code 7 (.imul) 1 8 := ⟨(by decide +kernel), rfl⟩
theorem iW_8 : I1 prog_33_method_5_code 8 (.iload_n 2) 1 9 := ⟨(by decide +kernel), rfl⟩
theorem iW_9 : I1 prog_33_method_5_code 9 (.iadd) 1 10 := ⟨(by decide +kernel), rfl⟩
theorem iW_10 : I1 prog_33_method_5_code 10 (.istore 6) 2 12 := ⟨(by decide +kernel), rfl⟩
theorem iW_12 : I1 prog_33_method_5_code 12 (.iload_n 3) 1 13 := ⟨(by decide +kernel), rfl⟩
theorem iW_13 : I1 prog_33_method_5_code 13 (.aload_n 0) 1 14 := ⟨(by decide +kernel), rfl⟩
theorem iW_14 : I1 prog_33_method_5_code 14 (.getfield 13) 3 17 := ⟨(by decide +kernel), rfl⟩
theorem iW_17 : I1 prog_33_method_5_code 17 (.iload 6) 2 19 := ⟨(by decide +kernel), rfl⟩
theorem iW_19 : I1 prog_33_method_5_code 19 (.iaload) 1 20 := ⟨(by decide +kernel), rfl⟩
theorem iW_20 : I1 prog_33_method_5_code 20 (.isub) 1 21 := ⟨(by decide +kernel), rfl⟩
theorem iW_21 : I1 prog_33_method_5_code 21 (.istore 7) 2 23 := ⟨(by decide +kernel), rfl⟩
theorem iW_23 : I1 prog_33_method_5_code 23 (.aload_n 0) 1 24 := ⟨(by decide +kernel), rfl⟩
theorem iW_24 : I1 prog_33_method_5_code 24 (.getfield 13) 3 27 := ⟨(by decide +kernel), rfl⟩
theorem iW_27 : I1 prog_33_method_5_code 27 (.iload 6) 2 29 := ⟨(by decide +kernel), rfl⟩
theorem iW_29 : I1 prog_33_method_5_code 29 (.iload_n 3) 1 30 := ⟨(by decide +kernel), rfl⟩
theorem iW_30 : I1 prog_33_method_5_code 30 (.iastore) 1 31 := ⟨(by decide +kernel), rfl⟩
theorem iW_31 : I1 prog_33_method_5_code 31 (.aload_n 0) 1 32 := ⟨(by decide +kernel), rfl⟩
theorem iW_32 : I1 prog_33_method_5_code 32 (.getfield 16) 3 35 := ⟨(by decide +kernel), rfl⟩
theorem iW_35 : I1 prog_33_method_5_code 35 (.iload 6) 2 37 := ⟨(by decide +kernel), rfl⟩
theorem iW_37 : I1 prog_33_method_5_code 37 (.iload 4) 2 39 := ⟨(by decide +kernel), rfl⟩
theorem iW_39 : I1 prog_33_method_5_code 39 (.iastore) 1 40 := ⟨(by decide +kernel), rfl⟩
theorem iW_40 : I1 prog_33_method_5_code 40 (.aload_n 0) 1 41 := ⟨(by decide +kernel), rfl⟩
theorem iW_41 : I1 prog_33_method_5_code 41 (.getfield 19) 3 44 := ⟨(by decide +kernel), rfl⟩
theorem iW_44 : I1 prog_33_method_5_code 44 (.iload 6) 2 46 := ⟨(by decide +kernel), rfl⟩
theorem iW_46 : I1 prog_33_method_5_code 46 (.iload 5) 2 48 := ⟨(by decide +kernel), rfl⟩
theorem iW_48 : I1 prog_33_method_5_code 48 (.iastore) 1 49 := ⟨(by decide +kernel), rfl⟩
theorem iW_49 : I1 prog_33_method_5_code 49 (.aload_n 0) 1 50 := ⟨(by decide +kernel), rfl⟩
theorem iW_50 : I1 prog_33_method_5_code 50 (.getfield 23) 3 53 := ⟨(by decide +kernel), rfl⟩
theorem iW_53 : I1 prog_33_method_5_code 53 (.iconst 0) 1 54 := ⟨(by decide +kernel), rfl⟩
theorem iW_54 : I1 prog_33_method_5_code 54 (.aaload) 1 55 := ⟨(by decide +kernel), rfl⟩
theorem iW_55 : I1 prog_33_method_5_code 55 (.iload_n 1) 1 56 := ⟨(by decide +kernel), rfl⟩
theorem iW_56 : I1 prog_33_method_5_code 56 (.dup2) 1 57 := ⟨(by decide +kernel), rfl⟩
theorem iW_57 : I1 prog_33_method_5_code 57 (.iaload) 1 58 := ⟨(by decide +kernel), rfl⟩
theorem iW_58 : I1 prog_33_method_5_code 58 (.iload 7) 2 60 := ⟨(by decide +kernel), rfl⟩
theorem iW_60 : I1 prog_33_method_5_code 60 (.iadd) 1 61 := ⟨(by decide +kernel), rfl⟩
theorem iW_61 : I1 prog_33_method_5_code 61 (.iastore) 1 62 := ⟨(by decide +kernel), rfl⟩
theorem iW_62 : I1 prog_33_method_5_code 62 (.aload_n 0) 1 63 := ⟨(by decide +kernel), rfl⟩
theorem iW_63 : I1 prog_33_method_5_code 63 (.getfield 23) 3 66 := ⟨(by decide +kernel), rfl⟩
theorem iW_66 : I1 prog_33_method_5_code 66 (.iconst 1) 1 67 := ⟨(by decide +kernel), rfl⟩
theorem iW_67 : I1 prog_33_method_5_code 67 (.aaload) 1 68 := ⟨(by decide +kernel), rfl⟩
theorem iW_68 : I1 prog_33_method_5_code 68 (.iload_n 2) 1 69 := ⟨(by decide +kernel), rfl⟩
theorem iW_69 : I1 prog_33_method_5_code 69 (.dup2) 1 70 := ⟨(by decide +kernel), rfl⟩
theorem iW_70 : I1 prog_33_method_5_code 70 (.iaload) 1 71 := ⟨(by decide +kernel), rfl⟩
theorem iW_71 : I1 prog_33_method_5_code 71 (.iload 7) 2 73 := ⟨(by decide +kernel), rfl⟩
theorem iW_73 : I1 prog_33_method_5_code 73 (.iadd) 1 74 := ⟨(by decide +kernel), rfl⟩
theorem iW_74 : I1 prog_33_method_5_code 74 (.iastore) 1 75 := ⟨(by decide +kernel), rfl⟩
theorem iW_75 : I1 prog_33_method_5_code 75 (.return_) 1 76 := ⟨(by decide +kernel), rfl⟩
def vW_0 (p1 : Int32) (p2 : Int32) (p3 : Int32) (p4 : Int32) (p5 : Int32) (f_ll : Nat → Int32) (f_cc : Nat → Int32) (f_le : Nat → Int32) (f_mo : Nat → Int32) (f_t0 : Nat → Int32) (f_t1 : Nat → Int32) : Nat → Int32 := (fun ix => if ix = (((p1 * (f_ll 1)) + p2)).toNatClampNeg then p3 else f_cc ix)
def vW_1 (p1 : Int32) (p2 : Int32) (p3 : Int32) (p4 : Int32) (p5 : Int32) (f_ll : Nat → Int32) (f_cc : Nat → Int32) (f_le : Nat → Int32) (f_mo : Nat → Int32) (f_t0 : Nat → Int32) (f_t1 : Nat → Int32) : Nat → Int32 := (fun ix => if ix = (((p1 * (f_ll 1)) + p2)).toNatClampNeg then p4 else f_le ix)
def vW_2 (p1 : Int32) (p2 : Int32) (p3 : Int32) (p4 : Int32) (p5 : Int32) (f_ll : Nat → Int32) (f_cc : Nat → Int32) (f_le : Nat → Int32) (f_mo : Nat → Int32) (f_t0 : Nat → Int32) (f_t1 : Nat → Int32) : Nat → Int32 := (fun ix => if ix = (((p1 * (f_ll 1)) + p2)).toNatClampNeg then p5 else f_mo ix)
def vW_3 (p1 : Int32) (p2 : Int32) (p3 : Int32) (p4 : Int32) (p5 : Int32) (f_ll : Nat → Int32) (f_cc : Nat → Int32) (f_le : Nat → Int32) (f_mo : Nat → Int32) (f_t0 : Nat → Int32) (f_t1 : Nat → Int32) : Int32 := ((f_t0 (p1).toNatClampNeg) + (p3 - (f_cc (((p1 * (f_ll 1)) + p2)).toNatClampNeg)))
def vW_4 (p1 : Int32) (p2 : Int32) (p3 : Int32) (p4 : Int32) (p5 : Int32) (f_ll : Nat → Int32) (f_cc : Nat → Int32) (f_le : Nat → Int32) (f_mo : Nat → Int32) (f_t0 : Nat → Int32) (f_t1 : Nat → Int32) : Nat → Int32 := (fun ix => if ix = (p1).toNatClampNeg then (vW_3 p1 p2 p3 p4 p5 f_ll f_cc f_le f_mo f_t0 f_t1) else f_t0 ix)
def vW_5 (p1 : Int32) (p2 : Int32) (p3 : Int32) (p4 : Int32) (p5 : Int32) (f_ll : Nat → Int32) (f_cc : Nat → Int32) (f_le : Nat → Int32) (f_mo : Nat → Int32) (f_t0 : Nat → Int32) (f_t1 : Nat → Int32) : Int32 := ((f_t1 (p2).toNatClampNeg) + (p3 - (f_cc (((p1 * (f_ll 1)) + p2)).toNatClampNeg)))
def vW_6 (p1 : Int32) (p2 : Int32) (p3 : Int32) (p4 : Int32) (p5 : Int32) (f_ll : Nat → Int32) (f_cc : Nat → Int32) (f_le : Nat → Int32) (f_mo : Nat → Int32) (f_t0 : Nat → Int32) (f_t1 : Nat → Int32) : Nat → Int32 := (fun ix => if ix = (p2).toNatClampNeg then (vW_5 p1 p2 p3 p4 p5 f_ll f_cc f_le f_mo f_t0 f_t1) else f_t1 ix)
theorem efW (m : MethodId) (a0 : Addr) (p1 : Int32) (p2 : Int32) (p3 : Int32) (p4 : Int32) (p5 : Int32) : entryFrame m #[(.ref a0), (.int p1), (.int p2), (.int p3), (.int p4), (.int p5)] 8 = mkF m 0 #[.val (.ref a0), .val (.int p1), .val (.int p2), .val (.int p3), .val (.int p4), .val (.int p5), .unset, .unset] [] := by first | (simp [entryFrame, mkF, argsToLocals, Value.category]; done) | rfl
def QW (Z : State) (a0 : Addr) (p1 : Int32) (p2 : Int32) (p3 : Int32) (p4 : Int32) (p5 : Int32) (tt : Addr) (t0 : Addr) (t1 : Addr) (cc : Addr) (ll : Addr) (le : Addr) (mo : Addr) (f_ll : Nat → Int32) (f_cc : Nat → Int32) (f_le : Nat → Int32) (f_mo : Nat → Int32) (f_t0 : Nat → Int32) (f_t1 : Nat → Int32) (h0 : Heap) (n0 : Nat) (v : Option Value) (h : Heap) : Prop := v = none ∧ Keep h0 h [cc, le, mo, t0, t1] ∧ AV Z h cc .int 4 (fun ix => .int ((vW_0 p1 p2 p3 p4 p5 f_ll f_cc f_le f_mo f_t0 f_t1) ix)) ∧ AV Z h le .int 4 (fun ix => .int ((vW_1 p1 p2 p3 p4 p5 f_ll f_cc f_le f_mo f_t0 f_t1) ix)) ∧ AV Z h mo .int 4 (fun ix => .int ((vW_2 p1 p2 p3 p4 p5 f_ll f_cc f_le f_mo f_t0 f_t1) ix)) ∧ AV Z h t0 .int 2 (fun ix => .int ((vW_4 p1 p2 p3 p4 p5 f_ll f_cc f_le f_mo f_t0 f_t1) ix)) ∧ AV Z h t1 .int 2 (fun ix => .int ((vW_6 p1 p2 p3 p4 p5 f_ll f_cc f_le f_mo f_t0 f_t1) ix))
set_option maxRecDepth 65536 in
set_option maxHeartbeats 40000000 in
theorem rmW (l : Launch) (Z : State) (aZ : Array Value) (hw : ∀ d ∈ tables_1, d.before aZ Z = true) (a0 : Addr) (p1 : Int32) (p2 : Int32) (p3 : Int32) (p4 : Int32) (p5 : Int32) (tt : Addr) (t0 : Addr) (t1 : Addr) (cc : Addr) (ll : Addr) (le : Addr) (mo : Addr) (f_ll : Nat → Int32) (f_cc : Nat → Int32) (f_le : Nat → Int32) (f_mo : Nat → Int32) (f_t0 : Nat → Int32) (f_t1 : Nat → Int32) (h0 : Heap) (n0 : Nat) (Z0 : n0 ≤ h0.size) (F_totals : Fld Z h0 a0 "com/example/bandweave/bandweave/star/Transport" "totals" "[[I" (.ref tt)) (V_tt : AV Z h0 tt (.array .int) 2 (rfs [.ref t0, .ref t1])) (F_counts : Fld Z h0 a0 "com/example/bandweave/bandweave/star/Transport" "counts" "[I" (.ref cc)) (F_lines : Fld Z h0 a0 "com/example/bandweave/bandweave/star/Transport" "lines" "[I" (.ref ll)) (V_ll : AV Z h0 ll .int 2 (fun ix => .int (f_ll ix))) (V_cc : AV Z h0 cc .int 4 (fun ix => .int (f_cc ix))) (hi : Inb ((p1 * (f_ll 1)) + p2) 4) (F_least : Fld Z h0 a0 "com/example/bandweave/bandweave/star/Transport" "least" "[I" (.ref le)) (F_most : Fld Z h0 a0 "com/example/bandweave/bandweave/star/Transport" "most" "[I" (.ref mo)) (V_le : AV Z h0 le .int 4 (fun ix => .int (f_le ix))) (V_mo : AV Z h0 mo .int 4 (fun ix => .int (f_mo ix))) (V_t0 : AV Z h0 t0 .int 2 (fun ix => .int (f_t0 ix))) (V_t1 : AV Z h0 t1 .int 2 (fun ix => .int (f_t1 ix))) (hs : Inb p1 2) (hd : Inb p2 2) (g_cc : n0 ≤ cc) (ne_a0_cc : a0 ≠ cc) (ne_cc_tt : cc ≠ tt) (ne_cc_ll : cc ≠ ll) (ne_cc_le : cc ≠ le) (ne_cc_mo : cc ≠ mo) (ne_cc_t0 : cc ≠ t0) (ne_cc_t1 : cc ≠ t1) (g_le : n0 ≤ le) (ne_a0_le : a0 ≠ le) (ne_le_tt : le ≠ tt) (ne_le_ll : le ≠ ll) (ne_le_mo : le ≠ mo) (ne_le_t0 : le ≠ t0) (ne_le_t1 : le ≠ t1) (g_mo : n0 ≤ mo) (ne_a0_mo : a0 ≠ mo) (ne_mo_tt : mo ≠ tt) (ne_ll_mo : ll ≠ mo) (ne_mo_t0 : mo ≠ t0) (ne_mo_t1 : mo ≠ t1) (g_t0 : n0 ≤ t0) (ne_a0_t0 : a0 ≠ t0) (ne_t0_tt : t0 ≠ tt) (ne_ll_t0 : ll ≠ t0) (ne_t0_t1 : t0 ≠ t1) (g_t1 : n0 ≤ t1) (ne_a0_t1 : a0 ≠ t1) (ne_t1_tt : t1 ≠ tt) (ne_ll_t1 : ll ≠ t1) :
    Ctr l Z (⟨"com/example/bandweave/bandweave/star/Transport", "set", "(IIIII)V"⟩ : MethodName) prog_33_method_5_code 8 none ({ frames := 0, cells := 0, slots := 0, locals := 0 } : Room) #[(.ref a0), (.int p1), (.int p2), (.int p3), (.int p4), (.int p5)] h0 n0 (QW Z a0 p1 p2 p3 p4 p5 tt t0 t1 cc ll le mo f_ll f_cc f_le f_mo f_t0 f_t1 h0 n0) := by
  refine Ctr.of_go pn4 (fun m => efW m a0 p1 p2 p3 p4 p5) ?_
  intro p e s m below meth c hnm C
  refine g_iloadN C iW_0 rfl ?_
  refine g_aloadN C iW_1 rfl rfl ?_
  refine g_getF C iW_2 (host := "") (Or.inl (hw _ (List.mem_of_getElem? (i := 10) rfl))) Via.refl F_lines ?_
  refine g_iconst C (1 : Int32) iW_5 rfl ?_
  refine g_iald C (.int (f_ll 1)) iW_6 V_ll ⟨by decide, by decide⟩ rfl ?_
  refine g_imul C iW_7 ?_
  refine g_iloadN C iW_8 rfl ?_
  refine g_iadd C iW_9 ?_
  refine g_istore C (Ls' := #[.val (.ref a0), .val (.int p1), .val (.int p2), .val (.int p3), .val (.int p4), .val (.int p5), .val (.int ((p1 * (f_ll 1)) + p2)), .unset]) iW_10 rfl ?_
  refine g_iloadN C iW_12 rfl ?_
  refine g_aloadN C iW_13 rfl rfl ?_
  refine g_getF C iW_14 (host := "") (Or.inl (hw _ (List.mem_of_getElem? (i := 12) rfl))) Via.refl F_counts ?_
  refine g_iload C iW_17 rfl ?_
  refine g_iald C (.int (f_cc (((p1 * (f_ll 1)) + p2)).toNatClampNeg)) iW_19 V_cc hi rfl ?_
  refine g_isub C iW_20 ?_
  refine g_istore C (Ls' := #[.val (.ref a0), .val (.int p1), .val (.int p2), .val (.int p3), .val (.int p4), .val (.int p5), .val (.int ((p1 * (f_ll 1)) + p2)), .val (.int (p3 - (f_cc (((p1 * (f_ll 1)) + p2)).toNatClampNeg)))]) iW_21 rfl ?_
  refine g_aloadN C iW_23 rfl rfl ?_
  refine g_getF C iW_24 (host := "") (Or.inl (hw _ (List.mem_of_getElem? (i := 12) rfl))) Via.refl F_counts ?_
  refine g_iload C iW_27 rfl ?_
  refine g_iloadN C iW_29 rfl ?_
  refine g_iastI C iW_30 V_cc hi g_cc (fun h36 W36 V36 => ?_)
  have F_totals_a0_c36 := Fld.other W36 F_totals (Or.inl ne_a0_cc)
  have V_tt_c36 := AV.other V_tt W36 (Ne.symm ne_cc_tt)
  have F_counts_a0_c36 := Fld.other W36 F_counts (Or.inl ne_a0_cc)
  have F_lines_a0_c36 := Fld.other W36 F_lines (Or.inl ne_a0_cc)
  have V_ll_c36 := AV.other V_ll W36 (Ne.symm ne_cc_ll)
  have F_least_a0_c36 := Fld.other W36 F_least (Or.inl ne_a0_cc)
  have F_most_a0_c36 := Fld.other W36 F_most (Or.inl ne_a0_cc)
  have V_le_c36 := AV.other V_le W36 (Ne.symm ne_cc_le)
  have V_mo_c36 := AV.other V_mo W36 (Ne.symm ne_cc_mo)
  have V_t0_c36 := AV.other V_t0 W36 (Ne.symm ne_cc_t0)
  have V_t1_c36 := AV.other V_t1 W36 (Ne.symm ne_cc_t1)
  have Vw36 : AV Z h36 cc .int 4 (fun ix => .int ((vW_0 p1 p2 p3 p4 p5 f_ll f_cc f_le f_mo f_t0 f_t1) ix)) := V36
  have K36 := Keep.wr (Keep.refl h0 [cc, le, mo, t0, t1]) W36 (Or.inl (List.mem_of_getElem? (i := 0) rfl))
  have Z36 : n0 ≤ h36.size := Nat.le_trans Z0 (Keep.of_wr W36).1
  refine g_aloadN C iW_31 rfl rfl ?_
  refine g_getF C iW_32 (host := "") (Or.inl (hw _ (List.mem_of_getElem? (i := 14) rfl))) Via.refl F_least_a0_c36 ?_
  refine g_iload C iW_35 rfl ?_
  refine g_iload C iW_37 rfl ?_
  refine g_iastI C iW_39 V_le_c36 hi g_le (fun h37 W37 V37 => ?_)
  have F_totals_a0_c37 := Fld.other W37 F_totals_a0_c36 (Or.inl ne_a0_le)
  have V_tt_c37 := AV.other V_tt_c36 W37 (Ne.symm ne_le_tt)
  have F_counts_a0_c37 := Fld.other W37 F_counts_a0_c36 (Or.inl ne_a0_le)
  have F_lines_a0_c37 := Fld.other W37 F_lines_a0_c36 (Or.inl ne_a0_le)
  have V_ll_c37 := AV.other V_ll_c36 W37 (Ne.symm ne_le_ll)
  have F_least_a0_c37 := Fld.other W37 F_least_a0_c36 (Or.inl ne_a0_le)
  have F_most_a0_c37 := Fld.other W37 F_most_a0_c36 (Or.inl ne_a0_le)
  have V_mo_c37 := AV.other V_mo_c36 W37 (Ne.symm ne_le_mo)
  have V_t0_c37 := AV.other V_t0_c36 W37 (Ne.symm ne_le_t0)
  have V_t1_c37 := AV.other V_t1_c36 W37 (Ne.symm ne_le_t1)
  have V_cc_c37 := AV.other Vw36 W37 ne_cc_le
  have Vw37 : AV Z h37 le .int 4 (fun ix => .int ((vW_1 p1 p2 p3 p4 p5 f_ll f_cc f_le f_mo f_t0 f_t1) ix)) := V37
  have K37 := Keep.wr K36 W37 (Or.inl (List.mem_of_getElem? (i := 1) rfl))
  have Z37 : n0 ≤ h37.size := Nat.le_trans Z36 (Keep.of_wr W37).1
  refine g_aloadN C iW_40 rfl rfl ?_
  refine g_getF C iW_41 (host := "") (Or.inl (hw _ (List.mem_of_getElem? (i := 16) rfl))) Via.refl F_most_a0_c37 ?_
  refine g_iload C iW_44 rfl ?_
  refine g_iload C iW_46 rfl ?_
  refine g_iastI C iW_48 V_mo_c37 hi g_mo (fun h38 W38 V38 => ?_)
  have F_totals_a0_c38 := Fld.other W38 F_totals_a0_c37 (Or.inl ne_a0_mo)
  have V_tt_c38 := AV.other V_tt_c37 W38 (Ne.symm ne_mo_tt)
  have F_counts_a0_c38 := Fld.other W38 F_counts_a0_c37 (Or.inl ne_a0_mo)
  have F_lines_a0_c38 := Fld.other W38 F_lines_a0_c37 (Or.inl ne_a0_mo)
  have V_ll_c38 := AV.other V_ll_c37 W38 ne_ll_mo
  have F_least_a0_c38 := Fld.other W38 F_least_a0_c37 (Or.inl ne_a0_mo)
  have F_most_a0_c38 := Fld.other W38 F_most_a0_c37 (Or.inl ne_a0_mo)
  have V_t0_c38 := AV.other V_t0_c37 W38 (Ne.symm ne_mo_t0)
  have V_t1_c38 := AV.other V_t1_c37 W38 (Ne.symm ne_mo_t1)
  have V_cc_c38 := AV.other V_cc_c37 W38 ne_cc_mo
  have V_le_c38 := AV.other Vw37 W38 ne_le_mo
  have Vw38 : AV Z h38 mo .int 4 (fun ix => .int ((vW_2 p1 p2 p3 p4 p5 f_ll f_cc f_le f_mo f_t0 f_t1) ix)) := V38
  have K38 := Keep.wr K37 W38 (Or.inl (List.mem_of_getElem? (i := 2) rfl))
  have Z38 : n0 ≤ h38.size := Nat.le_trans Z37 (Keep.of_wr W38).1
  refine g_aloadN C iW_49 rfl rfl ?_
  refine g_getF C iW_50 (host := "") (Or.inl (hw _ (List.mem_of_getElem? (i := 21) rfl))) Via.refl F_totals_a0_c38 ?_
  refine g_iconst C (0 : Int32) iW_53 rfl ?_
  refine g_aald C (.ref t0) iW_54 V_tt_c38 ⟨by decide, by decide⟩ rfl rfl ?_
  refine g_iloadN C iW_55 rfl ?_
  refine g_dup2 C iW_56 rfl rfl ?_
  refine g_iald C (.int (f_t0 (p1).toNatClampNeg)) iW_57 V_t0_c38 hs rfl ?_
  refine g_iload C iW_58 rfl ?_
  refine g_iadd C iW_60 ?_
  refine g_iastI C iW_61 V_t0_c38 hs g_t0 (fun h39 W39 V39 => ?_)
  have F_totals_a0_c39 := Fld.other W39 F_totals_a0_c38 (Or.inl ne_a0_t0)
  have V_tt_c39 := AV.other V_tt_c38 W39 (Ne.symm ne_t0_tt)
  have F_counts_a0_c39 := Fld.other W39 F_counts_a0_c38 (Or.inl ne_a0_t0)
  have F_lines_a0_c39 := Fld.other W39 F_lines_a0_c38 (Or.inl ne_a0_t0)
  have V_ll_c39 := AV.other V_ll_c38 W39 ne_ll_t0
  have F_least_a0_c39 := Fld.other W39 F_least_a0_c38 (Or.inl ne_a0_t0)
  have F_most_a0_c39 := Fld.other W39 F_most_a0_c38 (Or.inl ne_a0_t0)
  have V_t1_c39 := AV.other V_t1_c38 W39 (Ne.symm ne_t0_t1)
  have V_cc_c39 := AV.other V_cc_c38 W39 ne_cc_t0
  have V_le_c39 := AV.other V_le_c38 W39 ne_le_t0
  have V_mo_c39 := AV.other Vw38 W39 ne_mo_t0
  have Vw39 : AV Z h39 t0 .int 2 (fun ix => .int ((vW_4 p1 p2 p3 p4 p5 f_ll f_cc f_le f_mo f_t0 f_t1) ix)) := V39
  have K39 := Keep.wr K38 W39 (Or.inl (List.mem_of_getElem? (i := 3) rfl))
  have Z39 : n0 ≤ h39.size := Nat.le_trans Z38 (Keep.of_wr W39).1
  refine g_aloadN C iW_62 rfl rfl ?_
  refine g_getF C iW_63 (host := "") (Or.inl (hw _ (List.mem_of_getElem? (i := 21) rfl))) Via.refl F_totals_a0_c39 ?_
  refine g_iconst C (1 : Int32) iW_66 rfl ?_
  refine g_aald C (.ref t1) iW_67 V_tt_c39 ⟨by decide, by decide⟩ rfl rfl ?_
  refine g_iloadN C iW_68 rfl ?_
  refine g_dup2 C iW_69 rfl rfl ?_
  refine g_iald C (.int (f_t1 (p2).toNatClampNeg)) iW_70 V_t1_c39 hd rfl ?_
  refine g_iload C iW_71 rfl ?_
  refine g_iadd C iW_73 ?_
  refine g_iastI C iW_74 V_t1_c39 hd g_t1 (fun h40 W40 V40 => ?_)
  have F_totals_a0_c40 := Fld.other W40 F_totals_a0_c39 (Or.inl ne_a0_t1)
  have V_tt_c40 := AV.other V_tt_c39 W40 (Ne.symm ne_t1_tt)
  have F_counts_a0_c40 := Fld.other W40 F_counts_a0_c39 (Or.inl ne_a0_t1)
  have F_lines_a0_c40 := Fld.other W40 F_lines_a0_c39 (Or.inl ne_a0_t1)
  have V_ll_c40 := AV.other V_ll_c39 W40 ne_ll_t1
  have F_least_a0_c40 := Fld.other W40 F_least_a0_c39 (Or.inl ne_a0_t1)
  have F_most_a0_c40 := Fld.other W40 F_most_a0_c39 (Or.inl ne_a0_t1)
  have V_cc_c40 := AV.other V_cc_c39 W40 ne_cc_t1
  have V_le_c40 := AV.other V_le_c39 W40 ne_le_t1
  have V_mo_c40 := AV.other V_mo_c39 W40 ne_mo_t1
  have V_t0_c40 := AV.other Vw39 W40 ne_t0_t1
  have Vw40 : AV Z h40 t1 .int 2 (fun ix => .int ((vW_6 p1 p2 p3 p4 p5 f_ll f_cc f_le f_mo f_t0 f_t1) ix)) := V40
  have K40 := Keep.wr K39 W40 (Or.inl (List.mem_of_getElem? (i := 4) rfl))
  have Z40 : n0 ≤ h40.size := Nat.le_trans Z39 (Keep.of_wr W40).1
  exact g_retV C iW_75 rfl (by decide) (by decide) ⟨rfl, K40, AV.congr V_cc_c40 (fun _ _ => rfl), AV.congr V_le_c40 (fun _ _ => rfl), AV.congr V_mo_c40 (fun _ _ => rfl), AV.congr V_t0_c40 (fun _ _ => rfl), AV.congr Vw40 (fun _ _ => rfl)⟩
theorem pn5 : plainFor (⟨"com/example/bandweave/bandweave/star/TransportSetPinLaw", "expect", "(IIIIIIII)I"⟩ : MethodName) = true := by decide +kernel
theorem iX_0 : I1 method_3_code 0 (.iload_n 0) 1 1 := ⟨(by decide +kernel), rfl⟩
theorem iX_1 : I1 method_3_code 1 (.iload 5) 2 3 := ⟨(by decide +kernel), rfl⟩
theorem iX_3 : B1 method_3_code 3 (.if_icmp .ne 12) 12 15 6 := ⟨(by decide +kernel), rfl, by decide, by decide⟩
theorem iX_6 : I1 method_3_code 6 (.iload_n 1) 1 7 := ⟨(by decide +kernel), rfl⟩
theorem iX_7 : I1 method_3_code 7 (.iload 6) 2 9 := ⟨(by decide +kernel), rfl⟩
theorem iX_9 : B1 method_3_code 9 (.if_icmp .ne 6) 6 15 12 := ⟨(by decide +kernel), rfl, by decide, by decide⟩
theorem iX_12 : I1 method_3_code 12 (.iload 7) 2 14 := ⟨(by decide +kernel), rfl⟩
theorem iX_14 : I1 method_3_code 14 (.ireturn) 1 15 := ⟨(by decide +kernel), rfl⟩
theorem iX_15 : I1 method_3_code 15 (.iload_n 0) 1 16 := ⟨(by decide +kernel), rfl⟩
theorem iX_16 : I1 method_3_code 16 (.iload_n 2) 1 17 := ⟨(by decide +kernel), rfl⟩
theorem iX_17 : B1 method_3_code 17 (.if_icmp .ne 11) 11 28 20 := ⟨(by decide +kernel), rfl, by decide, by decide⟩
theorem iX_20 : I1 method_3_code 20 (.iload_n 1) 1 21 := ⟨(by decide +kernel), rfl⟩
theorem iX_21 : I1 method_3_code 21 (.iload_n 3) 1 22 := ⟨(by decide +kernel), rfl⟩
theorem iX_22 : B1 method_3_code 22 (.if_icmp .ne 6) 6 28 25 := ⟨(by decide +kernel), rfl, by decide, by decide⟩
theorem iX_25 : I1 method_3_code 25 (.iload 4) 2 27 := ⟨(by decide +kernel), rfl⟩
theorem iX_27 : I1 method_3_code 27 (.ireturn) 1 28 := ⟨(by decide +kernel), rfl⟩
theorem iX_28 : I1 method_3_code 28 (.iconst 0) 1 29 := ⟨(by decide +kernel), rfl⟩
theorem iX_29 : I1 method_3_code 29 (.ireturn) 1 30 := ⟨(by decide +kernel), rfl⟩
def ret_X (p0 : Int32) (p1 : Int32) (p2 : Int32) (p3 : Int32) (p4 : Int32) (p5 : Int32) (p6 : Int32) (p7 : Int32) : Int32 := (if p0 = p5 then (if p1 = p6 then p7 else (if p0 = p2 then (if p1 = p3 then p4 else (0 : Int32)) else (0 : Int32))) else (if p0 = p2 then (if p1 = p3 then p4 else (0 : Int32)) else (0 : Int32)))
theorem efX (m : MethodId) (p0 : Int32) (p1 : Int32) (p2 : Int32) (p3 : Int32) (p4 : Int32) (p5 : Int32) (p6 : Int32) (p7 : Int32) : entryFrame m #[(.int p0), (.int p1), (.int p2), (.int p3), (.int p4), (.int p5), (.int p6), (.int p7)] 8 = mkF m 0 #[.val (.int p0), .val (.int p1), .val (.int p2), .val (.int p3), .val (.int p4), .val (.int p5), .val (.int p6), .val (.int p7)] [] := by first | (simp [entryFrame, mkF, argsToLocals, Value.category]; done) | rfl
def QX (Z : State) (p0 : Int32) (p1 : Int32) (p2 : Int32) (p3 : Int32) (p4 : Int32) (p5 : Int32) (p6 : Int32) (p7 : Int32) (h0 : Heap) (n0 : Nat) (v : Option Value) (h : Heap) : Prop := v = some (.int (ret_X p0 p1 p2 p3 p4 p5 p6 p7)) ∧ h = h0
set_option maxRecDepth 65536 in
set_option maxHeartbeats 40000000 in
theorem rmX (l : Launch) (Z : State) (aZ : Array Value) (hw : ∀ d ∈ tables_1, d.before aZ Z = true) (p0 : Int32) (p1 : Int32) (p2 : Int32) (p3 : Int32) (p4 : Int32) (p5 : Int32) (p6 : Int32) (p7 : Int32) (h0 : Heap) (n0 : Nat) (Z0 : n0 ≤ h0.size) :
    Ctr l Z (⟨"com/example/bandweave/bandweave/star/TransportSetPinLaw", "expect", "(IIIIIIII)I"⟩ : MethodName) method_3_code 8 (some .int) ({ frames := 0, cells := 0, slots := 0, locals := 0 } : Room) #[(.int p0), (.int p1), (.int p2), (.int p3), (.int p4), (.int p5), (.int p6), (.int p7)] h0 n0 (QX Z p0 p1 p2 p3 p4 p5 p6 p7 h0 n0) := by
  refine Ctr.of_go pn5 (fun m => efX m p0 p1 p2 p3 p4 p5 p6 p7) ?_
  intro p e s m below meth c hnm C
  refine g_iloadN C iX_0 rfl ?_
  refine g_iload C iX_1 rfl ?_
  refine g_icmp_ne C iX_3 (fun hc3_1 => ?_) (fun hc3_1 => ?_)
  · refine g_iloadN C iX_6 rfl ?_
    refine g_iload C iX_7 rfl ?_
    refine g_icmp_ne C iX_9 (fun hc9_1 => ?_) (fun hc9_1 => ?_)
    · refine g_iload C iX_12 rfl ?_
      have r0 : (ret_X p0 p1 p2 p3 p4 p5 p6 p7) = p7 := by simp only [ret_X, if_pos hc3_1, if_pos hc9_1]
      exact g_retInt C iX_14 rfl (by decide) (by decide) (show QX Z p0 p1 p2 p3 p4 p5 p6 p7 h0 n0 _ _ from by unfold QX; rw [r0]; exact ⟨rfl, rfl⟩)
    · refine g_iloadN C iX_15 rfl ?_
      refine g_iloadN C iX_16 rfl ?_
      refine g_icmp_ne C iX_17 (fun hc17_1 => ?_) (fun hc17_1 => ?_)
      · refine g_iloadN C iX_20 rfl ?_
        refine g_iloadN C iX_21 rfl ?_
        refine g_icmp_ne C iX_22 (fun hc22_1 => ?_) (fun hc22_1 => ?_)
        · refine g_iload C iX_25 rfl ?_
          have r0 : (ret_X p0 p1 p2 p3 p4 p5 p6 p7) = p4 := by simp only [ret_X, if_pos hc3_1, if_neg hc9_1, if_pos hc17_1, if_pos hc22_1]
          exact g_retInt C iX_27 rfl (by decide) (by decide) (show QX Z p0 p1 p2 p3 p4 p5 p6 p7 h0 n0 _ _ from by unfold QX; rw [r0]; exact ⟨rfl, rfl⟩)
        · refine g_iconst C (0 : Int32) iX_28 rfl ?_
          have r0 : (ret_X p0 p1 p2 p3 p4 p5 p6 p7) = (0 : Int32) := by simp only [ret_X, if_pos hc3_1, if_neg hc9_1, if_pos hc17_1, if_neg hc22_1]
          exact g_retInt C iX_29 rfl (by decide) (by decide) (show QX Z p0 p1 p2 p3 p4 p5 p6 p7 h0 n0 _ _ from by unfold QX; rw [r0]; exact ⟨rfl, rfl⟩)
      · refine g_iconst C (0 : Int32) iX_28 rfl ?_
        have r0 : (ret_X p0 p1 p2 p3 p4 p5 p6 p7) = (0 : Int32) := by simp only [ret_X, if_pos hc3_1, if_neg hc9_1, if_neg hc17_1]
        exact g_retInt C iX_29 rfl (by decide) (by decide) (show QX Z p0 p1 p2 p3 p4 p5 p6 p7 h0 n0 _ _ from by unfold QX; rw [r0]; exact ⟨rfl, rfl⟩)
  · refine g_iloadN C iX_15 rfl ?_
    refine g_iloadN C iX_16 rfl ?_
    refine g_icmp_ne C iX_17 (fun hc17_1 => ?_) (fun hc17_1 => ?_)
    · refine g_iloadN C iX_20 rfl ?_
      refine g_iloadN C iX_21 rfl ?_
      refine g_icmp_ne C iX_22 (fun hc22_1 => ?_) (fun hc22_1 => ?_)
      · refine g_iload C iX_25 rfl ?_
        have r0 : (ret_X p0 p1 p2 p3 p4 p5 p6 p7) = p4 := by simp only [ret_X, if_neg hc3_1, if_pos hc17_1, if_pos hc22_1]
        exact g_retInt C iX_27 rfl (by decide) (by decide) (show QX Z p0 p1 p2 p3 p4 p5 p6 p7 h0 n0 _ _ from by unfold QX; rw [r0]; exact ⟨rfl, rfl⟩)
      · refine g_iconst C (0 : Int32) iX_28 rfl ?_
        have r0 : (ret_X p0 p1 p2 p3 p4 p5 p6 p7) = (0 : Int32) := by simp only [ret_X, if_neg hc3_1, if_pos hc17_1, if_neg hc22_1]
        exact g_retInt C iX_29 rfl (by decide) (by decide) (show QX Z p0 p1 p2 p3 p4 p5 p6 p7 h0 n0 _ _ from by unfold QX; rw [r0]; exact ⟨rfl, rfl⟩)
    · refine g_iconst C (0 : Int32) iX_28 rfl ?_
      have r0 : (ret_X p0 p1 p2 p3 p4 p5 p6 p7) = (0 : Int32) := by simp only [ret_X, if_neg hc3_1, if_neg hc17_1]
      exact g_retInt C iX_29 rfl (by decide) (by decide) (show QX Z p0 p1 p2 p3 p4 p5 p6 p7 h0 n0 _ _ from by unfold QX; rw [r0]; exact ⟨rfl, rfl⟩)
theorem own_x1 (x y : Int32) : x + (y - x) = y := by
  rw [← Int32.toInt_inj]; have h1 := c_isub y x; have h2 := c_iadd x (y - x); have h3 := rng32 x; have h4 := rng32 y; have h5 := rng32 (y - x); have h6 := rng32 (x + (y - x)); omega
theorem own_x2 (x : Int32) : 0 + x = x := by
  rw [← Int32.toInt_inj]; have h2 := c_iadd 0 x; have h3 := rng32 x; have h6 := rng32 (0 + x); have e0 : (0 : Int32).toInt = 0 := rfl; omega
theorem own_x3 (x : Int32) : x + 0 = x := by
  rw [← Int32.toInt_inj]; have h2 := c_iadd x 0; have h3 := rng32 x; have h6 := rng32 (x + 0); have e0 : (0 : Int32).toInt = 0 := rfl; omega
theorem own_x4 (x : Int32) : x - 0 = x := by
  rw [← Int32.toInt_inj]; have h2 := c_isub x 0; have h3 := rng32 x; have h6 := rng32 (x - 0); have e0 : (0 : Int32).toInt = 0 := rfl; omega
theorem pd0 : parseMethodDescriptor "(II)V" = some ⟨[.int, .int], none⟩ := by decide +kernel
theorem pd1 : parseMethodDescriptor "(IIIII)V" = some ⟨[.int, .int, .int, .int, .int], none⟩ := by decide +kernel
theorem pd2 : parseMethodDescriptor "(IIIIIIII)I" = some ⟨[.int, .int, .int, .int, .int, .int, .int, .int], some .int⟩ := by decide +kernel
theorem pd3 : parseMethodDescriptor "(II)I" = some ⟨[.int, .int], some .int⟩ := by decide +kernel
theorem pd4 : parseMethodDescriptor "(I)I" = some ⟨[.int], some .int⟩ := by decide +kernel
theorem pn6 : plainFor (⟨"com/example/bandweave/bandweave/star/TransportSetPinLaw", "law", "(IIIIII)Z"⟩ : MethodName) = true := by decide +kernel
theorem iM_0 : I1 code 0 (.iload_n 0) 1 1 := ⟨at_0, rfl⟩
theorem iM_1 : I1 code 1 (.iconst 1) 1 2 := ⟨at_1, rfl⟩
theorem iM_2 : I1 code 2 (.iand) 1 3 := ⟨at_2, rfl⟩
theorem iM_3 : I1 code 3 (.istore 6) 2 5 := ⟨at_3, rfl⟩
theorem iM_5 : I1 code 5 (.iload_n 0) 1 6 := ⟨at_5, rfl⟩
theorem iM_6 : I1 code 6 (.iconst 1) 1 7 := ⟨at_6, rfl⟩
theorem iM_7 : I1 code 7 (.ishr) 1 8 := ⟨at_7, rfl⟩
theorem iM_8 : I1 code 8 (.iconst 1) 1 9 := ⟨at_8, rfl⟩
theorem iM_9 : I1 code 9 (.iand) 1 10 := ⟨at_9, rfl⟩
theorem iM_10 : I1 code 10 (.istore 7) 2 12 := ⟨at_10, rfl⟩
theorem iM_12 : I1 code 12 (.iload_n 1) 1 13 := ⟨at_12, rfl⟩
theorem iM_13 : I1 code 13 (.iconst 1) 1 14 := ⟨at_13, rfl⟩
theorem iM_14 : I1 code 14 (.iand) 1 15 := ⟨at_14, rfl⟩
theorem iM_15 : I1 code 15 (.istore 8) 2 17 := ⟨at_15, rfl⟩
theorem iM_17 : I1 code 17 (.iload_n 1) 1 18 := ⟨at_17, rfl⟩
theorem iM_18 : I1 code 18 (.iconst 1) 1 19 := ⟨at_18, rfl⟩
theorem iM_19 : I1 code 19 (.ishr) 1 20 := ⟨at_19, rfl⟩
theorem iM_20 : I1 code 20 (.iconst 1) 1 21 := ⟨at_20, rfl⟩
theorem iM_21 : I1 code 21 (.iand) 1 22 := ⟨at_21, rfl⟩
theorem iM_22 : I1 code 22 (.istore 9) 2 24 := ⟨at_22, rfl⟩
theorem iM_24 : I1 code 24 (.new 7) 3 27 := ⟨at_24, rfl⟩
theorem iM_27 : I1 code 27 (.dup) 1 28 := ⟨at_27, rfl⟩
theorem iM_28 : I1 code 28 (.iconst 2) 1 29 := ⟨at_28, rfl⟩
theorem iM_29 : I1 code 29 (.iconst 2) 1 30 := ⟨at_29, rfl⟩
theorem iM_30 : I1 code 30 (.invokespecial 9) 3 33 := ⟨at_30, rfl⟩
theorem iM_33 : I1 code 33 (.astore 10) 2 35 := ⟨at_33, rfl⟩
theorem iM_35 : I1 code 35 (.aload 10) 2 37 := ⟨at_35, rfl⟩
theorem iM_37 : I1 code 37 (.iload 6) 2 39 := ⟨at_37, rfl⟩
theorem iM_39 : I1 code 39 (.iload 7) 2 41 := ⟨at_39, rfl⟩
theorem iM_41 : I1 code 41 (.iload_n 2) 1 42 := ⟨at_41, rfl⟩
theorem iM_42 : I1 code 42 (.iload 4) 2 44 := ⟨at_42, rfl⟩
theorem iM_44 : I1 code 44 (.iload 5) 2 46 := ⟨at_44, rfl⟩
theorem iM_46 : I1 code 46 (.invokevirtual 12) 3 49 := ⟨at_46, rfl⟩
theorem iM_49 : I1 code 49 (.aload 10) 2 51 := ⟨at_49, rfl⟩
theorem iM_51 : I1 code 51 (.iload 8) 2 53 := ⟨at_51, rfl⟩
theorem iM_53 : I1 code 53 (.iload 9) 2 55 := ⟨at_53, rfl⟩
theorem iM_55 : I1 code 55 (.iload_n 3) 1 56 := ⟨at_55, rfl⟩
theorem iM_56 : I1 code 56 (.iload 5) 2 58 := ⟨at_56, rfl⟩
theorem iM_58 : I1 code 58 (.iload 4) 2 60 := ⟨at_58, rfl⟩
theorem iM_60 : I1 code 60 (.invokevirtual 12) 3 63 := ⟨at_60, rfl⟩
theorem iM_63 : I1 code 63 (.iconst 0) 1 64 := ⟨at_63, rfl⟩
theorem iM_64 : I1 code 64 (.iconst 0) 1 65 := ⟨at_64, rfl⟩
theorem iM_65 : I1 code 65 (.iload 6) 2 67 := ⟨at_65, rfl⟩
theorem iM_67 : I1 code 67 (.iload 7) 2 69 := ⟨at_67, rfl⟩
theorem iM_69 : I1 code 69 (.iload_n 2) 1 70 := ⟨at_69, rfl⟩
theorem iM_70 : I1 code 70 (.iload 8) 2 72 := ⟨at_70, rfl⟩
theorem iM_72 : I1 code 72 (.iload 9) 2 74 := ⟨at_72, rfl⟩
theorem iM_74 : I1 code 74 (.iload_n 3) 1 75 := ⟨at_74, rfl⟩
theorem iM_75 : I1 code 75 (.invokestatic 16) 3 78 := ⟨at_75, rfl⟩
theorem iM_78 : I1 code 78 (.istore 11) 2 80 := ⟨at_78, rfl⟩
theorem iM_80 : I1 code 80 (.iconst 0) 1 81 := ⟨at_80, rfl⟩
theorem iM_81 : I1 code 81 (.iconst 1) 1 82 := ⟨at_81, rfl⟩
theorem iM_82 : I1 code 82 (.iload 6) 2 84 := ⟨at_82, rfl⟩
theorem iM_84 : I1 code 84 (.iload 7) 2 86 := ⟨at_84, rfl⟩
theorem iM_86 : I1 code 86 (.iload_n 2) 1 87 := ⟨at_86, rfl⟩
theorem iM_87 : I1 code 87 (.iload 8) 2 89 := ⟨at_87, rfl⟩
theorem iM_89 : I1 code 89 (.iload 9) 2 91 := ⟨at_89, rfl⟩
theorem iM_91 : I1 code 91 (.iload_n 3) 1 92 := ⟨at_91, rfl⟩
theorem iM_92 : I1 code 92 (.invokestatic 16) 3 95 := ⟨at_92, rfl⟩
theorem iM_95 : I1 code 95 (.istore 12) 2 97 := ⟨at_95, rfl⟩
theorem iM_97 : I1 code 97 (.iconst 1) 1 98 := ⟨at_97, rfl⟩
theorem iM_98 : I1 code 98 (.iconst 0) 1 99 := ⟨at_98, rfl⟩
theorem iM_99 : I1 code 99 (.iload 6) 2 101 := ⟨at_99, rfl⟩
theorem iM_101 : I1 code 101 (.iload 7) 2 103 := ⟨at_101, rfl⟩
theorem iM_103 : I1 code 103 (.iload_n 2) 1 104 := ⟨at_103, rfl⟩
theorem iM_104 : I1 code 104 (.iload 8) 2 106 := ⟨at_104, rfl⟩
theorem iM_106 : I1 code 106 (.iload 9) 2 108 := ⟨at_106, rfl⟩
theorem iM_108 : I1 code 108 (.iload_n 3) 1 109 := ⟨at_108, rfl⟩
theorem iM_109 : I1 code 109 (.invokestatic 16) 3 112 := ⟨at_109, rfl⟩
theorem iM_112 : I1 code 112 (.istore 13) 2 114 := ⟨at_112, rfl⟩
theorem iM_114 : I1 code 114 (.iconst 1) 1 115 := ⟨at_114, rfl⟩
theorem iM_115 : I1 code 115 (.iconst 1) 1 116 := ⟨at_115, rfl⟩
theorem iM_116 : I1 code 116 (.iload 6) 2 118 := ⟨at_116, rfl⟩
theorem iM_118 : I1 code 118 (.iload 7) 2 120 := ⟨at_118, rfl⟩
theorem iM_120 : I1 code 120 (.iload_n 2) 1 121 := ⟨at_120, rfl⟩
theorem iM_121 : I1 code 121 (.iload 8) 2 123 := ⟨at_121, rfl⟩
theorem iM_123 : I1 code 123 (.iload 9) 2 125 := ⟨at_123, rfl⟩
theorem iM_125 : I1 code 125 (.iload_n 3) 1 126 := ⟨at_125, rfl⟩
theorem iM_126 : I1 code 126 (.invokestatic 16) 3 129 := ⟨at_126, rfl⟩
theorem iM_129 : I1 code 129 (.istore 14) 2 131 := ⟨at_129, rfl⟩
theorem iM_131 : I1 code 131 (.aload 10) 2 133 := ⟨at_131, rfl⟩
theorem iM_133 : I1 code 133 (.iconst 0) 1 134 := ⟨at_133, rfl⟩
theorem iM_134 : I1 code 134 (.iconst 0) 1 135 := ⟨at_134, rfl⟩
theorem iM_135 : I1 code 135 (.invokevirtual 22) 3 138 := ⟨at_135, rfl⟩
theorem iM_138 : I1 code 138 (.iload 11) 2 140 := ⟨at_138, rfl⟩
theorem iM_140 : B1 code 140 (.if_icmp .ne 43) 43 183 143 := ⟨at_140, rfl, by decide, by decide⟩
theorem iM_143 : I1 code 143 (.aload 10) 2 145 := ⟨at_143, rfl⟩
theorem iM_145 : I1 code 145 (.iconst 0) 1 146 := ⟨at_145, rfl⟩
theorem iM_146 : I1 code 146 (.iconst 1) 1 147 := ⟨at_146, rfl⟩
theorem iM_147 : I1 code 147 (.invokevirtual 22) 3 150 := ⟨at_147, rfl⟩
theorem iM_150 : I1 code 150 (.iload 12) 2 152 := ⟨at_150, rfl⟩
theorem iM_152 : B1 code 152 (.if_icmp .ne 31) 31 183 155 := ⟨at_152, rfl, by decide, by decide⟩
theorem iM_155 : I1 code 155 (.aload 10) 2 157 := ⟨at_155, rfl⟩
theorem iM_157 : I1 code 157 (.iconst 1) 1 158 := ⟨at_157, rfl⟩
theorem iM_158 : I1 code 158 (.iconst 0) 1 159 := ⟨at_158, rfl⟩
theorem iM_159 : I1 code 159 (.invokevirtual 22) 3 162 := ⟨at_159, rfl⟩
theorem iM_162 : I1 code 162 (.iload 13) 2 164 := ⟨at_162, rfl⟩
theorem iM_164 : B1 code 164 (.if_icmp .ne 19) 19 183 167 := ⟨at_164, rfl, by decide, by decide⟩
theorem iM_167 : I1 code 167 (.aload 10) 2 169 := ⟨at_167, rfl⟩
theorem iM_169 : I1 code 169 (.iconst 1) 1 170 := ⟨at_169, rfl⟩
theorem iM_170 : I1 code 170 (.iconst 1) 1 171 := ⟨at_170, rfl⟩
theorem iM_171 : I1 code 171 (.invokevirtual 22) 3 174 := ⟨at_171, rfl⟩
theorem iM_174 : I1 code 174 (.iload 14) 2 176 := ⟨at_174, rfl⟩
theorem iM_176 : B1 code 176 (.if_icmp .ne 7) 7 183 179 := ⟨at_176, rfl, by decide, by decide⟩
theorem iM_179 : I1 code 179 (.iconst 1) 1 180 := ⟨at_179, rfl⟩
theorem iM_180 : B1 code 180 (.goto 4) 4 184 183 := ⟨at_180, rfl, by decide, by decide⟩
theorem iM_183 : I1 code 183 (.iconst 0) 1 184 := ⟨at_183, rfl⟩
theorem iM_184 : I1 code 184 (.istore 15) 2 186 := ⟨at_184, rfl⟩
theorem iM_186 : I1 code 186 (.iload 15) 2 188 := ⟨at_186, rfl⟩
theorem iM_188 : B1 code 188 (.ifCond .eq 35) 35 223 191 := ⟨at_188, rfl, by decide, by decide⟩
theorem iM_191 : I1 code 191 (.aload 10) 2 193 := ⟨at_191, rfl⟩
theorem iM_193 : I1 code 193 (.iconst 0) 1 194 := ⟨at_193, rfl⟩
theorem iM_194 : I1 code 194 (.invokevirtual 26) 3 197 := ⟨at_194, rfl⟩
theorem iM_197 : I1 code 197 (.iload 11) 2 199 := ⟨at_197, rfl⟩
theorem iM_199 : I1 code 199 (.iload 12) 2 201 := ⟨at_199, rfl⟩
theorem iM_201 : I1 code 201 (.iadd) 1 202 := ⟨at_201, rfl⟩
theorem iM_202 : B1 code 202 (.if_icmp .ne 21) 21 223 205 := ⟨at_202, rfl, by decide, by decide⟩
theorem iM_205 : I1 code 205 (.aload 10) 2 207 := ⟨at_205, rfl⟩
theorem iM_207 : I1 code 207 (.iconst 1) 1 208 := ⟨at_207, rfl⟩
theorem iM_208 : I1 code 208 (.invokevirtual 26) 3 211 := ⟨at_208, rfl⟩
theorem iM_211 : I1 code 211 (.iload 13) 2 213 := ⟨at_211, rfl⟩
theorem iM_213 : I1 code 213 (.iload 14) 2 215 := ⟨at_213, rfl⟩
theorem iM_215 : I1 code 215 (.iadd) 1 216 := ⟨at_215, rfl⟩
theorem iM_216 : B1 code 216 (.if_icmp .ne 7) 7 223 219 := ⟨at_216, rfl, by decide, by decide⟩
theorem iM_219 : I1 code 219 (.iconst 1) 1 220 := ⟨at_219, rfl⟩
theorem iM_220 : B1 code 220 (.goto 4) 4 224 223 := ⟨at_220, rfl, by decide, by decide⟩
theorem iM_223 : I1 code 223 (.iconst 0) 1 224 := ⟨at_223, rfl⟩
theorem iM_224 : I1 code 224 (.istore 15) 2 226 := ⟨at_224, rfl⟩
theorem iM_226 : I1 code 226 (.iload 15) 2 228 := ⟨at_226, rfl⟩
theorem iM_228 : B1 code 228 (.ifCond .eq 35) 35 263 231 := ⟨at_228, rfl, by decide, by decide⟩
theorem iM_231 : I1 code 231 (.aload 10) 2 233 := ⟨at_231, rfl⟩
theorem iM_233 : I1 code 233 (.iconst 0) 1 234 := ⟨at_233, rfl⟩
theorem iM_234 : I1 code 234 (.invokevirtual 30) 3 237 := ⟨at_234, rfl⟩
theorem iM_237 : I1 code 237 (.iload 11) 2 239 := ⟨at_237, rfl⟩
theorem iM_239 : I1 code 239 (.iload 13) 2 241 := ⟨at_239, rfl⟩
theorem iM_241 : I1 code 241 (.iadd) 1 242 := ⟨at_241, rfl⟩
theorem iM_242 : B1 code 242 (.if_icmp .ne 21) 21 263 245 := ⟨at_242, rfl, by decide, by decide⟩
theorem iM_245 : I1 code 245 (.aload 10) 2 247 := ⟨at_245, rfl⟩
theorem iM_247 : I1 code 247 (.iconst 1) 1 248 := ⟨at_247, rfl⟩
theorem iM_248 : I1 code 248 (.invokevirtual 30) 3 251 := ⟨at_248, rfl⟩
theorem iM_251 : I1 code 251 (.iload 12) 2 253 := ⟨at_251, rfl⟩
theorem iM_253 : I1 code 253 (.iload 14) 2 255 := ⟨at_253, rfl⟩
theorem iM_255 : I1 code 255 (.iadd) 1 256 := ⟨at_255, rfl⟩
theorem iM_256 : B1 code 256 (.if_icmp .ne 7) 7 263 259 := ⟨at_256, rfl, by decide, by decide⟩
theorem iM_259 : I1 code 259 (.iconst 1) 1 260 := ⟨at_259, rfl⟩
theorem iM_260 : B1 code 260 (.goto 4) 4 264 263 := ⟨at_260, rfl, by decide, by decide⟩
theorem iM_263 : I1 code 263 (.iconst 0) 1 264 := ⟨at_263, rfl⟩
theorem iM_264 : I1 code 264 (.istore 15) 2 266 := ⟨at_264, rfl⟩
theorem iM_266 : I1 code 266 (.iload 15) 2 268 := ⟨at_266, rfl⟩
theorem iM_268 : I1 code 268 (.ireturn) 1 269 := ⟨at_268, rfl⟩
def vM_0 (p0 : Int32) (p1 : Int32) (p2 : Int32) (p3 : Int32) (p4 : Int32) (p5 : Int32) : Int32 := (ret_X (0 : Int32) (0 : Int32) (p0 &&& (1 : Int32)) ((p0 >>> ((1 : Int32) &&& 31)) &&& (1 : Int32)) p2 (p1 &&& (1 : Int32)) ((p1 >>> ((1 : Int32) &&& 31)) &&& (1 : Int32)) p3)
def vM_1 (p0 : Int32) (p1 : Int32) (p2 : Int32) (p3 : Int32) (p4 : Int32) (p5 : Int32) : Int32 := (ret_X (0 : Int32) (1 : Int32) (p0 &&& (1 : Int32)) ((p0 >>> ((1 : Int32) &&& 31)) &&& (1 : Int32)) p2 (p1 &&& (1 : Int32)) ((p1 >>> ((1 : Int32) &&& 31)) &&& (1 : Int32)) p3)
def vM_2 (p0 : Int32) (p1 : Int32) (p2 : Int32) (p3 : Int32) (p4 : Int32) (p5 : Int32) : Int32 := (ret_X (1 : Int32) (0 : Int32) (p0 &&& (1 : Int32)) ((p0 >>> ((1 : Int32) &&& 31)) &&& (1 : Int32)) p2 (p1 &&& (1 : Int32)) ((p1 >>> ((1 : Int32) &&& 31)) &&& (1 : Int32)) p3)
def vM_3 (p0 : Int32) (p1 : Int32) (p2 : Int32) (p3 : Int32) (p4 : Int32) (p5 : Int32) : Int32 := (ret_X (1 : Int32) (1 : Int32) (p0 &&& (1 : Int32)) ((p0 >>> ((1 : Int32) &&& 31)) &&& (1 : Int32)) p2 (p1 &&& (1 : Int32)) ((p1 >>> ((1 : Int32) &&& 31)) &&& (1 : Int32)) p3)
def vM_4 (p0 : Int32) (p1 : Int32) (p2 : Int32) (p3 : Int32) (p4 : Int32) (p5 : Int32) : Int32 := (if ((vW_0 (p1 &&& (1 : Int32)) ((p1 >>> ((1 : Int32) &&& 31)) &&& (1 : Int32)) p3 p5 p4 vI_1 (vW_0 (p0 &&& (1 : Int32)) ((p0 >>> ((1 : Int32) &&& 31)) &&& (1 : Int32)) p2 p4 p5 vI_1 (fun _ => (0 : Int32)) (fun _ => (0 : Int32)) (fun _ => (0 : Int32)) (fun _ => (0 : Int32)) (fun _ => (0 : Int32))) (vW_1 (p0 &&& (1 : Int32)) ((p0 >>> ((1 : Int32) &&& 31)) &&& (1 : Int32)) p2 p4 p5 vI_1 (fun _ => (0 : Int32)) (fun _ => (0 : Int32)) (fun _ => (0 : Int32)) (fun _ => (0 : Int32)) (fun _ => (0 : Int32))) (vW_2 (p0 &&& (1 : Int32)) ((p0 >>> ((1 : Int32) &&& 31)) &&& (1 : Int32)) p2 p4 p5 vI_1 (fun _ => (0 : Int32)) (fun _ => (0 : Int32)) (fun _ => (0 : Int32)) (fun _ => (0 : Int32)) (fun _ => (0 : Int32))) (vW_4 (p0 &&& (1 : Int32)) ((p0 >>> ((1 : Int32) &&& 31)) &&& (1 : Int32)) p2 p4 p5 vI_1 (fun _ => (0 : Int32)) (fun _ => (0 : Int32)) (fun _ => (0 : Int32)) (fun _ => (0 : Int32)) (fun _ => (0 : Int32))) (vW_6 (p0 &&& (1 : Int32)) ((p0 >>> ((1 : Int32) &&& 31)) &&& (1 : Int32)) p2 p4 p5 vI_1 (fun _ => (0 : Int32)) (fun _ => (0 : Int32)) (fun _ => (0 : Int32)) (fun _ => (0 : Int32)) (fun _ => (0 : Int32)))) ((((1 : Int32) * (vI_1 1)) + (1 : Int32))).toNatClampNeg) = (vM_3 p0 p1 p2 p3 p4 p5) then (1 : Int32) else (0 : Int32))
def vM_5 (p0 : Int32) (p1 : Int32) (p2 : Int32) (p3 : Int32) (p4 : Int32) (p5 : Int32) : Int32 := (if ((vW_0 (p1 &&& (1 : Int32)) ((p1 >>> ((1 : Int32) &&& 31)) &&& (1 : Int32)) p3 p5 p4 vI_1 (vW_0 (p0 &&& (1 : Int32)) ((p0 >>> ((1 : Int32) &&& 31)) &&& (1 : Int32)) p2 p4 p5 vI_1 (fun _ => (0 : Int32)) (fun _ => (0 : Int32)) (fun _ => (0 : Int32)) (fun _ => (0 : Int32)) (fun _ => (0 : Int32))) (vW_1 (p0 &&& (1 : Int32)) ((p0 >>> ((1 : Int32) &&& 31)) &&& (1 : Int32)) p2 p4 p5 vI_1 (fun _ => (0 : Int32)) (fun _ => (0 : Int32)) (fun _ => (0 : Int32)) (fun _ => (0 : Int32)) (fun _ => (0 : Int32))) (vW_2 (p0 &&& (1 : Int32)) ((p0 >>> ((1 : Int32) &&& 31)) &&& (1 : Int32)) p2 p4 p5 vI_1 (fun _ => (0 : Int32)) (fun _ => (0 : Int32)) (fun _ => (0 : Int32)) (fun _ => (0 : Int32)) (fun _ => (0 : Int32))) (vW_4 (p0 &&& (1 : Int32)) ((p0 >>> ((1 : Int32) &&& 31)) &&& (1 : Int32)) p2 p4 p5 vI_1 (fun _ => (0 : Int32)) (fun _ => (0 : Int32)) (fun _ => (0 : Int32)) (fun _ => (0 : Int32)) (fun _ => (0 : Int32))) (vW_6 (p0 &&& (1 : Int32)) ((p0 >>> ((1 : Int32) &&& 31)) &&& (1 : Int32)) p2 p4 p5 vI_1 (fun _ => (0 : Int32)) (fun _ => (0 : Int32)) (fun _ => (0 : Int32)) (fun _ => (0 : Int32)) (fun _ => (0 : Int32)))) ((((1 : Int32) * (vI_1 1)) + (0 : Int32))).toNatClampNeg) = (vM_2 p0 p1 p2 p3 p4 p5) then (if ((vW_0 (p1 &&& (1 : Int32)) ((p1 >>> ((1 : Int32) &&& 31)) &&& (1 : Int32)) p3 p5 p4 vI_1 (vW_0 (p0 &&& (1 : Int32)) ((p0 >>> ((1 : Int32) &&& 31)) &&& (1 : Int32)) p2 p4 p5 vI_1 (fun _ => (0 : Int32)) (fun _ => (0 : Int32)) (fun _ => (0 : Int32)) (fun _ => (0 : Int32)) (fun _ => (0 : Int32))) (vW_1 (p0 &&& (1 : Int32)) ((p0 >>> ((1 : Int32) &&& 31)) &&& (1 : Int32)) p2 p4 p5 vI_1 (fun _ => (0 : Int32)) (fun _ => (0 : Int32)) (fun _ => (0 : Int32)) (fun _ => (0 : Int32)) (fun _ => (0 : Int32))) (vW_2 (p0 &&& (1 : Int32)) ((p0 >>> ((1 : Int32) &&& 31)) &&& (1 : Int32)) p2 p4 p5 vI_1 (fun _ => (0 : Int32)) (fun _ => (0 : Int32)) (fun _ => (0 : Int32)) (fun _ => (0 : Int32)) (fun _ => (0 : Int32))) (vW_4 (p0 &&& (1 : Int32)) ((p0 >>> ((1 : Int32) &&& 31)) &&& (1 : Int32)) p2 p4 p5 vI_1 (fun _ => (0 : Int32)) (fun _ => (0 : Int32)) (fun _ => (0 : Int32)) (fun _ => (0 : Int32)) (fun _ => (0 : Int32))) (vW_6 (p0 &&& (1 : Int32)) ((p0 >>> ((1 : Int32) &&& 31)) &&& (1 : Int32)) p2 p4 p5 vI_1 (fun _ => (0 : Int32)) (fun _ => (0 : Int32)) (fun _ => (0 : Int32)) (fun _ => (0 : Int32)) (fun _ => (0 : Int32)))) ((((1 : Int32) * (vI_1 1)) + (1 : Int32))).toNatClampNeg) = (vM_3 p0 p1 p2 p3 p4 p5) then (1 : Int32) else (0 : Int32)) else (0 : Int32))
def vM_6 (p0 : Int32) (p1 : Int32) (p2 : Int32) (p3 : Int32) (p4 : Int32) (p5 : Int32) : Int32 := (if ((vW_0 (p1 &&& (1 : Int32)) ((p1 >>> ((1 : Int32) &&& 31)) &&& (1 : Int32)) p3 p5 p4 vI_1 (vW_0 (p0 &&& (1 : Int32)) ((p0 >>> ((1 : Int32) &&& 31)) &&& (1 : Int32)) p2 p4 p5 vI_1 (fun _ => (0 : Int32)) (fun _ => (0 : Int32)) (fun _ => (0 : Int32)) (fun _ => (0 : Int32)) (fun _ => (0 : Int32))) (vW_1 (p0 &&& (1 : Int32)) ((p0 >>> ((1 : Int32) &&& 31)) &&& (1 : Int32)) p2 p4 p5 vI_1 (fun _ => (0 : Int32)) (fun _ => (0 : Int32)) (fun _ => (0 : Int32)) (fun _ => (0 : Int32)) (fun _ => (0 : Int32))) (vW_2 (p0 &&& (1 : Int32)) ((p0 >>> ((1 : Int32) &&& 31)) &&& (1 : Int32)) p2 p4 p5 vI_1 (fun _ => (0 : Int32)) (fun _ => (0 : Int32)) (fun _ => (0 : Int32)) (fun _ => (0 : Int32)) (fun _ => (0 : Int32))) (vW_4 (p0 &&& (1 : Int32)) ((p0 >>> ((1 : Int32) &&& 31)) &&& (1 : Int32)) p2 p4 p5 vI_1 (fun _ => (0 : Int32)) (fun _ => (0 : Int32)) (fun _ => (0 : Int32)) (fun _ => (0 : Int32)) (fun _ => (0 : Int32))) (vW_6 (p0 &&& (1 : Int32)) ((p0 >>> ((1 : Int32) &&& 31)) &&& (1 : Int32)) p2 p4 p5 vI_1 (fun _ => (0 : Int32)) (fun _ => (0 : Int32)) (fun _ => (0 : Int32)) (fun _ => (0 : Int32)) (fun _ => (0 : Int32)))) ((((0 : Int32) * (vI_1 1)) + (1 : Int32))).toNatClampNeg) = (vM_1 p0 p1 p2 p3 p4 p5) then (if ((vW_0 (p1 &&& (1 : Int32)) ((p1 >>> ((1 : Int32) &&& 31)) &&& (1 : Int32)) p3 p5 p4 vI_1 (vW_0 (p0 &&& (1 : Int32)) ((p0 >>> ((1 : Int32) &&& 31)) &&& (1 : Int32)) p2 p4 p5 vI_1 (fun _ => (0 : Int32)) (fun _ => (0 : Int32)) (fun _ => (0 : Int32)) (fun _ => (0 : Int32)) (fun _ => (0 : Int32))) (vW_1 (p0 &&& (1 : Int32)) ((p0 >>> ((1 : Int32) &&& 31)) &&& (1 : Int32)) p2 p4 p5 vI_1 (fun _ => (0 : Int32)) (fun _ => (0 : Int32)) (fun _ => (0 : Int32)) (fun _ => (0 : Int32)) (fun _ => (0 : Int32))) (vW_2 (p0 &&& (1 : Int32)) ((p0 >>> ((1 : Int32) &&& 31)) &&& (1 : Int32)) p2 p4 p5 vI_1 (fun _ => (0 : Int32)) (fun _ => (0 : Int32)) (fun _ => (0 : Int32)) (fun _ => (0 : Int32)) (fun _ => (0 : Int32))) (vW_4 (p0 &&& (1 : Int32)) ((p0 >>> ((1 : Int32) &&& 31)) &&& (1 : Int32)) p2 p4 p5 vI_1 (fun _ => (0 : Int32)) (fun _ => (0 : Int32)) (fun _ => (0 : Int32)) (fun _ => (0 : Int32)) (fun _ => (0 : Int32))) (vW_6 (p0 &&& (1 : Int32)) ((p0 >>> ((1 : Int32) &&& 31)) &&& (1 : Int32)) p2 p4 p5 vI_1 (fun _ => (0 : Int32)) (fun _ => (0 : Int32)) (fun _ => (0 : Int32)) (fun _ => (0 : Int32)) (fun _ => (0 : Int32)))) ((((1 : Int32) * (vI_1 1)) + (0 : Int32))).toNatClampNeg) = (vM_2 p0 p1 p2 p3 p4 p5) then (if ((vW_0 (p1 &&& (1 : Int32)) ((p1 >>> ((1 : Int32) &&& 31)) &&& (1 : Int32)) p3 p5 p4 vI_1 (vW_0 (p0 &&& (1 : Int32)) ((p0 >>> ((1 : Int32) &&& 31)) &&& (1 : Int32)) p2 p4 p5 vI_1 (fun _ => (0 : Int32)) (fun _ => (0 : Int32)) (fun _ => (0 : Int32)) (fun _ => (0 : Int32)) (fun _ => (0 : Int32))) (vW_1 (p0 &&& (1 : Int32)) ((p0 >>> ((1 : Int32) &&& 31)) &&& (1 : Int32)) p2 p4 p5 vI_1 (fun _ => (0 : Int32)) (fun _ => (0 : Int32)) (fun _ => (0 : Int32)) (fun _ => (0 : Int32)) (fun _ => (0 : Int32))) (vW_2 (p0 &&& (1 : Int32)) ((p0 >>> ((1 : Int32) &&& 31)) &&& (1 : Int32)) p2 p4 p5 vI_1 (fun _ => (0 : Int32)) (fun _ => (0 : Int32)) (fun _ => (0 : Int32)) (fun _ => (0 : Int32)) (fun _ => (0 : Int32))) (vW_4 (p0 &&& (1 : Int32)) ((p0 >>> ((1 : Int32) &&& 31)) &&& (1 : Int32)) p2 p4 p5 vI_1 (fun _ => (0 : Int32)) (fun _ => (0 : Int32)) (fun _ => (0 : Int32)) (fun _ => (0 : Int32)) (fun _ => (0 : Int32))) (vW_6 (p0 &&& (1 : Int32)) ((p0 >>> ((1 : Int32) &&& 31)) &&& (1 : Int32)) p2 p4 p5 vI_1 (fun _ => (0 : Int32)) (fun _ => (0 : Int32)) (fun _ => (0 : Int32)) (fun _ => (0 : Int32)) (fun _ => (0 : Int32)))) ((((1 : Int32) * (vI_1 1)) + (1 : Int32))).toNatClampNeg) = (vM_3 p0 p1 p2 p3 p4 p5) then (1 : Int32) else (0 : Int32)) else (0 : Int32)) else (0 : Int32))
def vM_7 (p0 : Int32) (p1 : Int32) (p2 : Int32) (p3 : Int32) (p4 : Int32) (p5 : Int32) : Int32 := (if ((vW_0 (p1 &&& (1 : Int32)) ((p1 >>> ((1 : Int32) &&& 31)) &&& (1 : Int32)) p3 p5 p4 vI_1 (vW_0 (p0 &&& (1 : Int32)) ((p0 >>> ((1 : Int32) &&& 31)) &&& (1 : Int32)) p2 p4 p5 vI_1 (fun _ => (0 : Int32)) (fun _ => (0 : Int32)) (fun _ => (0 : Int32)) (fun _ => (0 : Int32)) (fun _ => (0 : Int32))) (vW_1 (p0 &&& (1 : Int32)) ((p0 >>> ((1 : Int32) &&& 31)) &&& (1 : Int32)) p2 p4 p5 vI_1 (fun _ => (0 : Int32)) (fun _ => (0 : Int32)) (fun _ => (0 : Int32)) (fun _ => (0 : Int32)) (fun _ => (0 : Int32))) (vW_2 (p0 &&& (1 : Int32)) ((p0 >>> ((1 : Int32) &&& 31)) &&& (1 : Int32)) p2 p4 p5 vI_1 (fun _ => (0 : Int32)) (fun _ => (0 : Int32)) (fun _ => (0 : Int32)) (fun _ => (0 : Int32)) (fun _ => (0 : Int32))) (vW_4 (p0 &&& (1 : Int32)) ((p0 >>> ((1 : Int32) &&& 31)) &&& (1 : Int32)) p2 p4 p5 vI_1 (fun _ => (0 : Int32)) (fun _ => (0 : Int32)) (fun _ => (0 : Int32)) (fun _ => (0 : Int32)) (fun _ => (0 : Int32))) (vW_6 (p0 &&& (1 : Int32)) ((p0 >>> ((1 : Int32) &&& 31)) &&& (1 : Int32)) p2 p4 p5 vI_1 (fun _ => (0 : Int32)) (fun _ => (0 : Int32)) (fun _ => (0 : Int32)) (fun _ => (0 : Int32)) (fun _ => (0 : Int32)))) ((((0 : Int32) * (vI_1 1)) + (0 : Int32))).toNatClampNeg) = (vM_0 p0 p1 p2 p3 p4 p5) then (if ((vW_0 (p1 &&& (1 : Int32)) ((p1 >>> ((1 : Int32) &&& 31)) &&& (1 : Int32)) p3 p5 p4 vI_1 (vW_0 (p0 &&& (1 : Int32)) ((p0 >>> ((1 : Int32) &&& 31)) &&& (1 : Int32)) p2 p4 p5 vI_1 (fun _ => (0 : Int32)) (fun _ => (0 : Int32)) (fun _ => (0 : Int32)) (fun _ => (0 : Int32)) (fun _ => (0 : Int32))) (vW_1 (p0 &&& (1 : Int32)) ((p0 >>> ((1 : Int32) &&& 31)) &&& (1 : Int32)) p2 p4 p5 vI_1 (fun _ => (0 : Int32)) (fun _ => (0 : Int32)) (fun _ => (0 : Int32)) (fun _ => (0 : Int32)) (fun _ => (0 : Int32))) (vW_2 (p0 &&& (1 : Int32)) ((p0 >>> ((1 : Int32) &&& 31)) &&& (1 : Int32)) p2 p4 p5 vI_1 (fun _ => (0 : Int32)) (fun _ => (0 : Int32)) (fun _ => (0 : Int32)) (fun _ => (0 : Int32)) (fun _ => (0 : Int32))) (vW_4 (p0 &&& (1 : Int32)) ((p0 >>> ((1 : Int32) &&& 31)) &&& (1 : Int32)) p2 p4 p5 vI_1 (fun _ => (0 : Int32)) (fun _ => (0 : Int32)) (fun _ => (0 : Int32)) (fun _ => (0 : Int32)) (fun _ => (0 : Int32))) (vW_6 (p0 &&& (1 : Int32)) ((p0 >>> ((1 : Int32) &&& 31)) &&& (1 : Int32)) p2 p4 p5 vI_1 (fun _ => (0 : Int32)) (fun _ => (0 : Int32)) (fun _ => (0 : Int32)) (fun _ => (0 : Int32)) (fun _ => (0 : Int32)))) ((((0 : Int32) * (vI_1 1)) + (1 : Int32))).toNatClampNeg) = (vM_1 p0 p1 p2 p3 p4 p5) then (if ((vW_0 (p1 &&& (1 : Int32)) ((p1 >>> ((1 : Int32) &&& 31)) &&& (1 : Int32)) p3 p5 p4 vI_1 (vW_0 (p0 &&& (1 : Int32)) ((p0 >>> ((1 : Int32) &&& 31)) &&& (1 : Int32)) p2 p4 p5 vI_1 (fun _ => (0 : Int32)) (fun _ => (0 : Int32)) (fun _ => (0 : Int32)) (fun _ => (0 : Int32)) (fun _ => (0 : Int32))) (vW_1 (p0 &&& (1 : Int32)) ((p0 >>> ((1 : Int32) &&& 31)) &&& (1 : Int32)) p2 p4 p5 vI_1 (fun _ => (0 : Int32)) (fun _ => (0 : Int32)) (fun _ => (0 : Int32)) (fun _ => (0 : Int32)) (fun _ => (0 : Int32))) (vW_2 (p0 &&& (1 : Int32)) ((p0 >>> ((1 : Int32) &&& 31)) &&& (1 : Int32)) p2 p4 p5 vI_1 (fun _ => (0 : Int32)) (fun _ => (0 : Int32)) (fun _ => (0 : Int32)) (fun _ => (0 : Int32)) (fun _ => (0 : Int32))) (vW_4 (p0 &&& (1 : Int32)) ((p0 >>> ((1 : Int32) &&& 31)) &&& (1 : Int32)) p2 p4 p5 vI_1 (fun _ => (0 : Int32)) (fun _ => (0 : Int32)) (fun _ => (0 : Int32)) (fun _ => (0 : Int32)) (fun _ => (0 : Int32))) (vW_6 (p0 &&& (1 : Int32)) ((p0 >>> ((1 : Int32) &&& 31)) &&& (1 : Int32)) p2 p4 p5 vI_1 (fun _ => (0 : Int32)) (fun _ => (0 : Int32)) (fun _ => (0 : Int32)) (fun _ => (0 : Int32)) (fun _ => (0 : Int32)))) ((((1 : Int32) * (vI_1 1)) + (0 : Int32))).toNatClampNeg) = (vM_2 p0 p1 p2 p3 p4 p5) then (if ((vW_0 (p1 &&& (1 : Int32)) ((p1 >>> ((1 : Int32) &&& 31)) &&& (1 : Int32)) p3 p5 p4 vI_1 (vW_0 (p0 &&& (1 : Int32)) ((p0 >>> ((1 : Int32) &&& 31)) &&& (1 : Int32)) p2 p4 p5 vI_1 (fun _ => (0 : Int32)) (fun _ => (0 : Int32)) (fun _ => (0 : Int32)) (fun _ => (0 : Int32)) (fun _ => (0 : Int32))) (vW_1 (p0 &&& (1 : Int32)) ((p0 >>> ((1 : Int32) &&& 31)) &&& (1 : Int32)) p2 p4 p5 vI_1 (fun _ => (0 : Int32)) (fun _ => (0 : Int32)) (fun _ => (0 : Int32)) (fun _ => (0 : Int32)) (fun _ => (0 : Int32))) (vW_2 (p0 &&& (1 : Int32)) ((p0 >>> ((1 : Int32) &&& 31)) &&& (1 : Int32)) p2 p4 p5 vI_1 (fun _ => (0 : Int32)) (fun _ => (0 : Int32)) (fun _ => (0 : Int32)) (fun _ => (0 : Int32)) (fun _ => (0 : Int32))) (vW_4 (p0 &&& (1 : Int32)) ((p0 >>> ((1 : Int32) &&& 31)) &&& (1 : Int32)) p2 p4 p5 vI_1 (fun _ => (0 : Int32)) (fun _ => (0 : Int32)) (fun _ => (0 : Int32)) (fun _ => (0 : Int32)) (fun _ => (0 : Int32))) (vW_6 (p0 &&& (1 : Int32)) ((p0 >>> ((1 : Int32) &&& 31)) &&& (1 : Int32)) p2 p4 p5 vI_1 (fun _ => (0 : Int32)) (fun _ => (0 : Int32)) (fun _ => (0 : Int32)) (fun _ => (0 : Int32)) (fun _ => (0 : Int32)))) ((((1 : Int32) * (vI_1 1)) + (1 : Int32))).toNatClampNeg) = (vM_3 p0 p1 p2 p3 p4 p5) then (1 : Int32) else (0 : Int32)) else (0 : Int32)) else (0 : Int32)) else (0 : Int32))
def vM_8 (p0 : Int32) (p1 : Int32) (p2 : Int32) (p3 : Int32) (p4 : Int32) (p5 : Int32) : Int32 := (if ((vW_4 (p1 &&& (1 : Int32)) ((p1 >>> ((1 : Int32) &&& 31)) &&& (1 : Int32)) p3 p5 p4 vI_1 (vW_0 (p0 &&& (1 : Int32)) ((p0 >>> ((1 : Int32) &&& 31)) &&& (1 : Int32)) p2 p4 p5 vI_1 (fun _ => (0 : Int32)) (fun _ => (0 : Int32)) (fun _ => (0 : Int32)) (fun _ => (0 : Int32)) (fun _ => (0 : Int32))) (vW_1 (p0 &&& (1 : Int32)) ((p0 >>> ((1 : Int32) &&& 31)) &&& (1 : Int32)) p2 p4 p5 vI_1 (fun _ => (0 : Int32)) (fun _ => (0 : Int32)) (fun _ => (0 : Int32)) (fun _ => (0 : Int32)) (fun _ => (0 : Int32))) (vW_2 (p0 &&& (1 : Int32)) ((p0 >>> ((1 : Int32) &&& 31)) &&& (1 : Int32)) p2 p4 p5 vI_1 (fun _ => (0 : Int32)) (fun _ => (0 : Int32)) (fun _ => (0 : Int32)) (fun _ => (0 : Int32)) (fun _ => (0 : Int32))) (vW_4 (p0 &&& (1 : Int32)) ((p0 >>> ((1 : Int32) &&& 31)) &&& (1 : Int32)) p2 p4 p5 vI_1 (fun _ => (0 : Int32)) (fun _ => (0 : Int32)) (fun _ => (0 : Int32)) (fun _ => (0 : Int32)) (fun _ => (0 : Int32))) (vW_6 (p0 &&& (1 : Int32)) ((p0 >>> ((1 : Int32) &&& 31)) &&& (1 : Int32)) p2 p4 p5 vI_1 (fun _ => (0 : Int32)) (fun _ => (0 : Int32)) (fun _ => (0 : Int32)) (fun _ => (0 : Int32)) (fun _ => (0 : Int32)))) ((1 : Int32)).toNatClampNeg) = ((vM_2 p0 p1 p2 p3 p4 p5) + (vM_3 p0 p1 p2 p3 p4 p5)) then (1 : Int32) else (0 : Int32))
def vM_9 (p0 : Int32) (p1 : Int32) (p2 : Int32) (p3 : Int32) (p4 : Int32) (p5 : Int32) : Int32 := (if ((vW_4 (p1 &&& (1 : Int32)) ((p1 >>> ((1 : Int32) &&& 31)) &&& (1 : Int32)) p3 p5 p4 vI_1 (vW_0 (p0 &&& (1 : Int32)) ((p0 >>> ((1 : Int32) &&& 31)) &&& (1 : Int32)) p2 p4 p5 vI_1 (fun _ => (0 : Int32)) (fun _ => (0 : Int32)) (fun _ => (0 : Int32)) (fun _ => (0 : Int32)) (fun _ => (0 : Int32))) (vW_1 (p0 &&& (1 : Int32)) ((p0 >>> ((1 : Int32) &&& 31)) &&& (1 : Int32)) p2 p4 p5 vI_1 (fun _ => (0 : Int32)) (fun _ => (0 : Int32)) (fun _ => (0 : Int32)) (fun _ => (0 : Int32)) (fun _ => (0 : Int32))) (vW_2 (p0 &&& (1 : Int32)) ((p0 >>> ((1 : Int32) &&& 31)) &&& (1 : Int32)) p2 p4 p5 vI_1 (fun _ => (0 : Int32)) (fun _ => (0 : Int32)) (fun _ => (0 : Int32)) (fun _ => (0 : Int32)) (fun _ => (0 : Int32))) (vW_4 (p0 &&& (1 : Int32)) ((p0 >>> ((1 : Int32) &&& 31)) &&& (1 : Int32)) p2 p4 p5 vI_1 (fun _ => (0 : Int32)) (fun _ => (0 : Int32)) (fun _ => (0 : Int32)) (fun _ => (0 : Int32)) (fun _ => (0 : Int32))) (vW_6 (p0 &&& (1 : Int32)) ((p0 >>> ((1 : Int32) &&& 31)) &&& (1 : Int32)) p2 p4 p5 vI_1 (fun _ => (0 : Int32)) (fun _ => (0 : Int32)) (fun _ => (0 : Int32)) (fun _ => (0 : Int32)) (fun _ => (0 : Int32)))) ((0 : Int32)).toNatClampNeg) = ((vM_0 p0 p1 p2 p3 p4 p5) + (vM_1 p0 p1 p2 p3 p4 p5)) then (if ((vW_4 (p1 &&& (1 : Int32)) ((p1 >>> ((1 : Int32) &&& 31)) &&& (1 : Int32)) p3 p5 p4 vI_1 (vW_0 (p0 &&& (1 : Int32)) ((p0 >>> ((1 : Int32) &&& 31)) &&& (1 : Int32)) p2 p4 p5 vI_1 (fun _ => (0 : Int32)) (fun _ => (0 : Int32)) (fun _ => (0 : Int32)) (fun _ => (0 : Int32)) (fun _ => (0 : Int32))) (vW_1 (p0 &&& (1 : Int32)) ((p0 >>> ((1 : Int32) &&& 31)) &&& (1 : Int32)) p2 p4 p5 vI_1 (fun _ => (0 : Int32)) (fun _ => (0 : Int32)) (fun _ => (0 : Int32)) (fun _ => (0 : Int32)) (fun _ => (0 : Int32))) (vW_2 (p0 &&& (1 : Int32)) ((p0 >>> ((1 : Int32) &&& 31)) &&& (1 : Int32)) p2 p4 p5 vI_1 (fun _ => (0 : Int32)) (fun _ => (0 : Int32)) (fun _ => (0 : Int32)) (fun _ => (0 : Int32)) (fun _ => (0 : Int32))) (vW_4 (p0 &&& (1 : Int32)) ((p0 >>> ((1 : Int32) &&& 31)) &&& (1 : Int32)) p2 p4 p5 vI_1 (fun _ => (0 : Int32)) (fun _ => (0 : Int32)) (fun _ => (0 : Int32)) (fun _ => (0 : Int32)) (fun _ => (0 : Int32))) (vW_6 (p0 &&& (1 : Int32)) ((p0 >>> ((1 : Int32) &&& 31)) &&& (1 : Int32)) p2 p4 p5 vI_1 (fun _ => (0 : Int32)) (fun _ => (0 : Int32)) (fun _ => (0 : Int32)) (fun _ => (0 : Int32)) (fun _ => (0 : Int32)))) ((1 : Int32)).toNatClampNeg) = ((vM_2 p0 p1 p2 p3 p4 p5) + (vM_3 p0 p1 p2 p3 p4 p5)) then (1 : Int32) else (0 : Int32)) else (0 : Int32))
def vM_10 (p0 : Int32) (p1 : Int32) (p2 : Int32) (p3 : Int32) (p4 : Int32) (p5 : Int32) : Int32 := (if (vM_7 p0 p1 p2 p3 p4 p5) = (0 : Int32) then (0 : Int32) else (if ((vW_4 (p1 &&& (1 : Int32)) ((p1 >>> ((1 : Int32) &&& 31)) &&& (1 : Int32)) p3 p5 p4 vI_1 (vW_0 (p0 &&& (1 : Int32)) ((p0 >>> ((1 : Int32) &&& 31)) &&& (1 : Int32)) p2 p4 p5 vI_1 (fun _ => (0 : Int32)) (fun _ => (0 : Int32)) (fun _ => (0 : Int32)) (fun _ => (0 : Int32)) (fun _ => (0 : Int32))) (vW_1 (p0 &&& (1 : Int32)) ((p0 >>> ((1 : Int32) &&& 31)) &&& (1 : Int32)) p2 p4 p5 vI_1 (fun _ => (0 : Int32)) (fun _ => (0 : Int32)) (fun _ => (0 : Int32)) (fun _ => (0 : Int32)) (fun _ => (0 : Int32))) (vW_2 (p0 &&& (1 : Int32)) ((p0 >>> ((1 : Int32) &&& 31)) &&& (1 : Int32)) p2 p4 p5 vI_1 (fun _ => (0 : Int32)) (fun _ => (0 : Int32)) (fun _ => (0 : Int32)) (fun _ => (0 : Int32)) (fun _ => (0 : Int32))) (vW_4 (p0 &&& (1 : Int32)) ((p0 >>> ((1 : Int32) &&& 31)) &&& (1 : Int32)) p2 p4 p5 vI_1 (fun _ => (0 : Int32)) (fun _ => (0 : Int32)) (fun _ => (0 : Int32)) (fun _ => (0 : Int32)) (fun _ => (0 : Int32))) (vW_6 (p0 &&& (1 : Int32)) ((p0 >>> ((1 : Int32) &&& 31)) &&& (1 : Int32)) p2 p4 p5 vI_1 (fun _ => (0 : Int32)) (fun _ => (0 : Int32)) (fun _ => (0 : Int32)) (fun _ => (0 : Int32)) (fun _ => (0 : Int32)))) ((0 : Int32)).toNatClampNeg) = ((vM_0 p0 p1 p2 p3 p4 p5) + (vM_1 p0 p1 p2 p3 p4 p5)) then (if ((vW_4 (p1 &&& (1 : Int32)) ((p1 >>> ((1 : Int32) &&& 31)) &&& (1 : Int32)) p3 p5 p4 vI_1 (vW_0 (p0 &&& (1 : Int32)) ((p0 >>> ((1 : Int32) &&& 31)) &&& (1 : Int32)) p2 p4 p5 vI_1 (fun _ => (0 : Int32)) (fun _ => (0 : Int32)) (fun _ => (0 : Int32)) (fun _ => (0 : Int32)) (fun _ => (0 : Int32))) (vW_1 (p0 &&& (1 : Int32)) ((p0 >>> ((1 : Int32) &&& 31)) &&& (1 : Int32)) p2 p4 p5 vI_1 (fun _ => (0 : Int32)) (fun _ => (0 : Int32)) (fun _ => (0 : Int32)) (fun _ => (0 : Int32)) (fun _ => (0 : Int32))) (vW_2 (p0 &&& (1 : Int32)) ((p0 >>> ((1 : Int32) &&& 31)) &&& (1 : Int32)) p2 p4 p5 vI_1 (fun _ => (0 : Int32)) (fun _ => (0 : Int32)) (fun _ => (0 : Int32)) (fun _ => (0 : Int32)) (fun _ => (0 : Int32))) (vW_4 (p0 &&& (1 : Int32)) ((p0 >>> ((1 : Int32) &&& 31)) &&& (1 : Int32)) p2 p4 p5 vI_1 (fun _ => (0 : Int32)) (fun _ => (0 : Int32)) (fun _ => (0 : Int32)) (fun _ => (0 : Int32)) (fun _ => (0 : Int32))) (vW_6 (p0 &&& (1 : Int32)) ((p0 >>> ((1 : Int32) &&& 31)) &&& (1 : Int32)) p2 p4 p5 vI_1 (fun _ => (0 : Int32)) (fun _ => (0 : Int32)) (fun _ => (0 : Int32)) (fun _ => (0 : Int32)) (fun _ => (0 : Int32)))) ((1 : Int32)).toNatClampNeg) = ((vM_2 p0 p1 p2 p3 p4 p5) + (vM_3 p0 p1 p2 p3 p4 p5)) then (1 : Int32) else (0 : Int32)) else (0 : Int32)))
def vM_11 (p0 : Int32) (p1 : Int32) (p2 : Int32) (p3 : Int32) (p4 : Int32) (p5 : Int32) : Int32 := (if ((vW_6 (p1 &&& (1 : Int32)) ((p1 >>> ((1 : Int32) &&& 31)) &&& (1 : Int32)) p3 p5 p4 vI_1 (vW_0 (p0 &&& (1 : Int32)) ((p0 >>> ((1 : Int32) &&& 31)) &&& (1 : Int32)) p2 p4 p5 vI_1 (fun _ => (0 : Int32)) (fun _ => (0 : Int32)) (fun _ => (0 : Int32)) (fun _ => (0 : Int32)) (fun _ => (0 : Int32))) (vW_1 (p0 &&& (1 : Int32)) ((p0 >>> ((1 : Int32) &&& 31)) &&& (1 : Int32)) p2 p4 p5 vI_1 (fun _ => (0 : Int32)) (fun _ => (0 : Int32)) (fun _ => (0 : Int32)) (fun _ => (0 : Int32)) (fun _ => (0 : Int32))) (vW_2 (p0 &&& (1 : Int32)) ((p0 >>> ((1 : Int32) &&& 31)) &&& (1 : Int32)) p2 p4 p5 vI_1 (fun _ => (0 : Int32)) (fun _ => (0 : Int32)) (fun _ => (0 : Int32)) (fun _ => (0 : Int32)) (fun _ => (0 : Int32))) (vW_4 (p0 &&& (1 : Int32)) ((p0 >>> ((1 : Int32) &&& 31)) &&& (1 : Int32)) p2 p4 p5 vI_1 (fun _ => (0 : Int32)) (fun _ => (0 : Int32)) (fun _ => (0 : Int32)) (fun _ => (0 : Int32)) (fun _ => (0 : Int32))) (vW_6 (p0 &&& (1 : Int32)) ((p0 >>> ((1 : Int32) &&& 31)) &&& (1 : Int32)) p2 p4 p5 vI_1 (fun _ => (0 : Int32)) (fun _ => (0 : Int32)) (fun _ => (0 : Int32)) (fun _ => (0 : Int32)) (fun _ => (0 : Int32)))) ((1 : Int32)).toNatClampNeg) = ((vM_1 p0 p1 p2 p3 p4 p5) + (vM_3 p0 p1 p2 p3 p4 p5)) then (1 : Int32) else (0 : Int32))
def vM_12 (p0 : Int32) (p1 : Int32) (p2 : Int32) (p3 : Int32) (p4 : Int32) (p5 : Int32) : Int32 := (if ((vW_6 (p1 &&& (1 : Int32)) ((p1 >>> ((1 : Int32) &&& 31)) &&& (1 : Int32)) p3 p5 p4 vI_1 (vW_0 (p0 &&& (1 : Int32)) ((p0 >>> ((1 : Int32) &&& 31)) &&& (1 : Int32)) p2 p4 p5 vI_1 (fun _ => (0 : Int32)) (fun _ => (0 : Int32)) (fun _ => (0 : Int32)) (fun _ => (0 : Int32)) (fun _ => (0 : Int32))) (vW_1 (p0 &&& (1 : Int32)) ((p0 >>> ((1 : Int32) &&& 31)) &&& (1 : Int32)) p2 p4 p5 vI_1 (fun _ => (0 : Int32)) (fun _ => (0 : Int32)) (fun _ => (0 : Int32)) (fun _ => (0 : Int32)) (fun _ => (0 : Int32))) (vW_2 (p0 &&& (1 : Int32)) ((p0 >>> ((1 : Int32) &&& 31)) &&& (1 : Int32)) p2 p4 p5 vI_1 (fun _ => (0 : Int32)) (fun _ => (0 : Int32)) (fun _ => (0 : Int32)) (fun _ => (0 : Int32)) (fun _ => (0 : Int32))) (vW_4 (p0 &&& (1 : Int32)) ((p0 >>> ((1 : Int32) &&& 31)) &&& (1 : Int32)) p2 p4 p5 vI_1 (fun _ => (0 : Int32)) (fun _ => (0 : Int32)) (fun _ => (0 : Int32)) (fun _ => (0 : Int32)) (fun _ => (0 : Int32))) (vW_6 (p0 &&& (1 : Int32)) ((p0 >>> ((1 : Int32) &&& 31)) &&& (1 : Int32)) p2 p4 p5 vI_1 (fun _ => (0 : Int32)) (fun _ => (0 : Int32)) (fun _ => (0 : Int32)) (fun _ => (0 : Int32)) (fun _ => (0 : Int32)))) ((0 : Int32)).toNatClampNeg) = ((vM_0 p0 p1 p2 p3 p4 p5) + (vM_2 p0 p1 p2 p3 p4 p5)) then (if ((vW_6 (p1 &&& (1 : Int32)) ((p1 >>> ((1 : Int32) &&& 31)) &&& (1 : Int32)) p3 p5 p4 vI_1 (vW_0 (p0 &&& (1 : Int32)) ((p0 >>> ((1 : Int32) &&& 31)) &&& (1 : Int32)) p2 p4 p5 vI_1 (fun _ => (0 : Int32)) (fun _ => (0 : Int32)) (fun _ => (0 : Int32)) (fun _ => (0 : Int32)) (fun _ => (0 : Int32))) (vW_1 (p0 &&& (1 : Int32)) ((p0 >>> ((1 : Int32) &&& 31)) &&& (1 : Int32)) p2 p4 p5 vI_1 (fun _ => (0 : Int32)) (fun _ => (0 : Int32)) (fun _ => (0 : Int32)) (fun _ => (0 : Int32)) (fun _ => (0 : Int32))) (vW_2 (p0 &&& (1 : Int32)) ((p0 >>> ((1 : Int32) &&& 31)) &&& (1 : Int32)) p2 p4 p5 vI_1 (fun _ => (0 : Int32)) (fun _ => (0 : Int32)) (fun _ => (0 : Int32)) (fun _ => (0 : Int32)) (fun _ => (0 : Int32))) (vW_4 (p0 &&& (1 : Int32)) ((p0 >>> ((1 : Int32) &&& 31)) &&& (1 : Int32)) p2 p4 p5 vI_1 (fun _ => (0 : Int32)) (fun _ => (0 : Int32)) (fun _ => (0 : Int32)) (fun _ => (0 : Int32)) (fun _ => (0 : Int32))) (vW_6 (p0 &&& (1 : Int32)) ((p0 >>> ((1 : Int32) &&& 31)) &&& (1 : Int32)) p2 p4 p5 vI_1 (fun _ => (0 : Int32)) (fun _ => (0 : Int32)) (fun _ => (0 : Int32)) (fun _ => (0 : Int32)) (fun _ => (0 : Int32)))) ((1 : Int32)).toNatClampNeg) = ((vM_1 p0 p1 p2 p3 p4 p5) + (vM_3 p0 p1 p2 p3 p4 p5)) then (1 : Int32) else (0 : Int32)) else (0 : Int32))
def vM_13 (p0 : Int32) (p1 : Int32) (p2 : Int32) (p3 : Int32) (p4 : Int32) (p5 : Int32) : Int32 := (if (vM_10 p0 p1 p2 p3 p4 p5) = (0 : Int32) then (0 : Int32) else (if ((vW_6 (p1 &&& (1 : Int32)) ((p1 >>> ((1 : Int32) &&& 31)) &&& (1 : Int32)) p3 p5 p4 vI_1 (vW_0 (p0 &&& (1 : Int32)) ((p0 >>> ((1 : Int32) &&& 31)) &&& (1 : Int32)) p2 p4 p5 vI_1 (fun _ => (0 : Int32)) (fun _ => (0 : Int32)) (fun _ => (0 : Int32)) (fun _ => (0 : Int32)) (fun _ => (0 : Int32))) (vW_1 (p0 &&& (1 : Int32)) ((p0 >>> ((1 : Int32) &&& 31)) &&& (1 : Int32)) p2 p4 p5 vI_1 (fun _ => (0 : Int32)) (fun _ => (0 : Int32)) (fun _ => (0 : Int32)) (fun _ => (0 : Int32)) (fun _ => (0 : Int32))) (vW_2 (p0 &&& (1 : Int32)) ((p0 >>> ((1 : Int32) &&& 31)) &&& (1 : Int32)) p2 p4 p5 vI_1 (fun _ => (0 : Int32)) (fun _ => (0 : Int32)) (fun _ => (0 : Int32)) (fun _ => (0 : Int32)) (fun _ => (0 : Int32))) (vW_4 (p0 &&& (1 : Int32)) ((p0 >>> ((1 : Int32) &&& 31)) &&& (1 : Int32)) p2 p4 p5 vI_1 (fun _ => (0 : Int32)) (fun _ => (0 : Int32)) (fun _ => (0 : Int32)) (fun _ => (0 : Int32)) (fun _ => (0 : Int32))) (vW_6 (p0 &&& (1 : Int32)) ((p0 >>> ((1 : Int32) &&& 31)) &&& (1 : Int32)) p2 p4 p5 vI_1 (fun _ => (0 : Int32)) (fun _ => (0 : Int32)) (fun _ => (0 : Int32)) (fun _ => (0 : Int32)) (fun _ => (0 : Int32)))) ((0 : Int32)).toNatClampNeg) = ((vM_0 p0 p1 p2 p3 p4 p5) + (vM_2 p0 p1 p2 p3 p4 p5)) then (if ((vW_6 (p1 &&& (1 : Int32)) ((p1 >>> ((1 : Int32) &&& 31)) &&& (1 : Int32)) p3 p5 p4 vI_1 (vW_0 (p0 &&& (1 : Int32)) ((p0 >>> ((1 : Int32) &&& 31)) &&& (1 : Int32)) p2 p4 p5 vI_1 (fun _ => (0 : Int32)) (fun _ => (0 : Int32)) (fun _ => (0 : Int32)) (fun _ => (0 : Int32)) (fun _ => (0 : Int32))) (vW_1 (p0 &&& (1 : Int32)) ((p0 >>> ((1 : Int32) &&& 31)) &&& (1 : Int32)) p2 p4 p5 vI_1 (fun _ => (0 : Int32)) (fun _ => (0 : Int32)) (fun _ => (0 : Int32)) (fun _ => (0 : Int32)) (fun _ => (0 : Int32))) (vW_2 (p0 &&& (1 : Int32)) ((p0 >>> ((1 : Int32) &&& 31)) &&& (1 : Int32)) p2 p4 p5 vI_1 (fun _ => (0 : Int32)) (fun _ => (0 : Int32)) (fun _ => (0 : Int32)) (fun _ => (0 : Int32)) (fun _ => (0 : Int32))) (vW_4 (p0 &&& (1 : Int32)) ((p0 >>> ((1 : Int32) &&& 31)) &&& (1 : Int32)) p2 p4 p5 vI_1 (fun _ => (0 : Int32)) (fun _ => (0 : Int32)) (fun _ => (0 : Int32)) (fun _ => (0 : Int32)) (fun _ => (0 : Int32))) (vW_6 (p0 &&& (1 : Int32)) ((p0 >>> ((1 : Int32) &&& 31)) &&& (1 : Int32)) p2 p4 p5 vI_1 (fun _ => (0 : Int32)) (fun _ => (0 : Int32)) (fun _ => (0 : Int32)) (fun _ => (0 : Int32)) (fun _ => (0 : Int32)))) ((1 : Int32)).toNatClampNeg) = ((vM_1 p0 p1 p2 p3 p4 p5) + (vM_3 p0 p1 p2 p3 p4 p5)) then (1 : Int32) else (0 : Int32)) else (0 : Int32)))
def uM_0 (s1 d1 s2 d2 p2 p3 p4 p5 : Int32) : Int32 := (ret_X (0 : Int32) (0 : Int32) s1 d1 p2 s2 d2 p3)
def uM_1 (s1 d1 s2 d2 p2 p3 p4 p5 : Int32) : Int32 := (ret_X (0 : Int32) (1 : Int32) s1 d1 p2 s2 d2 p3)
def uM_2 (s1 d1 s2 d2 p2 p3 p4 p5 : Int32) : Int32 := (ret_X (1 : Int32) (0 : Int32) s1 d1 p2 s2 d2 p3)
def uM_3 (s1 d1 s2 d2 p2 p3 p4 p5 : Int32) : Int32 := (ret_X (1 : Int32) (1 : Int32) s1 d1 p2 s2 d2 p3)
def uM_4 (s1 d1 s2 d2 p2 p3 p4 p5 : Int32) : Int32 := (if ((vW_0 s2 d2 p3 p5 p4 vI_1 (vW_0 s1 d1 p2 p4 p5 vI_1 (fun _ => (0 : Int32)) (fun _ => (0 : Int32)) (fun _ => (0 : Int32)) (fun _ => (0 : Int32)) (fun _ => (0 : Int32))) (vW_1 s1 d1 p2 p4 p5 vI_1 (fun _ => (0 : Int32)) (fun _ => (0 : Int32)) (fun _ => (0 : Int32)) (fun _ => (0 : Int32)) (fun _ => (0 : Int32))) (vW_2 s1 d1 p2 p4 p5 vI_1 (fun _ => (0 : Int32)) (fun _ => (0 : Int32)) (fun _ => (0 : Int32)) (fun _ => (0 : Int32)) (fun _ => (0 : Int32))) (vW_4 s1 d1 p2 p4 p5 vI_1 (fun _ => (0 : Int32)) (fun _ => (0 : Int32)) (fun _ => (0 : Int32)) (fun _ => (0 : Int32)) (fun _ => (0 : Int32))) (vW_6 s1 d1 p2 p4 p5 vI_1 (fun _ => (0 : Int32)) (fun _ => (0 : Int32)) (fun _ => (0 : Int32)) (fun _ => (0 : Int32)) (fun _ => (0 : Int32)))) ((((1 : Int32) * (vI_1 1)) + (1 : Int32))).toNatClampNeg) = (uM_3 s1 d1 s2 d2 p2 p3 p4 p5) then (1 : Int32) else (0 : Int32))
def uM_5 (s1 d1 s2 d2 p2 p3 p4 p5 : Int32) : Int32 := (if ((vW_0 s2 d2 p3 p5 p4 vI_1 (vW_0 s1 d1 p2 p4 p5 vI_1 (fun _ => (0 : Int32)) (fun _ => (0 : Int32)) (fun _ => (0 : Int32)) (fun _ => (0 : Int32)) (fun _ => (0 : Int32))) (vW_1 s1 d1 p2 p4 p5 vI_1 (fun _ => (0 : Int32)) (fun _ => (0 : Int32)) (fun _ => (0 : Int32)) (fun _ => (0 : Int32)) (fun _ => (0 : Int32))) (vW_2 s1 d1 p2 p4 p5 vI_1 (fun _ => (0 : Int32)) (fun _ => (0 : Int32)) (fun _ => (0 : Int32)) (fun _ => (0 : Int32)) (fun _ => (0 : Int32))) (vW_4 s1 d1 p2 p4 p5 vI_1 (fun _ => (0 : Int32)) (fun _ => (0 : Int32)) (fun _ => (0 : Int32)) (fun _ => (0 : Int32)) (fun _ => (0 : Int32))) (vW_6 s1 d1 p2 p4 p5 vI_1 (fun _ => (0 : Int32)) (fun _ => (0 : Int32)) (fun _ => (0 : Int32)) (fun _ => (0 : Int32)) (fun _ => (0 : Int32)))) ((((1 : Int32) * (vI_1 1)) + (0 : Int32))).toNatClampNeg) = (uM_2 s1 d1 s2 d2 p2 p3 p4 p5) then (if ((vW_0 s2 d2 p3 p5 p4 vI_1 (vW_0 s1 d1 p2 p4 p5 vI_1 (fun _ => (0 : Int32)) (fun _ => (0 : Int32)) (fun _ => (0 : Int32)) (fun _ => (0 : Int32)) (fun _ => (0 : Int32))) (vW_1 s1 d1 p2 p4 p5 vI_1 (fun _ => (0 : Int32)) (fun _ => (0 : Int32)) (fun _ => (0 : Int32)) (fun _ => (0 : Int32)) (fun _ => (0 : Int32))) (vW_2 s1 d1 p2 p4 p5 vI_1 (fun _ => (0 : Int32)) (fun _ => (0 : Int32)) (fun _ => (0 : Int32)) (fun _ => (0 : Int32)) (fun _ => (0 : Int32))) (vW_4 s1 d1 p2 p4 p5 vI_1 (fun _ => (0 : Int32)) (fun _ => (0 : Int32)) (fun _ => (0 : Int32)) (fun _ => (0 : Int32)) (fun _ => (0 : Int32))) (vW_6 s1 d1 p2 p4 p5 vI_1 (fun _ => (0 : Int32)) (fun _ => (0 : Int32)) (fun _ => (0 : Int32)) (fun _ => (0 : Int32)) (fun _ => (0 : Int32)))) ((((1 : Int32) * (vI_1 1)) + (1 : Int32))).toNatClampNeg) = (uM_3 s1 d1 s2 d2 p2 p3 p4 p5) then (1 : Int32) else (0 : Int32)) else (0 : Int32))
def uM_6 (s1 d1 s2 d2 p2 p3 p4 p5 : Int32) : Int32 := (if ((vW_0 s2 d2 p3 p5 p4 vI_1 (vW_0 s1 d1 p2 p4 p5 vI_1 (fun _ => (0 : Int32)) (fun _ => (0 : Int32)) (fun _ => (0 : Int32)) (fun _ => (0 : Int32)) (fun _ => (0 : Int32))) (vW_1 s1 d1 p2 p4 p5 vI_1 (fun _ => (0 : Int32)) (fun _ => (0 : Int32)) (fun _ => (0 : Int32)) (fun _ => (0 : Int32)) (fun _ => (0 : Int32))) (vW_2 s1 d1 p2 p4 p5 vI_1 (fun _ => (0 : Int32)) (fun _ => (0 : Int32)) (fun _ => (0 : Int32)) (fun _ => (0 : Int32)) (fun _ => (0 : Int32))) (vW_4 s1 d1 p2 p4 p5 vI_1 (fun _ => (0 : Int32)) (fun _ => (0 : Int32)) (fun _ => (0 : Int32)) (fun _ => (0 : Int32)) (fun _ => (0 : Int32))) (vW_6 s1 d1 p2 p4 p5 vI_1 (fun _ => (0 : Int32)) (fun _ => (0 : Int32)) (fun _ => (0 : Int32)) (fun _ => (0 : Int32)) (fun _ => (0 : Int32)))) ((((0 : Int32) * (vI_1 1)) + (1 : Int32))).toNatClampNeg) = (uM_1 s1 d1 s2 d2 p2 p3 p4 p5) then (if ((vW_0 s2 d2 p3 p5 p4 vI_1 (vW_0 s1 d1 p2 p4 p5 vI_1 (fun _ => (0 : Int32)) (fun _ => (0 : Int32)) (fun _ => (0 : Int32)) (fun _ => (0 : Int32)) (fun _ => (0 : Int32))) (vW_1 s1 d1 p2 p4 p5 vI_1 (fun _ => (0 : Int32)) (fun _ => (0 : Int32)) (fun _ => (0 : Int32)) (fun _ => (0 : Int32)) (fun _ => (0 : Int32))) (vW_2 s1 d1 p2 p4 p5 vI_1 (fun _ => (0 : Int32)) (fun _ => (0 : Int32)) (fun _ => (0 : Int32)) (fun _ => (0 : Int32)) (fun _ => (0 : Int32))) (vW_4 s1 d1 p2 p4 p5 vI_1 (fun _ => (0 : Int32)) (fun _ => (0 : Int32)) (fun _ => (0 : Int32)) (fun _ => (0 : Int32)) (fun _ => (0 : Int32))) (vW_6 s1 d1 p2 p4 p5 vI_1 (fun _ => (0 : Int32)) (fun _ => (0 : Int32)) (fun _ => (0 : Int32)) (fun _ => (0 : Int32)) (fun _ => (0 : Int32)))) ((((1 : Int32) * (vI_1 1)) + (0 : Int32))).toNatClampNeg) = (uM_2 s1 d1 s2 d2 p2 p3 p4 p5) then (if ((vW_0 s2 d2 p3 p5 p4 vI_1 (vW_0 s1 d1 p2 p4 p5 vI_1 (fun _ => (0 : Int32)) (fun _ => (0 : Int32)) (fun _ => (0 : Int32)) (fun _ => (0 : Int32)) (fun _ => (0 : Int32))) (vW_1 s1 d1 p2 p4 p5 vI_1 (fun _ => (0 : Int32)) (fun _ => (0 : Int32)) (fun _ => (0 : Int32)) (fun _ => (0 : Int32)) (fun _ => (0 : Int32))) (vW_2 s1 d1 p2 p4 p5 vI_1 (fun _ => (0 : Int32)) (fun _ => (0 : Int32)) (fun _ => (0 : Int32)) (fun _ => (0 : Int32)) (fun _ => (0 : Int32))) (vW_4 s1 d1 p2 p4 p5 vI_1 (fun _ => (0 : Int32)) (fun _ => (0 : Int32)) (fun _ => (0 : Int32)) (fun _ => (0 : Int32)) (fun _ => (0 : Int32))) (vW_6 s1 d1 p2 p4 p5 vI_1 (fun _ => (0 : Int32)) (fun _ => (0 : Int32)) (fun _ => (0 : Int32)) (fun _ => (0 : Int32)) (fun _ => (0 : Int32)))) ((((1 : Int32) * (vI_1 1)) + (1 : Int32))).toNatClampNeg) = (uM_3 s1 d1 s2 d2 p2 p3 p4 p5) then (1 : Int32) else (0 : Int32)) else (0 : Int32)) else (0 : Int32))
def uM_7 (s1 d1 s2 d2 p2 p3 p4 p5 : Int32) : Int32 := (if ((vW_0 s2 d2 p3 p5 p4 vI_1 (vW_0 s1 d1 p2 p4 p5 vI_1 (fun _ => (0 : Int32)) (fun _ => (0 : Int32)) (fun _ => (0 : Int32)) (fun _ => (0 : Int32)) (fun _ => (0 : Int32))) (vW_1 s1 d1 p2 p4 p5 vI_1 (fun _ => (0 : Int32)) (fun _ => (0 : Int32)) (fun _ => (0 : Int32)) (fun _ => (0 : Int32)) (fun _ => (0 : Int32))) (vW_2 s1 d1 p2 p4 p5 vI_1 (fun _ => (0 : Int32)) (fun _ => (0 : Int32)) (fun _ => (0 : Int32)) (fun _ => (0 : Int32)) (fun _ => (0 : Int32))) (vW_4 s1 d1 p2 p4 p5 vI_1 (fun _ => (0 : Int32)) (fun _ => (0 : Int32)) (fun _ => (0 : Int32)) (fun _ => (0 : Int32)) (fun _ => (0 : Int32))) (vW_6 s1 d1 p2 p4 p5 vI_1 (fun _ => (0 : Int32)) (fun _ => (0 : Int32)) (fun _ => (0 : Int32)) (fun _ => (0 : Int32)) (fun _ => (0 : Int32)))) ((((0 : Int32) * (vI_1 1)) + (0 : Int32))).toNatClampNeg) = (uM_0 s1 d1 s2 d2 p2 p3 p4 p5) then (if ((vW_0 s2 d2 p3 p5 p4 vI_1 (vW_0 s1 d1 p2 p4 p5 vI_1 (fun _ => (0 : Int32)) (fun _ => (0 : Int32)) (fun _ => (0 : Int32)) (fun _ => (0 : Int32)) (fun _ => (0 : Int32))) (vW_1 s1 d1 p2 p4 p5 vI_1 (fun _ => (0 : Int32)) (fun _ => (0 : Int32)) (fun _ => (0 : Int32)) (fun _ => (0 : Int32)) (fun _ => (0 : Int32))) (vW_2 s1 d1 p2 p4 p5 vI_1 (fun _ => (0 : Int32)) (fun _ => (0 : Int32)) (fun _ => (0 : Int32)) (fun _ => (0 : Int32)) (fun _ => (0 : Int32))) (vW_4 s1 d1 p2 p4 p5 vI_1 (fun _ => (0 : Int32)) (fun _ => (0 : Int32)) (fun _ => (0 : Int32)) (fun _ => (0 : Int32)) (fun _ => (0 : Int32))) (vW_6 s1 d1 p2 p4 p5 vI_1 (fun _ => (0 : Int32)) (fun _ => (0 : Int32)) (fun _ => (0 : Int32)) (fun _ => (0 : Int32)) (fun _ => (0 : Int32)))) ((((0 : Int32) * (vI_1 1)) + (1 : Int32))).toNatClampNeg) = (uM_1 s1 d1 s2 d2 p2 p3 p4 p5) then (if ((vW_0 s2 d2 p3 p5 p4 vI_1 (vW_0 s1 d1 p2 p4 p5 vI_1 (fun _ => (0 : Int32)) (fun _ => (0 : Int32)) (fun _ => (0 : Int32)) (fun _ => (0 : Int32)) (fun _ => (0 : Int32))) (vW_1 s1 d1 p2 p4 p5 vI_1 (fun _ => (0 : Int32)) (fun _ => (0 : Int32)) (fun _ => (0 : Int32)) (fun _ => (0 : Int32)) (fun _ => (0 : Int32))) (vW_2 s1 d1 p2 p4 p5 vI_1 (fun _ => (0 : Int32)) (fun _ => (0 : Int32)) (fun _ => (0 : Int32)) (fun _ => (0 : Int32)) (fun _ => (0 : Int32))) (vW_4 s1 d1 p2 p4 p5 vI_1 (fun _ => (0 : Int32)) (fun _ => (0 : Int32)) (fun _ => (0 : Int32)) (fun _ => (0 : Int32)) (fun _ => (0 : Int32))) (vW_6 s1 d1 p2 p4 p5 vI_1 (fun _ => (0 : Int32)) (fun _ => (0 : Int32)) (fun _ => (0 : Int32)) (fun _ => (0 : Int32)) (fun _ => (0 : Int32)))) ((((1 : Int32) * (vI_1 1)) + (0 : Int32))).toNatClampNeg) = (uM_2 s1 d1 s2 d2 p2 p3 p4 p5) then (if ((vW_0 s2 d2 p3 p5 p4 vI_1 (vW_0 s1 d1 p2 p4 p5 vI_1 (fun _ => (0 : Int32)) (fun _ => (0 : Int32)) (fun _ => (0 : Int32)) (fun _ => (0 : Int32)) (fun _ => (0 : Int32))) (vW_1 s1 d1 p2 p4 p5 vI_1 (fun _ => (0 : Int32)) (fun _ => (0 : Int32)) (fun _ => (0 : Int32)) (fun _ => (0 : Int32)) (fun _ => (0 : Int32))) (vW_2 s1 d1 p2 p4 p5 vI_1 (fun _ => (0 : Int32)) (fun _ => (0 : Int32)) (fun _ => (0 : Int32)) (fun _ => (0 : Int32)) (fun _ => (0 : Int32))) (vW_4 s1 d1 p2 p4 p5 vI_1 (fun _ => (0 : Int32)) (fun _ => (0 : Int32)) (fun _ => (0 : Int32)) (fun _ => (0 : Int32)) (fun _ => (0 : Int32))) (vW_6 s1 d1 p2 p4 p5 vI_1 (fun _ => (0 : Int32)) (fun _ => (0 : Int32)) (fun _ => (0 : Int32)) (fun _ => (0 : Int32)) (fun _ => (0 : Int32)))) ((((1 : Int32) * (vI_1 1)) + (1 : Int32))).toNatClampNeg) = (uM_3 s1 d1 s2 d2 p2 p3 p4 p5) then (1 : Int32) else (0 : Int32)) else (0 : Int32)) else (0 : Int32)) else (0 : Int32))
def uM_8 (s1 d1 s2 d2 p2 p3 p4 p5 : Int32) : Int32 := (if ((vW_4 s2 d2 p3 p5 p4 vI_1 (vW_0 s1 d1 p2 p4 p5 vI_1 (fun _ => (0 : Int32)) (fun _ => (0 : Int32)) (fun _ => (0 : Int32)) (fun _ => (0 : Int32)) (fun _ => (0 : Int32))) (vW_1 s1 d1 p2 p4 p5 vI_1 (fun _ => (0 : Int32)) (fun _ => (0 : Int32)) (fun _ => (0 : Int32)) (fun _ => (0 : Int32)) (fun _ => (0 : Int32))) (vW_2 s1 d1 p2 p4 p5 vI_1 (fun _ => (0 : Int32)) (fun _ => (0 : Int32)) (fun _ => (0 : Int32)) (fun _ => (0 : Int32)) (fun _ => (0 : Int32))) (vW_4 s1 d1 p2 p4 p5 vI_1 (fun _ => (0 : Int32)) (fun _ => (0 : Int32)) (fun _ => (0 : Int32)) (fun _ => (0 : Int32)) (fun _ => (0 : Int32))) (vW_6 s1 d1 p2 p4 p5 vI_1 (fun _ => (0 : Int32)) (fun _ => (0 : Int32)) (fun _ => (0 : Int32)) (fun _ => (0 : Int32)) (fun _ => (0 : Int32)))) ((1 : Int32)).toNatClampNeg) = ((uM_2 s1 d1 s2 d2 p2 p3 p4 p5) + (uM_3 s1 d1 s2 d2 p2 p3 p4 p5)) then (1 : Int32) else (0 : Int32))
def uM_9 (s1 d1 s2 d2 p2 p3 p4 p5 : Int32) : Int32 := (if ((vW_4 s2 d2 p3 p5 p4 vI_1 (vW_0 s1 d1 p2 p4 p5 vI_1 (fun _ => (0 : Int32)) (fun _ => (0 : Int32)) (fun _ => (0 : Int32)) (fun _ => (0 : Int32)) (fun _ => (0 : Int32))) (vW_1 s1 d1 p2 p4 p5 vI_1 (fun _ => (0 : Int32)) (fun _ => (0 : Int32)) (fun _ => (0 : Int32)) (fun _ => (0 : Int32)) (fun _ => (0 : Int32))) (vW_2 s1 d1 p2 p4 p5 vI_1 (fun _ => (0 : Int32)) (fun _ => (0 : Int32)) (fun _ => (0 : Int32)) (fun _ => (0 : Int32)) (fun _ => (0 : Int32))) (vW_4 s1 d1 p2 p4 p5 vI_1 (fun _ => (0 : Int32)) (fun _ => (0 : Int32)) (fun _ => (0 : Int32)) (fun _ => (0 : Int32)) (fun _ => (0 : Int32))) (vW_6 s1 d1 p2 p4 p5 vI_1 (fun _ => (0 : Int32)) (fun _ => (0 : Int32)) (fun _ => (0 : Int32)) (fun _ => (0 : Int32)) (fun _ => (0 : Int32)))) ((0 : Int32)).toNatClampNeg) = ((uM_0 s1 d1 s2 d2 p2 p3 p4 p5) + (uM_1 s1 d1 s2 d2 p2 p3 p4 p5)) then (if ((vW_4 s2 d2 p3 p5 p4 vI_1 (vW_0 s1 d1 p2 p4 p5 vI_1 (fun _ => (0 : Int32)) (fun _ => (0 : Int32)) (fun _ => (0 : Int32)) (fun _ => (0 : Int32)) (fun _ => (0 : Int32))) (vW_1 s1 d1 p2 p4 p5 vI_1 (fun _ => (0 : Int32)) (fun _ => (0 : Int32)) (fun _ => (0 : Int32)) (fun _ => (0 : Int32)) (fun _ => (0 : Int32))) (vW_2 s1 d1 p2 p4 p5 vI_1 (fun _ => (0 : Int32)) (fun _ => (0 : Int32)) (fun _ => (0 : Int32)) (fun _ => (0 : Int32)) (fun _ => (0 : Int32))) (vW_4 s1 d1 p2 p4 p5 vI_1 (fun _ => (0 : Int32)) (fun _ => (0 : Int32)) (fun _ => (0 : Int32)) (fun _ => (0 : Int32)) (fun _ => (0 : Int32))) (vW_6 s1 d1 p2 p4 p5 vI_1 (fun _ => (0 : Int32)) (fun _ => (0 : Int32)) (fun _ => (0 : Int32)) (fun _ => (0 : Int32)) (fun _ => (0 : Int32)))) ((1 : Int32)).toNatClampNeg) = ((uM_2 s1 d1 s2 d2 p2 p3 p4 p5) + (uM_3 s1 d1 s2 d2 p2 p3 p4 p5)) then (1 : Int32) else (0 : Int32)) else (0 : Int32))
def uM_10 (s1 d1 s2 d2 p2 p3 p4 p5 : Int32) : Int32 := (if (uM_7 s1 d1 s2 d2 p2 p3 p4 p5) = (0 : Int32) then (0 : Int32) else (if ((vW_4 s2 d2 p3 p5 p4 vI_1 (vW_0 s1 d1 p2 p4 p5 vI_1 (fun _ => (0 : Int32)) (fun _ => (0 : Int32)) (fun _ => (0 : Int32)) (fun _ => (0 : Int32)) (fun _ => (0 : Int32))) (vW_1 s1 d1 p2 p4 p5 vI_1 (fun _ => (0 : Int32)) (fun _ => (0 : Int32)) (fun _ => (0 : Int32)) (fun _ => (0 : Int32)) (fun _ => (0 : Int32))) (vW_2 s1 d1 p2 p4 p5 vI_1 (fun _ => (0 : Int32)) (fun _ => (0 : Int32)) (fun _ => (0 : Int32)) (fun _ => (0 : Int32)) (fun _ => (0 : Int32))) (vW_4 s1 d1 p2 p4 p5 vI_1 (fun _ => (0 : Int32)) (fun _ => (0 : Int32)) (fun _ => (0 : Int32)) (fun _ => (0 : Int32)) (fun _ => (0 : Int32))) (vW_6 s1 d1 p2 p4 p5 vI_1 (fun _ => (0 : Int32)) (fun _ => (0 : Int32)) (fun _ => (0 : Int32)) (fun _ => (0 : Int32)) (fun _ => (0 : Int32)))) ((0 : Int32)).toNatClampNeg) = ((uM_0 s1 d1 s2 d2 p2 p3 p4 p5) + (uM_1 s1 d1 s2 d2 p2 p3 p4 p5)) then (if ((vW_4 s2 d2 p3 p5 p4 vI_1 (vW_0 s1 d1 p2 p4 p5 vI_1 (fun _ => (0 : Int32)) (fun _ => (0 : Int32)) (fun _ => (0 : Int32)) (fun _ => (0 : Int32)) (fun _ => (0 : Int32))) (vW_1 s1 d1 p2 p4 p5 vI_1 (fun _ => (0 : Int32)) (fun _ => (0 : Int32)) (fun _ => (0 : Int32)) (fun _ => (0 : Int32)) (fun _ => (0 : Int32))) (vW_2 s1 d1 p2 p4 p5 vI_1 (fun _ => (0 : Int32)) (fun _ => (0 : Int32)) (fun _ => (0 : Int32)) (fun _ => (0 : Int32)) (fun _ => (0 : Int32))) (vW_4 s1 d1 p2 p4 p5 vI_1 (fun _ => (0 : Int32)) (fun _ => (0 : Int32)) (fun _ => (0 : Int32)) (fun _ => (0 : Int32)) (fun _ => (0 : Int32))) (vW_6 s1 d1 p2 p4 p5 vI_1 (fun _ => (0 : Int32)) (fun _ => (0 : Int32)) (fun _ => (0 : Int32)) (fun _ => (0 : Int32)) (fun _ => (0 : Int32)))) ((1 : Int32)).toNatClampNeg) = ((uM_2 s1 d1 s2 d2 p2 p3 p4 p5) + (uM_3 s1 d1 s2 d2 p2 p3 p4 p5)) then (1 : Int32) else (0 : Int32)) else (0 : Int32)))
def uM_11 (s1 d1 s2 d2 p2 p3 p4 p5 : Int32) : Int32 := (if ((vW_6 s2 d2 p3 p5 p4 vI_1 (vW_0 s1 d1 p2 p4 p5 vI_1 (fun _ => (0 : Int32)) (fun _ => (0 : Int32)) (fun _ => (0 : Int32)) (fun _ => (0 : Int32)) (fun _ => (0 : Int32))) (vW_1 s1 d1 p2 p4 p5 vI_1 (fun _ => (0 : Int32)) (fun _ => (0 : Int32)) (fun _ => (0 : Int32)) (fun _ => (0 : Int32)) (fun _ => (0 : Int32))) (vW_2 s1 d1 p2 p4 p5 vI_1 (fun _ => (0 : Int32)) (fun _ => (0 : Int32)) (fun _ => (0 : Int32)) (fun _ => (0 : Int32)) (fun _ => (0 : Int32))) (vW_4 s1 d1 p2 p4 p5 vI_1 (fun _ => (0 : Int32)) (fun _ => (0 : Int32)) (fun _ => (0 : Int32)) (fun _ => (0 : Int32)) (fun _ => (0 : Int32))) (vW_6 s1 d1 p2 p4 p5 vI_1 (fun _ => (0 : Int32)) (fun _ => (0 : Int32)) (fun _ => (0 : Int32)) (fun _ => (0 : Int32)) (fun _ => (0 : Int32)))) ((1 : Int32)).toNatClampNeg) = ((uM_1 s1 d1 s2 d2 p2 p3 p4 p5) + (uM_3 s1 d1 s2 d2 p2 p3 p4 p5)) then (1 : Int32) else (0 : Int32))
def uM_12 (s1 d1 s2 d2 p2 p3 p4 p5 : Int32) : Int32 := (if ((vW_6 s2 d2 p3 p5 p4 vI_1 (vW_0 s1 d1 p2 p4 p5 vI_1 (fun _ => (0 : Int32)) (fun _ => (0 : Int32)) (fun _ => (0 : Int32)) (fun _ => (0 : Int32)) (fun _ => (0 : Int32))) (vW_1 s1 d1 p2 p4 p5 vI_1 (fun _ => (0 : Int32)) (fun _ => (0 : Int32)) (fun _ => (0 : Int32)) (fun _ => (0 : Int32)) (fun _ => (0 : Int32))) (vW_2 s1 d1 p2 p4 p5 vI_1 (fun _ => (0 : Int32)) (fun _ => (0 : Int32)) (fun _ => (0 : Int32)) (fun _ => (0 : Int32)) (fun _ => (0 : Int32))) (vW_4 s1 d1 p2 p4 p5 vI_1 (fun _ => (0 : Int32)) (fun _ => (0 : Int32)) (fun _ => (0 : Int32)) (fun _ => (0 : Int32)) (fun _ => (0 : Int32))) (vW_6 s1 d1 p2 p4 p5 vI_1 (fun _ => (0 : Int32)) (fun _ => (0 : Int32)) (fun _ => (0 : Int32)) (fun _ => (0 : Int32)) (fun _ => (0 : Int32)))) ((0 : Int32)).toNatClampNeg) = ((uM_0 s1 d1 s2 d2 p2 p3 p4 p5) + (uM_2 s1 d1 s2 d2 p2 p3 p4 p5)) then (if ((vW_6 s2 d2 p3 p5 p4 vI_1 (vW_0 s1 d1 p2 p4 p5 vI_1 (fun _ => (0 : Int32)) (fun _ => (0 : Int32)) (fun _ => (0 : Int32)) (fun _ => (0 : Int32)) (fun _ => (0 : Int32))) (vW_1 s1 d1 p2 p4 p5 vI_1 (fun _ => (0 : Int32)) (fun _ => (0 : Int32)) (fun _ => (0 : Int32)) (fun _ => (0 : Int32)) (fun _ => (0 : Int32))) (vW_2 s1 d1 p2 p4 p5 vI_1 (fun _ => (0 : Int32)) (fun _ => (0 : Int32)) (fun _ => (0 : Int32)) (fun _ => (0 : Int32)) (fun _ => (0 : Int32))) (vW_4 s1 d1 p2 p4 p5 vI_1 (fun _ => (0 : Int32)) (fun _ => (0 : Int32)) (fun _ => (0 : Int32)) (fun _ => (0 : Int32)) (fun _ => (0 : Int32))) (vW_6 s1 d1 p2 p4 p5 vI_1 (fun _ => (0 : Int32)) (fun _ => (0 : Int32)) (fun _ => (0 : Int32)) (fun _ => (0 : Int32)) (fun _ => (0 : Int32)))) ((1 : Int32)).toNatClampNeg) = ((uM_1 s1 d1 s2 d2 p2 p3 p4 p5) + (uM_3 s1 d1 s2 d2 p2 p3 p4 p5)) then (1 : Int32) else (0 : Int32)) else (0 : Int32))
def uM_13 (s1 d1 s2 d2 p2 p3 p4 p5 : Int32) : Int32 := (if (uM_10 s1 d1 s2 d2 p2 p3 p4 p5) = (0 : Int32) then (0 : Int32) else (if ((vW_6 s2 d2 p3 p5 p4 vI_1 (vW_0 s1 d1 p2 p4 p5 vI_1 (fun _ => (0 : Int32)) (fun _ => (0 : Int32)) (fun _ => (0 : Int32)) (fun _ => (0 : Int32)) (fun _ => (0 : Int32))) (vW_1 s1 d1 p2 p4 p5 vI_1 (fun _ => (0 : Int32)) (fun _ => (0 : Int32)) (fun _ => (0 : Int32)) (fun _ => (0 : Int32)) (fun _ => (0 : Int32))) (vW_2 s1 d1 p2 p4 p5 vI_1 (fun _ => (0 : Int32)) (fun _ => (0 : Int32)) (fun _ => (0 : Int32)) (fun _ => (0 : Int32)) (fun _ => (0 : Int32))) (vW_4 s1 d1 p2 p4 p5 vI_1 (fun _ => (0 : Int32)) (fun _ => (0 : Int32)) (fun _ => (0 : Int32)) (fun _ => (0 : Int32)) (fun _ => (0 : Int32))) (vW_6 s1 d1 p2 p4 p5 vI_1 (fun _ => (0 : Int32)) (fun _ => (0 : Int32)) (fun _ => (0 : Int32)) (fun _ => (0 : Int32)) (fun _ => (0 : Int32)))) ((0 : Int32)).toNatClampNeg) = ((uM_0 s1 d1 s2 d2 p2 p3 p4 p5) + (uM_2 s1 d1 s2 d2 p2 p3 p4 p5)) then (if ((vW_6 s2 d2 p3 p5 p4 vI_1 (vW_0 s1 d1 p2 p4 p5 vI_1 (fun _ => (0 : Int32)) (fun _ => (0 : Int32)) (fun _ => (0 : Int32)) (fun _ => (0 : Int32)) (fun _ => (0 : Int32))) (vW_1 s1 d1 p2 p4 p5 vI_1 (fun _ => (0 : Int32)) (fun _ => (0 : Int32)) (fun _ => (0 : Int32)) (fun _ => (0 : Int32)) (fun _ => (0 : Int32))) (vW_2 s1 d1 p2 p4 p5 vI_1 (fun _ => (0 : Int32)) (fun _ => (0 : Int32)) (fun _ => (0 : Int32)) (fun _ => (0 : Int32)) (fun _ => (0 : Int32))) (vW_4 s1 d1 p2 p4 p5 vI_1 (fun _ => (0 : Int32)) (fun _ => (0 : Int32)) (fun _ => (0 : Int32)) (fun _ => (0 : Int32)) (fun _ => (0 : Int32))) (vW_6 s1 d1 p2 p4 p5 vI_1 (fun _ => (0 : Int32)) (fun _ => (0 : Int32)) (fun _ => (0 : Int32)) (fun _ => (0 : Int32)) (fun _ => (0 : Int32)))) ((1 : Int32)).toNatClampNeg) = ((uM_1 s1 d1 s2 d2 p2 p3 p4 p5) + (uM_3 s1 d1 s2 d2 p2 p3 p4 p5)) then (1 : Int32) else (0 : Int32)) else (0 : Int32)))
set_option maxRecDepth 65536 in
set_option maxHeartbeats 40000000 in
theorem own_u (s1 d1 s2 d2 p2 p3 p4 p5 : Int32) (h1 : s1 = 0 ∨ s1 = 1) (h2 : d1 = 0 ∨ d1 = 1) (h3 : s2 = 0 ∨ s2 = 1) (h4 : d2 = 0 ∨ d2 = 1) : nar .boolean (uM_13 s1 d1 s2 d2 p2 p3 p4 p5) = 1 := by
  rcases h1 with rfl | rfl <;> rcases h2 with rfl | rfl <;> rcases h3 with rfl | rfl <;> rcases h4 with rfl | rfl <;> simp [uM_0, uM_1, uM_2, uM_3, uM_4, uM_5, uM_6, uM_7, uM_8, uM_9, uM_10, uM_11, uM_12, uM_13, ret_X, vI_0, vI_1, vW_0, vW_1, vW_2, vW_3, vW_4, vW_5, vW_6, own_x1, own_x2, own_x3, own_x4] <;> first | rfl | (rw [if_pos (Int32.add_comm p2 p3)]; rfl)
set_option maxRecDepth 65536 in
set_option maxHeartbeats 40000000 in
theorem leafM_0 (p0 : Int32) (p1 : Int32) (p2 : Int32) (p3 : Int32) (p4 : Int32) (p5 : Int32) : nar .boolean (vM_13 p0 p1 p2 p3 p4 p5) = 1 := by
  exact own_u (p0 &&& (1 : Int32)) ((p0 >>> ((1 : Int32) &&& 31)) &&& (1 : Int32)) (p1 &&& (1 : Int32)) ((p1 >>> ((1 : Int32) &&& 31)) &&& (1 : Int32)) p2 p3 p4 p5 (own_b1 _) (own_b1 _) (own_b1 _) (own_b1 _)
theorem efM (m : MethodId) (p0 : Int32) (p1 : Int32) (p2 : Int32) (p3 : Int32) (p4 : Int32) (p5 : Int32) : entryFrame m #[(.int p0), (.int p1), (.int p2), (.int p3), (.int p4), (.int p5)] maxLocals = mkF m 0 #[.val (.int p0), .val (.int p1), .val (.int p2), .val (.int p3), .val (.int p4), .val (.int p5), .unset, .unset, .unset, .unset, .unset, .unset, .unset, .unset, .unset, .unset] [] := by first | (simp [entryFrame, mkF, argsToLocals, Value.category, maxLocals]; done) | rfl
def QM (Z : State) (p0 : Int32) (p1 : Int32) (p2 : Int32) (p3 : Int32) (p4 : Int32) (p5 : Int32) (h0 : Heap) (n0 : Nat) (v : Option Value) (h : Heap) : Prop := v = some (.int 1)
set_option maxRecDepth 65536 in
set_option maxHeartbeats 40000000 in
theorem rmM (l : Launch) (Z : State) (aZ : Array Value) (hw : ∀ d ∈ tables_1, d.before aZ Z = true) (p0 : Int32) (p1 : Int32) (p2 : Int32) (p3 : Int32) (p4 : Int32) (p5 : Int32) (h0 : Heap) (n0 : Nat) (Z0 : n0 ≤ h0.size) :
    Ctr l Z x code maxLocals ret room_1 #[(.int p0), (.int p1), (.int p2), (.int p3), (.int p4), (.int p5)] h0 n0 (QM Z p0 p1 p2 p3 p4 p5 h0 n0) := by
  refine Ctr.of_go pn6 (fun m => efM m p0 p1 p2 p3 p4 p5) ?_
  intro p e s m below meth c hnm C
  refine g_iloadN C iM_0 rfl ?_
  refine g_iconst C (1 : Int32) iM_1 rfl ?_
  refine g_iand C iM_2 ?_
  refine g_istore C (Ls' := #[.val (.int p0), .val (.int p1), .val (.int p2), .val (.int p3), .val (.int p4), .val (.int p5), .val (.int (p0 &&& (1 : Int32))), .unset, .unset, .unset, .unset, .unset, .unset, .unset, .unset, .unset]) iM_3 rfl ?_
  refine g_iloadN C iM_5 rfl ?_
  refine g_iconst C (1 : Int32) iM_6 rfl ?_
  refine g_ishr C iM_7 ?_
  refine g_iconst C (1 : Int32) iM_8 rfl ?_
  refine g_iand C iM_9 ?_
  refine g_istore C (Ls' := #[.val (.int p0), .val (.int p1), .val (.int p2), .val (.int p3), .val (.int p4), .val (.int p5), .val (.int (p0 &&& (1 : Int32))), .val (.int ((p0 >>> ((1 : Int32) &&& 31)) &&& (1 : Int32))), .unset, .unset, .unset, .unset, .unset, .unset, .unset, .unset]) iM_10 rfl ?_
  refine g_iloadN C iM_12 rfl ?_
  refine g_iconst C (1 : Int32) iM_13 rfl ?_
  refine g_iand C iM_14 ?_
  refine g_istore C (Ls' := #[.val (.int p0), .val (.int p1), .val (.int p2), .val (.int p3), .val (.int p4), .val (.int p5), .val (.int (p0 &&& (1 : Int32))), .val (.int ((p0 >>> ((1 : Int32) &&& 31)) &&& (1 : Int32))), .val (.int (p1 &&& (1 : Int32))), .unset, .unset, .unset, .unset, .unset, .unset, .unset]) iM_15 rfl ?_
  refine g_iloadN C iM_17 rfl ?_
  refine g_iconst C (1 : Int32) iM_18 rfl ?_
  refine g_ishr C iM_19 ?_
  refine g_iconst C (1 : Int32) iM_20 rfl ?_
  refine g_iand C iM_21 ?_
  refine g_istore C (Ls' := #[.val (.int p0), .val (.int p1), .val (.int p2), .val (.int p3), .val (.int p4), .val (.int p5), .val (.int (p0 &&& (1 : Int32))), .val (.int ((p0 >>> ((1 : Int32) &&& 31)) &&& (1 : Int32))), .val (.int (p1 &&& (1 : Int32))), .val (.int ((p1 >>> ((1 : Int32) &&& 31)) &&& (1 : Int32))), .unset, .unset, .unset, .unset, .unset, .unset]) iM_22 rfl ?_
  refine g_newO C iM_24 (hw _ (List.mem_of_getElem? (i := 0) rfl)) (hw _ (List.mem_of_getElem? (i := 1) rfl)) (hw _ (List.mem_of_getElem? (i := 2) rfl)) (by decide) (by decide) rfl rfl (fun h41 b41 g41 E41 A41 D41 => ?_)
  have ge41 : n0 ≤ b41 := Nat.le_trans Z0 (Nat.le_of_eq g41.symm)
  have fr41 : h0.size ≤ b41 := Nat.le_trans (Keep.refl h0 []).1 (Nat.le_of_eq g41.symm)
  have K41 := Keep.ext (Keep.refl h0 []) E41
  have Z41 : n0 ≤ h41.size := Nat.le_trans Z0 E41.1
  have F41_lines : Fld Z h41 b41 "com/example/bandweave/bandweave/star/Transport" "lines" "[I" .null := D41 (Or.inr (hw _ (List.mem_of_getElem? (i := 11) rfl))) (ty := (.array .int)) (by decide)
  have F41_counts : Fld Z h41 b41 "com/example/bandweave/bandweave/star/Transport" "counts" "[I" .null := D41 (Or.inr (hw _ (List.mem_of_getElem? (i := 13) rfl))) (ty := (.array .int)) (by decide)
  have F41_least : Fld Z h41 b41 "com/example/bandweave/bandweave/star/Transport" "least" "[I" .null := D41 (Or.inr (hw _ (List.mem_of_getElem? (i := 15) rfl))) (ty := (.array .int)) (by decide)
  have F41_most : Fld Z h41 b41 "com/example/bandweave/bandweave/star/Transport" "most" "[I" .null := D41 (Or.inr (hw _ (List.mem_of_getElem? (i := 17) rfl))) (ty := (.array .int)) (by decide)
  have F41_totals : Fld Z h41 b41 "com/example/bandweave/bandweave/star/Transport" "totals" "[[I" .null := D41 (Or.inr (hw _ (List.mem_of_getElem? (i := 22) rfl))) (ty := (.array (.array .int))) (by decide)
  have F41_leastTotals : Fld Z h41 b41 "com/example/bandweave/bandweave/star/Transport" "leastTotals" "[[I" .null := D41 (Or.inr (hw _ (List.mem_of_getElem? (i := 24) rfl))) (ty := (.array (.array .int))) (by decide)
  have F41_mostTotals : Fld Z h41 b41 "com/example/bandweave/bandweave/star/Transport" "mostTotals" "[[I" .null := D41 (Or.inr (hw _ (List.mem_of_getElem? (i := 26) rfl))) (ty := (.array (.array .int))) (by decide)
  have F41_reached : Fld Z h41 b41 "com/example/bandweave/bandweave/star/Transport" "reached" "[[Z" .null := D41 (Or.inr (hw _ (List.mem_of_getElem? (i := 32) rfl))) (ty := (.array (.array .boolean))) (by decide)
  refine g_dup C iM_27 rfl ?_
  refine g_iconst C (2 : Int32) iM_28 rfl ?_
  refine g_iconst C (2 : Int32) iM_29 rfl ?_
  refine g_callI C (rmI l Z aZ hw b41 .null .null .null .null .null .null .null .null h41 n0 Z41 A41 F41_lines ge41 F41_counts F41_least F41_most F41_totals F41_leastTotals F41_mostTotals F41_reached) (a := b41) iM_30 rfl (hw _ (List.mem_of_getElem? (i := 3) rfl)) (hw _ (List.mem_of_getElem? (i := 4) rfl)) (hw _ (List.mem_of_getElem? (i := 2) rfl)) (hw _ (List.mem_of_getElem? (i := 5) rfl)) rfl (by decide) (argsL := [(.int (2 : Int32)), (.int (2 : Int32))]) (rest := [(.ref b41)]) rfl rfl pd0 rfl rfl 1 (Nat.le_of_eq rfl) (by decide) (by decide) (by decide) (by decide) rfl rfl ?_
  rintro _ h42 ⟨r42_fb0, r42_fb1, r42_fb2, r42_fb3, r42_fb4, r42_fb5, r42_fb6, rfl, ⟨ge42_fb0, fh42_fb0⟩, ⟨ge42_fb1, fh42_fb1⟩, ⟨ge42_fb2, fh42_fb2⟩, ⟨ge42_fb3, fh42_fb3⟩, ⟨ge42_fb4, fh42_fb4⟩, ⟨ge42_fb5, fh42_fb5⟩, ⟨ge42_fb6, fh42_fb6⟩, nf42_0, nf42_1, nf42_2, nf42_3, nf42_4, nf42_5, nf42_6, nf42_7, nf42_8, nf42_9, nf42_10, nf42_11, nf42_12, nf42_13, nf42_14, nf42_15, nf42_16, nf42_17, nf42_18, nf42_19, nf42_20, KC42, P42_0, P42_1, P42_2, P42_3, P42_4, P42_5, P42_6, P42_7, P42_8, P42_9, P42_10, P42_11, P42_12⟩
  refine Go.none' ?_
  have ne_b41_r42_fb0 : b41 ≠ r42_fb0 := Nat.ne_of_lt (Nat.lt_of_lt_of_le A41.lt fh42_fb0)
  have fr42_fb0 : h0.size ≤ r42_fb0 := Nat.le_trans K41.1 fh42_fb0
  have ne_b41_r42_fb1 : b41 ≠ r42_fb1 := Nat.ne_of_lt (Nat.lt_of_lt_of_le A41.lt fh42_fb1)
  have fr42_fb1 : h0.size ≤ r42_fb1 := Nat.le_trans K41.1 fh42_fb1
  have ne_b41_r42_fb2 : b41 ≠ r42_fb2 := Nat.ne_of_lt (Nat.lt_of_lt_of_le A41.lt fh42_fb2)
  have fr42_fb2 : h0.size ≤ r42_fb2 := Nat.le_trans K41.1 fh42_fb2
  have ne_b41_r42_fb3 : b41 ≠ r42_fb3 := Nat.ne_of_lt (Nat.lt_of_lt_of_le A41.lt fh42_fb3)
  have fr42_fb3 : h0.size ≤ r42_fb3 := Nat.le_trans K41.1 fh42_fb3
  have ne_b41_r42_fb4 : b41 ≠ r42_fb4 := Nat.ne_of_lt (Nat.lt_of_lt_of_le A41.lt fh42_fb4)
  have fr42_fb4 : h0.size ≤ r42_fb4 := Nat.le_trans K41.1 fh42_fb4
  have ne_b41_r42_fb5 : b41 ≠ r42_fb5 := Nat.ne_of_lt (Nat.lt_of_lt_of_le A41.lt fh42_fb5)
  have fr42_fb5 : h0.size ≤ r42_fb5 := Nat.le_trans K41.1 fh42_fb5
  have ne_b41_r42_fb6 : b41 ≠ r42_fb6 := Nat.ne_of_lt (Nat.lt_of_lt_of_le A41.lt fh42_fb6)
  have fr42_fb6 : h0.size ≤ r42_fb6 := Nat.le_trans K41.1 fh42_fb6
  have E_b41_cC42 := Exa.keep A41 KC42
  have K42 := Keep.trans K41 KC42 (allS (Or.inr fr41) all0)
  have Z42 : n0 ≤ h42.size := Nat.le_trans Z41 KC42.1
  refine g_astore C (Ls' := #[.val (.int p0), .val (.int p1), .val (.int p2), .val (.int p3), .val (.int p4), .val (.int p5), .val (.int (p0 &&& (1 : Int32))), .val (.int ((p0 >>> ((1 : Int32) &&& 31)) &&& (1 : Int32))), .val (.int (p1 &&& (1 : Int32))), .val (.int ((p1 >>> ((1 : Int32) &&& 31)) &&& (1 : Int32))), .val (.ref b41), .unset, .unset, .unset, .unset, .unset]) iM_33 rfl rfl ?_
  refine g_aload C iM_35 rfl rfl ?_
  refine g_iload C iM_37 rfl ?_
  refine g_iload C iM_39 rfl ?_
  refine g_iloadN C iM_41 rfl ?_
  refine g_iload C iM_42 rfl ?_
  refine g_iload C iM_44 rfl ?_
  refine g_callV C (rmW l Z aZ hw b41 (p0 &&& (1 : Int32)) ((p0 >>> ((1 : Int32) &&& 31)) &&& (1 : Int32)) p2 p4 p5 r42_fb4 r42_fb5 r42_fb6 r42_fb1 r42_fb0 r42_fb2 r42_fb3 vI_1 (fun _ => (0 : Int32)) (fun _ => (0 : Int32)) (fun _ => (0 : Int32)) (fun _ => (0 : Int32)) (fun _ => (0 : Int32)) h42 n0 Z42 P42_12 P42_4 P42_9 P42_8 P42_0 P42_1 (own_i4 (own_b1 _) (own_b1 _)) P42_10 P42_11 P42_2 P42_3 P42_5 P42_6 (own_i2 (own_b1 _)) (own_i2 (own_b1 _)) ge42_fb1 ne_b41_r42_fb1 nf42_8 (Ne.symm nf42_0) nf42_6 nf42_7 nf42_9 nf42_10 ge42_fb2 ne_b41_r42_fb2 nf42_12 (Ne.symm nf42_1) nf42_11 nf42_13 nf42_14 ge42_fb3 ne_b41_r42_fb3 nf42_15 nf42_2 nf42_16 nf42_17 ge42_fb5 ne_b41_r42_fb5 (Ne.symm nf42_18) nf42_4 nf42_20 ge42_fb6 ne_b41_r42_fb6 (Ne.symm nf42_19) nf42_5) (a := b41) iM_46 (hw _ (List.mem_of_getElem? (i := 33) rfl)) (hw _ (List.mem_of_getElem? (i := 34) rfl)) (fun s hZ => notFace_of_selects (args := #[]) (mvT hZ (hw _ (List.mem_of_getElem? (i := 36) rfl)))) (hw _ (List.mem_of_getElem? (i := 36) rfl)) (hw _ (List.mem_of_getElem? (i := 35) rfl)) (hw _ (List.mem_of_getElem? (i := 2) rfl)) (hw _ (List.mem_of_getElem? (i := 37) rfl)) (by decide) P42_7 (argsL := [(.int (p0 &&& (1 : Int32))), (.int ((p0 >>> ((1 : Int32) &&& 31)) &&& (1 : Int32))), (.int p2), (.int p4), (.int p5)]) (rest := []) rfl rfl pd1 rfl rfl 0 (Nat.le_of_eq rfl) (by decide) (by decide) (by decide) (by decide) rfl rfl ?_
  rintro _ h43 ⟨rfl, KC43, P43_0, P43_1, P43_2, P43_3, P43_4⟩
  refine Go.none' ?_
  have E_b41_cC43 := Exa.keep P42_7 KC43
  have V_r42_fb0_cC43 := AV.keep P42_0 KC43 (ninS nf42_0 (ninS nf42_1 (ninS nf42_2 (ninS nf42_4 (ninS nf42_5 nin0)))))
  have V_r42_fb4_cC43 := AV.keep P42_4 KC43 (ninS (Ne.symm nf42_8) (ninS (Ne.symm nf42_12) (ninS (Ne.symm nf42_15) (ninS nf42_18 (ninS nf42_19 nin0)))))
  have F_lines_b41_cC43 := Fld.keep P42_8 KC43 (ninS ne_b41_r42_fb1 (ninS ne_b41_r42_fb2 (ninS ne_b41_r42_fb3 (ninS ne_b41_r42_fb5 (ninS ne_b41_r42_fb6 nin0)))))
  have F_counts_b41_cC43 := Fld.keep P42_9 KC43 (ninS ne_b41_r42_fb1 (ninS ne_b41_r42_fb2 (ninS ne_b41_r42_fb3 (ninS ne_b41_r42_fb5 (ninS ne_b41_r42_fb6 nin0)))))
  have F_least_b41_cC43 := Fld.keep P42_10 KC43 (ninS ne_b41_r42_fb1 (ninS ne_b41_r42_fb2 (ninS ne_b41_r42_fb3 (ninS ne_b41_r42_fb5 (ninS ne_b41_r42_fb6 nin0)))))
  have F_most_b41_cC43 := Fld.keep P42_11 KC43 (ninS ne_b41_r42_fb1 (ninS ne_b41_r42_fb2 (ninS ne_b41_r42_fb3 (ninS ne_b41_r42_fb5 (ninS ne_b41_r42_fb6 nin0)))))
  have F_totals_b41_cC43 := Fld.keep P42_12 KC43 (ninS ne_b41_r42_fb1 (ninS ne_b41_r42_fb2 (ninS ne_b41_r42_fb3 (ninS ne_b41_r42_fb5 (ninS ne_b41_r42_fb6 nin0)))))
  have K43 := Keep.trans K42 KC43 (allS (Or.inr fr42_fb1) (allS (Or.inr fr42_fb2) (allS (Or.inr fr42_fb3) (allS (Or.inr fr42_fb5) (allS (Or.inr fr42_fb6) all0)))))
  have Z43 : n0 ≤ h43.size := Nat.le_trans Z42 KC43.1
  refine g_aload C iM_49 rfl rfl ?_
  refine g_iload C iM_51 rfl ?_
  refine g_iload C iM_53 rfl ?_
  refine g_iloadN C iM_55 rfl ?_
  refine g_iload C iM_56 rfl ?_
  refine g_iload C iM_58 rfl ?_
  refine g_callV C (rmW l Z aZ hw b41 (p1 &&& (1 : Int32)) ((p1 >>> ((1 : Int32) &&& 31)) &&& (1 : Int32)) p3 p5 p4 r42_fb4 r42_fb5 r42_fb6 r42_fb1 r42_fb0 r42_fb2 r42_fb3 vI_1 (vW_0 (p0 &&& (1 : Int32)) ((p0 >>> ((1 : Int32) &&& 31)) &&& (1 : Int32)) p2 p4 p5 vI_1 (fun _ => (0 : Int32)) (fun _ => (0 : Int32)) (fun _ => (0 : Int32)) (fun _ => (0 : Int32)) (fun _ => (0 : Int32))) (vW_1 (p0 &&& (1 : Int32)) ((p0 >>> ((1 : Int32) &&& 31)) &&& (1 : Int32)) p2 p4 p5 vI_1 (fun _ => (0 : Int32)) (fun _ => (0 : Int32)) (fun _ => (0 : Int32)) (fun _ => (0 : Int32)) (fun _ => (0 : Int32))) (vW_2 (p0 &&& (1 : Int32)) ((p0 >>> ((1 : Int32) &&& 31)) &&& (1 : Int32)) p2 p4 p5 vI_1 (fun _ => (0 : Int32)) (fun _ => (0 : Int32)) (fun _ => (0 : Int32)) (fun _ => (0 : Int32)) (fun _ => (0 : Int32))) (vW_4 (p0 &&& (1 : Int32)) ((p0 >>> ((1 : Int32) &&& 31)) &&& (1 : Int32)) p2 p4 p5 vI_1 (fun _ => (0 : Int32)) (fun _ => (0 : Int32)) (fun _ => (0 : Int32)) (fun _ => (0 : Int32)) (fun _ => (0 : Int32))) (vW_6 (p0 &&& (1 : Int32)) ((p0 >>> ((1 : Int32) &&& 31)) &&& (1 : Int32)) p2 p4 p5 vI_1 (fun _ => (0 : Int32)) (fun _ => (0 : Int32)) (fun _ => (0 : Int32)) (fun _ => (0 : Int32)) (fun _ => (0 : Int32))) h43 n0 Z43 F_totals_b41_cC43 V_r42_fb4_cC43 F_counts_b41_cC43 F_lines_b41_cC43 V_r42_fb0_cC43 P43_0 (own_i4 (own_b1 _) (own_b1 _)) F_least_b41_cC43 F_most_b41_cC43 P43_1 P43_2 P43_3 P43_4 (own_i2 (own_b1 _)) (own_i2 (own_b1 _)) ge42_fb1 ne_b41_r42_fb1 nf42_8 (Ne.symm nf42_0) nf42_6 nf42_7 nf42_9 nf42_10 ge42_fb2 ne_b41_r42_fb2 nf42_12 (Ne.symm nf42_1) nf42_11 nf42_13 nf42_14 ge42_fb3 ne_b41_r42_fb3 nf42_15 nf42_2 nf42_16 nf42_17 ge42_fb5 ne_b41_r42_fb5 (Ne.symm nf42_18) nf42_4 nf42_20 ge42_fb6 ne_b41_r42_fb6 (Ne.symm nf42_19) nf42_5) (a := b41) iM_60 (hw _ (List.mem_of_getElem? (i := 33) rfl)) (hw _ (List.mem_of_getElem? (i := 34) rfl)) (fun s hZ => notFace_of_selects (args := #[]) (mvT hZ (hw _ (List.mem_of_getElem? (i := 36) rfl)))) (hw _ (List.mem_of_getElem? (i := 36) rfl)) (hw _ (List.mem_of_getElem? (i := 35) rfl)) (hw _ (List.mem_of_getElem? (i := 2) rfl)) (hw _ (List.mem_of_getElem? (i := 37) rfl)) (by decide) E_b41_cC43 (argsL := [(.int (p1 &&& (1 : Int32))), (.int ((p1 >>> ((1 : Int32) &&& 31)) &&& (1 : Int32))), (.int p3), (.int p5), (.int p4)]) (rest := []) rfl rfl pd1 rfl rfl 0 (Nat.le_of_eq rfl) (by decide) (by decide) (by decide) (by decide) rfl rfl ?_
  rintro _ h44 ⟨rfl, KC44, P44_0, P44_1, P44_2, P44_3, P44_4⟩
  refine Go.none' ?_
  have E_b41_cC44 := Exa.keep E_b41_cC43 KC44
  have V_r42_fb0_cC44 := AV.keep V_r42_fb0_cC43 KC44 (ninS nf42_0 (ninS nf42_1 (ninS nf42_2 (ninS nf42_4 (ninS nf42_5 nin0)))))
  have V_r42_fb4_cC44 := AV.keep V_r42_fb4_cC43 KC44 (ninS (Ne.symm nf42_8) (ninS (Ne.symm nf42_12) (ninS (Ne.symm nf42_15) (ninS nf42_18 (ninS nf42_19 nin0)))))
  have F_lines_b41_cC44 := Fld.keep F_lines_b41_cC43 KC44 (ninS ne_b41_r42_fb1 (ninS ne_b41_r42_fb2 (ninS ne_b41_r42_fb3 (ninS ne_b41_r42_fb5 (ninS ne_b41_r42_fb6 nin0)))))
  have F_counts_b41_cC44 := Fld.keep F_counts_b41_cC43 KC44 (ninS ne_b41_r42_fb1 (ninS ne_b41_r42_fb2 (ninS ne_b41_r42_fb3 (ninS ne_b41_r42_fb5 (ninS ne_b41_r42_fb6 nin0)))))
  have F_least_b41_cC44 := Fld.keep F_least_b41_cC43 KC44 (ninS ne_b41_r42_fb1 (ninS ne_b41_r42_fb2 (ninS ne_b41_r42_fb3 (ninS ne_b41_r42_fb5 (ninS ne_b41_r42_fb6 nin0)))))
  have F_most_b41_cC44 := Fld.keep F_most_b41_cC43 KC44 (ninS ne_b41_r42_fb1 (ninS ne_b41_r42_fb2 (ninS ne_b41_r42_fb3 (ninS ne_b41_r42_fb5 (ninS ne_b41_r42_fb6 nin0)))))
  have F_totals_b41_cC44 := Fld.keep F_totals_b41_cC43 KC44 (ninS ne_b41_r42_fb1 (ninS ne_b41_r42_fb2 (ninS ne_b41_r42_fb3 (ninS ne_b41_r42_fb5 (ninS ne_b41_r42_fb6 nin0)))))
  have K44 := Keep.trans K43 KC44 (allS (Or.inr fr42_fb1) (allS (Or.inr fr42_fb2) (allS (Or.inr fr42_fb3) (allS (Or.inr fr42_fb5) (allS (Or.inr fr42_fb6) all0)))))
  have Z44 : n0 ≤ h44.size := Nat.le_trans Z43 KC44.1
  refine g_iconst C (0 : Int32) iM_63 rfl ?_
  refine g_iconst C (0 : Int32) iM_64 rfl ?_
  refine g_iload C iM_65 rfl ?_
  refine g_iload C iM_67 rfl ?_
  refine g_iloadN C iM_69 rfl ?_
  refine g_iload C iM_70 rfl ?_
  refine g_iload C iM_72 rfl ?_
  refine g_iloadN C iM_74 rfl ?_
  refine g_callS C (rmX l Z aZ hw (0 : Int32) (0 : Int32) (p0 &&& (1 : Int32)) ((p0 >>> ((1 : Int32) &&& 31)) &&& (1 : Int32)) p2 (p1 &&& (1 : Int32)) ((p1 >>> ((1 : Int32) &&& 31)) &&& (1 : Int32)) p3 h44 n0 Z44) iM_75 (hw _ (List.mem_of_getElem? (i := 38) rfl)) (hw _ (List.mem_of_getElem? (i := 39) rfl)) (hw _ (List.mem_of_getElem? (i := 40) rfl)) (hw _ (List.mem_of_getElem? (i := 41) rfl)) (by decide) (argsL := [(.int (0 : Int32)), (.int (0 : Int32)), (.int (p0 &&& (1 : Int32))), (.int ((p0 >>> ((1 : Int32) &&& 31)) &&& (1 : Int32))), (.int p2), (.int (p1 &&& (1 : Int32))), (.int ((p1 >>> ((1 : Int32) &&& 31)) &&& (1 : Int32))), (.int p3)]) (rest := []) rfl rfl pd2 rfl rfl 0 (Nat.le_of_eq rfl) (by decide) (by decide) (by decide) (by decide) rfl rfl ?_
  rintro _ _ ⟨rfl, he45⟩
  refine Go.heap he45.symm ?_
  refine Go.some' ?_
  refine g_istore C (Ls' := #[.val (.int p0), .val (.int p1), .val (.int p2), .val (.int p3), .val (.int p4), .val (.int p5), .val (.int (p0 &&& (1 : Int32))), .val (.int ((p0 >>> ((1 : Int32) &&& 31)) &&& (1 : Int32))), .val (.int (p1 &&& (1 : Int32))), .val (.int ((p1 >>> ((1 : Int32) &&& 31)) &&& (1 : Int32))), .val (.ref b41), .val (.int (vM_0 p0 p1 p2 p3 p4 p5)), .unset, .unset, .unset, .unset]) iM_78 rfl ?_
  refine g_iconst C (0 : Int32) iM_80 rfl ?_
  refine g_iconst C (1 : Int32) iM_81 rfl ?_
  refine g_iload C iM_82 rfl ?_
  refine g_iload C iM_84 rfl ?_
  refine g_iloadN C iM_86 rfl ?_
  refine g_iload C iM_87 rfl ?_
  refine g_iload C iM_89 rfl ?_
  refine g_iloadN C iM_91 rfl ?_
  refine g_callS C (rmX l Z aZ hw (0 : Int32) (1 : Int32) (p0 &&& (1 : Int32)) ((p0 >>> ((1 : Int32) &&& 31)) &&& (1 : Int32)) p2 (p1 &&& (1 : Int32)) ((p1 >>> ((1 : Int32) &&& 31)) &&& (1 : Int32)) p3 h44 n0 Z44) iM_92 (hw _ (List.mem_of_getElem? (i := 38) rfl)) (hw _ (List.mem_of_getElem? (i := 39) rfl)) (hw _ (List.mem_of_getElem? (i := 40) rfl)) (hw _ (List.mem_of_getElem? (i := 41) rfl)) (by decide) (argsL := [(.int (0 : Int32)), (.int (1 : Int32)), (.int (p0 &&& (1 : Int32))), (.int ((p0 >>> ((1 : Int32) &&& 31)) &&& (1 : Int32))), (.int p2), (.int (p1 &&& (1 : Int32))), (.int ((p1 >>> ((1 : Int32) &&& 31)) &&& (1 : Int32))), (.int p3)]) (rest := []) rfl rfl pd2 rfl rfl 0 (Nat.le_of_eq rfl) (by decide) (by decide) (by decide) (by decide) rfl rfl ?_
  rintro _ _ ⟨rfl, he46⟩
  refine Go.heap he46.symm ?_
  refine Go.some' ?_
  refine g_istore C (Ls' := #[.val (.int p0), .val (.int p1), .val (.int p2), .val (.int p3), .val (.int p4), .val (.int p5), .val (.int (p0 &&& (1 : Int32))), .val (.int ((p0 >>> ((1 : Int32) &&& 31)) &&& (1 : Int32))), .val (.int (p1 &&& (1 : Int32))), .val (.int ((p1 >>> ((1 : Int32) &&& 31)) &&& (1 : Int32))), .val (.ref b41), .val (.int (vM_0 p0 p1 p2 p3 p4 p5)), .val (.int (vM_1 p0 p1 p2 p3 p4 p5)), .unset, .unset, .unset]) iM_95 rfl ?_
  refine g_iconst C (1 : Int32) iM_97 rfl ?_
  refine g_iconst C (0 : Int32) iM_98 rfl ?_
  refine g_iload C iM_99 rfl ?_
  refine g_iload C iM_101 rfl ?_
  refine g_iloadN C iM_103 rfl ?_
  refine g_iload C iM_104 rfl ?_
  refine g_iload C iM_106 rfl ?_
  refine g_iloadN C iM_108 rfl ?_
  refine g_callS C (rmX l Z aZ hw (1 : Int32) (0 : Int32) (p0 &&& (1 : Int32)) ((p0 >>> ((1 : Int32) &&& 31)) &&& (1 : Int32)) p2 (p1 &&& (1 : Int32)) ((p1 >>> ((1 : Int32) &&& 31)) &&& (1 : Int32)) p3 h44 n0 Z44) iM_109 (hw _ (List.mem_of_getElem? (i := 38) rfl)) (hw _ (List.mem_of_getElem? (i := 39) rfl)) (hw _ (List.mem_of_getElem? (i := 40) rfl)) (hw _ (List.mem_of_getElem? (i := 41) rfl)) (by decide) (argsL := [(.int (1 : Int32)), (.int (0 : Int32)), (.int (p0 &&& (1 : Int32))), (.int ((p0 >>> ((1 : Int32) &&& 31)) &&& (1 : Int32))), (.int p2), (.int (p1 &&& (1 : Int32))), (.int ((p1 >>> ((1 : Int32) &&& 31)) &&& (1 : Int32))), (.int p3)]) (rest := []) rfl rfl pd2 rfl rfl 0 (Nat.le_of_eq rfl) (by decide) (by decide) (by decide) (by decide) rfl rfl ?_
  rintro _ _ ⟨rfl, he47⟩
  refine Go.heap he47.symm ?_
  refine Go.some' ?_
  refine g_istore C (Ls' := #[.val (.int p0), .val (.int p1), .val (.int p2), .val (.int p3), .val (.int p4), .val (.int p5), .val (.int (p0 &&& (1 : Int32))), .val (.int ((p0 >>> ((1 : Int32) &&& 31)) &&& (1 : Int32))), .val (.int (p1 &&& (1 : Int32))), .val (.int ((p1 >>> ((1 : Int32) &&& 31)) &&& (1 : Int32))), .val (.ref b41), .val (.int (vM_0 p0 p1 p2 p3 p4 p5)), .val (.int (vM_1 p0 p1 p2 p3 p4 p5)), .val (.int (vM_2 p0 p1 p2 p3 p4 p5)), .unset, .unset]) iM_112 rfl ?_
  refine g_iconst C (1 : Int32) iM_114 rfl ?_
  refine g_iconst C (1 : Int32) iM_115 rfl ?_
  refine g_iload C iM_116 rfl ?_
  refine g_iload C iM_118 rfl ?_
  refine g_iloadN C iM_120 rfl ?_
  refine g_iload C iM_121 rfl ?_
  refine g_iload C iM_123 rfl ?_
  refine g_iloadN C iM_125 rfl ?_
  refine g_callS C (rmX l Z aZ hw (1 : Int32) (1 : Int32) (p0 &&& (1 : Int32)) ((p0 >>> ((1 : Int32) &&& 31)) &&& (1 : Int32)) p2 (p1 &&& (1 : Int32)) ((p1 >>> ((1 : Int32) &&& 31)) &&& (1 : Int32)) p3 h44 n0 Z44) iM_126 (hw _ (List.mem_of_getElem? (i := 38) rfl)) (hw _ (List.mem_of_getElem? (i := 39) rfl)) (hw _ (List.mem_of_getElem? (i := 40) rfl)) (hw _ (List.mem_of_getElem? (i := 41) rfl)) (by decide) (argsL := [(.int (1 : Int32)), (.int (1 : Int32)), (.int (p0 &&& (1 : Int32))), (.int ((p0 >>> ((1 : Int32) &&& 31)) &&& (1 : Int32))), (.int p2), (.int (p1 &&& (1 : Int32))), (.int ((p1 >>> ((1 : Int32) &&& 31)) &&& (1 : Int32))), (.int p3)]) (rest := []) rfl rfl pd2 rfl rfl 0 (Nat.le_of_eq rfl) (by decide) (by decide) (by decide) (by decide) rfl rfl ?_
  rintro _ _ ⟨rfl, he48⟩
  refine Go.heap he48.symm ?_
  refine Go.some' ?_
  refine g_istore C (Ls' := #[.val (.int p0), .val (.int p1), .val (.int p2), .val (.int p3), .val (.int p4), .val (.int p5), .val (.int (p0 &&& (1 : Int32))), .val (.int ((p0 >>> ((1 : Int32) &&& 31)) &&& (1 : Int32))), .val (.int (p1 &&& (1 : Int32))), .val (.int ((p1 >>> ((1 : Int32) &&& 31)) &&& (1 : Int32))), .val (.ref b41), .val (.int (vM_0 p0 p1 p2 p3 p4 p5)), .val (.int (vM_1 p0 p1 p2 p3 p4 p5)), .val (.int (vM_2 p0 p1 p2 p3 p4 p5)), .val (.int (vM_3 p0 p1 p2 p3 p4 p5)), .unset]) iM_129 rfl ?_
  refine g_aload C iM_131 rfl rfl ?_
  refine g_iconst C (0 : Int32) iM_133 rfl ?_
  refine g_iconst C (0 : Int32) iM_134 rfl ?_
  refine g_callV C (rmU l Z aZ hw b41 (0 : Int32) (0 : Int32) r42_fb1 r42_fb0 vI_1 (vW_0 (p1 &&& (1 : Int32)) ((p1 >>> ((1 : Int32) &&& 31)) &&& (1 : Int32)) p3 p5 p4 vI_1 (vW_0 (p0 &&& (1 : Int32)) ((p0 >>> ((1 : Int32) &&& 31)) &&& (1 : Int32)) p2 p4 p5 vI_1 (fun _ => (0 : Int32)) (fun _ => (0 : Int32)) (fun _ => (0 : Int32)) (fun _ => (0 : Int32)) (fun _ => (0 : Int32))) (vW_1 (p0 &&& (1 : Int32)) ((p0 >>> ((1 : Int32) &&& 31)) &&& (1 : Int32)) p2 p4 p5 vI_1 (fun _ => (0 : Int32)) (fun _ => (0 : Int32)) (fun _ => (0 : Int32)) (fun _ => (0 : Int32)) (fun _ => (0 : Int32))) (vW_2 (p0 &&& (1 : Int32)) ((p0 >>> ((1 : Int32) &&& 31)) &&& (1 : Int32)) p2 p4 p5 vI_1 (fun _ => (0 : Int32)) (fun _ => (0 : Int32)) (fun _ => (0 : Int32)) (fun _ => (0 : Int32)) (fun _ => (0 : Int32))) (vW_4 (p0 &&& (1 : Int32)) ((p0 >>> ((1 : Int32) &&& 31)) &&& (1 : Int32)) p2 p4 p5 vI_1 (fun _ => (0 : Int32)) (fun _ => (0 : Int32)) (fun _ => (0 : Int32)) (fun _ => (0 : Int32)) (fun _ => (0 : Int32))) (vW_6 (p0 &&& (1 : Int32)) ((p0 >>> ((1 : Int32) &&& 31)) &&& (1 : Int32)) p2 p4 p5 vI_1 (fun _ => (0 : Int32)) (fun _ => (0 : Int32)) (fun _ => (0 : Int32)) (fun _ => (0 : Int32)) (fun _ => (0 : Int32)))) h44 n0 Z44 F_counts_b41_cC44 F_lines_b41_cC44 V_r42_fb0_cC44 P44_0 (⟨by decide, by decide⟩)) (a := b41) iM_135 (hw _ (List.mem_of_getElem? (i := 42) rfl)) (hw _ (List.mem_of_getElem? (i := 43) rfl)) (fun s hZ => notFace_of_selects (args := #[]) (mvT hZ (hw _ (List.mem_of_getElem? (i := 45) rfl)))) (hw _ (List.mem_of_getElem? (i := 45) rfl)) (hw _ (List.mem_of_getElem? (i := 44) rfl)) (hw _ (List.mem_of_getElem? (i := 2) rfl)) (hw _ (List.mem_of_getElem? (i := 46) rfl)) (by decide) E_b41_cC44 (argsL := [(.int (0 : Int32)), (.int (0 : Int32))]) (rest := []) rfl rfl pd3 rfl rfl 0 (Nat.le_of_eq rfl) (by decide) (by decide) (by decide) (by decide) rfl rfl ?_
  rintro _ _ ⟨rfl, he49⟩
  refine Go.heap he49.symm ?_
  refine Go.some' ?_
  refine g_iload C iM_138 rfl ?_
  refine Go.join (mkF m 184 #[.val (.int p0), .val (.int p1), .val (.int p2), .val (.int p3), .val (.int p4), .val (.int p5), .val (.int (p0 &&& (1 : Int32))), .val (.int ((p0 >>> ((1 : Int32) &&& 31)) &&& (1 : Int32))), .val (.int (p1 &&& (1 : Int32))), .val (.int ((p1 >>> ((1 : Int32) &&& 31)) &&& (1 : Int32))), .val (.ref b41), .val (.int (vM_0 p0 p1 p2 p3 p4 p5)), .val (.int (vM_1 p0 p1 p2 p3 p4 p5)), .val (.int (vM_2 p0 p1 p2 p3 p4 p5)), .val (.int (vM_3 p0 p1 p2 p3 p4 p5)), .unset] [(.int (vM_7 p0 p1 p2 p3 p4 p5))]) ?_ (fun J => ?_)
  · refine g_istore C (Ls' := #[.val (.int p0), .val (.int p1), .val (.int p2), .val (.int p3), .val (.int p4), .val (.int p5), .val (.int (p0 &&& (1 : Int32))), .val (.int ((p0 >>> ((1 : Int32) &&& 31)) &&& (1 : Int32))), .val (.int (p1 &&& (1 : Int32))), .val (.int ((p1 >>> ((1 : Int32) &&& 31)) &&& (1 : Int32))), .val (.ref b41), .val (.int (vM_0 p0 p1 p2 p3 p4 p5)), .val (.int (vM_1 p0 p1 p2 p3 p4 p5)), .val (.int (vM_2 p0 p1 p2 p3 p4 p5)), .val (.int (vM_3 p0 p1 p2 p3 p4 p5)), .val (.int (vM_7 p0 p1 p2 p3 p4 p5))]) iM_184 rfl ?_
    refine g_iload C iM_186 rfl ?_
    refine Go.join (mkF m 224 #[.val (.int p0), .val (.int p1), .val (.int p2), .val (.int p3), .val (.int p4), .val (.int p5), .val (.int (p0 &&& (1 : Int32))), .val (.int ((p0 >>> ((1 : Int32) &&& 31)) &&& (1 : Int32))), .val (.int (p1 &&& (1 : Int32))), .val (.int ((p1 >>> ((1 : Int32) &&& 31)) &&& (1 : Int32))), .val (.ref b41), .val (.int (vM_0 p0 p1 p2 p3 p4 p5)), .val (.int (vM_1 p0 p1 p2 p3 p4 p5)), .val (.int (vM_2 p0 p1 p2 p3 p4 p5)), .val (.int (vM_3 p0 p1 p2 p3 p4 p5)), .val (.int (vM_7 p0 p1 p2 p3 p4 p5))] [(.int (vM_10 p0 p1 p2 p3 p4 p5))]) ?_ (fun J => ?_)
    · refine g_istore C (Ls' := #[.val (.int p0), .val (.int p1), .val (.int p2), .val (.int p3), .val (.int p4), .val (.int p5), .val (.int (p0 &&& (1 : Int32))), .val (.int ((p0 >>> ((1 : Int32) &&& 31)) &&& (1 : Int32))), .val (.int (p1 &&& (1 : Int32))), .val (.int ((p1 >>> ((1 : Int32) &&& 31)) &&& (1 : Int32))), .val (.ref b41), .val (.int (vM_0 p0 p1 p2 p3 p4 p5)), .val (.int (vM_1 p0 p1 p2 p3 p4 p5)), .val (.int (vM_2 p0 p1 p2 p3 p4 p5)), .val (.int (vM_3 p0 p1 p2 p3 p4 p5)), .val (.int (vM_10 p0 p1 p2 p3 p4 p5))]) iM_224 rfl ?_
      refine g_iload C iM_226 rfl ?_
      refine Go.join (mkF m 264 #[.val (.int p0), .val (.int p1), .val (.int p2), .val (.int p3), .val (.int p4), .val (.int p5), .val (.int (p0 &&& (1 : Int32))), .val (.int ((p0 >>> ((1 : Int32) &&& 31)) &&& (1 : Int32))), .val (.int (p1 &&& (1 : Int32))), .val (.int ((p1 >>> ((1 : Int32) &&& 31)) &&& (1 : Int32))), .val (.ref b41), .val (.int (vM_0 p0 p1 p2 p3 p4 p5)), .val (.int (vM_1 p0 p1 p2 p3 p4 p5)), .val (.int (vM_2 p0 p1 p2 p3 p4 p5)), .val (.int (vM_3 p0 p1 p2 p3 p4 p5)), .val (.int (vM_10 p0 p1 p2 p3 p4 p5))] [(.int (vM_13 p0 p1 p2 p3 p4 p5))]) ?_ (fun J => ?_)
      · refine g_istore C (Ls' := #[.val (.int p0), .val (.int p1), .val (.int p2), .val (.int p3), .val (.int p4), .val (.int p5), .val (.int (p0 &&& (1 : Int32))), .val (.int ((p0 >>> ((1 : Int32) &&& 31)) &&& (1 : Int32))), .val (.int (p1 &&& (1 : Int32))), .val (.int ((p1 >>> ((1 : Int32) &&& 31)) &&& (1 : Int32))), .val (.ref b41), .val (.int (vM_0 p0 p1 p2 p3 p4 p5)), .val (.int (vM_1 p0 p1 p2 p3 p4 p5)), .val (.int (vM_2 p0 p1 p2 p3 p4 p5)), .val (.int (vM_3 p0 p1 p2 p3 p4 p5)), .val (.int (vM_13 p0 p1 p2 p3 p4 p5))]) iM_264 rfl ?_
        refine g_iload C iM_266 rfl ?_
        exact g_retNar C (t := .boolean) iM_268 rfl (by simp) (by decide) (by decide) (show _ = _ from congrArg (fun z => some (Value.int z)) (leafM_0 p0 p1 p2 p3 p4 p5))
      · refine g_if_eq C iM_228 (fun hc228_1 => ?_) (fun hc228_1 => ?_)
        · refine g_iconst C (0 : Int32) iM_263 rfl ?_
          have e0 : (vM_13 p0 p1 p2 p3 p4 p5) = (0 : Int32) := by simp only [vM_13, if_pos hc228_1]
          exact Go.cast J (by rw [e0])
        · refine g_aload C iM_231 rfl rfl ?_
          refine g_iconst C (0 : Int32) iM_233 rfl ?_
          refine g_callV C (rmD l Z aZ hw b41 (0 : Int32) r42_fb4 r42_fb5 r42_fb6 (vW_6 (p1 &&& (1 : Int32)) ((p1 >>> ((1 : Int32) &&& 31)) &&& (1 : Int32)) p3 p5 p4 vI_1 (vW_0 (p0 &&& (1 : Int32)) ((p0 >>> ((1 : Int32) &&& 31)) &&& (1 : Int32)) p2 p4 p5 vI_1 (fun _ => (0 : Int32)) (fun _ => (0 : Int32)) (fun _ => (0 : Int32)) (fun _ => (0 : Int32)) (fun _ => (0 : Int32))) (vW_1 (p0 &&& (1 : Int32)) ((p0 >>> ((1 : Int32) &&& 31)) &&& (1 : Int32)) p2 p4 p5 vI_1 (fun _ => (0 : Int32)) (fun _ => (0 : Int32)) (fun _ => (0 : Int32)) (fun _ => (0 : Int32)) (fun _ => (0 : Int32))) (vW_2 (p0 &&& (1 : Int32)) ((p0 >>> ((1 : Int32) &&& 31)) &&& (1 : Int32)) p2 p4 p5 vI_1 (fun _ => (0 : Int32)) (fun _ => (0 : Int32)) (fun _ => (0 : Int32)) (fun _ => (0 : Int32)) (fun _ => (0 : Int32))) (vW_4 (p0 &&& (1 : Int32)) ((p0 >>> ((1 : Int32) &&& 31)) &&& (1 : Int32)) p2 p4 p5 vI_1 (fun _ => (0 : Int32)) (fun _ => (0 : Int32)) (fun _ => (0 : Int32)) (fun _ => (0 : Int32)) (fun _ => (0 : Int32))) (vW_6 (p0 &&& (1 : Int32)) ((p0 >>> ((1 : Int32) &&& 31)) &&& (1 : Int32)) p2 p4 p5 vI_1 (fun _ => (0 : Int32)) (fun _ => (0 : Int32)) (fun _ => (0 : Int32)) (fun _ => (0 : Int32)) (fun _ => (0 : Int32)))) h44 n0 Z44 F_totals_b41_cC44 V_r42_fb4_cC44 P44_4 (⟨by decide, by decide⟩)) (a := b41) iM_234 (hw _ (List.mem_of_getElem? (i := 52) rfl)) (hw _ (List.mem_of_getElem? (i := 53) rfl)) (fun s hZ => notFace_of_selects (args := #[]) (mvT hZ (hw _ (List.mem_of_getElem? (i := 55) rfl)))) (hw _ (List.mem_of_getElem? (i := 55) rfl)) (hw _ (List.mem_of_getElem? (i := 54) rfl)) (hw _ (List.mem_of_getElem? (i := 2) rfl)) (hw _ (List.mem_of_getElem? (i := 56) rfl)) (by decide) E_b41_cC44 (argsL := [(.int (0 : Int32))]) (rest := []) rfl rfl pd4 rfl rfl 0 (Nat.le_of_eq rfl) (by decide) (by decide) (by decide) (by decide) rfl rfl ?_
          rintro _ _ ⟨rfl, he55⟩
          refine Go.heap he55.symm ?_
          refine Go.some' ?_
          refine g_iload C iM_237 rfl ?_
          refine g_iload C iM_239 rfl ?_
          refine g_iadd C iM_241 ?_
          refine g_icmp_ne C iM_242 (fun hc242_1 => ?_) (fun hc242_1 => ?_)
          · refine g_aload C iM_245 rfl rfl ?_
            refine g_iconst C (1 : Int32) iM_247 rfl ?_
            refine g_callV C (rmD l Z aZ hw b41 (1 : Int32) r42_fb4 r42_fb5 r42_fb6 (vW_6 (p1 &&& (1 : Int32)) ((p1 >>> ((1 : Int32) &&& 31)) &&& (1 : Int32)) p3 p5 p4 vI_1 (vW_0 (p0 &&& (1 : Int32)) ((p0 >>> ((1 : Int32) &&& 31)) &&& (1 : Int32)) p2 p4 p5 vI_1 (fun _ => (0 : Int32)) (fun _ => (0 : Int32)) (fun _ => (0 : Int32)) (fun _ => (0 : Int32)) (fun _ => (0 : Int32))) (vW_1 (p0 &&& (1 : Int32)) ((p0 >>> ((1 : Int32) &&& 31)) &&& (1 : Int32)) p2 p4 p5 vI_1 (fun _ => (0 : Int32)) (fun _ => (0 : Int32)) (fun _ => (0 : Int32)) (fun _ => (0 : Int32)) (fun _ => (0 : Int32))) (vW_2 (p0 &&& (1 : Int32)) ((p0 >>> ((1 : Int32) &&& 31)) &&& (1 : Int32)) p2 p4 p5 vI_1 (fun _ => (0 : Int32)) (fun _ => (0 : Int32)) (fun _ => (0 : Int32)) (fun _ => (0 : Int32)) (fun _ => (0 : Int32))) (vW_4 (p0 &&& (1 : Int32)) ((p0 >>> ((1 : Int32) &&& 31)) &&& (1 : Int32)) p2 p4 p5 vI_1 (fun _ => (0 : Int32)) (fun _ => (0 : Int32)) (fun _ => (0 : Int32)) (fun _ => (0 : Int32)) (fun _ => (0 : Int32))) (vW_6 (p0 &&& (1 : Int32)) ((p0 >>> ((1 : Int32) &&& 31)) &&& (1 : Int32)) p2 p4 p5 vI_1 (fun _ => (0 : Int32)) (fun _ => (0 : Int32)) (fun _ => (0 : Int32)) (fun _ => (0 : Int32)) (fun _ => (0 : Int32)))) h44 n0 Z44 F_totals_b41_cC44 V_r42_fb4_cC44 P44_4 (⟨by decide, by decide⟩)) (a := b41) iM_248 (hw _ (List.mem_of_getElem? (i := 52) rfl)) (hw _ (List.mem_of_getElem? (i := 53) rfl)) (fun s hZ => notFace_of_selects (args := #[]) (mvT hZ (hw _ (List.mem_of_getElem? (i := 55) rfl)))) (hw _ (List.mem_of_getElem? (i := 55) rfl)) (hw _ (List.mem_of_getElem? (i := 54) rfl)) (hw _ (List.mem_of_getElem? (i := 2) rfl)) (hw _ (List.mem_of_getElem? (i := 56) rfl)) (by decide) E_b41_cC44 (argsL := [(.int (1 : Int32))]) (rest := []) rfl rfl pd4 rfl rfl 0 (Nat.le_of_eq rfl) (by decide) (by decide) (by decide) (by decide) rfl rfl ?_
            rintro _ _ ⟨rfl, he56⟩
            refine Go.heap he56.symm ?_
            refine Go.some' ?_
            refine g_iload C iM_251 rfl ?_
            refine g_iload C iM_253 rfl ?_
            refine g_iadd C iM_255 ?_
            refine g_icmp_ne C iM_256 (fun hc256_1 => ?_) (fun hc256_1 => ?_)
            · refine g_iconst C (1 : Int32) iM_259 rfl ?_
              refine g_goto C iM_260 ?_
              have e0 : (vM_13 p0 p1 p2 p3 p4 p5) = (1 : Int32) := by simp only [vM_13, if_neg hc228_1, if_pos hc242_1, if_pos hc256_1]
              exact Go.cast J (by rw [e0])
            · refine g_iconst C (0 : Int32) iM_263 rfl ?_
              have e0 : (vM_13 p0 p1 p2 p3 p4 p5) = (0 : Int32) := by simp only [vM_13, if_neg hc228_1, if_pos hc242_1, if_neg hc256_1]
              exact Go.cast J (by rw [e0])
          · refine g_iconst C (0 : Int32) iM_263 rfl ?_
            have e0 : (vM_13 p0 p1 p2 p3 p4 p5) = (0 : Int32) := by simp only [vM_13, if_neg hc228_1, if_neg hc242_1]
            exact Go.cast J (by rw [e0])
    · refine g_if_eq C iM_188 (fun hc188_1 => ?_) (fun hc188_1 => ?_)
      · refine g_iconst C (0 : Int32) iM_223 rfl ?_
        have e0 : (vM_10 p0 p1 p2 p3 p4 p5) = (0 : Int32) := by simp only [vM_10, if_pos hc188_1]
        exact Go.cast J (by rw [e0])
      · refine g_aload C iM_191 rfl rfl ?_
        refine g_iconst C (0 : Int32) iM_193 rfl ?_
        refine g_callV C (rmS l Z aZ hw b41 (0 : Int32) r42_fb4 r42_fb5 r42_fb6 (vW_4 (p1 &&& (1 : Int32)) ((p1 >>> ((1 : Int32) &&& 31)) &&& (1 : Int32)) p3 p5 p4 vI_1 (vW_0 (p0 &&& (1 : Int32)) ((p0 >>> ((1 : Int32) &&& 31)) &&& (1 : Int32)) p2 p4 p5 vI_1 (fun _ => (0 : Int32)) (fun _ => (0 : Int32)) (fun _ => (0 : Int32)) (fun _ => (0 : Int32)) (fun _ => (0 : Int32))) (vW_1 (p0 &&& (1 : Int32)) ((p0 >>> ((1 : Int32) &&& 31)) &&& (1 : Int32)) p2 p4 p5 vI_1 (fun _ => (0 : Int32)) (fun _ => (0 : Int32)) (fun _ => (0 : Int32)) (fun _ => (0 : Int32)) (fun _ => (0 : Int32))) (vW_2 (p0 &&& (1 : Int32)) ((p0 >>> ((1 : Int32) &&& 31)) &&& (1 : Int32)) p2 p4 p5 vI_1 (fun _ => (0 : Int32)) (fun _ => (0 : Int32)) (fun _ => (0 : Int32)) (fun _ => (0 : Int32)) (fun _ => (0 : Int32))) (vW_4 (p0 &&& (1 : Int32)) ((p0 >>> ((1 : Int32) &&& 31)) &&& (1 : Int32)) p2 p4 p5 vI_1 (fun _ => (0 : Int32)) (fun _ => (0 : Int32)) (fun _ => (0 : Int32)) (fun _ => (0 : Int32)) (fun _ => (0 : Int32))) (vW_6 (p0 &&& (1 : Int32)) ((p0 >>> ((1 : Int32) &&& 31)) &&& (1 : Int32)) p2 p4 p5 vI_1 (fun _ => (0 : Int32)) (fun _ => (0 : Int32)) (fun _ => (0 : Int32)) (fun _ => (0 : Int32)) (fun _ => (0 : Int32)))) h44 n0 Z44 F_totals_b41_cC44 V_r42_fb4_cC44 P44_3 (⟨by decide, by decide⟩)) (a := b41) iM_194 (hw _ (List.mem_of_getElem? (i := 47) rfl)) (hw _ (List.mem_of_getElem? (i := 48) rfl)) (fun s hZ => notFace_of_selects (args := #[]) (mvT hZ (hw _ (List.mem_of_getElem? (i := 50) rfl)))) (hw _ (List.mem_of_getElem? (i := 50) rfl)) (hw _ (List.mem_of_getElem? (i := 49) rfl)) (hw _ (List.mem_of_getElem? (i := 2) rfl)) (hw _ (List.mem_of_getElem? (i := 51) rfl)) (by decide) E_b41_cC44 (argsL := [(.int (0 : Int32))]) (rest := []) rfl rfl pd4 rfl rfl 0 (Nat.le_of_eq rfl) (by decide) (by decide) (by decide) (by decide) rfl rfl ?_
        rintro _ _ ⟨rfl, he53⟩
        refine Go.heap he53.symm ?_
        refine Go.some' ?_
        refine g_iload C iM_197 rfl ?_
        refine g_iload C iM_199 rfl ?_
        refine g_iadd C iM_201 ?_
        refine g_icmp_ne C iM_202 (fun hc202_1 => ?_) (fun hc202_1 => ?_)
        · refine g_aload C iM_205 rfl rfl ?_
          refine g_iconst C (1 : Int32) iM_207 rfl ?_
          refine g_callV C (rmS l Z aZ hw b41 (1 : Int32) r42_fb4 r42_fb5 r42_fb6 (vW_4 (p1 &&& (1 : Int32)) ((p1 >>> ((1 : Int32) &&& 31)) &&& (1 : Int32)) p3 p5 p4 vI_1 (vW_0 (p0 &&& (1 : Int32)) ((p0 >>> ((1 : Int32) &&& 31)) &&& (1 : Int32)) p2 p4 p5 vI_1 (fun _ => (0 : Int32)) (fun _ => (0 : Int32)) (fun _ => (0 : Int32)) (fun _ => (0 : Int32)) (fun _ => (0 : Int32))) (vW_1 (p0 &&& (1 : Int32)) ((p0 >>> ((1 : Int32) &&& 31)) &&& (1 : Int32)) p2 p4 p5 vI_1 (fun _ => (0 : Int32)) (fun _ => (0 : Int32)) (fun _ => (0 : Int32)) (fun _ => (0 : Int32)) (fun _ => (0 : Int32))) (vW_2 (p0 &&& (1 : Int32)) ((p0 >>> ((1 : Int32) &&& 31)) &&& (1 : Int32)) p2 p4 p5 vI_1 (fun _ => (0 : Int32)) (fun _ => (0 : Int32)) (fun _ => (0 : Int32)) (fun _ => (0 : Int32)) (fun _ => (0 : Int32))) (vW_4 (p0 &&& (1 : Int32)) ((p0 >>> ((1 : Int32) &&& 31)) &&& (1 : Int32)) p2 p4 p5 vI_1 (fun _ => (0 : Int32)) (fun _ => (0 : Int32)) (fun _ => (0 : Int32)) (fun _ => (0 : Int32)) (fun _ => (0 : Int32))) (vW_6 (p0 &&& (1 : Int32)) ((p0 >>> ((1 : Int32) &&& 31)) &&& (1 : Int32)) p2 p4 p5 vI_1 (fun _ => (0 : Int32)) (fun _ => (0 : Int32)) (fun _ => (0 : Int32)) (fun _ => (0 : Int32)) (fun _ => (0 : Int32)))) h44 n0 Z44 F_totals_b41_cC44 V_r42_fb4_cC44 P44_3 (⟨by decide, by decide⟩)) (a := b41) iM_208 (hw _ (List.mem_of_getElem? (i := 47) rfl)) (hw _ (List.mem_of_getElem? (i := 48) rfl)) (fun s hZ => notFace_of_selects (args := #[]) (mvT hZ (hw _ (List.mem_of_getElem? (i := 50) rfl)))) (hw _ (List.mem_of_getElem? (i := 50) rfl)) (hw _ (List.mem_of_getElem? (i := 49) rfl)) (hw _ (List.mem_of_getElem? (i := 2) rfl)) (hw _ (List.mem_of_getElem? (i := 51) rfl)) (by decide) E_b41_cC44 (argsL := [(.int (1 : Int32))]) (rest := []) rfl rfl pd4 rfl rfl 0 (Nat.le_of_eq rfl) (by decide) (by decide) (by decide) (by decide) rfl rfl ?_
          rintro _ _ ⟨rfl, he54⟩
          refine Go.heap he54.symm ?_
          refine Go.some' ?_
          refine g_iload C iM_211 rfl ?_
          refine g_iload C iM_213 rfl ?_
          refine g_iadd C iM_215 ?_
          refine g_icmp_ne C iM_216 (fun hc216_1 => ?_) (fun hc216_1 => ?_)
          · refine g_iconst C (1 : Int32) iM_219 rfl ?_
            refine g_goto C iM_220 ?_
            have e0 : (vM_10 p0 p1 p2 p3 p4 p5) = (1 : Int32) := by simp only [vM_10, if_neg hc188_1, if_pos hc202_1, if_pos hc216_1]
            exact Go.cast J (by rw [e0])
          · refine g_iconst C (0 : Int32) iM_223 rfl ?_
            have e0 : (vM_10 p0 p1 p2 p3 p4 p5) = (0 : Int32) := by simp only [vM_10, if_neg hc188_1, if_pos hc202_1, if_neg hc216_1]
            exact Go.cast J (by rw [e0])
        · refine g_iconst C (0 : Int32) iM_223 rfl ?_
          have e0 : (vM_10 p0 p1 p2 p3 p4 p5) = (0 : Int32) := by simp only [vM_10, if_neg hc188_1, if_neg hc202_1]
          exact Go.cast J (by rw [e0])
  · refine g_icmp_ne C iM_140 (fun hc140_1 => ?_) (fun hc140_1 => ?_)
    · refine g_aload C iM_143 rfl rfl ?_
      refine g_iconst C (0 : Int32) iM_145 rfl ?_
      refine g_iconst C (1 : Int32) iM_146 rfl ?_
      refine g_callV C (rmU l Z aZ hw b41 (0 : Int32) (1 : Int32) r42_fb1 r42_fb0 vI_1 (vW_0 (p1 &&& (1 : Int32)) ((p1 >>> ((1 : Int32) &&& 31)) &&& (1 : Int32)) p3 p5 p4 vI_1 (vW_0 (p0 &&& (1 : Int32)) ((p0 >>> ((1 : Int32) &&& 31)) &&& (1 : Int32)) p2 p4 p5 vI_1 (fun _ => (0 : Int32)) (fun _ => (0 : Int32)) (fun _ => (0 : Int32)) (fun _ => (0 : Int32)) (fun _ => (0 : Int32))) (vW_1 (p0 &&& (1 : Int32)) ((p0 >>> ((1 : Int32) &&& 31)) &&& (1 : Int32)) p2 p4 p5 vI_1 (fun _ => (0 : Int32)) (fun _ => (0 : Int32)) (fun _ => (0 : Int32)) (fun _ => (0 : Int32)) (fun _ => (0 : Int32))) (vW_2 (p0 &&& (1 : Int32)) ((p0 >>> ((1 : Int32) &&& 31)) &&& (1 : Int32)) p2 p4 p5 vI_1 (fun _ => (0 : Int32)) (fun _ => (0 : Int32)) (fun _ => (0 : Int32)) (fun _ => (0 : Int32)) (fun _ => (0 : Int32))) (vW_4 (p0 &&& (1 : Int32)) ((p0 >>> ((1 : Int32) &&& 31)) &&& (1 : Int32)) p2 p4 p5 vI_1 (fun _ => (0 : Int32)) (fun _ => (0 : Int32)) (fun _ => (0 : Int32)) (fun _ => (0 : Int32)) (fun _ => (0 : Int32))) (vW_6 (p0 &&& (1 : Int32)) ((p0 >>> ((1 : Int32) &&& 31)) &&& (1 : Int32)) p2 p4 p5 vI_1 (fun _ => (0 : Int32)) (fun _ => (0 : Int32)) (fun _ => (0 : Int32)) (fun _ => (0 : Int32)) (fun _ => (0 : Int32)))) h44 n0 Z44 F_counts_b41_cC44 F_lines_b41_cC44 V_r42_fb0_cC44 P44_0 (⟨by decide, by decide⟩)) (a := b41) iM_147 (hw _ (List.mem_of_getElem? (i := 42) rfl)) (hw _ (List.mem_of_getElem? (i := 43) rfl)) (fun s hZ => notFace_of_selects (args := #[]) (mvT hZ (hw _ (List.mem_of_getElem? (i := 45) rfl)))) (hw _ (List.mem_of_getElem? (i := 45) rfl)) (hw _ (List.mem_of_getElem? (i := 44) rfl)) (hw _ (List.mem_of_getElem? (i := 2) rfl)) (hw _ (List.mem_of_getElem? (i := 46) rfl)) (by decide) E_b41_cC44 (argsL := [(.int (0 : Int32)), (.int (1 : Int32))]) (rest := []) rfl rfl pd3 rfl rfl 0 (Nat.le_of_eq rfl) (by decide) (by decide) (by decide) (by decide) rfl rfl ?_
      rintro _ _ ⟨rfl, he50⟩
      refine Go.heap he50.symm ?_
      refine Go.some' ?_
      refine g_iload C iM_150 rfl ?_
      refine g_icmp_ne C iM_152 (fun hc152_1 => ?_) (fun hc152_1 => ?_)
      · refine g_aload C iM_155 rfl rfl ?_
        refine g_iconst C (1 : Int32) iM_157 rfl ?_
        refine g_iconst C (0 : Int32) iM_158 rfl ?_
        refine g_callV C (rmU l Z aZ hw b41 (1 : Int32) (0 : Int32) r42_fb1 r42_fb0 vI_1 (vW_0 (p1 &&& (1 : Int32)) ((p1 >>> ((1 : Int32) &&& 31)) &&& (1 : Int32)) p3 p5 p4 vI_1 (vW_0 (p0 &&& (1 : Int32)) ((p0 >>> ((1 : Int32) &&& 31)) &&& (1 : Int32)) p2 p4 p5 vI_1 (fun _ => (0 : Int32)) (fun _ => (0 : Int32)) (fun _ => (0 : Int32)) (fun _ => (0 : Int32)) (fun _ => (0 : Int32))) (vW_1 (p0 &&& (1 : Int32)) ((p0 >>> ((1 : Int32) &&& 31)) &&& (1 : Int32)) p2 p4 p5 vI_1 (fun _ => (0 : Int32)) (fun _ => (0 : Int32)) (fun _ => (0 : Int32)) (fun _ => (0 : Int32)) (fun _ => (0 : Int32))) (vW_2 (p0 &&& (1 : Int32)) ((p0 >>> ((1 : Int32) &&& 31)) &&& (1 : Int32)) p2 p4 p5 vI_1 (fun _ => (0 : Int32)) (fun _ => (0 : Int32)) (fun _ => (0 : Int32)) (fun _ => (0 : Int32)) (fun _ => (0 : Int32))) (vW_4 (p0 &&& (1 : Int32)) ((p0 >>> ((1 : Int32) &&& 31)) &&& (1 : Int32)) p2 p4 p5 vI_1 (fun _ => (0 : Int32)) (fun _ => (0 : Int32)) (fun _ => (0 : Int32)) (fun _ => (0 : Int32)) (fun _ => (0 : Int32))) (vW_6 (p0 &&& (1 : Int32)) ((p0 >>> ((1 : Int32) &&& 31)) &&& (1 : Int32)) p2 p4 p5 vI_1 (fun _ => (0 : Int32)) (fun _ => (0 : Int32)) (fun _ => (0 : Int32)) (fun _ => (0 : Int32)) (fun _ => (0 : Int32)))) h44 n0 Z44 F_counts_b41_cC44 F_lines_b41_cC44 V_r42_fb0_cC44 P44_0 (⟨by decide, by decide⟩)) (a := b41) iM_159 (hw _ (List.mem_of_getElem? (i := 42) rfl)) (hw _ (List.mem_of_getElem? (i := 43) rfl)) (fun s hZ => notFace_of_selects (args := #[]) (mvT hZ (hw _ (List.mem_of_getElem? (i := 45) rfl)))) (hw _ (List.mem_of_getElem? (i := 45) rfl)) (hw _ (List.mem_of_getElem? (i := 44) rfl)) (hw _ (List.mem_of_getElem? (i := 2) rfl)) (hw _ (List.mem_of_getElem? (i := 46) rfl)) (by decide) E_b41_cC44 (argsL := [(.int (1 : Int32)), (.int (0 : Int32))]) (rest := []) rfl rfl pd3 rfl rfl 0 (Nat.le_of_eq rfl) (by decide) (by decide) (by decide) (by decide) rfl rfl ?_
        rintro _ _ ⟨rfl, he51⟩
        refine Go.heap he51.symm ?_
        refine Go.some' ?_
        refine g_iload C iM_162 rfl ?_
        refine g_icmp_ne C iM_164 (fun hc164_1 => ?_) (fun hc164_1 => ?_)
        · refine g_aload C iM_167 rfl rfl ?_
          refine g_iconst C (1 : Int32) iM_169 rfl ?_
          refine g_iconst C (1 : Int32) iM_170 rfl ?_
          refine g_callV C (rmU l Z aZ hw b41 (1 : Int32) (1 : Int32) r42_fb1 r42_fb0 vI_1 (vW_0 (p1 &&& (1 : Int32)) ((p1 >>> ((1 : Int32) &&& 31)) &&& (1 : Int32)) p3 p5 p4 vI_1 (vW_0 (p0 &&& (1 : Int32)) ((p0 >>> ((1 : Int32) &&& 31)) &&& (1 : Int32)) p2 p4 p5 vI_1 (fun _ => (0 : Int32)) (fun _ => (0 : Int32)) (fun _ => (0 : Int32)) (fun _ => (0 : Int32)) (fun _ => (0 : Int32))) (vW_1 (p0 &&& (1 : Int32)) ((p0 >>> ((1 : Int32) &&& 31)) &&& (1 : Int32)) p2 p4 p5 vI_1 (fun _ => (0 : Int32)) (fun _ => (0 : Int32)) (fun _ => (0 : Int32)) (fun _ => (0 : Int32)) (fun _ => (0 : Int32))) (vW_2 (p0 &&& (1 : Int32)) ((p0 >>> ((1 : Int32) &&& 31)) &&& (1 : Int32)) p2 p4 p5 vI_1 (fun _ => (0 : Int32)) (fun _ => (0 : Int32)) (fun _ => (0 : Int32)) (fun _ => (0 : Int32)) (fun _ => (0 : Int32))) (vW_4 (p0 &&& (1 : Int32)) ((p0 >>> ((1 : Int32) &&& 31)) &&& (1 : Int32)) p2 p4 p5 vI_1 (fun _ => (0 : Int32)) (fun _ => (0 : Int32)) (fun _ => (0 : Int32)) (fun _ => (0 : Int32)) (fun _ => (0 : Int32))) (vW_6 (p0 &&& (1 : Int32)) ((p0 >>> ((1 : Int32) &&& 31)) &&& (1 : Int32)) p2 p4 p5 vI_1 (fun _ => (0 : Int32)) (fun _ => (0 : Int32)) (fun _ => (0 : Int32)) (fun _ => (0 : Int32)) (fun _ => (0 : Int32)))) h44 n0 Z44 F_counts_b41_cC44 F_lines_b41_cC44 V_r42_fb0_cC44 P44_0 (⟨by decide, by decide⟩)) (a := b41) iM_171 (hw _ (List.mem_of_getElem? (i := 42) rfl)) (hw _ (List.mem_of_getElem? (i := 43) rfl)) (fun s hZ => notFace_of_selects (args := #[]) (mvT hZ (hw _ (List.mem_of_getElem? (i := 45) rfl)))) (hw _ (List.mem_of_getElem? (i := 45) rfl)) (hw _ (List.mem_of_getElem? (i := 44) rfl)) (hw _ (List.mem_of_getElem? (i := 2) rfl)) (hw _ (List.mem_of_getElem? (i := 46) rfl)) (by decide) E_b41_cC44 (argsL := [(.int (1 : Int32)), (.int (1 : Int32))]) (rest := []) rfl rfl pd3 rfl rfl 0 (Nat.le_of_eq rfl) (by decide) (by decide) (by decide) (by decide) rfl rfl ?_
          rintro _ _ ⟨rfl, he52⟩
          refine Go.heap he52.symm ?_
          refine Go.some' ?_
          refine g_iload C iM_174 rfl ?_
          refine g_icmp_ne C iM_176 (fun hc176_1 => ?_) (fun hc176_1 => ?_)
          · refine g_iconst C (1 : Int32) iM_179 rfl ?_
            refine g_goto C iM_180 ?_
            have e0 : (vM_7 p0 p1 p2 p3 p4 p5) = (1 : Int32) := by simp only [vM_7, if_pos hc140_1, if_pos hc152_1, if_pos hc164_1, if_pos hc176_1]
            exact Go.cast J (by rw [e0])
          · refine g_iconst C (0 : Int32) iM_183 rfl ?_
            have e0 : (vM_7 p0 p1 p2 p3 p4 p5) = (0 : Int32) := by simp only [vM_7, if_pos hc140_1, if_pos hc152_1, if_pos hc164_1, if_neg hc176_1]
            exact Go.cast J (by rw [e0])
        · refine g_iconst C (0 : Int32) iM_183 rfl ?_
          have e0 : (vM_7 p0 p1 p2 p3 p4 p5) = (0 : Int32) := by simp only [vM_7, if_pos hc140_1, if_pos hc152_1, if_neg hc164_1]
          exact Go.cast J (by rw [e0])
      · refine g_iconst C (0 : Int32) iM_183 rfl ?_
        have e0 : (vM_7 p0 p1 p2 p3 p4 p5) = (0 : Int32) := by simp only [vM_7, if_pos hc140_1, if_neg hc152_1]
        exact Go.cast J (by rw [e0])
    · refine g_iconst C (0 : Int32) iM_183 rfl ?_
      have e0 : (vM_7 p0 p1 p2 p3 p4 p5) = (0 : Int32) := by simp only [vM_7, if_neg hc140_1]
      exact Go.cast J (by rw [e0])
set_option maxRecDepth 65536 in
set_option maxHeartbeats 40000000 in
theorem comes_1 {Post : Tables → Env → Array Value → State → Outcome → State → Prop} (hpost : ∀ tb e args s v u, (limb_1_1.after args s (.returned v) u = true ∧ limb_1_2.after args s (.returned v) u = true ∧ True) → FrameEnd s (.returned v) u (Jvm.fieldLocs frame_1_writes args s ++ Jvm.arrayLocs frame_1_arrays args s ++ Jvm.staticLocs frame_1_statics s) 48 192 → Post tb e args s (.returned v) u) :
    ArmFor flags0 classFile x code maxLocals ret World_1 tables_1 room_1 Calls_1 rest_1 Pre_1 Post := by
  intro l hfl _ _ p e ha hc hk s m args below hf hA hF happ hP
  obtain ⟨hcalls, hrest, hpre⟩ := hP
  obtain ⟨-, -, -, hnamed, -, -, -, hat⟩ := (Spec.applies_iff hf).mp happ
  obtain ⟨hg, hn⟩ := and_e (Cond.before_iff.mp (show (Jvm.Cond.and given_1 narrow_1).before args s = true from hpre))
  obtain ⟨gg1, gg2⟩ := and_e hg
  obtain ⟨gg3, gg4⟩ := and_e gg2
  obtain ⟨gg5, gg6⟩ := and_e gg4
  obtain ⟨gg7, gg8⟩ := and_e gg6
  obtain ⟨gg9, gg10⟩ := and_e gg8
  obtain ⟨gg11, gg12⟩ := and_e gg10
  obtain ⟨w0, w1, w2, w3, w4, w5, rfl⟩ : ∃ w0 w1 w2 w3 w4 w5 : Value, args = #[w0, w1, w2, w3, w4, w5] := by
    have hs : args.size = 6 := by simpa [Cond.value, given_1] using gg1
    obtain ⟨L⟩ := args
    match L, hs with
    | [w0, w1, w2, w3, w4, w5], _ => exact ⟨w0, w1, w2, w3, w4, w5, rfl⟩
  have hw := fun d (hd : d ∈ tables_1) => atoms_spec (ws := Jvm.Cond.code x code maxLocals ret :: tables_1) hat d (List.mem_cons_of_mem _ hd)
  have hfit : Fit s := fun {y c} hc i hi => by
    obtain ⟨ha, rfl⟩ := Array.getElem?_eq_some_iff.mp hc
    have q := List.all_eq_true.mp ((Array.all_eq_true_iff_forall_mem.mp hF) _ (Array.getElem_mem ha)) i (List.mem_range.mpr hi)
    simpa [Array.getElem?_eq_getElem hi] using q
  obtain ⟨i0, ei0⟩ := is_v gg3
  obtain rfl : w0 = (.int i0) := Option.some.inj ei0
  obtain ⟨i1, ei1⟩ := is_v gg5
  obtain rfl : w1 = (.int i1) := Option.some.inj ei1
  obtain ⟨i2, ei2⟩ := is_v gg7
  obtain rfl : w2 = (.int i2) := Option.some.inj ei2
  obtain ⟨i3, ei3⟩ := is_v gg9
  obtain rfl : w3 = (.int i3) := Option.some.inj ei3
  obtain ⟨i4, ei4⟩ := is_v gg11
  obtain rfl : w4 = (.int i4) := Option.some.inj ei4
  obtain ⟨i5, ei5⟩ := is_v gg12
  obtain rfl : w5 = (.int i5) := Option.some.inj ei5
  obtain ⟨n, o, h1, h2, h3, _, L, rfl, ⟨rfl, N⟩, hq⟩ := rmM l s _ hw i0 i1 i2 i3 i4 i5 s.heap s.heap.size (Nat.le_refl _) tables_1 p e ha hc hk s m _ below hf ((Spec.applies_iff_loose hf).mp happ).1 ⟨rfl, State.Warmed39.refl s, rfl⟩ trivial
  refine ⟨n, _, h1, h2, h3, hpost _ _ _ _ _ _ ⟨Cond.after_iff.mpr rfl, Cond.after_iff.mpr (eq_i res_at (Term.int_eval (1)) rfl), trivial⟩ ⟨hq.1, hq.2.1, (hq.2.2.sift fun y hy => Or.inr (N y hy)).mono (by decide) (by decide)⟩⟩
theorem main_1_1 : Claimed_1_1 := comes_1 fun _ _ _ _ _ _ h hF => ⟨h.1, hF⟩
theorem main_1_2 : Claimed_1_2 := comes_1 fun _ _ _ _ _ _ h hF => ⟨h.2.1, hF⟩
end Jvm.Pilot.@@N@@
namespace Jvm.Pilot.@@N@@
open Jvm Jvm.ClassFile Sem Op Lib Jvm.Free Jvm.Stand Jvm.Pilot.@@N@@.Jvm.D
/-! MADE BY PROGRAM (witnessworld.py) out of the Statement's table words and the real class files: 11 classes; the members and pool entries that the words name. The judged class is class 1, her method 1. -/
namespace start1
open Jvm.ClassFile
def u (s : String) : CpInfo := .utf8 (stringToUtf16 s)
/-- a pool by its gaps: so many unusable entries, then the entry; so many at the end -/
def gap : Nat → List CpInfo → List CpInfo
  | 0, r => r
  | n + 1, r => .unusable :: gap n r
def poolList (es : List (Nat × CpInfo)) (last : Nat) : List CpInfo := es.foldr (fun e r => gap e.1 (e.2 :: r)) (gap last [])
def pool (es : List (Nat × CpInfo)) (last : Nat) : Array CpInfo := ⟨poolList es last⟩
def fileOf (pool : Array CpInfo) (this : Nat) (attrs : Array Attribute := #[]) (ms : Array MethodInfo := #[]) (fl : Nat := 33) (sup : Nat := 0) (ifs : Array Nat := #[]) (fds : Array FieldInfo := #[]) : ClassFile where
  minorVersion := 0
  majorVersion := 65
  constantPool := pool
  accessFlags := fl
  thisClass := this
  superClass := sup
  interfaces := ifs
  fields := fds
  methods := ms
  attributes := attrs
def plain (name : String) (sup : Option ClassId) : Class where
  name := name
  kind := .ordinary
  loader := none
  accessFlags := 33
  super := sup
  interfaces := #[]
  cf := none
  fields := #[]
  methods := #[]
  instanceTypes := #[]
  staticTypes := #[]
  resolved := #[]
  callSites := []
  init := .initialized
  statics := none
  mirror := none

def pool0 : Array CpInfo := pool [(5, u "<init>"), (0, u "()V"), (1, .class_ 10), (1, u "java/lang/Object")] 113

def k0c0 : Code := { maxStack := 0, maxLocals := 1, code := object_method_1_code, exceptionTable := #[], attributes := #[] }
def k0m0 : Method := { name := "<init>", desc := "()V", sig := { parameters := [], returnType := none }, accessFlags := 1, code := some k0c0 }
/-- java/lang/Object -/
def k0 : Class := { plain "java/lang/Object" none with
  accessFlags := 33
  interfaces := #[]
  cf := some (fileOf pool0 8 #[] #[{ accessFlags := 1, nameIndex := 5, descriptorIndex := 6, attributes := #[] }] 33 0 #[] #[])
  fields := #[]
  methods := #[k0m0]
  instanceTypes := #[]
  staticTypes := #[]
  resolved := Array.replicate 124 none
  statics := none }

def pool1 : Array CpInfo := pool [(2, .class_ 4), (1, u "java/lang/Object"), (0, u "<init>"), (0, u "()V"), (0, .class_ 8), (0, u "com/example/bandweave/bandweave/star/Transport"), (0, .methodref 7 10), (0, .nameAndType 5 11), (0, u "(II)V"), (0, .methodref 7 13), (0, .nameAndType 14 15), (0, u "set"), (0, u "(IIIII)V"), (0, .methodref 17 18), (0, .class_ 19), (0, .nameAndType 20 21), (0, u "com/example/bandweave/bandweave/star/TransportSetPinLaw"), (0, u "expect"), (0, u "(IIIIIIII)I"), (0, .methodref 7 23), (0, .nameAndType 24 25), (0, u "count"), (0, u "(II)I"), (0, .methodref 7 27), (0, .nameAndType 28 29), (0, u "sourceTotal"), (0, u "(I)I"), (0, .methodref 7 31), (0, .nameAndType 32 29), (0, u "destinationTotal"), (2, u "law"), (0, u "(IIIIII)Z")] 3

def k1m0 : Method := { name := "<init>", desc := "()V", sig := { parameters := [], returnType := none }, accessFlags := 1, code := none }
def k1c1 : Code := { maxStack := 8, maxLocals := 16, code := code, exceptionTable := #[], attributes := #[] }
def k1m1 : Method := { name := "law", desc := "(IIIIII)Z", sig := { parameters := [.int, .int, .int, .int, .int, .int], returnType := some .boolean }, accessFlags := 9, code := some k1c1 }
def k1c2 : Code := { maxStack := 2, maxLocals := 8, code := method_3_code, exceptionTable := #[], attributes := #[] }
def k1m2 : Method := { name := "expect", desc := "(IIIIIIII)I", sig := { parameters := [.int, .int, .int, .int, .int, .int, .int, .int], returnType := some .int }, accessFlags := 10, code := some k1c2 }
/-- com/example/bandweave/bandweave/star/TransportSetPinLaw -/
def k1 : Class := { plain "com/example/bandweave/bandweave/star/TransportSetPinLaw" (some 0) with
  accessFlags := 49
  interfaces := #[]
  cf := some (fileOf pool1 17 #[] #[{ accessFlags := 1, nameIndex := 5, descriptorIndex := 6, attributes := #[] }, { accessFlags := 9, nameIndex := 35, descriptorIndex := 36, attributes := #[] }, { accessFlags := 10, nameIndex := 20, descriptorIndex := 21, attributes := #[] }] 49 2 #[] #[])
  fields := #[]
  methods := #[k1m0, k1m1, k1m2]
  instanceTypes := #[]
  staticTypes := #[]
  resolved := Array.replicate 40 none
  statics := none }

def pool2 : Array CpInfo := pool [(1, .methodref 2 3), (0, .class_ 4), (0, .nameAndType 5 6), (0, u "java/lang/Object"), (0, u "<init>"), (0, u "()V"), (0, .fieldref 8 9), (0, .class_ 10), (0, .nameAndType 11 12), (0, u "com/example/bandweave/bandweave/star/Transport"), (0, u "lines"), (0, u "[I"), (0, .fieldref 8 14), (0, .nameAndType 15 12), (0, u "counts"), (0, .fieldref 8 17), (0, .nameAndType 18 12), (0, u "least"), (0, .fieldref 8 20), (0, .nameAndType 21 12), (0, u "most"), (0, .class_ 12), (0, .fieldref 8 24), (0, .nameAndType 25 26), (0, u "totals"), (0, u "[[I"), (0, .fieldref 8 28), (0, .nameAndType 29 26), (0, u "leastTotals"), (0, .fieldref 8 31), (0, .nameAndType 32 26), (0, u "mostTotals"), (0, .class_ 34), (0, u "[Z"), (0, .fieldref 8 36), (0, .nameAndType 37 38), (0, u "reached"), (0, u "[[Z"), (9, u "(II)V"), (14, u "SOURCES"), (0, u "I"), (2, u "DESTINATIONS"), (6, u "count"), (0, u "(II)I"), (0, u "set"), (0, u "(IIIII)V"), (1, u "sourceTotal"), (0, u "(I)I"), (0, u "destinationTotal")] 8

def k2c0 : Code := { maxStack := 5, maxLocals := 3, code := prog_33_method_1_code, exceptionTable := #[], attributes := #[] }
def k2m0 : Method := { name := "<init>", desc := "(II)V", sig := { parameters := [.int, .int], returnType := none }, accessFlags := 0, code := some k2c0 }
def k2c1 : Code := { maxStack := 4, maxLocals := 3, code := prog_33_method_4_code, exceptionTable := #[], attributes := #[] }
def k2m1 : Method := { name := "count", desc := "(II)I", sig := { parameters := [.int, .int], returnType := some .int }, accessFlags := 0, code := some k2c1 }
def k2c2 : Code := { maxStack := 4, maxLocals := 8, code := prog_33_method_5_code, exceptionTable := #[], attributes := #[] }
def k2m2 : Method := { name := "set", desc := "(IIIII)V", sig := { parameters := [.int, .int, .int, .int, .int], returnType := none }, accessFlags := 0, code := some k2c2 }
def k2c3 : Code := { maxStack := 2, maxLocals := 2, code := prog_33_method_7_code, exceptionTable := #[], attributes := #[] }
def k2m3 : Method := { name := "sourceTotal", desc := "(I)I", sig := { parameters := [.int], returnType := some .int }, accessFlags := 0, code := some k2c3 }
def k2c4 : Code := { maxStack := 2, maxLocals := 2, code := prog_33_method_8_code, exceptionTable := #[], attributes := #[] }
def k2m4 : Method := { name := "destinationTotal", desc := "(I)I", sig := { parameters := [.int], returnType := some .int }, accessFlags := 0, code := some k2c4 }
/-- com/example/bandweave/bandweave/star/Transport -/
def k2 : Class := { plain "com/example/bandweave/bandweave/star/Transport" (some 0) with
  accessFlags := 48
  interfaces := #[]
  cf := some (fileOf pool2 8 #[] #[{ accessFlags := 0, nameIndex := 5, descriptorIndex := 48, attributes := #[] }, { accessFlags := 0, nameIndex := 74, descriptorIndex := 75, attributes := #[] }, { accessFlags := 0, nameIndex := 76, descriptorIndex := 77, attributes := #[] }, { accessFlags := 0, nameIndex := 79, descriptorIndex := 80, attributes := #[] }, { accessFlags := 0, nameIndex := 81, descriptorIndex := 80, attributes := #[] }] 48 2 #[] #[{ accessFlags := 26, nameIndex := 63, descriptorIndex := 64, attributes := #[] }, { accessFlags := 26, nameIndex := 67, descriptorIndex := 64, attributes := #[] }, { accessFlags := 18, nameIndex := 11, descriptorIndex := 12, attributes := #[] }, { accessFlags := 18, nameIndex := 15, descriptorIndex := 12, attributes := #[] }, { accessFlags := 18, nameIndex := 18, descriptorIndex := 12, attributes := #[] }, { accessFlags := 18, nameIndex := 21, descriptorIndex := 12, attributes := #[] }, { accessFlags := 18, nameIndex := 25, descriptorIndex := 26, attributes := #[] }, { accessFlags := 18, nameIndex := 29, descriptorIndex := 26, attributes := #[] }, { accessFlags := 18, nameIndex := 32, descriptorIndex := 26, attributes := #[] }, { accessFlags := 18, nameIndex := 37, descriptorIndex := 38, attributes := #[] }])
  fields := #[{ name := "SOURCES", type := .int, accessFlags := 26, slot := 0, constantValue := 0 }, { name := "DESTINATIONS", type := .int, accessFlags := 26, slot := 1, constantValue := 0 }, { name := "lines", type := (.array .int), accessFlags := 18, slot := 0, constantValue := 0 }, { name := "counts", type := (.array .int), accessFlags := 18, slot := 1, constantValue := 0 }, { name := "least", type := (.array .int), accessFlags := 18, slot := 2, constantValue := 0 }, { name := "most", type := (.array .int), accessFlags := 18, slot := 3, constantValue := 0 }, { name := "totals", type := (.array (.array .int)), accessFlags := 18, slot := 4, constantValue := 0 }, { name := "leastTotals", type := (.array (.array .int)), accessFlags := 18, slot := 5, constantValue := 0 }, { name := "mostTotals", type := (.array (.array .int)), accessFlags := 18, slot := 6, constantValue := 0 }, { name := "reached", type := (.array (.array .boolean)), accessFlags := 18, slot := 7, constantValue := 0 }]
  methods := #[k2m0, k2m1, k2m2, k2m3, k2m4]
  instanceTypes := #[(.array .int), (.array .int), (.array .int), (.array .int), (.array (.array .int)), (.array (.array .int)), (.array (.array .int)), (.array (.array .boolean))]
  staticTypes := #[.int, .int]
  resolved := Array.replicate 90 none
  statics := none }

def pool3 : Array CpInfo := pool [(1, u "java/lang/Cloneable"), (0, .class_ 1), (0, u "java/lang/Object"), (0, .class_ 3)] 3

/-- java/lang/Cloneable -/
def k3 : Class := { plain "java/lang/Cloneable" (some 0) with
  accessFlags := 1537
  interfaces := #[]
  cf := some (fileOf pool3 2 #[] #[] 1537 4 #[] #[])
  fields := #[]
  methods := #[]
  instanceTypes := #[]
  staticTypes := #[]
  resolved := Array.replicate 8 none
  statics := none }

def pool4 : Array CpInfo := pool [(1, u "java/io/Serializable"), (0, .class_ 1), (0, u "java/lang/Object"), (0, .class_ 3)] 3

/-- java/io/Serializable -/
def k4 : Class := { plain "java/io/Serializable" (some 0) with
  accessFlags := 1537
  interfaces := #[]
  cf := some (fileOf pool4 2 #[] #[] 1537 4 #[] #[])
  fields := #[]
  methods := #[]
  instanceTypes := #[]
  staticTypes := #[]
  resolved := Array.replicate 8 none
  statics := none }

/-- the primitive boolean -/
def k5 : Class := { plain "boolean" none with kind := .primitive 'Z', accessFlags := 0x411 }
/-- [Z -/
def k6 : Class := { plain "[Z" (some 0) with kind := .array 5 .boolean, interfaces := #[3, 4], accessFlags := 1041 }

/-- the primitive byte -/
def k7 : Class := { plain "byte" none with kind := .primitive 'B', accessFlags := 0x411 }
/-- [B -/
def k8 : Class := { plain "[B" (some 0) with kind := .array 7 .byte, interfaces := #[3, 4], accessFlags := 1041 }

/-- the primitive int -/
def k9 : Class := { plain "int" none with kind := .primitive 'I', accessFlags := 0x411 }
/-- [I -/
def k10 : Class := { plain "[I" (some 0) with kind := .array 9 .int, interfaces := #[3, 4], accessFlags := 1041 }

/-- [[I -/
def k11 : Class := { plain "[[I" (some 0) with kind := .array 10 (.array .int), interfaces := #[3, 4], accessFlags := 1041 }
/-- [[Z -/
def k12 : Class := { plain "[[Z" (some 0) with kind := .array 6 (.array .boolean), interfaces := #[3, 4], accessFlags := 1041 }

def heap : Heap := #[]
def classes : Array Class := #[k0, k1, k2, k3, k4, k5, k6, k7, k8, k9, k10, k11, k12]
def interned : List (Array UInt16 × Addr) := []
def slotsUsed : Nat := 0
def theMethod : MethodId := ⟨1, 1⟩
def args0 : Array Value := #[.int 5, .int 6, .int 7, .int 8, .int 9, .int 10]
def aboutOver (below : List Frame) : State where
  vm := { classes := classes, interned := interned.toArray }
  heap := heap
  slotsUsed := slotsUsed
  threads := #[{ frames := .invoking theMethod args0 :: below }]
def below0 : List Frame := [.native { method := ⟨0, 0⟩, args := #[] }]
def about1 : State := aboutOver below0
def p0 : Program := .bare "" "" ""
def e0 : Env := launch0.env 0 0 0
theorem w_frames : about1.frames = Frame.invoking theMethod args0 :: below0 := rfl
set_option maxRecDepth 65536 in
theorem w_args : argsFit about1.vm theMethod args0 = true := by decide +kernel
set_option maxRecDepth 65536 in
theorem w_heap : heapFits about1 = true := by decide +kernel
set_option maxRecDepth 65536 in
theorem w_runnable : about1.curStatus? = some .runnable := by decide +kernel
set_option maxRecDepth 65536 in
theorem w_alone : about1.alone = true := by decide +kernel
set_option maxRecDepth 65536 in
theorem w_named : about1.methodNamed? x = some theMethod := by decide +kernel
set_option maxRecDepth 65536 in
theorem w_hears : about1.hears theMethod below0 = true := by decide +kernel
set_option maxRecDepth 65536 in
theorem w_ripe : about1.ripe theMethod args0 below0 = true := by decide +kernel
theorem w_running : about1.status = .running := rfl
set_option maxRecDepth 65536 in
theorem w_room : about1.hasRoom e0.platform room_1 = true :=
  launch0.hasRoom_least _ room_1 (by decide +kernel) (by decide +kernel) (by decide +kernel) (by decide +kernel) (by decide +kernel) (by decide +kernel)
theorem allAtoms_all (ts : List Jvm.Cond) (a : Array Jvm.Value) (st : Jvm.State) : (allAtoms ts).before a st = ts.all (fun c => c.before a st) := by
  induction ts with
  | nil => rfl
  | cons c t ih =>
    show (Jvm.Cond.and c (allAtoms t)).before a st = _
    rw [Jvm.Cond.before_and, ih, List.all_cons]
def words1 : List Jvm.Cond := Jvm.Cond.code x code maxLocals ret :: tables_1
/-- a 'code' word, met by the world's own term for the bytes: nothing is compared byte by byte -/
theorem code_word {y : MethodName} {bytes : ByteArray} {mx : Nat} {rt : Option FieldType} {a : Array Value} {s : State} {m : MethodId} {meth : Method} {c : Code} (h1 : s.methodNamed? y = some m) (h2 : s.vm.method? m = some meth) (h3 : meth.code = some c) (h4 : c.code = bytes)
    (h5 : (c.maxLocals == mx && c.exceptionTable.isEmpty && decide (c.maxStack ≤ mostOperands) && decide (meth.sig.returnType = rt) && !meth.locks && decide (parseMethodDescriptor y.desc = some meth.sig)) = true) : (Jvm.Cond.code y bytes mx rt).before a s = true := by
  simp only [Bool.and_eq_true, beq_iff_eq, Bool.not_eq_true', decide_eq_true_eq] at h5
  obtain ⟨⟨⟨⟨⟨g1, g2⟩, g3⟩, g4⟩, g5⟩, g6⟩ := h5
  simp [Cond.before, Cond.holds, Cond.value, h1, h2, h3, h4, g1, g2, g3, g4, g5, g6]
def isCode : Jvm.Cond → Bool
  | .code _ _ _ _ => true
  | _ => false
theorem all_split {L : List Jvm.Cond} {P : Jvm.Cond → Bool} (h1 : L.all (fun c => isCode c || P c) = true) (h2 : ∀ c ∈ L.filter isCode, P c = true) : L.all P = true := by
  refine List.all_eq_true.mpr fun c hc => ?_
  have h := List.all_eq_true.mp h1 c hc
  rcases Bool.eq_false_or_eq_true (isCode c) with hi | hi
  · exact h2 c (List.mem_filter.mpr ⟨hc, hi⟩)
  · simpa [hi] using h
set_option maxRecDepth 65536 in
theorem w_c0 : (Jvm.Cond.code x code maxLocals ret).before args0 about1 = true := code_word (m := ⟨1, 1⟩) (meth := k1m1) (c := k1c1) (by decide +kernel) rfl rfl rfl (by decide +kernel)
set_option maxRecDepth 65536 in
theorem w_c1 : (Jvm.Cond.code ({ cls := "com/example/bandweave/bandweave/star/Transport", name := "<init>", desc := "(II)V" } : Jvm.MethodName) prog_33_method_1_code (3 : Nat) (Option.none : Option Jvm.ClassFile.FieldType)).before args0 about1 = true := code_word (m := ⟨2, 0⟩) (meth := k2m0) (c := k2c0) (by decide +kernel) rfl rfl rfl (by decide +kernel)
set_option maxRecDepth 65536 in
theorem w_c2 : (Jvm.Cond.code ({ cls := "java/lang/Object", name := "<init>", desc := "()V" } : Jvm.MethodName) object_method_1_code (1 : Nat) (Option.none : Option Jvm.ClassFile.FieldType)).before args0 about1 = true := code_word (m := ⟨0, 0⟩) (meth := k0m0) (c := k0c0) (by decide +kernel) rfl rfl rfl (by decide +kernel)
set_option maxRecDepth 65536 in
theorem w_c3 : (Jvm.Cond.code ({ cls := "com/example/bandweave/bandweave/star/Transport", name := "set", desc := "(IIIII)V" } : Jvm.MethodName) prog_33_method_5_code (8 : Nat) (Option.none : Option Jvm.ClassFile.FieldType)).before args0 about1 = true := code_word (m := ⟨2, 2⟩) (meth := k2m2) (c := k2c2) (by decide +kernel) rfl rfl rfl (by decide +kernel)
set_option maxRecDepth 65536 in
theorem w_c4 : (Jvm.Cond.code ({ cls := "com/example/bandweave/bandweave/star/TransportSetPinLaw", name := "expect", desc := "(IIIIIIII)I" } : Jvm.MethodName) method_3_code (8 : Nat) (Option.some Jvm.ClassFile.FieldType.int)).before args0 about1 = true := code_word (m := ⟨1, 2⟩) (meth := k1m2) (c := k1c2) (by decide +kernel) rfl rfl rfl (by decide +kernel)
set_option maxRecDepth 65536 in
theorem w_c5 : (Jvm.Cond.code ({ cls := "com/example/bandweave/bandweave/star/Transport", name := "count", desc := "(II)I" } : Jvm.MethodName) prog_33_method_4_code (3 : Nat) (Option.some Jvm.ClassFile.FieldType.int)).before args0 about1 = true := code_word (m := ⟨2, 1⟩) (meth := k2m1) (c := k2c1) (by decide +kernel) rfl rfl rfl (by decide +kernel)
set_option maxRecDepth 65536 in
theorem w_c6 : (Jvm.Cond.code ({ cls := "com/example/bandweave/bandweave/star/Transport", name := "sourceTotal", desc := "(I)I" } : Jvm.MethodName) prog_33_method_7_code (2 : Nat) (Option.some Jvm.ClassFile.FieldType.int)).before args0 about1 = true := code_word (m := ⟨2, 3⟩) (meth := k2m3) (c := k2c3) (by decide +kernel) rfl rfl rfl (by decide +kernel)
set_option maxRecDepth 65536 in
theorem w_c7 : (Jvm.Cond.code ({ cls := "com/example/bandweave/bandweave/star/Transport", name := "destinationTotal", desc := "(I)I" } : Jvm.MethodName) prog_33_method_8_code (2 : Nat) (Option.some Jvm.ClassFile.FieldType.int)).before args0 about1 = true := code_word (m := ⟨2, 4⟩) (meth := k2m4) (c := k2c4) (by decide +kernel) rfl rfl rfl (by decide +kernel)
def codes1 : List Jvm.Cond := [Jvm.Cond.code x code maxLocals ret, Jvm.Cond.code ({ cls := "com/example/bandweave/bandweave/star/Transport", name := "<init>", desc := "(II)V" } : Jvm.MethodName) prog_33_method_1_code (3 : Nat) (Option.none : Option Jvm.ClassFile.FieldType), Jvm.Cond.code ({ cls := "java/lang/Object", name := "<init>", desc := "()V" } : Jvm.MethodName) object_method_1_code (1 : Nat) (Option.none : Option Jvm.ClassFile.FieldType), Jvm.Cond.code ({ cls := "com/example/bandweave/bandweave/star/Transport", name := "set", desc := "(IIIII)V" } : Jvm.MethodName) prog_33_method_5_code (8 : Nat) (Option.none : Option Jvm.ClassFile.FieldType), Jvm.Cond.code ({ cls := "com/example/bandweave/bandweave/star/TransportSetPinLaw", name := "expect", desc := "(IIIIIIII)I" } : Jvm.MethodName) method_3_code (8 : Nat) (Option.some Jvm.ClassFile.FieldType.int), Jvm.Cond.code ({ cls := "com/example/bandweave/bandweave/star/Transport", name := "count", desc := "(II)I" } : Jvm.MethodName) prog_33_method_4_code (3 : Nat) (Option.some Jvm.ClassFile.FieldType.int), Jvm.Cond.code ({ cls := "com/example/bandweave/bandweave/star/Transport", name := "sourceTotal", desc := "(I)I" } : Jvm.MethodName) prog_33_method_7_code (2 : Nat) (Option.some Jvm.ClassFile.FieldType.int), Jvm.Cond.code ({ cls := "com/example/bandweave/bandweave/star/Transport", name := "destinationTotal", desc := "(I)I" } : Jvm.MethodName) prog_33_method_8_code (2 : Nat) (Option.some Jvm.ClassFile.FieldType.int)]
set_option maxRecDepth 65536 in
theorem codes_eq : words1.filter isCode = codes1 := rfl
theorem w_codes : ∀ c ∈ words1.filter isCode, c.before args0 about1 = true := by
  rw [codes_eq]
  intro c hc
  simp only [codes1, List.mem_cons, List.not_mem_nil, or_false] at hc
  rcases hc with rfl | rfl | rfl | rfl | rfl | rfl | rfl | rfl
  · exact w_c0
  · exact w_c1
  · exact w_c2
  · exact w_c3
  · exact w_c4
  · exact w_c5
  · exact w_c6
  · exact w_c7
set_option maxRecDepth 65536 in
theorem w_t1 : (words1.take 24).all (fun c => isCode c || c.before args0 about1) = true := by decide +kernel
set_option maxRecDepth 65536 in
theorem w_t2 : ((words1.drop 24).take 24).all (fun c => isCode c || c.before args0 about1) = true := by decide +kernel
set_option maxRecDepth 65536 in
theorem w_t3 : ((words1.drop 24).drop 24).all (fun c => isCode c || c.before args0 about1) = true := by decide +kernel
theorem w_tables : (allAtoms (Jvm.Cond.code x code maxLocals ret :: tables_1)).before args0 about1 = true := by
  rw [allAtoms_all]
  show words1.all (fun c => c.before args0 about1) = true
  refine all_split ?_ w_codes
  rw [← List.take_append_drop 24 words1, List.all_append, w_t1, ← List.take_append_drop 24 (words1.drop 24), List.all_append, w_t2, w_t3]
  rfl
set_option maxRecDepth 65536 in
theorem w_case : (Jvm.Cond.and given_1 narrow_1).before args0 about1 = true := by decide +kernel
theorem w_applies : (headSpec (Jvm.Cond.code x code maxLocals ret :: tables_1) room_1).applies x e0.platform about1 = true :=
  (Spec.applies_iff w_frames).mpr ⟨w_running, w_runnable, w_alone, w_named, w_hears, w_ripe, w_room, w_tables⟩
theorem atStart : AtStart classFile x code maxLocals ret World_1 tables_1 room_1 Calls_1 rest_1 Pre_1 launch0 p0 e0 about1 theMethod args0 below0 :=
  ⟨lists_1, trivial, launch0.admits_env _ _ _, launch0.least_env, fairChoices_fair.cas, fairChoices_fair.clock, w_frames, w_args, w_heap, w_applies, trivial, trivial, w_case⟩
end start1
theorem witness_1 : WitnessClaimed_1 := ⟨start1.p0, start1.e0, start1.about1, start1.theMethod, start1.args0, start1.below0, start1.atStart⟩
end Jvm.Pilot.@@N@@
