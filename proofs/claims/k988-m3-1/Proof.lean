import JvmDerived
import JvmDerived.Pilot.@@N@@Statement
import JvmDerived.Pilot.@@N@@Code
set_option linter.unusedVariables false
set_option linter.unusedSimpArgs false
namespace Jvm.OwnGo
open Sem ClassFile Op Lib Jvm.Stand Jvm.Free Jvm.LawKit Jvm.RoadKit
/-- one instruction: where it stands, what it is, its length, the next pc -/
def I1 (code : ByteArray) (pc : Nat) (i : Instr) (len pc' : Nat) : Prop := decode code pc = .ok (i, len) ∧ pc + len = pc'
/-- a branch: besides, where it leads -/
def B1 (code : ByteArray) (pc : Nat) (i : Instr) (o : Int) (pcT pcF : Nat) : Prop := decode code pc = .ok (i, 3) ∧ pc + 3 = pcF ∧ 0 ≤ (pc : Int) + o ∧ ((pc : Int) + o).toNat = pcT
/-- what is fixed while a body runs -/
def Cx (p : Program) (s : State) (m : MethodId) (meth : Method) (c : Code) (Z : State) (code : ByteArray) (maxL : Nat) (own : String) (ret : Option FieldType) : Prop :=
  p.tables.exec = Jvm.exec ∧ c.code = code ∧ c.maxLocals = maxL ∧ Z.Warmed39 s.vm ∧ s.vm.findClass own = some m.cls ∧ meth.sig.returnType = ret ∧ meth.locks = false
/-- from the frame g, over every state that stands there with the heap h, the body ends, and ends in Q -/
def Go (p : Program) (l : Launch) (e : Env) (R : Room) (s : State) (m : MethodId) (args : Array Value) (below : List Frame) (meth : Method) (c : Code) (n0 K N : Nat) (Q : Option Value → Heap → Prop) (h : Heap) (ck cn : Nat) (g : JFrame) : Prop :=
  ∀ (T : State) (locs : List Loc), Stand p l e R s m args below meth c T locs ck cn → T.heap = h → Fr n0 locs →
    ∃ s₂ o, Steps p.tables e below (T.setTop g) s₂ ∧ s₂.status = .running ∧ Ended s₂ below o ∧ ∃ v L, o = .returned v ∧ (Q v s₂.heap ∧ Fr n0 L) ∧ FrameEnd s o s₂ L K N
/-- a body's contract: from these arguments over this heap it returns as Q says, and writes nothing below n0 -/
def Ctr (l : Launch) (Z : State) (y : MethodName) (code : ByteArray) (maxL : Nat) (ret : Option FieldType) (rm : Room) (as' : Array Value) (h0 : Heap) (n0 : Nat) (Q : Option Value → Heap → Prop) : Prop :=
  ∀ ws : List Cond, MetFree l y (head1 (Cond.code y code maxL ret :: ws) rm) (fun a U => a = as' ∧ Z.Warmed39 U.vm ∧ U.heap = h0) (fun _ _ _ _ _ => True)
    (fun _ U o U' => ∃ v L, o = .returned v ∧ (Q v U'.heap ∧ Fr n0 L) ∧ FrameEnd U o U' L rm.cells rm.slots)
section
variable {p : Program} {l : Launch} {e : Env} {R : Room} {s : State} {m : MethodId} {args : Array Value} {below : List Frame} {meth : Method} {c : Code} {n0 K N : Nat} {Q : Option Value → Heap → Prop} {h : Heap} {ck cn : Nat} {Z : State} {a0 : Array Value} {code : ByteArray} {maxL : Nat} {own : String} {ret : Option FieldType}
theorem Ctr.of_go {y : MethodName} {rm : Room} {as' : Array Value} {h0 : Heap} {Ls : Array Slot} (hpl : plainFor y = true) (hef : ∀ m, entryFrame m as' maxL = mkF m 0 Ls [])
    (hgo : ∀ p e s m below meth c, meth.name = y.name → Cx p s m meth c Z code maxL y.cls ret → Go p l e rm s m as' below meth c n0 rm.cells rm.slots Q h0 0 0 (mkF m 0 Ls [])) : Ctr l Z y code maxL ret rm as' h0 n0 Q := fun ws => by
  refine MetFree.of_bodySF hpl hisR ?_
  intro p e s m args below meth c s₁ Bd hml0 hP hK
  obtain ⟨rfl, hZ, hh⟩ := hP
  have X0 : Stand p l e rm s m args below meth c s₁ [] 0 0 := Stand.of_body Bd
  have e0 : s₁.heap = h0 := by rw [← hh, Bd.state]; rfl
  obtain ⟨s₂, o, g1, g2, g3, v, L, g4, g5, g6⟩ := hgo p e s m below meth c (name_of_methodNamed Bd.named Bd.method).1 ⟨Bd.exec, Bd.bytes, hml0, hZ, findClass_of_methodNamed Bd.named, Bd.returns, Bd.notSynchronized⟩ s₁ [] X0 e0 (Fr.nil n0)
  exact ⟨s₂, o, castTop (hef m) g1, g2, g3, v, L, g4, g5, g6⟩
theorem Go.step {g g' : JFrame} (st : ∀ (T : State) (locs : List Loc), Stand p l e R s m args below meth c T locs ck cn → T.heap = h → ∀ target, Steps p.tables e below (T.setTop g') target → Steps p.tables e below (T.setTop g) target)
    (k : Go p l e R s m args below meth c n0 K N Q h ck cn g') : Go p l e R s m args below meth c n0 K N Q h ck cn g := fun T locs X eT hN => by
  obtain ⟨s₂, o, h1, r⟩ := k T locs X eT hN
  exact ⟨s₂, o, st T locs X eT _ h1, r⟩
/-- a step that moves the state: heap, counts -/
theorem Go.move {g g' : JFrame} {h' : Heap} {ck' cn' : Nat} {T : State} {locs : List Loc} (hN : Fr n0 locs) {T' : State} {locs' : List Loc} (X' : Stand p l e R s m args below meth c T' locs' ck' cn') (e' : T'.heap = h') (hN' : Fr n0 locs')
    (st : ∀ target, Steps p.tables e below (T'.setTop g') target → Steps p.tables e below (T.setTop g) target) (k : Go p l e R s m args below meth c n0 K N Q h' ck' cn' g') :
    ∃ s₂ o, Steps p.tables e below (T.setTop g) s₂ ∧ s₂.status = .running ∧ Ended s₂ below o ∧ ∃ v L, o = .returned v ∧ (Q v s₂.heap ∧ Fr n0 L) ∧ FrameEnd s o s₂ L K N := by
  obtain ⟨s₂, o, h1, r⟩ := k T' locs' X' e' hN'
  exact ⟨s₂, o, st _ h1, r⟩
theorem Go.join {g : JFrame} (g' : JFrame) (J : Go p l e R s m args below meth c n0 K N Q h ck cn g') (k : Go p l e R s m args below meth c n0 K N Q h ck cn g' → Go p l e R s m args below meth c n0 K N Q h ck cn g) : Go p l e R s m args below meth c n0 K N Q h ck cn g := k J
theorem Go.cast {g g' : JFrame} (k : Go p l e R s m args below meth c n0 K N Q h ck cn g') (q : g = g') : Go p l e R s m args below meth c n0 K N Q h ck cn g := q ▸ k
theorem Go.more {g : JFrame} {ck' cn' : Nat} (hc : ck ≤ ck') (hs : cn ≤ cn') (k : Go p l e R s m args below meth c n0 K N Q h ck' cn' g) : Go p l e R s m args below meth c n0 K N Q h ck cn g := fun T locs X eT hN => k T locs (X.more hc hs) eT hN
theorem Go.heap {g : JFrame} {h' : Heap} (q : h' = h) (k : Go p l e R s m args below meth c n0 K N Q h' ck cn g) : Go p l e R s m args below meth c n0 K N Q h ck cn g := q ▸ k
theorem Go.some' {v : Value} {pc : Nat} {Ls : Array Slot} {st : List Value} (k : Go p l e R s m args below meth c n0 K N Q h ck cn (mkF m pc Ls (v :: st))) : Go p l e R s m args below meth c n0 K N Q h ck cn (mkF m pc Ls ((some v).toList ++ st)) := k
theorem Go.none' {pc : Nat} {Ls : Array Slot} {st : List Value} (k : Go p l e R s m args below meth c n0 K N Q h ck cn (mkF m pc Ls st)) : Go p l e R s m args below meth c n0 K N Q h ck cn (mkF m pc Ls ((none : Option Value).toList ++ st)) := k
theorem g_iadd (C : Cx p s m meth c Z code maxL own ret) {pc pc' : Nat} {Ls : Array Slot} {st : List Value} {x y : Int32} (hd : I1 code pc (.iadd) 1 pc') (k : Go p l e R s m args below meth c n0 K N Q h ck cn (mkF m pc' Ls (.int (x + y) :: st))) : Go p l e R s m args below meth c n0 K N Q h ck cn (mkF m pc Ls (.int y :: .int x :: st)) := by
  obtain ⟨hd, rfl⟩ := hd
  exact Go.step (fun T locs X _ t k => XS.iadd X.here C.1 rfl (hb C.2.1 hd) rfl k) k
theorem g_isub (C : Cx p s m meth c Z code maxL own ret) {pc pc' : Nat} {Ls : Array Slot} {st : List Value} {x y : Int32} (hd : I1 code pc (.isub) 1 pc') (k : Go p l e R s m args below meth c n0 K N Q h ck cn (mkF m pc' Ls (.int (x - y) :: st))) : Go p l e R s m args below meth c n0 K N Q h ck cn (mkF m pc Ls (.int y :: .int x :: st)) := by
  obtain ⟨hd, rfl⟩ := hd
  exact Go.step (fun T locs X _ t k => XS.isub X.here C.1 rfl (hb C.2.1 hd) rfl k) k
theorem g_imul (C : Cx p s m meth c Z code maxL own ret) {pc pc' : Nat} {Ls : Array Slot} {st : List Value} {x y : Int32} (hd : I1 code pc (.imul) 1 pc') (k : Go p l e R s m args below meth c n0 K N Q h ck cn (mkF m pc' Ls (.int (x * y) :: st))) : Go p l e R s m args below meth c n0 K N Q h ck cn (mkF m pc Ls (.int y :: .int x :: st)) := by
  obtain ⟨hd, rfl⟩ := hd
  exact Go.step (fun T locs X _ t k => XS.imul X.here C.1 rfl (hb C.2.1 hd) rfl k) k
theorem g_iand (C : Cx p s m meth c Z code maxL own ret) {pc pc' : Nat} {Ls : Array Slot} {st : List Value} {x y : Int32} (hd : I1 code pc (.iand) 1 pc') (k : Go p l e R s m args below meth c n0 K N Q h ck cn (mkF m pc' Ls (.int (x &&& y) :: st))) : Go p l e R s m args below meth c n0 K N Q h ck cn (mkF m pc Ls (.int y :: .int x :: st)) := by
  obtain ⟨hd, rfl⟩ := hd
  exact Go.step (fun T locs X _ t k => XS.iand X.here C.1 rfl (hb C.2.1 hd) rfl k) k
theorem g_ior (C : Cx p s m meth c Z code maxL own ret) {pc pc' : Nat} {Ls : Array Slot} {st : List Value} {x y : Int32} (hd : I1 code pc (.ior) 1 pc') (k : Go p l e R s m args below meth c n0 K N Q h ck cn (mkF m pc' Ls (.int (x ||| y) :: st))) : Go p l e R s m args below meth c n0 K N Q h ck cn (mkF m pc Ls (.int y :: .int x :: st)) := by
  obtain ⟨hd, rfl⟩ := hd
  exact Go.step (fun T locs X _ t k => XS.ior X.here C.1 rfl (hb C.2.1 hd) rfl k) k
theorem g_ixor (C : Cx p s m meth c Z code maxL own ret) {pc pc' : Nat} {Ls : Array Slot} {st : List Value} {x y : Int32} (hd : I1 code pc (.ixor) 1 pc') (k : Go p l e R s m args below meth c n0 K N Q h ck cn (mkF m pc' Ls (.int (x ^^^ y) :: st))) : Go p l e R s m args below meth c n0 K N Q h ck cn (mkF m pc Ls (.int y :: .int x :: st)) := by
  obtain ⟨hd, rfl⟩ := hd
  exact Go.step (fun T locs X _ t k => XS.ixor X.here C.1 rfl (hb C.2.1 hd) rfl k) k
theorem g_ishl (C : Cx p s m meth c Z code maxL own ret) {pc pc' : Nat} {Ls : Array Slot} {st : List Value} {x y : Int32} (hd : I1 code pc (.ishl) 1 pc') (k : Go p l e R s m args below meth c n0 K N Q h ck cn (mkF m pc' Ls (.int (x <<< (y &&& 31)) :: st))) : Go p l e R s m args below meth c n0 K N Q h ck cn (mkF m pc Ls (.int y :: .int x :: st)) := by
  obtain ⟨hd, rfl⟩ := hd
  exact Go.step (fun T locs X _ t k => XS.ishl X.here C.1 rfl (hb C.2.1 hd) rfl k) k
theorem g_ishr (C : Cx p s m meth c Z code maxL own ret) {pc pc' : Nat} {Ls : Array Slot} {st : List Value} {x y : Int32} (hd : I1 code pc (.ishr) 1 pc') (k : Go p l e R s m args below meth c n0 K N Q h ck cn (mkF m pc' Ls (.int (x >>> (y &&& 31)) :: st))) : Go p l e R s m args below meth c n0 K N Q h ck cn (mkF m pc Ls (.int y :: .int x :: st)) := by
  obtain ⟨hd, rfl⟩ := hd
  exact Go.step (fun T locs X _ t k => XS.ishr X.here C.1 rfl (hb C.2.1 hd) rfl k) k
theorem g_iushr (C : Cx p s m meth c Z code maxL own ret) {pc pc' : Nat} {Ls : Array Slot} {st : List Value} {x y : Int32} (hd : I1 code pc (.iushr) 1 pc') (k : Go p l e R s m args below meth c n0 K N Q h ck cn (mkF m pc' Ls (.int ((x.toUInt32 >>> (y &&& 31).toUInt32).toInt32) :: st))) : Go p l e R s m args below meth c n0 K N Q h ck cn (mkF m pc Ls (.int y :: .int x :: st)) := by
  obtain ⟨hd, rfl⟩ := hd
  exact Go.step (fun T locs X _ t k => XS.iushr X.here C.1 rfl (hb C.2.1 hd) rfl k) k
theorem g_ladd (C : Cx p s m meth c Z code maxL own ret) {pc pc' : Nat} {Ls : Array Slot} {st : List Value} {x y : Int64} (hd : I1 code pc (.ladd) 1 pc') (k : Go p l e R s m args below meth c n0 K N Q h ck cn (mkF m pc' Ls (.long (x + y) :: st))) : Go p l e R s m args below meth c n0 K N Q h ck cn (mkF m pc Ls (.long y :: .long x :: st)) := by
  obtain ⟨hd, rfl⟩ := hd
  exact Go.step (fun T locs X _ t k => XS.ladd X.here C.1 rfl (hb C.2.1 hd) rfl k) k
theorem g_lsub (C : Cx p s m meth c Z code maxL own ret) {pc pc' : Nat} {Ls : Array Slot} {st : List Value} {x y : Int64} (hd : I1 code pc (.lsub) 1 pc') (k : Go p l e R s m args below meth c n0 K N Q h ck cn (mkF m pc' Ls (.long (x - y) :: st))) : Go p l e R s m args below meth c n0 K N Q h ck cn (mkF m pc Ls (.long y :: .long x :: st)) := by
  obtain ⟨hd, rfl⟩ := hd
  exact Go.step (fun T locs X _ t k => XS.lsub X.here C.1 rfl (hb C.2.1 hd) rfl k) k
theorem g_lmul (C : Cx p s m meth c Z code maxL own ret) {pc pc' : Nat} {Ls : Array Slot} {st : List Value} {x y : Int64} (hd : I1 code pc (.lmul) 1 pc') (k : Go p l e R s m args below meth c n0 K N Q h ck cn (mkF m pc' Ls (.long (x * y) :: st))) : Go p l e R s m args below meth c n0 K N Q h ck cn (mkF m pc Ls (.long y :: .long x :: st)) := by
  obtain ⟨hd, rfl⟩ := hd
  exact Go.step (fun T locs X _ t k => XS.lmul X.here C.1 rfl (hb C.2.1 hd) rfl k) k
theorem g_land (C : Cx p s m meth c Z code maxL own ret) {pc pc' : Nat} {Ls : Array Slot} {st : List Value} {x y : Int64} (hd : I1 code pc (.land) 1 pc') (k : Go p l e R s m args below meth c n0 K N Q h ck cn (mkF m pc' Ls (.long (x &&& y) :: st))) : Go p l e R s m args below meth c n0 K N Q h ck cn (mkF m pc Ls (.long y :: .long x :: st)) := by
  obtain ⟨hd, rfl⟩ := hd
  exact Go.step (fun T locs X _ t k => XS.land X.here C.1 rfl (hb C.2.1 hd) rfl k) k
theorem g_lor (C : Cx p s m meth c Z code maxL own ret) {pc pc' : Nat} {Ls : Array Slot} {st : List Value} {x y : Int64} (hd : I1 code pc (.lor) 1 pc') (k : Go p l e R s m args below meth c n0 K N Q h ck cn (mkF m pc' Ls (.long (x ||| y) :: st))) : Go p l e R s m args below meth c n0 K N Q h ck cn (mkF m pc Ls (.long y :: .long x :: st)) := by
  obtain ⟨hd, rfl⟩ := hd
  exact Go.step (fun T locs X _ t k => XS.lor X.here C.1 rfl (hb C.2.1 hd) rfl k) k
theorem g_lxor (C : Cx p s m meth c Z code maxL own ret) {pc pc' : Nat} {Ls : Array Slot} {st : List Value} {x y : Int64} (hd : I1 code pc (.lxor) 1 pc') (k : Go p l e R s m args below meth c n0 K N Q h ck cn (mkF m pc' Ls (.long (x ^^^ y) :: st))) : Go p l e R s m args below meth c n0 K N Q h ck cn (mkF m pc Ls (.long y :: .long x :: st)) := by
  obtain ⟨hd, rfl⟩ := hd
  exact Go.step (fun T locs X _ t k => XS.lxor X.here C.1 rfl (hb C.2.1 hd) rfl k) k
theorem g_lshl (C : Cx p s m meth c Z code maxL own ret) {pc pc' : Nat} {Ls : Array Slot} {st : List Value} {x : Int64} {y : Int32} (hd : I1 code pc (.lshl) 1 pc') (k : Go p l e R s m args below meth c n0 K N Q h ck cn (mkF m pc' Ls (.long (x <<< (y &&& 0x3f).toInt64) :: st))) : Go p l e R s m args below meth c n0 K N Q h ck cn (mkF m pc Ls (.int y :: .long x :: st)) := by
  obtain ⟨hd, rfl⟩ := hd
  exact Go.step (fun T locs X _ t k => XS.lshl X.here C.1 rfl (hb C.2.1 hd) rfl k) k
theorem g_lshr (C : Cx p s m meth c Z code maxL own ret) {pc pc' : Nat} {Ls : Array Slot} {st : List Value} {x : Int64} {y : Int32} (hd : I1 code pc (.lshr) 1 pc') (k : Go p l e R s m args below meth c n0 K N Q h ck cn (mkF m pc' Ls (.long (x >>> (y &&& 0x3f).toInt64) :: st))) : Go p l e R s m args below meth c n0 K N Q h ck cn (mkF m pc Ls (.int y :: .long x :: st)) := by
  obtain ⟨hd, rfl⟩ := hd
  exact Go.step (fun T locs X _ t k => XS.lshr X.here C.1 rfl (hb C.2.1 hd) rfl k) k
theorem g_lushr (C : Cx p s m meth c Z code maxL own ret) {pc pc' : Nat} {Ls : Array Slot} {st : List Value} {x : Int64} {y : Int32} (hd : I1 code pc (.lushr) 1 pc') (k : Go p l e R s m args below meth c n0 K N Q h ck cn (mkF m pc' Ls (.long ((x.toUInt64 >>> (y &&& 0x3f).toInt64.toUInt64).toInt64) :: st))) : Go p l e R s m args below meth c n0 K N Q h ck cn (mkF m pc Ls (.int y :: .long x :: st)) := by
  obtain ⟨hd, rfl⟩ := hd
  exact Go.step (fun T locs X _ t k => XS.lushr X.here C.1 rfl (hb C.2.1 hd) rfl k) k
theorem g_lcmp (C : Cx p s m meth c Z code maxL own ret) {pc pc' : Nat} {Ls : Array Slot} {st : List Value} {x y : Int64} (hd : I1 code pc (.lcmp) 1 pc') (k : Go p l e R s m args below meth c n0 K N Q h ck cn (mkF m pc' Ls (.int (lcmpW x y) :: st))) : Go p l e R s m args below meth c n0 K N Q h ck cn (mkF m pc Ls (.long y :: .long x :: st)) := by
  obtain ⟨hd, rfl⟩ := hd
  exact Go.step (fun T locs X _ t k => XS.lcmp X.here C.1 rfl (hb C.2.1 hd) rfl k) k
theorem g_ineg (C : Cx p s m meth c Z code maxL own ret) {pc pc' : Nat} {Ls : Array Slot} {st : List Value} {x : Int32} (hd : I1 code pc (.ineg) 1 pc') (k : Go p l e R s m args below meth c n0 K N Q h ck cn (mkF m pc' Ls (.int (-x) :: st))) : Go p l e R s m args below meth c n0 K N Q h ck cn (mkF m pc Ls (.int x :: st)) := by
  obtain ⟨hd, rfl⟩ := hd
  exact Go.step (fun T locs X _ t k => XS.ineg X.here C.1 rfl (hb C.2.1 hd) rfl k) k
theorem g_lneg (C : Cx p s m meth c Z code maxL own ret) {pc pc' : Nat} {Ls : Array Slot} {st : List Value} {x : Int64} (hd : I1 code pc (.lneg) 1 pc') (k : Go p l e R s m args below meth c n0 K N Q h ck cn (mkF m pc' Ls (.long (-x) :: st))) : Go p l e R s m args below meth c n0 K N Q h ck cn (mkF m pc Ls (.long x :: st)) := by
  obtain ⟨hd, rfl⟩ := hd
  exact Go.step (fun T locs X _ t k => XS.lneg X.here C.1 rfl (hb C.2.1 hd) rfl k) k
theorem g_i2l (C : Cx p s m meth c Z code maxL own ret) {pc pc' : Nat} {Ls : Array Slot} {st : List Value} {x : Int32} (hd : I1 code pc (.i2l) 1 pc') (k : Go p l e R s m args below meth c n0 K N Q h ck cn (mkF m pc' Ls (.long x.toInt64 :: st))) : Go p l e R s m args below meth c n0 K N Q h ck cn (mkF m pc Ls (.int x :: st)) := by
  obtain ⟨hd, rfl⟩ := hd
  exact Go.step (fun T locs X _ t k => XS.i2l X.here C.1 rfl (hb C.2.1 hd) rfl k) k
theorem g_l2i (C : Cx p s m meth c Z code maxL own ret) {pc pc' : Nat} {Ls : Array Slot} {st : List Value} {x : Int64} (hd : I1 code pc (.l2i) 1 pc') (k : Go p l e R s m args below meth c n0 K N Q h ck cn (mkF m pc' Ls (.int x.toInt32 :: st))) : Go p l e R s m args below meth c n0 K N Q h ck cn (mkF m pc Ls (.long x :: st)) := by
  obtain ⟨hd, rfl⟩ := hd
  exact Go.step (fun T locs X _ t k => XS.l2i X.here C.1 rfl (hb C.2.1 hd) rfl k) k
theorem g_i2b (C : Cx p s m meth c Z code maxL own ret) {pc pc' : Nat} {Ls : Array Slot} {st : List Value} {x : Int32} (hd : I1 code pc (.i2b) 1 pc') (k : Go p l e R s m args below meth c n0 K N Q h ck cn (mkF m pc' Ls (.int x.toInt8.toInt32 :: st))) : Go p l e R s m args below meth c n0 K N Q h ck cn (mkF m pc Ls (.int x :: st)) := by
  obtain ⟨hd, rfl⟩ := hd
  exact Go.step (fun T locs X _ t k => XS.i2b X.here C.1 rfl (hb C.2.1 hd) rfl k) k
theorem g_i2s (C : Cx p s m meth c Z code maxL own ret) {pc pc' : Nat} {Ls : Array Slot} {st : List Value} {x : Int32} (hd : I1 code pc (.i2s) 1 pc') (k : Go p l e R s m args below meth c n0 K N Q h ck cn (mkF m pc' Ls (.int x.toInt16.toInt32 :: st))) : Go p l e R s m args below meth c n0 K N Q h ck cn (mkF m pc Ls (.int x :: st)) := by
  obtain ⟨hd, rfl⟩ := hd
  exact Go.step (fun T locs X _ t k => XS.i2s X.here C.1 rfl (hb C.2.1 hd) rfl k) k
theorem g_i2c (C : Cx p s m meth c Z code maxL own ret) {pc pc' : Nat} {Ls : Array Slot} {st : List Value} {x : Int32} (hd : I1 code pc (.i2c) 1 pc') (k : Go p l e R s m args below meth c n0 K N Q h ck cn (mkF m pc' Ls (.int x.toUInt32.toUInt16.toUInt32.toInt32 :: st))) : Go p l e R s m args below meth c n0 K N Q h ck cn (mkF m pc Ls (.int x :: st)) := by
  obtain ⟨hd, rfl⟩ := hd
  exact Go.step (fun T locs X _ t k => XS.i2c X.here C.1 rfl (hb C.2.1 hd) rfl k) k
theorem g_idiv (C : Cx p s m meth c Z code maxL own ret) {pc pc' : Nat} {Ls : Array Slot} {st : List Value} {x y : Int32} (hd : I1 code pc (.idiv) 1 pc') (hy : y ≠ 0) (k : Go p l e R s m args below meth c n0 K N Q h ck cn (mkF m pc' Ls (.int (x / y) :: st))) : Go p l e R s m args below meth c n0 K N Q h ck cn (mkF m pc Ls (.int y :: .int x :: st)) := by
  obtain ⟨hd, rfl⟩ := hd
  exact Go.step (fun T locs X _ t k => XS.idiv X.here C.1 rfl (hb C.2.1 hd) rfl hy k) k
theorem g_ldiv (C : Cx p s m meth c Z code maxL own ret) {pc pc' : Nat} {Ls : Array Slot} {st : List Value} {x y : Int64} (hd : I1 code pc (.ldiv) 1 pc') (hy : y ≠ 0) (k : Go p l e R s m args below meth c n0 K N Q h ck cn (mkF m pc' Ls (.long (x / y) :: st))) : Go p l e R s m args below meth c n0 K N Q h ck cn (mkF m pc Ls (.long y :: .long x :: st)) := by
  obtain ⟨hd, rfl⟩ := hd
  exact Go.step (fun T locs X _ t k => XS.ldiv X.here C.1 rfl (hb C.2.1 hd) rfl hy k) k
theorem g_irem (C : Cx p s m meth c Z code maxL own ret) {pc pc' : Nat} {Ls : Array Slot} {st : List Value} {x y : Int32} (hd : I1 code pc .irem 1 pc') (hy : y ≠ 0) (k : Go p l e R s m args below meth c n0 K N Q h ck cn (mkF m pc' Ls (.int (x % y) :: st))) : Go p l e R s m args below meth c n0 K N Q h ck cn (mkF m pc Ls (.int y :: .int x :: st)) := by
  obtain ⟨hd, rfl⟩ := hd
  exact Go.step (fun T locs X _ t k => iremM X C.1 rfl (hb C.2.1 hd) rfl hy k) k
theorem g_lrem (C : Cx p s m meth c Z code maxL own ret) {pc pc' : Nat} {Ls : Array Slot} {st : List Value} {x y : Int64} (hd : I1 code pc .lrem 1 pc') (hy : y ≠ 0) (k : Go p l e R s m args below meth c n0 K N Q h ck cn (mkF m pc' Ls (.long (x % y) :: st))) : Go p l e R s m args below meth c n0 K N Q h ck cn (mkF m pc Ls (.long y :: .long x :: st)) := by
  obtain ⟨hd, rfl⟩ := hd
  exact Go.step (fun T locs X _ t k => XS.lrem X.here C.1 rfl (hb C.2.1 hd) rfl hy (by rw [lrem_mod]; exact k)) k
theorem g_iloadN (C : Cx p s m meth c Z code maxL own ret) {pc pc' : Nat} {Ls : Array Slot} {st : List Value} {k : Fin 4} {v : Int32} (hd : I1 code pc (.iload_n k) 1 pc') (hl : Ls[k.val]? = some (.val (.int v))) (k : Go p l e R s m args below meth c n0 K N Q h ck cn (mkF m pc' Ls (.int v :: st))) : Go p l e R s m args below meth c n0 K N Q h ck cn (mkF m pc Ls (st)) := by
  obtain ⟨hd, rfl⟩ := hd
  exact Go.step (fun T locs X _ t k => XS.iloadN X.here C.1 rfl (hb C.2.1 hd) hl k) k
theorem g_iload (C : Cx p s m meth c Z code maxL own ret) {pc pc' : Nat} {Ls : Array Slot} {st : List Value} {k : Nat} {v : Int32} (hd : I1 code pc (.iload k) 2 pc') (hl : Ls[k]? = some (.val (.int v))) (k : Go p l e R s m args below meth c n0 K N Q h ck cn (mkF m pc' Ls (.int v :: st))) : Go p l e R s m args below meth c n0 K N Q h ck cn (mkF m pc Ls (st)) := by
  obtain ⟨hd, rfl⟩ := hd
  exact Go.step (fun T locs X _ t k => XS.iload X.here C.1 rfl (hb C.2.1 hd) hl k) k
theorem g_istoreN (C : Cx p s m meth c Z code maxL own ret) {pc pc' : Nat} {Ls : Array Slot} {st : List Value} {k : Fin 4} {x : Int32} {Ls' : Array Slot} (hd : I1 code pc (.istore_n k) 1 pc') (hl : storeLocals Ls k.val (.int x) = some Ls') (k : Go p l e R s m args below meth c n0 K N Q h ck cn (mkF m pc' Ls' (st))) : Go p l e R s m args below meth c n0 K N Q h ck cn (mkF m pc Ls (.int x :: st)) := by
  obtain ⟨hd, rfl⟩ := hd
  exact Go.step (fun T locs X _ t k => XS.istoreN X.here C.1 rfl (hb C.2.1 hd) rfl hl k) k
theorem g_istore (C : Cx p s m meth c Z code maxL own ret) {pc pc' : Nat} {Ls : Array Slot} {st : List Value} {k : Nat} {x : Int32} {Ls' : Array Slot} (hd : I1 code pc (.istore k) 2 pc') (hl : storeLocals Ls k (.int x) = some Ls') (k : Go p l e R s m args below meth c n0 K N Q h ck cn (mkF m pc' Ls' (st))) : Go p l e R s m args below meth c n0 K N Q h ck cn (mkF m pc Ls (.int x :: st)) := by
  obtain ⟨hd, rfl⟩ := hd
  exact Go.step (fun T locs X _ t k => XS.istore X.here C.1 rfl (hb C.2.1 hd) rfl hl k) k
theorem g_lloadN (C : Cx p s m meth c Z code maxL own ret) {pc pc' : Nat} {Ls : Array Slot} {st : List Value} {k : Fin 4} {v : Int64} (hd : I1 code pc (.lload_n k) 1 pc') (hl : Ls[k.val]? = some (.val (.long v))) (k : Go p l e R s m args below meth c n0 K N Q h ck cn (mkF m pc' Ls (.long v :: st))) : Go p l e R s m args below meth c n0 K N Q h ck cn (mkF m pc Ls (st)) := by
  obtain ⟨hd, rfl⟩ := hd
  exact Go.step (fun T locs X _ t k => XS.lloadN X.here C.1 rfl (hb C.2.1 hd) hl k) k
theorem g_lload (C : Cx p s m meth c Z code maxL own ret) {pc pc' : Nat} {Ls : Array Slot} {st : List Value} {k : Nat} {v : Int64} (hd : I1 code pc (.lload k) 2 pc') (hl : Ls[k]? = some (.val (.long v))) (k : Go p l e R s m args below meth c n0 K N Q h ck cn (mkF m pc' Ls (.long v :: st))) : Go p l e R s m args below meth c n0 K N Q h ck cn (mkF m pc Ls (st)) := by
  obtain ⟨hd, rfl⟩ := hd
  exact Go.step (fun T locs X _ t k => XS.lload X.here C.1 rfl (hb C.2.1 hd) hl k) k
theorem g_lstoreN (C : Cx p s m meth c Z code maxL own ret) {pc pc' : Nat} {Ls : Array Slot} {st : List Value} {k : Fin 4} {x : Int64} {Ls' : Array Slot} (hd : I1 code pc (.lstore_n k) 1 pc') (hl : storeLocals Ls k.val (.long x) = some Ls') (k : Go p l e R s m args below meth c n0 K N Q h ck cn (mkF m pc' Ls' (st))) : Go p l e R s m args below meth c n0 K N Q h ck cn (mkF m pc Ls (.long x :: st)) := by
  obtain ⟨hd, rfl⟩ := hd
  exact Go.step (fun T locs X _ t k => XS.lstoreN X.here C.1 rfl (hb C.2.1 hd) rfl hl k) k
theorem g_lstore (C : Cx p s m meth c Z code maxL own ret) {pc pc' : Nat} {Ls : Array Slot} {st : List Value} {k : Nat} {x : Int64} {Ls' : Array Slot} (hd : I1 code pc (.lstore k) 2 pc') (hl : storeLocals Ls k (.long x) = some Ls') (k : Go p l e R s m args below meth c n0 K N Q h ck cn (mkF m pc' Ls' (st))) : Go p l e R s m args below meth c n0 K N Q h ck cn (mkF m pc Ls (.long x :: st)) := by
  obtain ⟨hd, rfl⟩ := hd
  exact Go.step (fun T locs X _ t k => XS.lstore X.here C.1 rfl (hb C.2.1 hd) rfl hl k) k
theorem g_aloadN (C : Cx p s m meth c Z code maxL own ret) {pc pc' : Nat} {Ls : Array Slot} {st : List Value} {k : Fin 4} {v : Value} (hd : I1 code pc (.aload_n k) 1 pc') (hl : Ls[k.val]? = some (.val v)) (hv : v.isRef = true) (k : Go p l e R s m args below meth c n0 K N Q h ck cn (mkF m pc' Ls (v :: st))) : Go p l e R s m args below meth c n0 K N Q h ck cn (mkF m pc Ls (st)) := by
  obtain ⟨hd, rfl⟩ := hd
  exact Go.step (fun T locs X _ t k => XS.aloadN X.here C.1 rfl (hb C.2.1 hd) hl hv k) k
theorem g_aload (C : Cx p s m meth c Z code maxL own ret) {pc pc' : Nat} {Ls : Array Slot} {st : List Value} {k : Nat} {v : Value} (hd : I1 code pc (.aload k) 2 pc') (hl : Ls[k]? = some (.val v)) (hv : v.isRef = true) (k : Go p l e R s m args below meth c n0 K N Q h ck cn (mkF m pc' Ls (v :: st))) : Go p l e R s m args below meth c n0 K N Q h ck cn (mkF m pc Ls (st)) := by
  obtain ⟨hd, rfl⟩ := hd
  exact Go.step (fun T locs X _ t k => XS.aload X.here C.1 rfl (hb C.2.1 hd) hl hv k) k
theorem g_astoreN (C : Cx p s m meth c Z code maxL own ret) {pc pc' : Nat} {Ls : Array Slot} {st : List Value} {k : Fin 4} {x : Value} {Ls' : Array Slot} (hd : I1 code pc (.astore_n k) 1 pc') (hv : x.isRef = true) (hl : storeLocals Ls k.val x = some Ls') (k : Go p l e R s m args below meth c n0 K N Q h ck cn (mkF m pc' Ls' (st))) : Go p l e R s m args below meth c n0 K N Q h ck cn (mkF m pc Ls (x :: st)) := by
  obtain ⟨hd, rfl⟩ := hd
  exact Go.step (fun T locs X _ t k => XS.astoreN X.here C.1 rfl (hb C.2.1 hd) rfl hv hl k) k
theorem g_astore (C : Cx p s m meth c Z code maxL own ret) {pc pc' : Nat} {Ls : Array Slot} {st : List Value} {k : Nat} {x : Value} {Ls' : Array Slot} (hd : I1 code pc (.astore k) 2 pc') (hv : x.isRef = true) (hl : storeLocals Ls k x = some Ls') (k : Go p l e R s m args below meth c n0 K N Q h ck cn (mkF m pc' Ls' (st))) : Go p l e R s m args below meth c n0 K N Q h ck cn (mkF m pc Ls (x :: st)) := by
  obtain ⟨hd, rfl⟩ := hd
  exact Go.step (fun T locs X _ t k => XS.astore X.here C.1 rfl (hb C.2.1 hd) rfl hv hl k) k
theorem g_iinc (C : Cx p s m meth c Z code maxL own ret) {pc pc' : Nat} {Ls : Array Slot} {st : List Value} {k : Nat} {cst : Int} {x : Int32} {Ls' : Array Slot} (hd : I1 code pc (.iinc k cst) 3 pc') (hl : Ls[k]? = some (.val (.int x))) (hl' : storeLocals Ls k (.int (x + Int32.ofInt cst)) = some Ls') (k : Go p l e R s m args below meth c n0 K N Q h ck cn (mkF m pc' Ls' (st))) : Go p l e R s m args below meth c n0 K N Q h ck cn (mkF m pc Ls (st)) := by
  obtain ⟨hd, rfl⟩ := hd
  exact Go.step (fun T locs X _ t k => XS.iinc X.here C.1 rfl (hb C.2.1 hd) hl hl' k) k
theorem g_iconst (C : Cx p s m meth c Z code maxL own ret) {pc pc' : Nat} {Ls : Array Slot} {st : List Value} {i : Int} (v : Int32) (hd : I1 code pc (.iconst i) 1 pc') (hv : Int32.ofInt i = v) (k : Go p l e R s m args below meth c n0 K N Q h ck cn (mkF m pc' Ls (.int v :: st))) : Go p l e R s m args below meth c n0 K N Q h ck cn (mkF m pc Ls st) := by
  obtain ⟨hd, rfl⟩ := hd
  subst hv
  exact Go.step (fun T locs X _ t k => XS.iconst X.here C.1 rfl (hb C.2.1 hd) k) k
theorem g_bipush (C : Cx p s m meth c Z code maxL own ret) {pc pc' : Nat} {Ls : Array Slot} {st : List Value} {i : Int} (v : Int32) (hd : I1 code pc (.bipush i) 2 pc') (hv : (Int8.ofInt i).toInt32 = v) (k : Go p l e R s m args below meth c n0 K N Q h ck cn (mkF m pc' Ls (.int v :: st))) : Go p l e R s m args below meth c n0 K N Q h ck cn (mkF m pc Ls st) := by
  obtain ⟨hd, rfl⟩ := hd
  subst hv
  exact Go.step (fun T locs X _ t k => XS.bipush X.here C.1 rfl (hb C.2.1 hd) k) k
theorem g_sipush (C : Cx p s m meth c Z code maxL own ret) {pc pc' : Nat} {Ls : Array Slot} {st : List Value} {i : Int} (v : Int32) (hd : I1 code pc (.sipush i) 3 pc') (hv : (Int16.ofInt i).toInt32 = v) (k : Go p l e R s m args below meth c n0 K N Q h ck cn (mkF m pc' Ls (.int v :: st))) : Go p l e R s m args below meth c n0 K N Q h ck cn (mkF m pc Ls st) := by
  obtain ⟨hd, rfl⟩ := hd
  subst hv
  exact Go.step (fun T locs X _ t k => XS.sipush X.here C.1 rfl (hb C.2.1 hd) k) k
theorem g_lconst (C : Cx p s m meth c Z code maxL own ret) {pc pc' : Nat} {Ls : Array Slot} {st : List Value} {i : Fin 2} (v : Int64) (hd : I1 code pc (.lconst i) 1 pc') (hv : Int64.ofNat i = v) (k : Go p l e R s m args below meth c n0 K N Q h ck cn (mkF m pc' Ls (.long v :: st))) : Go p l e R s m args below meth c n0 K N Q h ck cn (mkF m pc Ls st) := by
  obtain ⟨hd, rfl⟩ := hd
  subst hv
  exact Go.step (fun T locs X _ t k => XS.lconst X.here C.1 rfl (hb C.2.1 hd) k) k
theorem g_aconstNull (C : Cx p s m meth c Z code maxL own ret) {pc pc' : Nat} {Ls : Array Slot} {st : List Value}  (hd : I1 code pc (.aconst_null) 1 pc') (k : Go p l e R s m args below meth c n0 K N Q h ck cn (mkF m pc' Ls (.null :: st))) : Go p l e R s m args below meth c n0 K N Q h ck cn (mkF m pc Ls (st)) := by
  obtain ⟨hd, rfl⟩ := hd
  exact Go.step (fun T locs X _ t k => XS.aconstNull X.here C.1 rfl (hb C.2.1 hd)  k) k
theorem g_ldcInt (C : Cx p s m meth c Z code maxL own ret) {pc pc' : Nat} {Ls : Array Slot} {st : List Value} {i : Nat} {v : Int32} (hd : I1 code pc (.ldc i) 2 pc') (w : (Cond.constant own i v).before a0 Z = true) (k : Go p l e R s m args below meth c n0 K N Q h ck cn (mkF m pc' Ls (.int v :: st))) : Go p l e R s m args below meth c n0 K N Q h ck cn (mkF m pc Ls st) := by
  obtain ⟨hd, rfl⟩ := hd
  exact Go.step (fun T locs X _ t k => X.ldcInt C.1 C.2.2.2.2.1 (mvT C.2.2.2.1 w) (g := mkF m pc Ls st) rfl (hb C.2.1 hd) _ k) k
theorem g_ldcwInt (C : Cx p s m meth c Z code maxL own ret) {pc pc' : Nat} {Ls : Array Slot} {st : List Value} {i : Nat} {v : Int32} (hd : I1 code pc (.ldc_w i) 3 pc') (w : (Cond.constant own i v).before a0 Z = true) (k : Go p l e R s m args below meth c n0 K N Q h ck cn (mkF m pc' Ls (.int v :: st))) : Go p l e R s m args below meth c n0 K N Q h ck cn (mkF m pc Ls st) := by
  obtain ⟨hd, rfl⟩ := hd
  exact Go.step (fun T locs X _ t k => X.ldcwInt C.1 C.2.2.2.2.1 (mvT C.2.2.2.1 w) (g := mkF m pc Ls st) rfl (hb C.2.1 hd) _ k) k
theorem g_ldc2Long (C : Cx p s m meth c Z code maxL own ret) {pc pc' : Nat} {Ls : Array Slot} {st : List Value} {i : Nat} {v : Int64} (hd : I1 code pc (.ldc2_w i) 3 pc') (w : (Cond.constantLong own i v).before a0 Z = true) (k : Go p l e R s m args below meth c n0 K N Q h ck cn (mkF m pc' Ls (.long v :: st))) : Go p l e R s m args below meth c n0 K N Q h ck cn (mkF m pc Ls st) := by
  obtain ⟨hd, rfl⟩ := hd
  exact Go.step (fun T locs X _ t k => X.ldc2Long C.1 C.2.2.2.2.1 (mvT C.2.2.2.1 w) (g := mkF m pc Ls st) rfl (hb C.2.1 hd) _ k) k
theorem g_dup (C : Cx p s m meth c Z code maxL own ret) {pc pc' : Nat} {Ls : Array Slot} {st : List Value} {x : Value} (hd : I1 code pc (.dup) 1 pc') (hc : x.category = 1) (k : Go p l e R s m args below meth c n0 K N Q h ck cn (mkF m pc' Ls (x :: x :: st))) : Go p l e R s m args below meth c n0 K N Q h ck cn (mkF m pc Ls (x :: st)) := by
  obtain ⟨hd, rfl⟩ := hd
  exact Go.step (fun T locs X _ t k => XS.dup X.here C.1 rfl (hb C.2.1 hd) rfl hc k) k
theorem g_pop (C : Cx p s m meth c Z code maxL own ret) {pc pc' : Nat} {Ls : Array Slot} {st : List Value} {x : Value} (hd : I1 code pc (.pop) 1 pc') (hc : x.category = 1) (k : Go p l e R s m args below meth c n0 K N Q h ck cn (mkF m pc' Ls (st))) : Go p l e R s m args below meth c n0 K N Q h ck cn (mkF m pc Ls (x :: st)) := by
  obtain ⟨hd, rfl⟩ := hd
  exact Go.step (fun T locs X _ t k => XS.pop X.here C.1 rfl (hb C.2.1 hd) rfl hc k) k
theorem g_dupX1 (C : Cx p s m meth c Z code maxL own ret) {pc pc' : Nat} {Ls : Array Slot} {st : List Value} {x y : Value} (hd : I1 code pc (.dup_x1) 1 pc') (hc : x.category = 1) (hc' : y.category = 1) (k : Go p l e R s m args below meth c n0 K N Q h ck cn (mkF m pc' Ls (x :: y :: x :: st))) : Go p l e R s m args below meth c n0 K N Q h ck cn (mkF m pc Ls (x :: y :: st)) := by
  obtain ⟨hd, rfl⟩ := hd
  exact Go.step (fun T locs X _ t k => XS.dupX1 X.here C.1 rfl (hb C.2.1 hd) rfl hc hc' k) k
theorem g_dup2 (C : Cx p s m meth c Z code maxL own ret) {pc pc' : Nat} {Ls : Array Slot} {st : List Value} {x y : Value} (hd : I1 code pc (.dup2) 1 pc') (hc : x.category = 1) (hc' : y.category = 1) (k : Go p l e R s m args below meth c n0 K N Q h ck cn (mkF m pc' Ls (x :: y :: x :: y :: st))) : Go p l e R s m args below meth c n0 K N Q h ck cn (mkF m pc Ls (x :: y :: st)) := by
  obtain ⟨hd, rfl⟩ := hd
  exact Go.step (fun T locs X _ t k => Jvm.Free.XT.dup2 X.here C.1 rfl (hb C.2.1 hd) rfl hc hc' k) k
theorem g_dup2L (C : Cx p s m meth c Z code maxL own ret) {pc pc' : Nat} {Ls : Array Slot} {st : List Value} {x : Int64} (hd : I1 code pc (.dup2) 1 pc') (k : Go p l e R s m args below meth c n0 K N Q h ck cn (mkF m pc' Ls (.long x :: .long x :: st))) : Go p l e R s m args below meth c n0 K N Q h ck cn (mkF m pc Ls (.long x :: st)) := by
  obtain ⟨hd, rfl⟩ := hd
  exact Go.step (fun T locs X _ t k => Jvm.Free.XT.dup2L X.here C.1 rfl (hb C.2.1 hd) rfl k) k
theorem g_goto (C : Cx p s m meth c Z code maxL own ret) {pc pcT pcF : Nat} {Ls : Array Slot} {st : List Value} {o : Int} (hd : B1 code pc (.goto o) o pcT pcF) (k : Go p l e R s m args below meth c n0 K N Q h ck cn (mkF m pcT Ls st)) : Go p l e R s m args below meth c n0 K N Q h ck cn (mkF m pc Ls st) := by
  obtain ⟨hd, -, ho, hp⟩ := hd
  exact Go.step (fun T locs X _ t k => XS.goto X.here C.1 rfl (pc0 := pc) rfl (hb C.2.1 hd) ho hp k) k
theorem g_icmp_lt (C : Cx p s m meth c Z code maxL own ret) {pc pcT pcF : Nat} {Ls : Array Slot} {st : List Value} {o : Int} {x y : Int32} (hd : B1 code pc (.if_icmp .lt o) o pcT pcF) (kt : x < y → Go p l e R s m args below meth c n0 K N Q h ck cn (mkF m pcT Ls st)) (kf : ¬ (x < y) → Go p l e R s m args below meth c n0 K N Q h ck cn (mkF m pcF Ls st)) : Go p l e R s m args below meth c n0 K N Q h ck cn (mkF m pc Ls (.int y :: .int x :: st)) := by
  obtain ⟨hd, rfl, ho, hp⟩ := hd
  by_cases q : x < y
  · exact Go.step (fun T locs X _ t k => XS.icmpYes X.here C.1 rfl (pc0 := pc) rfl (hb C.2.1 hd) rfl ((tlt q).1) ho hp k) (kt q)
  · exact Go.step (fun T locs X _ t k => XS.icmpNo X.here C.1 rfl (hb C.2.1 hd) rfl ((flt q).1) k) (kf q)
theorem g_if_lt (C : Cx p s m meth c Z code maxL own ret) {pc pcT pcF : Nat} {Ls : Array Slot} {st : List Value} {o : Int} {x : Int32} (hd : B1 code pc (.ifCond .lt o) o pcT pcF) (kt : x < 0 → Go p l e R s m args below meth c n0 K N Q h ck cn (mkF m pcT Ls st)) (kf : ¬ (x < 0) → Go p l e R s m args below meth c n0 K N Q h ck cn (mkF m pcF Ls st)) : Go p l e R s m args below meth c n0 K N Q h ck cn (mkF m pc Ls (.int x :: st)) := by
  obtain ⟨hd, rfl, ho, hp⟩ := hd
  by_cases q : x < 0
  · exact Go.step (fun T locs X _ t k => XS.ifYes X.here C.1 rfl (pc0 := pc) rfl (hb C.2.1 hd) rfl ((if0 _ _).trans (tlt q).1) ho hp k) (kt q)
  · exact Go.step (fun T locs X _ t k => XS.ifNo X.here C.1 rfl (hb C.2.1 hd) rfl ((if0 _ _).trans (flt q).1) k) (kf q)
theorem g_ifl_lt (C : Cx p s m meth c Z code maxL own ret) {pc pcT pcF : Nat} {Ls : Array Slot} {st : List Value} {o : Int} {x y : Int64} (hd : B1 code pc (.ifCond .lt o) o pcT pcF) (kt : x < y → Go p l e R s m args below meth c n0 K N Q h ck cn (mkF m pcT Ls st)) (kf : ¬ (x < y) → Go p l e R s m args below meth c n0 K N Q h ck cn (mkF m pcF Ls st)) : Go p l e R s m args below meth c n0 K N Q h ck cn (mkF m pc Ls (.int (lcmpW x y) :: st)) := by
  obtain ⟨hd, rfl, ho, hp⟩ := hd
  by_cases q : x < y
  · exact Go.step (fun T locs X _ t k => XS.ifYes X.here C.1 rfl (pc0 := pc) rfl (hb C.2.1 hd) rfl ((if0 _ _).trans (tlt ((lw_lt x y).mpr q)).1) ho hp k) (kt q)
  · exact Go.step (fun T locs X _ t k => XS.ifNo X.here C.1 rfl (hb C.2.1 hd) rfl ((if0 _ _).trans (flt (fun z => q ((lw_lt x y).mp z))).1) k) (kf q)
theorem g_icmp_ge (C : Cx p s m meth c Z code maxL own ret) {pc pcT pcF : Nat} {Ls : Array Slot} {st : List Value} {o : Int} {x y : Int32} (hd : B1 code pc (.if_icmp .ge o) o pcT pcF) (kt : x < y → Go p l e R s m args below meth c n0 K N Q h ck cn (mkF m pcF Ls st)) (kf : ¬ (x < y) → Go p l e R s m args below meth c n0 K N Q h ck cn (mkF m pcT Ls st)) : Go p l e R s m args below meth c n0 K N Q h ck cn (mkF m pc Ls (.int y :: .int x :: st)) := by
  obtain ⟨hd, rfl, ho, hp⟩ := hd
  by_cases q : x < y
  · exact Go.step (fun T locs X _ t k => XS.icmpNo X.here C.1 rfl (hb C.2.1 hd) rfl ((tlt q).2.1) k) (kt q)
  · exact Go.step (fun T locs X _ t k => XS.icmpYes X.here C.1 rfl (pc0 := pc) rfl (hb C.2.1 hd) rfl ((flt q).2.1) ho hp k) (kf q)
theorem g_if_ge (C : Cx p s m meth c Z code maxL own ret) {pc pcT pcF : Nat} {Ls : Array Slot} {st : List Value} {o : Int} {x : Int32} (hd : B1 code pc (.ifCond .ge o) o pcT pcF) (kt : x < 0 → Go p l e R s m args below meth c n0 K N Q h ck cn (mkF m pcF Ls st)) (kf : ¬ (x < 0) → Go p l e R s m args below meth c n0 K N Q h ck cn (mkF m pcT Ls st)) : Go p l e R s m args below meth c n0 K N Q h ck cn (mkF m pc Ls (.int x :: st)) := by
  obtain ⟨hd, rfl, ho, hp⟩ := hd
  by_cases q : x < 0
  · exact Go.step (fun T locs X _ t k => XS.ifNo X.here C.1 rfl (hb C.2.1 hd) rfl ((if0 _ _).trans (tlt q).2.1) k) (kt q)
  · exact Go.step (fun T locs X _ t k => XS.ifYes X.here C.1 rfl (pc0 := pc) rfl (hb C.2.1 hd) rfl ((if0 _ _).trans (flt q).2.1) ho hp k) (kf q)
theorem g_ifl_ge (C : Cx p s m meth c Z code maxL own ret) {pc pcT pcF : Nat} {Ls : Array Slot} {st : List Value} {o : Int} {x y : Int64} (hd : B1 code pc (.ifCond .ge o) o pcT pcF) (kt : x < y → Go p l e R s m args below meth c n0 K N Q h ck cn (mkF m pcF Ls st)) (kf : ¬ (x < y) → Go p l e R s m args below meth c n0 K N Q h ck cn (mkF m pcT Ls st)) : Go p l e R s m args below meth c n0 K N Q h ck cn (mkF m pc Ls (.int (lcmpW x y) :: st)) := by
  obtain ⟨hd, rfl, ho, hp⟩ := hd
  by_cases q : x < y
  · exact Go.step (fun T locs X _ t k => XS.ifNo X.here C.1 rfl (hb C.2.1 hd) rfl ((if0 _ _).trans (tlt ((lw_lt x y).mpr q)).2.1) k) (kt q)
  · exact Go.step (fun T locs X _ t k => XS.ifYes X.here C.1 rfl (pc0 := pc) rfl (hb C.2.1 hd) rfl ((if0 _ _).trans (flt (fun z => q ((lw_lt x y).mp z))).2.1) ho hp k) (kf q)
theorem g_icmp_gt (C : Cx p s m meth c Z code maxL own ret) {pc pcT pcF : Nat} {Ls : Array Slot} {st : List Value} {o : Int} {x y : Int32} (hd : B1 code pc (.if_icmp .gt o) o pcT pcF) (kt : y < x → Go p l e R s m args below meth c n0 K N Q h ck cn (mkF m pcT Ls st)) (kf : ¬ (y < x) → Go p l e R s m args below meth c n0 K N Q h ck cn (mkF m pcF Ls st)) : Go p l e R s m args below meth c n0 K N Q h ck cn (mkF m pc Ls (.int y :: .int x :: st)) := by
  obtain ⟨hd, rfl, ho, hp⟩ := hd
  by_cases q : y < x
  · exact Go.step (fun T locs X _ t k => XS.icmpYes X.here C.1 rfl (pc0 := pc) rfl (hb C.2.1 hd) rfl ((tlt q).2.2.1) ho hp k) (kt q)
  · exact Go.step (fun T locs X _ t k => XS.icmpNo X.here C.1 rfl (hb C.2.1 hd) rfl ((flt q).2.2.1) k) (kf q)
theorem g_if_gt (C : Cx p s m meth c Z code maxL own ret) {pc pcT pcF : Nat} {Ls : Array Slot} {st : List Value} {o : Int} {x : Int32} (hd : B1 code pc (.ifCond .gt o) o pcT pcF) (kt : 0 < x → Go p l e R s m args below meth c n0 K N Q h ck cn (mkF m pcT Ls st)) (kf : ¬ (0 < x) → Go p l e R s m args below meth c n0 K N Q h ck cn (mkF m pcF Ls st)) : Go p l e R s m args below meth c n0 K N Q h ck cn (mkF m pc Ls (.int x :: st)) := by
  obtain ⟨hd, rfl, ho, hp⟩ := hd
  by_cases q : 0 < x
  · exact Go.step (fun T locs X _ t k => XS.ifYes X.here C.1 rfl (pc0 := pc) rfl (hb C.2.1 hd) rfl ((if0 _ _).trans (tlt q).2.2.1) ho hp k) (kt q)
  · exact Go.step (fun T locs X _ t k => XS.ifNo X.here C.1 rfl (hb C.2.1 hd) rfl ((if0 _ _).trans (flt q).2.2.1) k) (kf q)
theorem g_ifl_gt (C : Cx p s m meth c Z code maxL own ret) {pc pcT pcF : Nat} {Ls : Array Slot} {st : List Value} {o : Int} {x y : Int64} (hd : B1 code pc (.ifCond .gt o) o pcT pcF) (kt : y < x → Go p l e R s m args below meth c n0 K N Q h ck cn (mkF m pcT Ls st)) (kf : ¬ (y < x) → Go p l e R s m args below meth c n0 K N Q h ck cn (mkF m pcF Ls st)) : Go p l e R s m args below meth c n0 K N Q h ck cn (mkF m pc Ls (.int (lcmpW x y) :: st)) := by
  obtain ⟨hd, rfl, ho, hp⟩ := hd
  by_cases q : y < x
  · exact Go.step (fun T locs X _ t k => XS.ifYes X.here C.1 rfl (pc0 := pc) rfl (hb C.2.1 hd) rfl ((if0 _ _).trans (tlt ((lw_gt x y).mpr q)).2.2.1) ho hp k) (kt q)
  · exact Go.step (fun T locs X _ t k => XS.ifNo X.here C.1 rfl (hb C.2.1 hd) rfl ((if0 _ _).trans (flt (fun z => q ((lw_gt x y).mp z))).2.2.1) k) (kf q)
theorem g_icmp_le (C : Cx p s m meth c Z code maxL own ret) {pc pcT pcF : Nat} {Ls : Array Slot} {st : List Value} {o : Int} {x y : Int32} (hd : B1 code pc (.if_icmp .le o) o pcT pcF) (kt : y < x → Go p l e R s m args below meth c n0 K N Q h ck cn (mkF m pcF Ls st)) (kf : ¬ (y < x) → Go p l e R s m args below meth c n0 K N Q h ck cn (mkF m pcT Ls st)) : Go p l e R s m args below meth c n0 K N Q h ck cn (mkF m pc Ls (.int y :: .int x :: st)) := by
  obtain ⟨hd, rfl, ho, hp⟩ := hd
  by_cases q : y < x
  · exact Go.step (fun T locs X _ t k => XS.icmpNo X.here C.1 rfl (hb C.2.1 hd) rfl ((tlt q).2.2.2) k) (kt q)
  · exact Go.step (fun T locs X _ t k => XS.icmpYes X.here C.1 rfl (pc0 := pc) rfl (hb C.2.1 hd) rfl ((flt q).2.2.2) ho hp k) (kf q)
theorem g_if_le (C : Cx p s m meth c Z code maxL own ret) {pc pcT pcF : Nat} {Ls : Array Slot} {st : List Value} {o : Int} {x : Int32} (hd : B1 code pc (.ifCond .le o) o pcT pcF) (kt : 0 < x → Go p l e R s m args below meth c n0 K N Q h ck cn (mkF m pcF Ls st)) (kf : ¬ (0 < x) → Go p l e R s m args below meth c n0 K N Q h ck cn (mkF m pcT Ls st)) : Go p l e R s m args below meth c n0 K N Q h ck cn (mkF m pc Ls (.int x :: st)) := by
  obtain ⟨hd, rfl, ho, hp⟩ := hd
  by_cases q : 0 < x
  · exact Go.step (fun T locs X _ t k => XS.ifNo X.here C.1 rfl (hb C.2.1 hd) rfl ((if0 _ _).trans (tlt q).2.2.2) k) (kt q)
  · exact Go.step (fun T locs X _ t k => XS.ifYes X.here C.1 rfl (pc0 := pc) rfl (hb C.2.1 hd) rfl ((if0 _ _).trans (flt q).2.2.2) ho hp k) (kf q)
theorem g_ifl_le (C : Cx p s m meth c Z code maxL own ret) {pc pcT pcF : Nat} {Ls : Array Slot} {st : List Value} {o : Int} {x y : Int64} (hd : B1 code pc (.ifCond .le o) o pcT pcF) (kt : y < x → Go p l e R s m args below meth c n0 K N Q h ck cn (mkF m pcF Ls st)) (kf : ¬ (y < x) → Go p l e R s m args below meth c n0 K N Q h ck cn (mkF m pcT Ls st)) : Go p l e R s m args below meth c n0 K N Q h ck cn (mkF m pc Ls (.int (lcmpW x y) :: st)) := by
  obtain ⟨hd, rfl, ho, hp⟩ := hd
  by_cases q : y < x
  · exact Go.step (fun T locs X _ t k => XS.ifNo X.here C.1 rfl (hb C.2.1 hd) rfl ((if0 _ _).trans (tlt ((lw_gt x y).mpr q)).2.2.2) k) (kt q)
  · exact Go.step (fun T locs X _ t k => XS.ifYes X.here C.1 rfl (pc0 := pc) rfl (hb C.2.1 hd) rfl ((if0 _ _).trans (flt (fun z => q ((lw_gt x y).mp z))).2.2.2) ho hp k) (kf q)
theorem g_icmp_eq (C : Cx p s m meth c Z code maxL own ret) {pc pcT pcF : Nat} {Ls : Array Slot} {st : List Value} {o : Int} {x y : Int32} (hd : B1 code pc (.if_icmp .eq o) o pcT pcF) (kt : x = y → Go p l e R s m args below meth c n0 K N Q h ck cn (mkF m pcT Ls st)) (kf : ¬ (x = y) → Go p l e R s m args below meth c n0 K N Q h ck cn (mkF m pcF Ls st)) : Go p l e R s m args below meth c n0 K N Q h ck cn (mkF m pc Ls (.int y :: .int x :: st)) := by
  obtain ⟨hd, rfl, ho, hp⟩ := hd
  by_cases q : x = y
  · exact Go.step (fun T locs X _ t k => XS.icmpYes X.here C.1 rfl (pc0 := pc) rfl (hb C.2.1 hd) rfl ((teq q).1) ho hp k) (kt q)
  · exact Go.step (fun T locs X _ t k => XS.icmpNo X.here C.1 rfl (hb C.2.1 hd) rfl ((feq q).1) k) (kf q)
theorem g_if_eq (C : Cx p s m meth c Z code maxL own ret) {pc pcT pcF : Nat} {Ls : Array Slot} {st : List Value} {o : Int} {x : Int32} (hd : B1 code pc (.ifCond .eq o) o pcT pcF) (kt : x = 0 → Go p l e R s m args below meth c n0 K N Q h ck cn (mkF m pcT Ls st)) (kf : ¬ (x = 0) → Go p l e R s m args below meth c n0 K N Q h ck cn (mkF m pcF Ls st)) : Go p l e R s m args below meth c n0 K N Q h ck cn (mkF m pc Ls (.int x :: st)) := by
  obtain ⟨hd, rfl, ho, hp⟩ := hd
  by_cases q : x = 0
  · exact Go.step (fun T locs X _ t k => XS.ifYes X.here C.1 rfl (pc0 := pc) rfl (hb C.2.1 hd) rfl ((if0 _ _).trans (teq q).1) ho hp k) (kt q)
  · exact Go.step (fun T locs X _ t k => XS.ifNo X.here C.1 rfl (hb C.2.1 hd) rfl ((if0 _ _).trans (feq q).1) k) (kf q)
theorem g_ifl_eq (C : Cx p s m meth c Z code maxL own ret) {pc pcT pcF : Nat} {Ls : Array Slot} {st : List Value} {o : Int} {x y : Int64} (hd : B1 code pc (.ifCond .eq o) o pcT pcF) (kt : x = y → Go p l e R s m args below meth c n0 K N Q h ck cn (mkF m pcT Ls st)) (kf : ¬ (x = y) → Go p l e R s m args below meth c n0 K N Q h ck cn (mkF m pcF Ls st)) : Go p l e R s m args below meth c n0 K N Q h ck cn (mkF m pc Ls (.int (lcmpW x y) :: st)) := by
  obtain ⟨hd, rfl, ho, hp⟩ := hd
  by_cases q : x = y
  · exact Go.step (fun T locs X _ t k => XS.ifYes X.here C.1 rfl (pc0 := pc) rfl (hb C.2.1 hd) rfl ((if0 _ _).trans (teq ((lw_eq x y).mpr q)).1) ho hp k) (kt q)
  · exact Go.step (fun T locs X _ t k => XS.ifNo X.here C.1 rfl (hb C.2.1 hd) rfl ((if0 _ _).trans (feq (fun z => q ((lw_eq x y).mp z))).1) k) (kf q)
theorem g_icmp_ne (C : Cx p s m meth c Z code maxL own ret) {pc pcT pcF : Nat} {Ls : Array Slot} {st : List Value} {o : Int} {x y : Int32} (hd : B1 code pc (.if_icmp .ne o) o pcT pcF) (kt : x = y → Go p l e R s m args below meth c n0 K N Q h ck cn (mkF m pcF Ls st)) (kf : ¬ (x = y) → Go p l e R s m args below meth c n0 K N Q h ck cn (mkF m pcT Ls st)) : Go p l e R s m args below meth c n0 K N Q h ck cn (mkF m pc Ls (.int y :: .int x :: st)) := by
  obtain ⟨hd, rfl, ho, hp⟩ := hd
  by_cases q : x = y
  · exact Go.step (fun T locs X _ t k => XS.icmpNo X.here C.1 rfl (hb C.2.1 hd) rfl ((teq q).2) k) (kt q)
  · exact Go.step (fun T locs X _ t k => XS.icmpYes X.here C.1 rfl (pc0 := pc) rfl (hb C.2.1 hd) rfl ((feq q).2) ho hp k) (kf q)
theorem g_if_ne (C : Cx p s m meth c Z code maxL own ret) {pc pcT pcF : Nat} {Ls : Array Slot} {st : List Value} {o : Int} {x : Int32} (hd : B1 code pc (.ifCond .ne o) o pcT pcF) (kt : x = 0 → Go p l e R s m args below meth c n0 K N Q h ck cn (mkF m pcF Ls st)) (kf : ¬ (x = 0) → Go p l e R s m args below meth c n0 K N Q h ck cn (mkF m pcT Ls st)) : Go p l e R s m args below meth c n0 K N Q h ck cn (mkF m pc Ls (.int x :: st)) := by
  obtain ⟨hd, rfl, ho, hp⟩ := hd
  by_cases q : x = 0
  · exact Go.step (fun T locs X _ t k => XS.ifNo X.here C.1 rfl (hb C.2.1 hd) rfl ((if0 _ _).trans (teq q).2) k) (kt q)
  · exact Go.step (fun T locs X _ t k => XS.ifYes X.here C.1 rfl (pc0 := pc) rfl (hb C.2.1 hd) rfl ((if0 _ _).trans (feq q).2) ho hp k) (kf q)
theorem g_ifl_ne (C : Cx p s m meth c Z code maxL own ret) {pc pcT pcF : Nat} {Ls : Array Slot} {st : List Value} {o : Int} {x y : Int64} (hd : B1 code pc (.ifCond .ne o) o pcT pcF) (kt : x = y → Go p l e R s m args below meth c n0 K N Q h ck cn (mkF m pcF Ls st)) (kf : ¬ (x = y) → Go p l e R s m args below meth c n0 K N Q h ck cn (mkF m pcT Ls st)) : Go p l e R s m args below meth c n0 K N Q h ck cn (mkF m pc Ls (.int (lcmpW x y) :: st)) := by
  obtain ⟨hd, rfl, ho, hp⟩ := hd
  by_cases q : x = y
  · exact Go.step (fun T locs X _ t k => XS.ifNo X.here C.1 rfl (hb C.2.1 hd) rfl ((if0 _ _).trans (teq ((lw_eq x y).mpr q)).2) k) (kt q)
  · exact Go.step (fun T locs X _ t k => XS.ifYes X.here C.1 rfl (pc0 := pc) rfl (hb C.2.1 hd) rfl ((if0 _ _).trans (feq (fun z => q ((lw_eq x y).mp z))).2) ho hp k) (kf q)
theorem g_ifnullN (C : Cx p s m meth c Z code maxL own ret) {pc pcT pcF : Nat} {Ls : Array Slot} {st : List Value} {o : Int} {b : Addr} (hd : B1 code pc (.ifnull o) o pcT pcF) (k : Go p l e R s m args below meth c n0 K N Q h ck cn (mkF m pcF Ls st)) : Go p l e R s m args below meth c n0 K N Q h ck cn (mkF m pc Ls (.ref b :: st)) := by
  obtain ⟨hd, rfl, ho, hp⟩ := hd
  exact Go.step (fun T locs X _ t k => XS.ifnullNo X.here C.1 rfl (hb C.2.1 hd) rfl k) k
theorem g_ifnullY (C : Cx p s m meth c Z code maxL own ret) {pc pcT pcF : Nat} {Ls : Array Slot} {st : List Value} {o : Int} (hd : B1 code pc (.ifnull o) o pcT pcF) (k : Go p l e R s m args below meth c n0 K N Q h ck cn (mkF m pcT Ls st)) : Go p l e R s m args below meth c n0 K N Q h ck cn (mkF m pc Ls (.null :: st)) := by
  obtain ⟨hd, rfl, ho, hp⟩ := hd
  exact Go.step (fun T locs X _ t k => XS.ifnullYes X.here C.1 rfl (pc0 := pc) rfl (hb C.2.1 hd) rfl ho hp k) k
theorem g_ifnonnullY (C : Cx p s m meth c Z code maxL own ret) {pc pcT pcF : Nat} {Ls : Array Slot} {st : List Value} {o : Int} {b : Addr} (hd : B1 code pc (.ifnonnull o) o pcT pcF) (k : Go p l e R s m args below meth c n0 K N Q h ck cn (mkF m pcT Ls st)) : Go p l e R s m args below meth c n0 K N Q h ck cn (mkF m pc Ls (.ref b :: st)) := by
  obtain ⟨hd, rfl, ho, hp⟩ := hd
  exact Go.step (fun T locs X _ t k => XS.ifnonnullYes X.here C.1 rfl (pc0 := pc) rfl (hb C.2.1 hd) rfl ho hp k) k
theorem g_ifnonnullN (C : Cx p s m meth c Z code maxL own ret) {pc pcT pcF : Nat} {Ls : Array Slot} {st : List Value} {o : Int} (hd : B1 code pc (.ifnonnull o) o pcT pcF) (k : Go p l e R s m args below meth c n0 K N Q h ck cn (mkF m pcF Ls st)) : Go p l e R s m args below meth c n0 K N Q h ck cn (mkF m pc Ls (.null :: st)) := by
  obtain ⟨hd, rfl, ho, hp⟩ := hd
  exact Go.step (fun T locs X _ t k => XS.ifnonnullNo X.here C.1 rfl (hb C.2.1 hd) rfl k) k
theorem g_acmp_eq (C : Cx p s m meth c Z code maxL own ret) {pc pcT pcF : Nat} {Ls : Array Slot} {st : List Value} {o : Int} {x y : Value} (h1 : x.isRef = true) (h2 : y.isRef = true) (hd : B1 code pc (.if_acmp .eq o) o pcT pcF) (kt : x = y → Go p l e R s m args below meth c n0 K N Q h ck cn (mkF m pcT Ls st)) (kf : ¬ x = y → Go p l e R s m args below meth c n0 K N Q h ck cn (mkF m pcF Ls st)) : Go p l e R s m args below meth c n0 K N Q h ck cn (mkF m pc Ls (y :: x :: st)) := by
  obtain ⟨hd, rfl, ho, rfl⟩ := hd
  by_cases q : x = y
  · exact Go.step (fun T locs X _ t k => Jvm.RoadKit.acmp X C.1 rfl h1 h2 (pc0 := pc) (same := true) rfl (hb C.2.1 hd) rfl (by simp [q]) ho rfl k) (kt q)
  · exact Go.step (fun T locs X _ t k => Jvm.RoadKit.acmp X C.1 rfl h1 h2 (pc0 := pc) (same := false) rfl (hb C.2.1 hd) rfl (by simp [q]) ho rfl k) (kf q)
theorem g_acmp_ne (C : Cx p s m meth c Z code maxL own ret) {pc pcT pcF : Nat} {Ls : Array Slot} {st : List Value} {o : Int} {x y : Value} (h1 : x.isRef = true) (h2 : y.isRef = true) (hd : B1 code pc (.if_acmp .ne o) o pcT pcF) (kt : x = y → Go p l e R s m args below meth c n0 K N Q h ck cn (mkF m pcF Ls st)) (kf : ¬ x = y → Go p l e R s m args below meth c n0 K N Q h ck cn (mkF m pcT Ls st)) : Go p l e R s m args below meth c n0 K N Q h ck cn (mkF m pc Ls (y :: x :: st)) := by
  obtain ⟨hd, rfl, ho, rfl⟩ := hd
  by_cases q : x = y
  · exact Go.step (fun T locs X _ t k => Jvm.RoadKit.acmp X C.1 rfl h1 h2 (pc0 := pc) (same := true) rfl (hb C.2.1 hd) rfl (by simp [q]) ho rfl k) (kt q)
  · exact Go.step (fun T locs X _ t k => Jvm.RoadKit.acmp X C.1 rfl h1 h2 (pc0 := pc) (same := false) rfl (hb C.2.1 hd) rfl (by simp [q]) ho rfl k) (kf q)
theorem ret0 {v : Option Value} {g : JFrame} (hlk : meth.locks = false) (hret : meth.sig.returnType = none → v = none) (hck : ck ≤ K) (hcn : cn ≤ N) (hQ : Q v h)
    (st : ∀ (T : State) (locs : List Loc) (fs : List Frame), Stand p l e R s m args below meth c T locs ck cn → (∀ (f : JFrame) (acts : List Action), f.method = m → f.locked = none → f.entered = [] → (doReturn e (T.setTop f) acts v).1 = T.setFrames fs) → Steps p.tables e below (T.setTop g) (T.setFrames fs)) :
    Go p l e R s m args below meth c n0 K N Q h ck cn g := fun T locs X eT hN => by
  obtain ⟨fs, hr, hrun, hended, hW, hsame⟩ := X.leave (v := v) hret hlk
  exact ⟨_, _, st T locs fs X hr, hrun, hended, v, locs, rfl, ⟨by show Q v T.heap; rw [eT]; exact hQ, hN⟩, ⟨_, rfl⟩, hW, hsame.mono hck hcn⟩
theorem g_retV (C : Cx p s m meth c Z code maxL own ret) {pc : Nat} {Ls : Array Slot} {pc' : Nat} (hd : I1 code pc .return_ 1 pc') (hret : ret = none) (hck : ck ≤ K) (hcn : cn ≤ N) (hQ : Q none h) : Go p l e R s m args below meth c n0 K N Q h ck cn (mkF m pc Ls []) := by
  obtain ⟨hd, -⟩ := hd
  exact ret0 C.2.2.2.2.2.2 (fun _ => rfl) hck hcn hQ (fun T locs fs X hr => X.returnOut C.1 (C.2.2.2.2.2.1.trans hret) (hb C.2.1 hd) hr)
theorem g_retInt (C : Cx p s m meth c Z code maxL own ret) {pc : Nat} {Ls : Array Slot} {pc' : Nat} {st : List Value} {z : Int32} (hd : I1 code pc .ireturn 1 pc') (hret : ret = some .int) (hck : ck ≤ K) (hcn : cn ≤ N) (hQ : Q (some (.int z)) h) : Go p l e R s m args below meth c n0 K N Q h ck cn (mkF m pc Ls (.int z :: st)) := by
  obtain ⟨hd, -⟩ := hd
  have hr' := C.2.2.2.2.2.1.trans hret
  exact ret0 C.2.2.2.2.2.2 (fun q => by rw [hr'] at q; cases q) hck hcn hQ (fun T locs fs X hr => retOut X C.1 hr' rfl (Or.inl ⟨rfl, Or.inl rfl, z, rfl⟩) (hb C.2.1 hd) hr)
theorem g_retLong (C : Cx p s m meth c Z code maxL own ret) {pc : Nat} {Ls : Array Slot} {pc' : Nat} {st : List Value} {z : Int64} (hd : I1 code pc .lreturn 1 pc') (hret : ret = some .long) (hck : ck ≤ K) (hcn : cn ≤ N) (hQ : Q (some (.long z)) h) : Go p l e R s m args below meth c n0 K N Q h ck cn (mkF m pc Ls (.long z :: st)) := by
  obtain ⟨hd, -⟩ := hd
  have hr' := C.2.2.2.2.2.1.trans hret
  exact ret0 C.2.2.2.2.2.2 (fun q => by rw [hr'] at q; cases q) hck hcn hQ (fun T locs fs X hr => retOut X C.1 hr' rfl (Or.inr (Or.inl ⟨rfl, rfl, z, rfl⟩)) (hb C.2.1 hd) hr)
theorem nar_ref {t : FieldType} {v : Value} (hv : v.isRef = true) : narrow t v = v := by
  rcases ref_cases hv with rfl | ⟨a, rfl⟩ <;> cases t <;> rfl
theorem g_retRef (C : Cx p s m meth c Z code maxL own ret) {pc : Nat} {Ls : Array Slot} {pc' : Nat} {st : List Value} {v : Value} {t : FieldType} (hd : I1 code pc .areturn 1 pc') (hret : ret = some t) (ht : t.isReference = true) (hv : v.isRef = true) (hck : ck ≤ K) (hcn : cn ≤ N) (hQ : Q (some v) h) : Go p l e R s m args below meth c n0 K N Q h ck cn (mkF m pc Ls (v :: st)) := by
  obtain ⟨hd, -⟩ := hd
  have hr' := C.2.2.2.2.2.1.trans hret
  exact ret0 C.2.2.2.2.2.2 (fun q => by rw [hr'] at q; cases q) hck hcn hQ (fun T locs fs X hr => retOut X C.1 hr' (nar_ref hv) (Or.inr (Or.inr (Or.inr (Or.inr ⟨rfl, ht, hv⟩)))) (hb C.2.1 hd) hr)
theorem g_retNar (C : Cx p s m meth c Z code maxL own ret) {pc : Nat} {Ls : Array Slot} {pc' : Nat} {st : List Value} {z : Int32} {t : FieldType} (hd : I1 code pc .ireturn 1 pc') (hret : ret = some t) (ht : t = .boolean ∨ t = .byte ∨ t = .char ∨ t = .short) (hck : ck ≤ K) (hcn : cn ≤ N) (hQ : Q (some (.int (nar t z))) h) : Go p l e R s m args below meth c n0 K N Q h ck cn (mkF m pc Ls (.int z :: st)) := by
  obtain ⟨hd, -⟩ := hd
  have hr' := C.2.2.2.2.2.1.trans hret
  exact ret0 C.2.2.2.2.2.2 (fun q => by rw [hr'] at q; cases q) hck hcn hQ (fun T locs fs X hr => retN X C.1 hr' ht (hb C.2.1 hd) hr)
theorem g_getF (C : Cx p s m meth c Z code maxL own ret) {pc pc' : Nat} {Ls : Array Slot} {st : List Value} {R0 O n d host : String} {index : Nat} {a : Addr} {v : Value} (hd : I1 code pc (.getfield index) 3 pc') (w : (Cond.fieldLink own index R0 n d).before a0 Z = true ∨ (Cond.fieldLinkNest own index R0 n d host).before a0 Z = true) (via : Via Z R0 O n d) (F : Fld Z h a O n d v)
    (k : Go p l e R s m args below meth c n0 K N Q h ck cn (mkF m pc' Ls (v :: st))) : Go p l e R s m args below meth c n0 K N Q h ck cn (mkF m pc Ls (.ref a :: st)) := fun T locs X eT hN => by
  obtain ⟨hd, rfl⟩ := hd
  obtain ⟨T', X', e', st'⟩ := Jvm.RoadKit.getF X C.1 C.2.2.2.1 C.2.2.2.2.1 w via eT F (g := mkF m pc Ls (.ref a :: st)) rfl rfl (hb C.2.1 hd)
  exact Go.move hN X' e' hN st' k
theorem g_getS (C : Cx p s m meth c Z code maxL own ret) {pc pc' : Nat} {Ls : Array Slot} {st : List Value} {R0 O n d host : String} {index : Nat} {v : Value} (hd : I1 code pc (.getstatic index) 3 pc') (w : (Cond.fieldLink own index R0 n d).before a0 Z = true ∨ (Cond.fieldLinkNest own index R0 n d host).before a0 Z = true) (via : Via Z R0 O n d) (F : Sta Z h O n d v)
    (k : Go p l e R s m args below meth c n0 K N Q h ck cn (mkF m pc' Ls (v :: st))) : Go p l e R s m args below meth c n0 K N Q h ck cn (mkF m pc Ls st) := fun T locs X eT hN => by
  obtain ⟨hd, rfl⟩ := hd
  obtain ⟨T', X', e', st'⟩ := Jvm.RoadKit.getS2 X C.1 C.2.2.2.1 C.2.2.2.2.1 w via eT F (g := mkF m pc Ls st) rfl (hb C.2.1 hd)
  exact Go.move hN X' e' hN st' k
theorem g_putF (C : Cx p s m meth c Z code maxL own ret) {pc pc' : Nat} {Ls : Array Slot} {st : List Value} {R0 O n d host Cl : String} {index kk : Nat} {ty : FieldType} {a : Addr} {v old : Value} (hd : I1 code pc (.putfield index) 3 pc') (w : (Cond.fieldLink own index R0 n d).before a0 Z = true ∨ (Cond.fieldLinkNest own index R0 n d host).before a0 Z = true) (via : Via Z R0 O n d) (F : Fld Z h a O n d old) (E : Exa Z h a Cl)
    (L : (Cond.lays Cl O n d).before a0 Z = true ∨ ((Cond.laysFinal Cl O n d).before a0 Z = true ∧ own = O ∧ meth.name = "<init>")) (wi : (Cond.instantiable Cl kk).before a0 Z = true) (hty : parseFieldDescriptor d = some ty) (hn : narrow ty v = v) (hf : fits ty v = true) (ha : n0 ≤ a)
    (k : ∀ h', Wr h h' a (Jvm.RoadKit.slotOf Z O n d) v → Go p l e R s m args below meth c n0 K N Q h' ck cn (mkF m pc' Ls st)) : Go p l e R s m args below meth c n0 K N Q h ck cn (mkF m pc Ls (v :: .ref a :: st)) := fun T locs X eT hN => by
  obtain ⟨hd, rfl⟩ := hd
  obtain ⟨T', h', X', e', W, st'⟩ := Jvm.RoadKit.putF X C.1 C.2.2.2.1 C.2.2.2.2.1 w via eT F E L wi hty hn hf (g := mkF m pc Ls (v :: .ref a :: st)) rfl rfl (hb C.2.1 hd)
  exact Go.move hN X' e' (Fr.snoc X' hN ha) st' (k h' W)
theorem g_putFN (C : Cx p s m meth c Z code maxL own ret) {pc pc' : Nat} {Ls : Array Slot} {st : List Value} {R0 O n d Cl : String} {index kk : Nat} {ty : FieldType} {a : Addr} {v v' old : Value} (hd : I1 code pc (.putfield index) 3 pc') (w : (Cond.fieldLink own index R0 n d).before a0 Z = true) (via : Via Z R0 O n d) (F : Fld Z h a O n d old) (E : Exa Z h a Cl)
    (L : (Cond.lays Cl O n d).before a0 Z = true ∨ ((Cond.laysFinal Cl O n d).before a0 Z = true ∧ own = O ∧ meth.name = "<init>")) (wi : (Cond.instantiable Cl kk).before a0 Z = true) (hty : parseFieldDescriptor d = some ty) (hn : narrow ty v = v') (hf : fits ty v' = true) (ha : n0 ≤ a)
    (k : ∀ h', Wr h h' a (Jvm.RoadKit.slotOf Z O n d) v' → Go p l e R s m args below meth c n0 K N Q h' ck cn (mkF m pc' Ls st)) : Go p l e R s m args below meth c n0 K N Q h ck cn (mkF m pc Ls (v :: .ref a :: st)) := fun T locs X eT hN => by
  obtain ⟨hd, rfl⟩ := hd
  obtain ⟨T', h', X', e', W, st'⟩ := Jvm.RoadKit.putFN X C.1 C.2.2.2.1 C.2.2.2.2.1 w via eT F E L wi hty hn hf (g := mkF m pc Ls (v :: .ref a :: st)) rfl rfl (hb C.2.1 hd)
  exact Go.move hN X' e' (Fr.snoc X' hN ha) st' (k h' W)
theorem g_newO (C : Cx p s m meth c Z code maxL own ret) {pc pc' : Nat} {Ls : Array Slot} {st : List Value} {Cl : String} {index n : Nat} (hd : I1 code pc (.new index) 3 pc') (w : (Cond.classLink own index Cl).before a0 Z = true) (wi : (Cond.instantiable Cl n).before a0 Z = true) (wz : (Cond.initialized Cl).before a0 Z = true) (hc : ck + 1 ≤ R.cells) (hl : cn + n ≤ R.slots) {ck' cn' : Nat} (hck : ck + 1 = ck') (hcn : cn + n = cn')
    (k : ∀ (h' : Heap) (a : Addr), a = h.size → Ext h h' → Exa Z h' a Cl → (∀ {O nm d : String} {ty : FieldType}, Laid Z a0 Cl O nm d → parseFieldDescriptor d = some ty → Fld Z h' a O nm d (defaultValue ty)) → Go p l e R s m args below meth c n0 K N Q h' ck' cn' (mkF m pc' Ls (.ref a :: st))) : Go p l e R s m args below meth c n0 K N Q h ck cn (mkF m pc Ls st) := fun T locs X eT hN => by
  obtain ⟨hd, rfl⟩ := hd
  subst hck hcn
  obtain ⟨T', h', X', e', E, A, D, -, st'⟩ := Jvm.RoadKit.newO X C.1 C.2.2.2.1 C.2.2.2.2.1 w wi wz eT (g := mkF m pc Ls st) rfl (hb C.2.1 hd) hc hl
  exact Go.move hN X' e' hN st' (k h' _ rfl E A D)
theorem g_initO (C : Cx p s m meth c Z code maxL own ret) {pc pc' : Nat} {Ls : Array Slot} {st : List Value} {a : Addr} {idx : Nat} (hd : I1 code pc (.invokespecial idx) 3 pc') (w1 : (Cond.methodLink own idx Lib.objectInit).before a0 Z = true) (w2 : (Cond.instanceMethod Lib.objectInit).before a0 Z = true) (w3 : (Cond.code Lib.objectInit ⟨#[0xb1]⟩ 1 none).before a0 Z = true) (hsz : Ls.size = maxL)
    (hf : 1 ≤ R.frames) (W : Nat) (hW : 2 * 0 + (st.map fun v => v.category).sum ≤ W) (hl : W + 12 ≤ R.locals) (k : Go p l e R s m args below meth c n0 K N Q h ck cn (mkF m pc' Ls st)) : Go p l e R s m args below meth c n0 K N Q h ck cn (mkF m pc Ls (.ref a :: st)) := fun T locs X eT hN => by
  obtain ⟨hd, rfl⟩ := hd
  obtain ⟨T', X', e', st'⟩ := Jvm.RoadKit.initO X C.1 C.2.2.2.1 C.2.2.2.2.1 w1 w2 w3 eT (g := mkF m pc Ls (.ref a :: st)) rfl (hsz.trans C.2.2.1.symm) rfl (hb C.2.1 hd) hf (W := W) hW hl
  exact Go.move hN X' e' hN st' k
theorem g_castY (C : Cx p s m meth c Z code maxL own ret) {pc pc' : Nat} {Ls : Array Slot} {st : List Value} {Kl : String} {index : Nat} {a : Addr} (hd : I1 code pc (.checkcast index) 3 pc') (w : (Cond.classLink own index Kl).before a0 Z = true) (F : Ins Z h a Kl true) (k : Go p l e R s m args below meth c n0 K N Q h ck cn (mkF m pc' Ls (.ref a :: st))) : Go p l e R s m args below meth c n0 K N Q h ck cn (mkF m pc Ls (.ref a :: st)) := fun T locs X eT hN => by
  obtain ⟨hd, rfl⟩ := hd
  obtain ⟨T', X', e', st'⟩ := Jvm.RoadKit.castY X C.1 C.2.2.2.1 C.2.2.2.2.1 w eT F (g := mkF m pc Ls (.ref a :: st)) rfl rfl (hb C.2.1 hd)
  exact Go.move hN X' e' hN st' k
theorem g_castNull (C : Cx p s m meth c Z code maxL own ret) {pc pc' : Nat} {Ls : Array Slot} {st : List Value} {index : Nat} (hd : I1 code pc (.checkcast index) 3 pc') (k : Go p l e R s m args below meth c n0 K N Q h ck cn (mkF m pc' Ls (.null :: st))) : Go p l e R s m args below meth c n0 K N Q h ck cn (mkF m pc Ls (.null :: st)) := by
  obtain ⟨hd, rfl⟩ := hd
  exact Go.step (fun T locs X _ t k => X.checkcastNull C.1 (g := mkF m pc Ls (.null :: st)) rfl rfl (hb C.2.1 hd) _ k) k
theorem g_instY (C : Cx p s m meth c Z code maxL own ret) {pc pc' : Nat} {Ls : Array Slot} {st : List Value} {Kl : String} {index : Nat} {a : Addr} (hd : I1 code pc (.instanceof index) 3 pc') (w : (Cond.classLink own index Kl).before a0 Z = true) (F : Ins Z h a Kl true) (k : Go p l e R s m args below meth c n0 K N Q h ck cn (mkF m pc' Ls (.int 1 :: st))) : Go p l e R s m args below meth c n0 K N Q h ck cn (mkF m pc Ls (.ref a :: st)) := fun T locs X eT hN => by
  obtain ⟨hd, rfl⟩ := hd
  obtain ⟨T', X', e', st'⟩ := Jvm.RoadKit.instY X C.1 C.2.2.2.1 C.2.2.2.2.1 w eT F (g := mkF m pc Ls (.ref a :: st)) rfl rfl (hb C.2.1 hd)
  exact Go.move hN X' e' hN st' k
theorem g_instNo (C : Cx p s m meth c Z code maxL own ret) {pc pc' : Nat} {Ls : Array Slot} {st : List Value} {Kl Cl : String} {index : Nat} {a : Addr} (hd : I1 code pc (.instanceof index) 3 pc') (w : (Cond.classLink own index Kl).before a0 Z = true) (E : Exa Z h a Cl) (F : ∃ c t, Z.vm.findClass Cl = some c ∧ Z.vm.findClass Kl = some t ∧ Z.vm.assignable c t = false) (k : Go p l e R s m args below meth c n0 K N Q h ck cn (mkF m pc' Ls (.int 0 :: st))) : Go p l e R s m args below meth c n0 K N Q h ck cn (mkF m pc Ls (.ref a :: st)) := fun T locs X eT hN => by
  obtain ⟨hd, rfl⟩ := hd
  obtain ⟨T', X', e', st'⟩ := Jvm.RoadKit.instNo X C.1 C.2.2.2.1 C.2.2.2.2.1 w eT E F (g := mkF m pc Ls (.ref a :: st)) rfl rfl (hb C.2.1 hd)
  exact Go.move hN X' e' hN st' k
theorem g_instNull (C : Cx p s m meth c Z code maxL own ret) {pc pc' : Nat} {Ls : Array Slot} {st : List Value} {index : Nat} (hd : I1 code pc (.instanceof index) 3 pc') (k : Go p l e R s m args below meth c n0 K N Q h ck cn (mkF m pc' Ls (.int 0 :: st))) : Go p l e R s m args below meth c n0 K N Q h ck cn (mkF m pc Ls (.null :: st)) := by
  obtain ⟨hd, rfl⟩ := hd
  exact Go.step (fun T locs X _ t k => X.instanceofNull C.1 (g := mkF m pc Ls (.null :: st)) rfl rfl (hb C.2.1 hd) _ k) k
/-- an array of n places: what each holds -/
def AV (Z : State) (h : Heap) (a : Addr) (ty : FieldType) (n : Nat) (f : Nat → Value) : Prop := ∃ c : Cell, Arr Z h a c ty ∧ c.slots.size = n ∧ n < 2 ^ 31 ∧ ∀ i, i < n → c.slots[i]? = some (f i)
theorem AV.lt {a : Addr} {ty : FieldType} {n : Nat} {f : Nat → Value} (F : AV Z h a ty n f) : a < h.size := by obtain ⟨c, A, -⟩ := F; exact A.lt
theorem AV.ext {h' : Heap} {a : Addr} {ty : FieldType} {n : Nat} {f : Nat → Value} (F : AV Z h a ty n f) (E : Ext h h') : AV Z h' a ty n f := by obtain ⟨c, A, r⟩ := F; exact ⟨c, A.ext E, r⟩
theorem AV.other {h' : Heap} {a b : Addr} {sl : Nat} {v : Value} {ty : FieldType} {n : Nat} {f : Nat → Value} (F : AV Z h b ty n f) (W : Wr h h' a sl v) (q : b ≠ a) : AV Z h' b ty n f := by obtain ⟨c, A, r⟩ := F; exact ⟨c, A.other W q, r⟩
theorem AV.keep {h' : Heap} {ws : List Addr} {a : Addr} {ty : FieldType} {n : Nat} {f : Nat → Value} (F : AV Z h a ty n f) (K : Keep h h' ws) (q : a ∉ ws) : AV Z h' a ty n f := by obtain ⟨c, A, r⟩ := F; exact ⟨c, ⟨K.2.1 a c A.1 q, A.2⟩, r⟩
theorem AV.congr {a : Addr} {ty : FieldType} {n : Nat} {f g : Nat → Value} (F : AV Z h a ty n f) (q : ∀ i, i < n → f i = g i) : AV Z h a ty n g := by obtain ⟨c, A, r1, r2, r3⟩ := F; exact ⟨c, A, r1, r2, fun i hi => by rw [← q i hi]; exact r3 i hi⟩
theorem AV.ofNew {a : Addr} {ty : FieldType} {cA : ClassId} {z : Int32} (A : Arr Z h a (newA cA ty z) ty) (q : ¬ z < 0) : AV Z h a ty z.toNatClampNeg (fun _ => defaultValue ty) :=
  ⟨_, A, sz_new _ _ _, (back32 q).2, fun i hi => by simp [newA, hi]⟩
theorem AV.set {h' : Heap} {a : Addr} {ty : FieldType} {n : Nat} {f : Nat → Value} {j : Nat} {v : Value} (F : AV Z h a ty n f) (W : Wr h h' a j v) : AV Z h' a ty n (fun i => if i = j then v else f i) := by
  obtain ⟨c, A, r1, r2, r3⟩ := F
  obtain ⟨cell, w1, w2, w3, w4⟩ := W
  cases w1.symm.trans A.1
  refine ⟨c.setSlot j v, A.same ⟨c, w1, w2, w3, w4⟩, by rw [sz_set, r1], r2, fun i hi => ?_⟩
  by_cases q : i = j
  · subst q; simp [Cell.setSlot, w3]
  · simp only [q, if_false]; rw [← r3 i hi]; exact Array.getElem?_setIfInBounds_ne (Ne.symm q)
/-- the place lies inside -/
def Inb (j : Int32) (n : Nat) : Prop := ¬ j < 0 ∧ j.toNatClampNeg < n
theorem Inb.not {j : Int32} {n : Nat} (q : Inb j n) : ¬ (j < 0 ∨ n ≤ j.toNatClampNeg) := fun r => r.elim q.1 (fun z => Nat.not_lt.mpr z q.2)
theorem inb_int {j : Int32} {n : Nat} (h1 : 0 ≤ j.toInt) (h2 : j.toInt < n) : Inb j n := ⟨by simp only [Int32.lt_iff_toInt_lt, Int32.reduceToInt]; omega, by simp only [Int32.toNatClampNeg]; omega⟩
theorem g_newP (C : Cx p s m meth c Z code maxL own ret) {pc pc' : Nat} {Ls : Array Slot} {st : List Value} {aty : ArrayType} {n : Int32} (hd : I1 code pc (.newarray aty) 2 pc') (w : (Cond.arrayClass (newarray.typeOf aty)).before a0 Z = true) (hn : ¬ n < 0) (cap : Nat) (hcap : n.toNatClampNeg ≤ cap) (hb8 : cap * 8 ≤ 536870912) (hc : ck + 1 ≤ R.cells) (hl : cn + cap ≤ R.slots) {ck' cn' : Nat} (hck : ck + 1 = ck') (hcn : cn + cap = cn')
    (k : ∀ (h' : Heap) (a : Addr), a = h.size → Ext h h' → AV Z h' a (newarray.typeOf aty) n.toNatClampNeg (fun _ => defaultValue (newarray.typeOf aty)) → Go p l e R s m args below meth c n0 K N Q h' ck' cn' (mkF m pc' Ls (.ref a :: st))) : Go p l e R s m args below meth c n0 K N Q h ck cn (mkF m pc Ls (.int n :: st)) := fun T locs X eT hN => by
  obtain ⟨hd, rfl⟩ := hd
  subst hck hcn
  obtain ⟨T', h', cA, X', e', E, A, st'⟩ := Jvm.RoadKit.newP X C.1 C.2.2.2.1 w eT (g := mkF m pc Ls (.int n :: st)) rfl (hb C.2.1 hd) rfl hn hcap hb8 hc hl
  exact Go.move hN X' e' hN st' (k h' _ rfl E (AV.ofNew A hn))
theorem g_alen (C : Cx p s m meth c Z code maxL own ret) {pc pc' : Nat} {Ls : Array Slot} {st : List Value} {a : Addr} {ty : FieldType} {n : Nat} {f : Nat → Value} (z : Int32) (hd : I1 code pc .arraylength 1 pc') (F : AV Z h a ty n f) (hz : n.toInt32 = z) (k : Go p l e R s m args below meth c n0 K N Q h ck cn (mkF m pc' Ls (.int z :: st))) : Go p l e R s m args below meth c n0 K N Q h ck cn (mkF m pc Ls (.ref a :: st)) := by
  obtain ⟨hd, rfl⟩ := hd
  obtain ⟨cl, A, r1, r2, r3⟩ := F
  subst hz
  exact Go.step (fun T locs X eT t k => X.arraylength C.1 (by rw [eT]; exact A.1) (State.isArrayOf_alike C.2.2.2.1.alike A.2.1) (g := mkF m pc Ls (.ref a :: st)) rfl rfl (hb C.2.1 hd) _ (by rw [r1]; exact k)) k
theorem g_iald (C : Cx p s m meth c Z code maxL own ret) {pc pc' : Nat} {Ls : Array Slot} {st : List Value} {a : Addr} {j : Int32} {n : Nat} {f : Nat → Value} (v : Value) (hd : I1 code pc .iaload 1 pc') (F : AV Z h a .int n f) (hj : Inb j n) (hv : f j.toNatClampNeg = v) (k : Go p l e R s m args below meth c n0 K N Q h ck cn (mkF m pc' Ls (v :: st))) : Go p l e R s m args below meth c n0 K N Q h ck cn (mkF m pc Ls (.int j :: .ref a :: st)) := by
  obtain ⟨hd, rfl⟩ := hd
  obtain ⟨cl, A, r1, r2, r3⟩ := F
  subst hv
  exact Go.step (fun T locs X eT t k => X.iaload C.1 (by rw [eT]; exact A.1) (State.isArrayOf_alike C.2.2.2.1.alike A.2.1) A.2.2 (by rw [r1]; exact hj.not) (r3 _ hj.2) (g := mkF m pc Ls (.int j :: .ref a :: st)) rfl rfl (hb C.2.1 hd) _ k) k
theorem g_lald (C : Cx p s m meth c Z code maxL own ret) {pc pc' : Nat} {Ls : Array Slot} {st : List Value} {a : Addr} {j : Int32} {n : Nat} {f : Nat → Value} (v : Value) (hd : I1 code pc .laload 1 pc') (F : AV Z h a .long n f) (hj : Inb j n) (hv : f j.toNatClampNeg = v) (k : Go p l e R s m args below meth c n0 K N Q h ck cn (mkF m pc' Ls (v :: st))) : Go p l e R s m args below meth c n0 K N Q h ck cn (mkF m pc Ls (.int j :: .ref a :: st)) := by
  obtain ⟨hd, rfl⟩ := hd
  obtain ⟨cl, A, r1, r2, r3⟩ := F
  subst hv
  exact Go.step (fun T locs X eT t k => X.laload C.1 (by rw [eT]; exact A.1) (State.isArrayOf_alike C.2.2.2.1.alike A.2.1) A.2.2 (by rw [r1]; exact hj.not) (r3 _ hj.2) (g := mkF m pc Ls (.int j :: .ref a :: st)) rfl rfl (hb C.2.1 hd) _ k) k
theorem g_cald (C : Cx p s m meth c Z code maxL own ret) {pc pc' : Nat} {Ls : Array Slot} {st : List Value} {a : Addr} {j : Int32} {n : Nat} {f : Nat → Value} (v : Value) (hd : I1 code pc .caload 1 pc') (F : AV Z h a .char n f) (hj : Inb j n) (hv : f j.toNatClampNeg = v) (k : Go p l e R s m args below meth c n0 K N Q h ck cn (mkF m pc' Ls (v :: st))) : Go p l e R s m args below meth c n0 K N Q h ck cn (mkF m pc Ls (.int j :: .ref a :: st)) := by
  obtain ⟨hd, rfl⟩ := hd
  obtain ⟨cl, A, r1, r2, r3⟩ := F
  subst hv
  exact Go.step (fun T locs X eT t k => X.caload C.1 (by rw [eT]; exact A.1) (State.isArrayOf_alike C.2.2.2.1.alike A.2.1) A.2.2 (by rw [r1]; exact hj.not) (r3 _ hj.2) (g := mkF m pc Ls (.int j :: .ref a :: st)) rfl rfl (hb C.2.1 hd) _ k) k
theorem g_sald (C : Cx p s m meth c Z code maxL own ret) {pc pc' : Nat} {Ls : Array Slot} {st : List Value} {a : Addr} {j : Int32} {n : Nat} {f : Nat → Value} (v : Value) (hd : I1 code pc .saload 1 pc') (F : AV Z h a .short n f) (hj : Inb j n) (hv : f j.toNatClampNeg = v) (k : Go p l e R s m args below meth c n0 K N Q h ck cn (mkF m pc' Ls (v :: st))) : Go p l e R s m args below meth c n0 K N Q h ck cn (mkF m pc Ls (.int j :: .ref a :: st)) := by
  obtain ⟨hd, rfl⟩ := hd
  obtain ⟨cl, A, r1, r2, r3⟩ := F
  subst hv
  exact Go.step (fun T locs X eT t k => X.saload C.1 (by rw [eT]; exact A.1) (State.isArrayOf_alike C.2.2.2.1.alike A.2.1) A.2.2 (by rw [r1]; exact hj.not) (r3 _ hj.2) (g := mkF m pc Ls (.int j :: .ref a :: st)) rfl rfl (hb C.2.1 hd) _ k) k
theorem g_bald (C : Cx p s m meth c Z code maxL own ret) {pc pc' : Nat} {Ls : Array Slot} {st : List Value} {a : Addr} {j : Int32} {n : Nat} {f : Nat → Value} (v : Value) (hd : I1 code pc .baload 1 pc') (F : AV Z h a .byte n f) (hj : Inb j n) (hv : f j.toNatClampNeg = v) (k : Go p l e R s m args below meth c n0 K N Q h ck cn (mkF m pc' Ls (v :: st))) : Go p l e R s m args below meth c n0 K N Q h ck cn (mkF m pc Ls (.int j :: .ref a :: st)) := by
  obtain ⟨hd, rfl⟩ := hd
  obtain ⟨cl, A, r1, r2, r3⟩ := F
  subst hv
  exact Go.step (fun T locs X eT t k => X.baloadBytes C.1 (by rw [eT]; exact A.1) (State.isArrayOf_alike C.2.2.2.1.alike A.2.1) A.2.2 (by rw [r1]; exact hj.not) (r3 _ hj.2) (g := mkF m pc Ls (.int j :: .ref a :: st)) rfl rfl (hb C.2.1 hd) _ k) k
theorem g_zald (C : Cx p s m meth c Z code maxL own ret) {pc pc' : Nat} {Ls : Array Slot} {st : List Value} {a : Addr} {j : Int32} {n : Nat} {f : Nat → Value} (v : Value) (hd : I1 code pc .baload 1 pc') (F : AV Z h a .boolean n f) (hj : Inb j n) (hv : f j.toNatClampNeg = v) (k : Go p l e R s m args below meth c n0 K N Q h ck cn (mkF m pc' Ls (v :: st))) : Go p l e R s m args below meth c n0 K N Q h ck cn (mkF m pc Ls (.int j :: .ref a :: st)) := by
  obtain ⟨hd, rfl⟩ := hd
  obtain ⟨cl, A, r1, r2, r3⟩ := F
  subst hv
  exact Go.step (fun T locs X eT t k => X.baloadBooleans C.1 (by rw [eT]; exact A.1) (State.isArrayOf_alike C.2.2.2.1.alike A.2.1) A.2.2 (by rw [r1]; exact hj.not) (r3 _ hj.2) (g := mkF m pc Ls (.int j :: .ref a :: st)) rfl rfl (hb C.2.1 hd) _ k) k
theorem g_aald (C : Cx p s m meth c Z code maxL own ret) {pc pc' : Nat} {Ls : Array Slot} {st : List Value} {a : Addr} {j : Int32} {ty : FieldType} {n : Nat} {f : Nat → Value} (v : Value) (hd : I1 code pc .aaload 1 pc') (F : AV Z h a ty n f) (hj : Inb j n) (hv : f j.toNatClampNeg = v) (ht : ty.isReference = true) (k : Go p l e R s m args below meth c n0 K N Q h ck cn (mkF m pc' Ls (v :: st))) : Go p l e R s m args below meth c n0 K N Q h ck cn (mkF m pc Ls (.int j :: .ref a :: st)) := by
  obtain ⟨hd, rfl⟩ := hd
  obtain ⟨cl, A, r1, r2, r3⟩ := F
  subst hv
  exact Go.step (fun T locs X eT t k => X.aaload C.1 (by rw [eT]; exact A.1) (State.isArrayOf_alike C.2.2.2.1.alike A.2.1) ht A.2.2 (by rw [r1]; exact hj.not) (r3 _ hj.2) (g := mkF m pc Ls (.int j :: .ref a :: st)) rfl rfl (hb C.2.1 hd) _ k) k
theorem g_iast (C : Cx p s m meth c Z code maxL own ret) {pc pc' : Nat} {Ls : Array Slot} {st : List Value} {a : Addr} {j : Int32} {x : Int32} {n : Nat} {f : Nat → Value} (hd : I1 code pc .iastore 1 pc') (F : AV Z h a .int n f) (hj : Inb j n) (ha : n0 ≤ a)
    (k : ∀ h', Wr h h' a j.toNatClampNeg (.int x) → AV Z h' a .int n (fun i => if i = j.toNatClampNeg then .int x else f i) → Go p l e R s m args below meth c n0 K N Q h' ck cn (mkF m pc' Ls st)) : Go p l e R s m args below meth c n0 K N Q h ck cn (mkF m pc Ls (.int x :: .int j :: .ref a :: st)) := fun T locs X eT hN => by
  obtain ⟨hd, rfl⟩ := hd
  have F' := F
  obtain ⟨cl, A, r1, r2, r3⟩ := F
  obtain ⟨T', h', X', e', W, st'⟩ := Jvm.RoadKit.stI X C.1 C.2.2.2.1 eT A (by rw [r1]; exact hj.not) (g := mkF m pc Ls (.int x :: .int j :: .ref a :: st)) rfl rfl (hb C.2.1 hd)
  exact Go.move hN X' e' (Fr.snoc X' hN ha) st' (k h' W (F'.set W))
theorem g_last (C : Cx p s m meth c Z code maxL own ret) {pc pc' : Nat} {Ls : Array Slot} {st : List Value} {a : Addr} {j : Int32} {x : Int64} {n : Nat} {f : Nat → Value} (hd : I1 code pc .lastore 1 pc') (F : AV Z h a .long n f) (hj : Inb j n) (ha : n0 ≤ a)
    (k : ∀ h', Wr h h' a j.toNatClampNeg (.long x) → AV Z h' a .long n (fun i => if i = j.toNatClampNeg then .long x else f i) → Go p l e R s m args below meth c n0 K N Q h' ck cn (mkF m pc' Ls st)) : Go p l e R s m args below meth c n0 K N Q h ck cn (mkF m pc Ls (.long x :: .int j :: .ref a :: st)) := fun T locs X eT hN => by
  obtain ⟨hd, rfl⟩ := hd
  have F' := F
  obtain ⟨cl, A, r1, r2, r3⟩ := F
  obtain ⟨T', h', X', e', W, st'⟩ := Jvm.RoadKit.stJ X C.1 C.2.2.2.1 eT A (by rw [r1]; exact hj.not) (g := mkF m pc Ls (.long x :: .int j :: .ref a :: st)) rfl rfl (hb C.2.1 hd)
  exact Go.move hN X' e' (Fr.snoc X' hN ha) st' (k h' W (F'.set W))
theorem g_cast (C : Cx p s m meth c Z code maxL own ret) {pc pc' : Nat} {Ls : Array Slot} {st : List Value} {a : Addr} {j : Int32} {x : Int32} {n : Nat} {f : Nat → Value} (hd : I1 code pc .castore 1 pc') (F : AV Z h a .char n f) (hj : Inb j n) (ha : n0 ≤ a)
    (k : ∀ h', Wr h h' a j.toNatClampNeg (.int (nar .char x)) → AV Z h' a .char n (fun i => if i = j.toNatClampNeg then .int (nar .char x) else f i) → Go p l e R s m args below meth c n0 K N Q h' ck cn (mkF m pc' Ls st)) : Go p l e R s m args below meth c n0 K N Q h ck cn (mkF m pc Ls (.int x :: .int j :: .ref a :: st)) := fun T locs X eT hN => by
  obtain ⟨hd, rfl⟩ := hd
  have F' := F
  obtain ⟨cl, A, r1, r2, r3⟩ := F
  obtain ⟨T', h', X', e', W, st'⟩ := Jvm.RoadKit.stC X C.1 C.2.2.2.1 eT A (by rw [r1]; exact hj.not) (g := mkF m pc Ls (.int x :: .int j :: .ref a :: st)) rfl rfl (hb C.2.1 hd)
  exact Go.move hN X' e' (Fr.snoc X' hN ha) st' (k h' W (F'.set W))
theorem g_sast (C : Cx p s m meth c Z code maxL own ret) {pc pc' : Nat} {Ls : Array Slot} {st : List Value} {a : Addr} {j : Int32} {x : Int32} {n : Nat} {f : Nat → Value} (hd : I1 code pc .sastore 1 pc') (F : AV Z h a .short n f) (hj : Inb j n) (ha : n0 ≤ a)
    (k : ∀ h', Wr h h' a j.toNatClampNeg (.int (nar .short x)) → AV Z h' a .short n (fun i => if i = j.toNatClampNeg then .int (nar .short x) else f i) → Go p l e R s m args below meth c n0 K N Q h' ck cn (mkF m pc' Ls st)) : Go p l e R s m args below meth c n0 K N Q h ck cn (mkF m pc Ls (.int x :: .int j :: .ref a :: st)) := fun T locs X eT hN => by
  obtain ⟨hd, rfl⟩ := hd
  have F' := F
  obtain ⟨cl, A, r1, r2, r3⟩ := F
  obtain ⟨T', h', X', e', W, st'⟩ := Jvm.RoadKit.stS X C.1 C.2.2.2.1 eT A (by rw [r1]; exact hj.not) (g := mkF m pc Ls (.int x :: .int j :: .ref a :: st)) rfl rfl (hb C.2.1 hd)
  exact Go.move hN X' e' (Fr.snoc X' hN ha) st' (k h' W (F'.set W))
theorem g_bast (C : Cx p s m meth c Z code maxL own ret) {pc pc' : Nat} {Ls : Array Slot} {st : List Value} {a : Addr} {j : Int32} {x : Int32} {n : Nat} {f : Nat → Value} (hd : I1 code pc .bastore 1 pc') (F : AV Z h a .byte n f) (hj : Inb j n) (ha : n0 ≤ a)
    (k : ∀ h', Wr h h' a j.toNatClampNeg (.int (nar .byte x)) → AV Z h' a .byte n (fun i => if i = j.toNatClampNeg then .int (nar .byte x) else f i) → Go p l e R s m args below meth c n0 K N Q h' ck cn (mkF m pc' Ls st)) : Go p l e R s m args below meth c n0 K N Q h ck cn (mkF m pc Ls (.int x :: .int j :: .ref a :: st)) := fun T locs X eT hN => by
  obtain ⟨hd, rfl⟩ := hd
  have F' := F
  obtain ⟨cl, A, r1, r2, r3⟩ := F
  obtain ⟨T', h', X', e', W, st'⟩ := Jvm.RoadKit.stB X C.1 C.2.2.2.1 eT A (by rw [r1]; exact hj.not) (g := mkF m pc Ls (.int x :: .int j :: .ref a :: st)) rfl rfl (hb C.2.1 hd)
  exact Go.move hN X' e' (Fr.snoc X' hN ha) st' (k h' W (F'.set W))
theorem g_zast (C : Cx p s m meth c Z code maxL own ret) {pc pc' : Nat} {Ls : Array Slot} {st : List Value} {a : Addr} {j : Int32} {x : Int32} {n : Nat} {f : Nat → Value} (hd : I1 code pc .bastore 1 pc') (F : AV Z h a .boolean n f) (hj : Inb j n) (ha : n0 ≤ a)
    (k : ∀ h', Wr h h' a j.toNatClampNeg (.int (nar .boolean x)) → AV Z h' a .boolean n (fun i => if i = j.toNatClampNeg then .int (nar .boolean x) else f i) → Go p l e R s m args below meth c n0 K N Q h' ck cn (mkF m pc' Ls st)) : Go p l e R s m args below meth c n0 K N Q h ck cn (mkF m pc Ls (.int x :: .int j :: .ref a :: st)) := fun T locs X eT hN => by
  obtain ⟨hd, rfl⟩ := hd
  have F' := F
  obtain ⟨cl, A, r1, r2, r3⟩ := F
  obtain ⟨T', h', X', e', W, st'⟩ := Jvm.RoadKit.stZ X C.1 C.2.2.2.1 eT A (by rw [r1]; exact hj.not) (g := mkF m pc Ls (.int x :: .int j :: .ref a :: st)) rfl rfl (hb C.2.1 hd)
  exact Go.move hN X' e' (Fr.snoc X' hN ha) st' (k h' W (F'.set W))
theorem g_iastI (C : Cx p s m meth c Z code maxL own ret) {pc pc' : Nat} {Ls : Array Slot} {st : List Value} {a : Addr} {j : Int32} {x : Int32} {n : Nat} {f : Nat → Int32} (hd : I1 code pc .iastore 1 pc') (F : AV Z h a .int n (fun ix => .int (f ix))) (hj : Inb j n) (ha : n0 ≤ a)
    (k : ∀ h', Wr h h' a j.toNatClampNeg (.int (x)) → AV Z h' a .int n (fun ix => .int (if ix = j.toNatClampNeg then x else f ix)) → Go p l e R s m args below meth c n0 K N Q h' ck cn (mkF m pc' Ls st)) : Go p l e R s m args below meth c n0 K N Q h ck cn (mkF m pc Ls (.int x :: .int j :: .ref a :: st)) :=
  g_iast C hd F hj ha (fun h' W V => k h' W (AV.congr V (fun ix _ => by split <;> rfl)))
theorem g_lastI (C : Cx p s m meth c Z code maxL own ret) {pc pc' : Nat} {Ls : Array Slot} {st : List Value} {a : Addr} {j : Int32} {x : Int64} {n : Nat} {f : Nat → Int64} (hd : I1 code pc .lastore 1 pc') (F : AV Z h a .long n (fun ix => .long (f ix))) (hj : Inb j n) (ha : n0 ≤ a)
    (k : ∀ h', Wr h h' a j.toNatClampNeg (.long (x)) → AV Z h' a .long n (fun ix => .long (if ix = j.toNatClampNeg then x else f ix)) → Go p l e R s m args below meth c n0 K N Q h' ck cn (mkF m pc' Ls st)) : Go p l e R s m args below meth c n0 K N Q h ck cn (mkF m pc Ls (.long x :: .int j :: .ref a :: st)) :=
  g_last C hd F hj ha (fun h' W V => k h' W (AV.congr V (fun ix _ => by split <;> rfl)))
theorem g_castI (C : Cx p s m meth c Z code maxL own ret) {pc pc' : Nat} {Ls : Array Slot} {st : List Value} {a : Addr} {j : Int32} {x : Int32} {n : Nat} {f : Nat → Int32} (hd : I1 code pc .castore 1 pc') (F : AV Z h a .char n (fun ix => .int (f ix))) (hj : Inb j n) (ha : n0 ≤ a)
    (k : ∀ h', Wr h h' a j.toNatClampNeg (.int (nar .char x)) → AV Z h' a .char n (fun ix => .int (if ix = j.toNatClampNeg then nar .char x else f ix)) → Go p l e R s m args below meth c n0 K N Q h' ck cn (mkF m pc' Ls st)) : Go p l e R s m args below meth c n0 K N Q h ck cn (mkF m pc Ls (.int x :: .int j :: .ref a :: st)) :=
  g_cast C hd F hj ha (fun h' W V => k h' W (AV.congr V (fun ix _ => by split <;> rfl)))
theorem g_sastI (C : Cx p s m meth c Z code maxL own ret) {pc pc' : Nat} {Ls : Array Slot} {st : List Value} {a : Addr} {j : Int32} {x : Int32} {n : Nat} {f : Nat → Int32} (hd : I1 code pc .sastore 1 pc') (F : AV Z h a .short n (fun ix => .int (f ix))) (hj : Inb j n) (ha : n0 ≤ a)
    (k : ∀ h', Wr h h' a j.toNatClampNeg (.int (nar .short x)) → AV Z h' a .short n (fun ix => .int (if ix = j.toNatClampNeg then nar .short x else f ix)) → Go p l e R s m args below meth c n0 K N Q h' ck cn (mkF m pc' Ls st)) : Go p l e R s m args below meth c n0 K N Q h ck cn (mkF m pc Ls (.int x :: .int j :: .ref a :: st)) :=
  g_sast C hd F hj ha (fun h' W V => k h' W (AV.congr V (fun ix _ => by split <;> rfl)))
theorem g_bastI (C : Cx p s m meth c Z code maxL own ret) {pc pc' : Nat} {Ls : Array Slot} {st : List Value} {a : Addr} {j : Int32} {x : Int32} {n : Nat} {f : Nat → Int32} (hd : I1 code pc .bastore 1 pc') (F : AV Z h a .byte n (fun ix => .int (f ix))) (hj : Inb j n) (ha : n0 ≤ a)
    (k : ∀ h', Wr h h' a j.toNatClampNeg (.int (nar .byte x)) → AV Z h' a .byte n (fun ix => .int (if ix = j.toNatClampNeg then nar .byte x else f ix)) → Go p l e R s m args below meth c n0 K N Q h' ck cn (mkF m pc' Ls st)) : Go p l e R s m args below meth c n0 K N Q h ck cn (mkF m pc Ls (.int x :: .int j :: .ref a :: st)) :=
  g_bast C hd F hj ha (fun h' W V => k h' W (AV.congr V (fun ix _ => by split <;> rfl)))
theorem g_zastI (C : Cx p s m meth c Z code maxL own ret) {pc pc' : Nat} {Ls : Array Slot} {st : List Value} {a : Addr} {j : Int32} {x : Int32} {n : Nat} {f : Nat → Int32} (hd : I1 code pc .bastore 1 pc') (F : AV Z h a .boolean n (fun ix => .int (f ix))) (hj : Inb j n) (ha : n0 ≤ a)
    (k : ∀ h', Wr h h' a j.toNatClampNeg (.int (nar .boolean x)) → AV Z h' a .boolean n (fun ix => .int (if ix = j.toNatClampNeg then nar .boolean x else f ix)) → Go p l e R s m args below meth c n0 K N Q h' ck cn (mkF m pc' Ls st)) : Go p l e R s m args below meth c n0 K N Q h ck cn (mkF m pc Ls (.int x :: .int j :: .ref a :: st)) :=
  g_zast C hd F hj ha (fun h' W V => k h' W (AV.congr V (fun ix _ => by split <;> rfl)))
theorem g_callS (C : Cx p s m meth c Z code maxL own ret) {pc pc' : Nat} {Ls : Array Slot} {y : MethodName} {ycode : ByteArray} {ymax : Nat} {yret : Option FieldType} {rm : Room} {as' : Array Value} {Q' : Option Value → Heap → Prop} {index : Nat} (hC : Ctr l Z y ycode ymax yret rm as' h n0 Q') (hd : I1 code pc (.invokestatic index) 3 pc') (w1 : (Cond.methodLink own index y).before a0 Z = true) (w2 : (Cond.static y).before a0 Z = true) (w3 : (Cond.initialized y.cls).before a0 Z = true) (w4 : (Cond.code y ycode ymax yret).before a0 Z = true) (hy : y.cls ≠ "java/lang/invoke/MethodHandle" ∧ y.cls ≠ "java/lang/invoke/VarHandle")
    {argsL st rest : List Value} (hst : st = argsL.reverse ++ rest) (has : argsL.toArray = as') {ps : List FieldType} {r : Option FieldType} (hpd : parseMethodDescriptor y.desc = some ⟨ps, r⟩) (hlen : argsL.length = ps.length) (hsz : Ls.size = maxL) (W : Nat) (hW : 2 * 0 + (rest.map fun v => v.category).sum ≤ W)
    (hf : rm.frames + 1 ≤ R.frames) (hl : W + (ymax + 11) + rm.locals ≤ R.locals) (hc : ck + rm.cells ≤ R.cells) (hs : cn + rm.slots ≤ R.slots) {ck' cn' : Nat} (hck : ck + rm.cells = ck') (hcn : cn + rm.slots = cn')
    (k : ∀ v h', Q' v h' → Go p l e R s m args below meth c n0 K N Q h' ck' cn' (mkF m pc' Ls (v.toList ++ rest))) : Go p l e R s m args below meth c n0 K N Q h ck cn (mkF m pc Ls st) := fun T locs X eT hN => by
  obtain ⟨hd, rfl⟩ := hd
  subst hck hcn hst
  obtain ⟨v, _, ⟨T', L', k', n'⟩, -, X', ⟨Lc, hQ, l1, l2, l3⟩, st'⟩ := Jvm.LawKit.callS X C.1 C.2.2.2.2.1 (mvT C.2.2.2.1 w1) (mvT C.2.2.2.1 w2) (mvT C.2.2.2.1 w3) (mvT C.2.2.2.1 w4) hy (backOf (W := W) (Q := fun v h L => Q' v h ∧ Fr n0 L) (hC []) C.2.2.2.1 w4 w3 hf hl) (g := mkF m pc Ls (argsL.reverse ++ rest)) rfl (hsz.trans C.2.2.1.symm) (argsL := argsL) (rest := rest) (lenOf hpd hlen) rfl hW (hb C.2.1 hd) (fun _ _ => ⟨has, eT, hc, hs⟩)
  dsimp only [Pt.U, Pt.locs, Pt.cells, Pt.slots] at X' l1 l2 l3 st' hQ
  subst l1 l2 l3
  exact Go.move hN X' rfl (Fr.app hN hQ.2) st' (k v _ hQ.1)
theorem g_callI (C : Cx p s m meth c Z code maxL own ret) {pc pc' : Nat} {Ls : Array Slot} {y : MethodName} {ycode : ByteArray} {ymax : Nat} {yret : Option FieldType} {rm : Room} {as' : Array Value} {Q' : Option Value → Heap → Prop} {index : Nat} (hC : Ctr l Z y ycode ymax yret rm as' h n0 Q') {a : Addr} (hd : I1 code pc (.invokespecial index) 3 pc') (hy1 : y.name = "<init>") (w1 : (Cond.methodLink own index y).before a0 Z = true) (w2 : (Cond.instanceMethod y).before a0 Z = true) (w3 : (Cond.initialized y.cls).before a0 Z = true) (w4 : (Cond.code y ycode ymax none).before a0 Z = true) (hyr : yret = none) (hy : y.cls ≠ "java/lang/invoke/MethodHandle" ∧ y.cls ≠ "java/lang/invoke/VarHandle")
    {argsL st rest : List Value} (hst : st = argsL.reverse ++ .ref a :: rest) (has : (.ref a :: argsL).toArray = as') {ps : List FieldType} {r : Option FieldType} (hpd : parseMethodDescriptor y.desc = some ⟨ps, r⟩) (hlen : argsL.length = ps.length) (hsz : Ls.size = maxL) (W : Nat) (hW : 2 * 0 + (rest.map fun v => v.category).sum ≤ W)
    (hf : rm.frames + 1 ≤ R.frames) (hl : W + (ymax + 11) + rm.locals ≤ R.locals) (hc : ck + rm.cells ≤ R.cells) (hs : cn + rm.slots ≤ R.slots) {ck' cn' : Nat} (hck : ck + rm.cells = ck') (hcn : cn + rm.slots = cn')
    (k : ∀ v h', Q' v h' → Go p l e R s m args below meth c n0 K N Q h' ck' cn' (mkF m pc' Ls (v.toList ++ rest))) : Go p l e R s m args below meth c n0 K N Q h ck cn (mkF m pc Ls st) := fun T locs X eT hN => by
  obtain ⟨hd, rfl⟩ := hd
  subst hck hcn hst
  subst hyr
  obtain ⟨v, _, ⟨T', L', k', n'⟩, -, X', ⟨Lc, hQ, l1, l2, l3⟩, st'⟩ := X.specialBack C.1 hy1 C.2.2.2.2.1 (mvT C.2.2.2.1 w1) (mvT C.2.2.2.1 w2) (mvT C.2.2.2.1 w4) hy (backOf (W := W) (Q := fun v h L => Q' v h ∧ Fr n0 L) (hC []) C.2.2.2.1 w4 w3 hf hl) (g := mkF m pc Ls (argsL.reverse ++ .ref a :: rest)) rfl (hsz.trans C.2.2.1.symm) (Steps.refl _) (a := a) (argsL := argsL) (rest := rest) (lenOf hpd hlen) rfl hW (hb C.2.1 hd) (fun _ _ => ⟨has, eT, hc, hs⟩)
  dsimp only [Pt.U, Pt.locs, Pt.cells, Pt.slots] at X' l1 l2 l3 st' hQ
  subst l1 l2 l3
  exact Go.move hN X' rfl (Fr.app hN hQ.2) (fun _ z => st'.trans z) (k v _ hQ.1)
theorem g_callV (C : Cx p s m meth c Z code maxL own ret) {pc pc' : Nat} {Ls : Array Slot} {y : MethodName} {ycode : ByteArray} {ymax : Nat} {yret : Option FieldType} {rm : Room} {as' : Array Value} {Q' : Option Value → Heap → Prop} {index : Nat} (hC : Ctr l Z y ycode ymax yret rm as' h n0 Q') {a : Addr} {x : MethodName} {Cl : String} (hd : I1 code pc (.invokevirtual index) 3 pc') (w1 : (Cond.methodLink own index x).before a0 Z = true) (w2 : (Cond.declares x).before a0 Z = true) (hnf : ∀ s : State, Z.Warmed39 s.vm → NotFace s x) (w5 : (Cond.selects Cl x y).before a0 Z = true) (w6 : (Cond.instanceMethod y).before a0 Z = true) (w3 : (Cond.initialized y.cls).before a0 Z = true) (w4 : (Cond.code y ycode ymax yret).before a0 Z = true) (hy : x.cls ≠ "java/lang/invoke/MethodHandle" ∧ x.cls ≠ "java/lang/invoke/VarHandle") (E : Exa Z h a Cl)
    {argsL st rest : List Value} (hst : st = argsL.reverse ++ .ref a :: rest) (has : (.ref a :: argsL).toArray = as') {ps : List FieldType} {r : Option FieldType} (hpd : parseMethodDescriptor x.desc = some ⟨ps, r⟩) (hlen : argsL.length = ps.length) (hsz : Ls.size = maxL) (W : Nat) (hW : 2 * 0 + (rest.map fun v => v.category).sum ≤ W)
    (hf : rm.frames + 1 ≤ R.frames) (hl : W + (ymax + 11) + rm.locals ≤ R.locals) (hc : ck + rm.cells ≤ R.cells) (hs : cn + rm.slots ≤ R.slots) {ck' cn' : Nat} (hck : ck + rm.cells = ck') (hcn : cn + rm.slots = cn')
    (k : ∀ v h', Q' v h' → Go p l e R s m args below meth c n0 K N Q h' ck' cn' (mkF m pc' Ls (v.toList ++ rest))) : Go p l e R s m args below meth c n0 K N Q h ck cn (mkF m pc Ls st) := fun T locs X eT hN => by
  obtain ⟨hd, rfl⟩ := hd
  subst hck hcn hst
  obtain ⟨cq, kq, q1, q2, q3⟩ := isOf C.2.2.2.1 eT E
  obtain ⟨v, _, ⟨T', L', k', n'⟩, -, X', ⟨Lc, hQ, l1, l2, l3⟩, st'⟩ := X.virtualBack C.1 (y := x) (z := y) C.2.2.2.2.1 (mvT C.2.2.2.1 w1) (mvT C.2.2.2.1 w2) (hnf s C.2.2.2.1) (mvT C.2.2.2.1 w5) (mvT C.2.2.2.1 w6) hy (backOf (W := W) (Q := fun v h L => Q' v h ∧ Fr n0 L) (hC []) C.2.2.2.1 w4 w3 hf hl) q1 q3 (g := mkF m pc Ls (argsL.reverse ++ .ref a :: rest)) rfl (hsz.trans C.2.2.1.symm) (Steps.refl _) (argsL := argsL) (rest := rest) (lenOf hpd hlen) rfl hW (hb C.2.1 hd) (fun _ _ => ⟨has, eT, hc, hs⟩)
  dsimp only [Pt.U, Pt.locs, Pt.cells, Pt.slots] at X' l1 l2 l3 st' hQ
  subst l1 l2 l3
  exact Go.move hN X' rfl (Fr.app hN hQ.2) (fun _ z => st'.trans z) (k v _ hQ.1)
theorem g_callP (C : Cx p s m meth c Z code maxL own ret) {pc pc' : Nat} {Ls : Array Slot} {y : MethodName} {ycode : ByteArray} {ymax : Nat} {yret : Option FieldType} {rm : Room} {as' : Array Value} {Q' : Option Value → Heap → Prop} {index : Nat} (hC : Ctr l Z y ycode ymax yret rm as' h n0 Q') {a : Addr} {Cl : String} (hd : I1 code pc (.invokevirtual index) 3 pc') (w1 : (Cond.methodLink own index y).before a0 Z = true) (w2 : (Cond.instanceMethod y).before a0 Z = true) (w5 : (Cond.selects y.cls y y).before a0 Z = true) (w6 : (Cond.privateMethod y).before a0 Z = true) (w3 : (Cond.initialized y.cls).before a0 Z = true) (w4 : (Cond.code y ycode ymax yret).before a0 Z = true) (hy : y.cls ≠ "java/lang/invoke/MethodHandle" ∧ y.cls ≠ "java/lang/invoke/VarHandle") (E : Exa Z h a Cl)
    {argsL st rest : List Value} (hst : st = argsL.reverse ++ .ref a :: rest) (has : (.ref a :: argsL).toArray = as') {ps : List FieldType} {r : Option FieldType} (hpd : parseMethodDescriptor y.desc = some ⟨ps, r⟩) (hlen : argsL.length = ps.length) (hsz : Ls.size = maxL) (W : Nat) (hW : 2 * 0 + (rest.map fun v => v.category).sum ≤ W)
    (hf : rm.frames + 1 ≤ R.frames) (hl : W + (ymax + 11) + rm.locals ≤ R.locals) (hc : ck + rm.cells ≤ R.cells) (hs : cn + rm.slots ≤ R.slots) {ck' cn' : Nat} (hck : ck + rm.cells = ck') (hcn : cn + rm.slots = cn')
    (k : ∀ v h', Q' v h' → Go p l e R s m args below meth c n0 K N Q h' ck' cn' (mkF m pc' Ls (v.toList ++ rest))) : Go p l e R s m args below meth c n0 K N Q h ck cn (mkF m pc Ls st) := fun T locs X eT hN => by
  obtain ⟨hd, rfl⟩ := hd
  subst hck hcn hst
  obtain ⟨cq, q1, q2⟩ := E.cell
  obtain ⟨v, _, ⟨T', L', k', n'⟩, -, X', ⟨Lc, hQ, l1, l2, l3⟩, st'⟩ := X.privateBack C.1 (y := y) C.2.2.2.2.1 (mvT C.2.2.2.1 w1) (mvT C.2.2.2.1 w2) (mvT C.2.2.2.1 w5) (Cond.privateMethod_at (mvP C.2.2.2.1 w6 (args := #[]))) (mvT C.2.2.2.1 w4) hy (backOf (W := W) (Q := fun v h L => Q' v h ∧ Fr n0 L) (hC []) C.2.2.2.1 w4 w3 hf hl) (g := mkF m pc Ls (argsL.reverse ++ .ref a :: rest)) rfl (hsz.trans C.2.2.1.symm) (Steps.refl _) (a := a) (by rw [eT]; exact q1) q2 (argsL := argsL) (rest := rest) (lenOf hpd hlen) rfl hW (hb C.2.1 hd) (fun _ _ => ⟨has, eT, hc, hs⟩)
  dsimp only [Pt.U, Pt.locs, Pt.cells, Pt.slots] at X' l1 l2 l3 st' hQ
  subst l1 l2 l3
  exact Go.move hN X' rfl (Fr.app hN hQ.2) (fun _ z => st'.trans z) (k v _ hQ.1)
end
end Jvm.OwnGo
namespace Jvm.OwnGo
open Jvm.RoadKit
theorem nar_b (x : Int32) : nar .boolean x = x &&& 1 := rfl
theorem nbT {P : Prop} [Decidable P] : nar .boolean (if P then (1 : Int32) else (0 : Int32)) = 1 ↔ P := by
  by_cases h : P
  · simp only [if_pos h]; exact ⟨fun _ => h, fun _ => rfl⟩
  · simp only [if_neg h]; exact ⟨fun q => absurd q (by decide), fun q => absurd q h⟩
theorem own_nat {i : Nat} (h : i < 2147483648) : i.toInt32.toInt = i := len_toInt h
theorem own_cl {i : Nat} (h : i < 2147483648) : i.toInt32.toNatClampNeg = i := by simp only [Int32.toNatClampNeg, own_nat h]; omega
theorem own_lt {i n : Nat} (hi : i < 2147483648) (hn : n < 2147483648) : i.toInt32 < n.toInt32 ↔ i < n := by
  rw [Int32.lt_iff_toInt_lt, own_nat hi, own_nat hn]; omega
theorem own_inN {i n : Nat} (hi : i < 2147483648) (h : i < n) : Inb i.toInt32 n := inb_int (by rw [own_nat hi]; omega) (by rw [own_nat hi]; omega)
theorem own_rd {α : Type} (F : Nat → α) {i : Nat} (h : i < 2147483648) : F i.toInt32.toNatClampNeg = F i := by rw [own_cl h]
theorem own_succ {i : Nat} (h : i < 2147483647) : i.toInt32 + (1 : Int32) = (i + 1).toInt32 := by
  rw [← Int32.toInt_inj]
  have h1 := c_iadd i.toInt32 1
  have h2 := rng32 (i.toInt32 + 1)
  have h3 : (1 : Int32).toInt = 1 := rfl
  rw [own_nat (by omega), h3] at h1
  rw [own_nat (by omega)]
  omega
theorem AV.small {Z : State} {h : Heap} {a : Addr} {ty : ClassFile.FieldType} {n : Nat} {f : Nat → Value} (V : AV Z h a ty n f) : n < 2147483648 := by
  obtain ⟨c, -, -, r, -⟩ := V; exact r
theorem own_inb {Z : State} {h : Heap} {a : Addr} {ty : ClassFile.FieldType} {n : Nat} {f : Nat → Value} (V : AV Z h a ty n f) {j : Int32} (h0 : ¬ (j < (0 : Int32))) (h1 : j < n.toInt32) : Inb j n := by
  have hn := V.small
  have e0 : (0 : Int32).toInt = 0 := rfl
  rw [Int32.lt_iff_toInt_lt] at h0 h1
  rw [own_nat hn] at h1
  exact inb_int (by omega) (by omega)
end Jvm.OwnGo
namespace Jvm.Pilot.@@N@@
open Jvm Jvm.ClassFile Sem Op Lib Jvm.Free Jvm.Stand Jvm.LawKit Jvm.RoadKit Bundle Jvm.Pilot.@@N@@.Jvm.D
open Jvm.OwnGo
theorem iY_0 : I1 jdk_29_method_69_code 0 (.iload_n 0) 1 1 := ⟨(by decide +kernel), rfl⟩
theorem iY_1 : I1 jdk_29_method_69_code 1 (.iload_n 1) 1 2 := ⟨(by decide +kernel), rfl⟩
theorem iY_2 : B1 jdk_29_method_69_code 2 (.if_icmp .gt 7) 7 9 5 := ⟨(by decide +kernel), rfl, by decide, by decide⟩
theorem iY_5 : I1 jdk_29_method_69_code 5 (.iload_n 0) 1 6 := ⟨(by decide +kernel), rfl⟩
theorem iY_6 : B1 jdk_29_method_69_code 6 (.goto 4) 4 10 9 := ⟨(by decide +kernel), rfl, by decide, by decide⟩
theorem iY_9 : I1 jdk_29_method_69_code 9 (.iload_n 1) 1 10 := ⟨(by decide +kernel), rfl⟩
theorem iY_10 : I1 jdk_29_method_69_code 10 (.ireturn) 1 11 := ⟨(by decide +kernel), rfl⟩
def vY_0 (p0 : Int32) (p1 : Int32) : Int32 := (if p1 < p0 then p1 else p0)
theorem efY (m : MethodId) (p0 : Int32) (p1 : Int32) : entryFrame m #[(.int p0), (.int p1)] 2 = mkF m 0 #[.val (.int p0), .val (.int p1)] [] := by first | (simp [entryFrame, mkF, argsToLocals, Value.category]; done) | rfl
def QY (Z : State) (p0 : Int32) (p1 : Int32) (h0 : Heap) (n0 : Nat) (v : Option Value) (h : Heap) : Prop := v = some (.int (vY_0 p0 p1)) ∧ h = h0
set_option maxRecDepth 65536 in
set_option maxHeartbeats 40000000 in
theorem rmY (l : Launch) (Z : State) (aZ : Array Value) (hw : ∀ d ∈ tables_1, d.before aZ Z = true) (p0 : Int32) (p1 : Int32) (h0 : Heap) (n0 : Nat) (Z0 : n0 ≤ h0.size) :
    Ctr l Z (⟨"java/lang/Math", "min", "(II)I"⟩ : MethodName) jdk_29_method_69_code 2 (some .int) ({ frames := 0, cells := 0, slots := 0, locals := 0 } : Room) #[(.int p0), (.int p1)] h0 n0 (QY Z p0 p1 h0 n0) := by
  refine Ctr.of_go (Jvm.Free.JP.mathPlain rfl (by decide +kernel)) (fun m => efY m p0 p1) ?_
  intro p e s m below meth c hnm C
  refine g_iloadN C iY_0 rfl ?_
  refine g_iloadN C iY_1 rfl ?_
  refine Go.join (mkF m 10 #[.val (.int p0), .val (.int p1)] [(.int (vY_0 p0 p1))]) ?_ (fun J => ?_)
  · exact g_retInt C iY_10 rfl (by decide) (by decide) ⟨rfl, rfl⟩
  · refine g_icmp_gt C iY_2 (fun hc2_1 => ?_) (fun hc2_1 => ?_)
    · refine g_iloadN C iY_9 rfl ?_
      have e0 : (vY_0 p0 p1) = p1 := by simp only [vY_0, if_pos hc2_1]
      exact Go.cast J (by rw [e0])
    · refine g_iloadN C iY_5 rfl ?_
      refine g_goto C iY_6 ?_
      have e0 : (vY_0 p0 p1) = p0 := by simp only [vY_0, if_neg hc2_1]
      exact Go.cast J (by rw [e0])
theorem pn0 : plainFor (⟨"java/lang/Integer", "numberOfTrailingZeros", "(I)I"⟩ : MethodName) = true := by decide +kernel
theorem iZ0_0 : I1 jdk_33_method_48_code 0 (.iload_n 0) 1 1 := ⟨(by decide +kernel), rfl⟩
theorem iZ0_1 : I1 jdk_33_method_48_code 1 (.iconst (-1)) 1 2 := ⟨(by decide +kernel), rfl⟩
theorem iZ0_2 : I1 jdk_33_method_48_code 2 (.ixor) 1 3 := ⟨(by decide +kernel), rfl⟩
theorem iZ0_3 : I1 jdk_33_method_48_code 3 (.iload_n 0) 1 4 := ⟨(by decide +kernel), rfl⟩
theorem iZ0_4 : I1 jdk_33_method_48_code 4 (.iconst 1) 1 5 := ⟨(by decide +kernel), rfl⟩
theorem iZ0_5 : I1 jdk_33_method_48_code 5 (.isub) 1 6 := ⟨(by decide +kernel), rfl⟩
theorem iZ0_6 : I1 jdk_33_method_48_code 6 (.iand) 1 7 := ⟨(by decide +kernel), rfl⟩
theorem iZ0_7 : I1 jdk_33_method_48_code 7 (.istore_n 0) 1 8 := ⟨(by decide +kernel), rfl⟩
theorem iZ0_8 : I1 jdk_33_method_48_code 8 (.iload_n 0) 1 9 := ⟨(by decide +kernel), rfl⟩
theorem iZ0_9 : B1 jdk_33_method_48_code 9 (.ifCond .gt 8) 8 17 12 := ⟨(by decide +kernel), rfl, by decide, by decide⟩
theorem iZ0_12 : I1 jdk_33_method_48_code 12 (.iload_n 0) 1 13 := ⟨(by decide +kernel), rfl⟩
theorem iZ0_13 : I1 jdk_33_method_48_code 13 (.bipush 32) 2 15 := ⟨(by decide +kernel), rfl⟩
theorem iZ0_15 : I1 jdk_33_method_48_code 15 (.iand) 1 16 := ⟨(by decide +kernel), rfl⟩
theorem iZ0_16 : I1 jdk_33_method_48_code 16 (.ireturn) 1 17 := ⟨(by decide +kernel), rfl⟩
theorem iZ0_17 : I1 jdk_33_method_48_code 17 (.iconst 1) 1 18 := ⟨(by decide +kernel), rfl⟩
theorem iZ0_18 : I1 jdk_33_method_48_code 18 (.istore_n 1) 1 19 := ⟨(by decide +kernel), rfl⟩
theorem iZ0_19 : I1 jdk_33_method_48_code 19 (.iload_n 0) 1 20 := ⟨(by decide +kernel), rfl⟩
theorem iZ0_20 : I1 jdk_33_method_48_code 20 (.ldc_w 264) 3 23 := ⟨(by decide +kernel), rfl⟩
theorem iZ0_23 : B1 jdk_33_method_48_code 23 (.if_icmp .le 11) 11 34 26 := ⟨(by decide +kernel), rfl, by decide, by decide⟩
theorem iZ0_26 : I1 jdk_33_method_48_code 26 (.iinc 1 16) 3 29 := ⟨(by decide +kernel), rfl⟩
theorem iZ0_29 : I1 jdk_33_method_48_code 29 (.iload_n 0) 1 30 := ⟨(by decide +kernel), rfl⟩
theorem iZ0_30 : I1 jdk_33_method_48_code 30 (.bipush 16) 2 32 := ⟨(by decide +kernel), rfl⟩
theorem iZ0_32 : I1 jdk_33_method_48_code 32 (.iushr) 1 33 := ⟨(by decide +kernel), rfl⟩
theorem iZ0_33 : I1 jdk_33_method_48_code 33 (.istore_n 0) 1 34 := ⟨(by decide +kernel), rfl⟩
theorem iZ0_34 : I1 jdk_33_method_48_code 34 (.iload_n 0) 1 35 := ⟨(by decide +kernel), rfl⟩
theorem iZ0_35 : I1 jdk_33_method_48_code 35 (.sipush 256) 3 38 := ⟨(by decide +kernel), rfl⟩
theorem iZ0_38 : B1 jdk_33_method_48_code 38 (.if_icmp .le 11) 11 49 41 := ⟨(by decide +kernel), rfl, by decide, by decide⟩
theorem iZ0_41 : I1 jdk_33_method_48_code 41 (.iinc 1 8) 3 44 := ⟨(by decide +kernel), rfl⟩
theorem iZ0_44 : I1 jdk_33_method_48_code 44 (.iload_n 0) 1 45 := ⟨(by decide +kernel), rfl⟩
theorem iZ0_45 : I1 jdk_33_method_48_code 45 (.bipush 8) 2 47 := ⟨(by decide +kernel), rfl⟩
theorem iZ0_47 : I1 jdk_33_method_48_code 47 (.iushr) 1 48 := ⟨(by decide +kernel), rfl⟩
theorem iZ0_48 : I1 jdk_33_method_48_code 48 (.istore_n 0) 1 49 := ⟨(by decide +kernel), rfl⟩
theorem iZ0_49 : I1 jdk_33_method_48_code 49 (.iload_n 0) 1 50 := ⟨(by decide +kernel), rfl⟩
theorem iZ0_50 : I1 jdk_33_method_48_code 50 (.bipush 16) 2 52 := ⟨(by decide +kernel), rfl⟩
theorem iZ0_52 : B1 jdk_33_method_48_code 52 (.if_icmp .le 10) 10 62 55 := ⟨(by decide +kernel), rfl, by decide, by decide⟩
theorem iZ0_55 : I1 jdk_33_method_48_code 55 (.iinc 1 4) 3 58 := ⟨(by decide +kernel), rfl⟩
theorem iZ0_58 : I1 jdk_33_method_48_code 58 (.iload_n 0) 1 59 := ⟨(by decide +kernel), rfl⟩
theorem iZ0_59 : I1 jdk_33_method_48_code 59 (.iconst 4) 1 60 := ⟨(by decide +kernel), rfl⟩
theorem iZ0_60 : I1 jdk_33_method_48_code 60 (.iushr) 1 61 := ⟨(by decide +kernel), rfl⟩
theorem iZ0_61 : I1 jdk_33_method_48_code 61 (.istore_n 0) 1 62 := ⟨(by decide +kernel), rfl⟩
theorem iZ0_62 : I1 jdk_33_method_48_code 62 (.iload_n 0) 1 63 := ⟨(by decide +kernel), rfl⟩
theorem iZ0_63 : I1 jdk_33_method_48_code 63 (.iconst 4) 1 64 := ⟨(by decide +kernel), rfl⟩
theorem iZ0_64 : B1 jdk_33_method_48_code 64 (.if_icmp .le 10) 10 74 67 := ⟨(by decide +kernel), rfl, by decide, by decide⟩
theorem iZ0_67 : I1 jdk_33_method_48_code 67 (.iinc 1 2) 3 70 := ⟨(by decide +kernel), rfl⟩
theorem iZ0_70 : I1 jdk_33_method_48_code 70 (.iload_n 0) 1 71 := ⟨(by decide +kernel), rfl⟩
theorem iZ0_71 : I1 jdk_33_method_48_code 71 (.iconst 2) 1 72 := ⟨(by decide +kernel), rfl⟩
theorem iZ0_72 : I1 jdk_33_method_48_code 72 (.iushr) 1 73 := ⟨(by decide +kernel), rfl⟩
theorem iZ0_73 : I1 jdk_33_method_48_code 73 (.istore_n 0) 1 74 := ⟨(by decide +kernel), rfl⟩
theorem iZ0_74 : I1 jdk_33_method_48_code 74 (.iload_n 1) 1 75 := ⟨(by decide +kernel), rfl⟩
theorem iZ0_75 : I1 jdk_33_method_48_code 75 (.iload_n 0) 1 76 := ⟨(by decide +kernel), rfl⟩
theorem iZ0_76 : I1 jdk_33_method_48_code 76 (.iconst 1) 1 77 := ⟨(by decide +kernel), rfl⟩
theorem iZ0_77 : I1 jdk_33_method_48_code 77 (.iushr) 1 78 := ⟨(by decide +kernel), rfl⟩
theorem iZ0_78 : I1 jdk_33_method_48_code 78 (.iadd) 1 79 := ⟨(by decide +kernel), rfl⟩
theorem iZ0_79 : I1 jdk_33_method_48_code 79 (.ireturn) 1 80 := ⟨(by decide +kernel), rfl⟩
def vZ0_0 (p0 : Int32) : Int32 := ((((p0 ^^^ (-1 : Int32)) &&& (p0 - (1 : Int32))).toUInt32 >>> ((16 : Int32) &&& 31).toUInt32).toInt32)
def vZ0_1 (p0 : Int32) : Int32 := (if (65536 : Int32) < ((p0 ^^^ (-1 : Int32)) &&& (p0 - (1 : Int32))) then (vZ0_0 p0) else ((p0 ^^^ (-1 : Int32)) &&& (p0 - (1 : Int32))))
def vZ0_2 (p0 : Int32) : Int32 := (if (65536 : Int32) < ((p0 ^^^ (-1 : Int32)) &&& (p0 - (1 : Int32))) then (17 : Int32) else (1 : Int32))
def vZ0_3 (p0 : Int32) : Int32 := (((vZ0_1 p0).toUInt32 >>> ((8 : Int32) &&& 31).toUInt32).toInt32)
def vZ0_4 (p0 : Int32) : Int32 := (if (256 : Int32) < (vZ0_1 p0) then (vZ0_3 p0) else (vZ0_1 p0))
def vZ0_5 (p0 : Int32) : Int32 := (if (256 : Int32) < (vZ0_1 p0) then ((vZ0_2 p0) + (8 : Int32)) else (vZ0_2 p0))
def vZ0_6 (p0 : Int32) : Int32 := (((vZ0_4 p0).toUInt32 >>> ((4 : Int32) &&& 31).toUInt32).toInt32)
def vZ0_7 (p0 : Int32) : Int32 := (if (16 : Int32) < (vZ0_4 p0) then (vZ0_6 p0) else (vZ0_4 p0))
def vZ0_8 (p0 : Int32) : Int32 := (if (16 : Int32) < (vZ0_4 p0) then ((vZ0_5 p0) + (4 : Int32)) else (vZ0_5 p0))
def vZ0_9 (p0 : Int32) : Int32 := (((vZ0_7 p0).toUInt32 >>> ((2 : Int32) &&& 31).toUInt32).toInt32)
def vZ0_10 (p0 : Int32) : Int32 := (if (4 : Int32) < (vZ0_7 p0) then (vZ0_9 p0) else (vZ0_7 p0))
def vZ0_11 (p0 : Int32) : Int32 := (if (4 : Int32) < (vZ0_7 p0) then ((vZ0_8 p0) + (2 : Int32)) else (vZ0_8 p0))
def ret_Z0 (p0 : Int32) : Int32 := (if (0 : Int32) < ((p0 ^^^ (-1 : Int32)) &&& (p0 - (1 : Int32))) then ((vZ0_11 p0) + (((vZ0_10 p0).toUInt32 >>> ((1 : Int32) &&& 31).toUInt32).toInt32)) else (((p0 ^^^ (-1 : Int32)) &&& (p0 - (1 : Int32))) &&& (32 : Int32)))
theorem efZ0 (m : MethodId) (p0 : Int32) : entryFrame m #[(.int p0)] 2 = mkF m 0 #[.val (.int p0), .unset] [] := by first | (simp [entryFrame, mkF, argsToLocals, Value.category]; done) | rfl
def QZ0 (Z : State) (p0 : Int32) (h0 : Heap) (n0 : Nat) (v : Option Value) (h : Heap) : Prop := v = some (.int (ret_Z0 p0)) ∧ h = h0
set_option maxRecDepth 65536 in
set_option maxHeartbeats 40000000 in
theorem rmZ0 (l : Launch) (Z : State) (aZ : Array Value) (hw : ∀ d ∈ tables_1, d.before aZ Z = true) (p0 : Int32) (h0 : Heap) (n0 : Nat) (Z0 : n0 ≤ h0.size) :
    Ctr l Z (⟨"java/lang/Integer", "numberOfTrailingZeros", "(I)I"⟩ : MethodName) jdk_33_method_48_code 2 (some .int) ({ frames := 0, cells := 0, slots := 0, locals := 0 } : Room) #[(.int p0)] h0 n0 (QZ0 Z p0 h0 n0) := by
  refine Ctr.of_go pn0 (fun m => efZ0 m p0) ?_
  intro p e s m below meth c hnm C
  refine g_iloadN C iZ0_0 rfl ?_
  refine g_iconst C (-1 : Int32) iZ0_1 rfl ?_
  refine g_ixor C iZ0_2 ?_
  refine g_iloadN C iZ0_3 rfl ?_
  refine g_iconst C (1 : Int32) iZ0_4 rfl ?_
  refine g_isub C iZ0_5 ?_
  refine g_iand C iZ0_6 ?_
  refine g_istoreN C (Ls' := #[.val (.int ((p0 ^^^ (-1 : Int32)) &&& (p0 - (1 : Int32)))), .unset]) iZ0_7 rfl ?_
  refine g_iloadN C iZ0_8 rfl ?_
  refine g_if_gt C iZ0_9 (fun hc9_1 => ?_) (fun hc9_1 => ?_)
  · refine g_iconst C (1 : Int32) iZ0_17 rfl ?_
    refine g_istoreN C (Ls' := #[.val (.int ((p0 ^^^ (-1 : Int32)) &&& (p0 - (1 : Int32)))), .val (.int (1 : Int32))]) iZ0_18 rfl ?_
    refine g_iloadN C iZ0_19 rfl ?_
    refine g_ldcwInt C iZ0_20 (hw _ (List.mem_of_getElem? (i := 46) rfl)) ?_
    refine Go.join (mkF m 34 #[.val (.int (vZ0_1 p0)), .val (.int (vZ0_2 p0))] []) ?_ (fun J => ?_)
    · refine g_iloadN C iZ0_34 rfl ?_
      refine g_sipush C (256 : Int32) iZ0_35 rfl ?_
      refine Go.join (mkF m 49 #[.val (.int (vZ0_4 p0)), .val (.int (vZ0_5 p0))] []) ?_ (fun J => ?_)
      · refine g_iloadN C iZ0_49 rfl ?_
        refine g_bipush C (16 : Int32) iZ0_50 rfl ?_
        refine Go.join (mkF m 62 #[.val (.int (vZ0_7 p0)), .val (.int (vZ0_8 p0))] []) ?_ (fun J => ?_)
        · refine g_iloadN C iZ0_62 rfl ?_
          refine g_iconst C (4 : Int32) iZ0_63 rfl ?_
          refine Go.join (mkF m 74 #[.val (.int (vZ0_10 p0)), .val (.int (vZ0_11 p0))] []) ?_ (fun J => ?_)
          · refine g_iloadN C iZ0_74 rfl ?_
            refine g_iloadN C iZ0_75 rfl ?_
            refine g_iconst C (1 : Int32) iZ0_76 rfl ?_
            refine g_iushr C iZ0_77 ?_
            refine g_iadd C iZ0_78 ?_
            have r0 : (ret_Z0 p0) = ((vZ0_11 p0) + (((vZ0_10 p0).toUInt32 >>> ((1 : Int32) &&& 31).toUInt32).toInt32)) := by simp only [ret_Z0, if_pos hc9_1]
            exact g_retInt C iZ0_79 rfl (by decide) (by decide) (show QZ0 Z p0 h0 n0 _ _ from by unfold QZ0; rw [r0]; exact ⟨rfl, rfl⟩)
          · refine g_icmp_le C iZ0_64 (fun hc64_1 => ?_) (fun hc64_1 => ?_)
            · refine g_iinc C (Ls' := #[.val (.int (vZ0_7 p0)), .val (.int ((vZ0_8 p0) + (2 : Int32)))]) iZ0_67 rfl rfl ?_
              refine g_iloadN C iZ0_70 rfl ?_
              refine g_iconst C (2 : Int32) iZ0_71 rfl ?_
              refine g_iushr C iZ0_72 ?_
              refine g_istoreN C (Ls' := #[.val (.int (vZ0_9 p0)), .val (.int ((vZ0_8 p0) + (2 : Int32)))]) iZ0_73 rfl ?_
              have e0 : (vZ0_10 p0) = (vZ0_9 p0) := by simp only [vZ0_10, if_pos hc64_1]
              have e1 : (vZ0_11 p0) = ((vZ0_8 p0) + (2 : Int32)) := by simp only [vZ0_11, if_pos hc64_1]
              exact Go.cast J (by rw [e0, e1])
            · have e0 : (vZ0_10 p0) = (vZ0_7 p0) := by simp only [vZ0_10, if_neg hc64_1]
              have e1 : (vZ0_11 p0) = (vZ0_8 p0) := by simp only [vZ0_11, if_neg hc64_1]
              exact Go.cast J (by rw [e0, e1])
        · refine g_icmp_le C iZ0_52 (fun hc52_1 => ?_) (fun hc52_1 => ?_)
          · refine g_iinc C (Ls' := #[.val (.int (vZ0_4 p0)), .val (.int ((vZ0_5 p0) + (4 : Int32)))]) iZ0_55 rfl rfl ?_
            refine g_iloadN C iZ0_58 rfl ?_
            refine g_iconst C (4 : Int32) iZ0_59 rfl ?_
            refine g_iushr C iZ0_60 ?_
            refine g_istoreN C (Ls' := #[.val (.int (vZ0_6 p0)), .val (.int ((vZ0_5 p0) + (4 : Int32)))]) iZ0_61 rfl ?_
            have e0 : (vZ0_7 p0) = (vZ0_6 p0) := by simp only [vZ0_7, if_pos hc52_1]
            have e1 : (vZ0_8 p0) = ((vZ0_5 p0) + (4 : Int32)) := by simp only [vZ0_8, if_pos hc52_1]
            exact Go.cast J (by rw [e0, e1])
          · have e0 : (vZ0_7 p0) = (vZ0_4 p0) := by simp only [vZ0_7, if_neg hc52_1]
            have e1 : (vZ0_8 p0) = (vZ0_5 p0) := by simp only [vZ0_8, if_neg hc52_1]
            exact Go.cast J (by rw [e0, e1])
      · refine g_icmp_le C iZ0_38 (fun hc38_1 => ?_) (fun hc38_1 => ?_)
        · refine g_iinc C (Ls' := #[.val (.int (vZ0_1 p0)), .val (.int ((vZ0_2 p0) + (8 : Int32)))]) iZ0_41 rfl rfl ?_
          refine g_iloadN C iZ0_44 rfl ?_
          refine g_bipush C (8 : Int32) iZ0_45 rfl ?_
          refine g_iushr C iZ0_47 ?_
          refine g_istoreN C (Ls' := #[.val (.int (vZ0_3 p0)), .val (.int ((vZ0_2 p0) + (8 : Int32)))]) iZ0_48 rfl ?_
          have e0 : (vZ0_4 p0) = (vZ0_3 p0) := by simp only [vZ0_4, if_pos hc38_1]
          have e1 : (vZ0_5 p0) = ((vZ0_2 p0) + (8 : Int32)) := by simp only [vZ0_5, if_pos hc38_1]
          exact Go.cast J (by rw [e0, e1])
        · have e0 : (vZ0_4 p0) = (vZ0_1 p0) := by simp only [vZ0_4, if_neg hc38_1]
          have e1 : (vZ0_5 p0) = (vZ0_2 p0) := by simp only [vZ0_5, if_neg hc38_1]
          exact Go.cast J (by rw [e0, e1])
    · refine g_icmp_le C iZ0_23 (fun hc23_1 => ?_) (fun hc23_1 => ?_)
      · refine g_iinc C (Ls' := #[.val (.int ((p0 ^^^ (-1 : Int32)) &&& (p0 - (1 : Int32)))), .val (.int (17 : Int32))]) iZ0_26 rfl rfl ?_
        refine g_iloadN C iZ0_29 rfl ?_
        refine g_bipush C (16 : Int32) iZ0_30 rfl ?_
        refine g_iushr C iZ0_32 ?_
        refine g_istoreN C (Ls' := #[.val (.int (vZ0_0 p0)), .val (.int (17 : Int32))]) iZ0_33 rfl ?_
        have e0 : (vZ0_1 p0) = (vZ0_0 p0) := by simp only [vZ0_1, if_pos hc23_1]
        have e1 : (vZ0_2 p0) = (17 : Int32) := by simp only [vZ0_2, if_pos hc23_1]
        exact Go.cast J (by rw [e0, e1])
      · have e0 : (vZ0_1 p0) = ((p0 ^^^ (-1 : Int32)) &&& (p0 - (1 : Int32))) := by simp only [vZ0_1, if_neg hc23_1]
        have e1 : (vZ0_2 p0) = (1 : Int32) := by simp only [vZ0_2, if_neg hc23_1]
        exact Go.cast J (by rw [e0, e1])
  · refine g_iloadN C iZ0_12 rfl ?_
    refine g_bipush C (32 : Int32) iZ0_13 rfl ?_
    refine g_iand C iZ0_15 ?_
    have r0 : (ret_Z0 p0) = (((p0 ^^^ (-1 : Int32)) &&& (p0 - (1 : Int32))) &&& (32 : Int32)) := by simp only [ret_Z0, if_neg hc9_1]
    exact g_retInt C iZ0_16 rfl (by decide) (by decide) (show QZ0 Z p0 h0 n0 _ _ from by unfold QZ0; rw [r0]; exact ⟨rfl, rfl⟩)
theorem pd0 : parseMethodDescriptor "(I)I" = some ⟨[.int], some .int⟩ := by decide +kernel
theorem pn1 : plainFor (⟨"java/lang/Long", "numberOfTrailingZeros", "(J)I"⟩ : MethodName) = true := by decide +kernel
theorem iZ1_0 : I1 jdk_35_method_49_code 0 (.lload_n 0) 1 1 := ⟨(by decide +kernel), rfl⟩
theorem iZ1_1 : I1 jdk_35_method_49_code 1 (.l2i) 1 2 := ⟨(by decide +kernel), rfl⟩
theorem iZ1_2 : I1 jdk_35_method_49_code 2 (.istore_n 2) 1 3 := ⟨(by decide +kernel), rfl⟩
theorem iZ1_3 : I1 jdk_35_method_49_code 3 (.iload_n 2) 1 4 := ⟨(by decide +kernel), rfl⟩
theorem iZ1_4 : B1 jdk_35_method_49_code 4 (.ifCond .ne 17) 17 21 7 := ⟨(by decide +kernel), rfl, by decide, by decide⟩
theorem iZ1_7 : I1 jdk_35_method_49_code 7 (.bipush 32) 2 9 := ⟨(by decide +kernel), rfl⟩
theorem iZ1_9 : I1 jdk_35_method_49_code 9 (.lload_n 0) 1 10 := ⟨(by decide +kernel), rfl⟩
theorem iZ1_10 : I1 jdk_35_method_49_code 10 (.bipush 32) 2 12 := ⟨(by decide +kernel), rfl⟩
theorem iZ1_12 : I1 jdk_35_method_49_code 12 (.lushr) 1 13 := ⟨(by decide +kernel), rfl⟩
theorem iZ1_13 : I1 jdk_35_method_49_code 13 (.l2i) 1 14 := ⟨(by decide +kernel), rfl⟩
theorem iZ1_14 : I1 jdk_35_method_49_code 14 (.invokestatic 311) 3 17 := ⟨(by decide +kernel), rfl⟩
theorem iZ1_17 : I1 jdk_35_method_49_code 17 (.iadd) 1 18 := ⟨(by decide +kernel), rfl⟩
theorem iZ1_18 : B1 jdk_35_method_49_code 18 (.goto 7) 7 25 21 := ⟨(by decide +kernel), rfl, by decide, by decide⟩
theorem iZ1_21 : I1 jdk_35_method_49_code 21 (.iload_n 2) 1 22 := ⟨(by decide +kernel), rfl⟩
theorem iZ1_22 : I1 jdk_35_method_49_code 22 (.invokestatic 311) 3 25 := ⟨(by decide +kernel), rfl⟩
theorem iZ1_25 : I1 jdk_35_method_49_code 25 (.ireturn) 1 26 := ⟨(by decide +kernel), rfl⟩
def vZ1_0 (q0 : Int64) : Int32 := (if (q0.toInt32) = (0 : Int32) then ((32 : Int32) + (ret_Z0 (((q0.toUInt64 >>> ((32 : Int32) &&& 0x3f).toInt64.toUInt64).toInt64).toInt32))) else (ret_Z0 (q0.toInt32)))
theorem efZ1 (m : MethodId) (q0 : Int64) : entryFrame m #[(.long q0)] 3 = mkF m 0 #[.val (.long q0), .second, .unset] [] := by first | (simp [entryFrame, mkF, argsToLocals, Value.category]; done) | rfl
def QZ1 (Z : State) (q0 : Int64) (h0 : Heap) (n0 : Nat) (v : Option Value) (h : Heap) : Prop := v = some (.int (vZ1_0 q0)) ∧ h = h0
set_option maxRecDepth 65536 in
set_option maxHeartbeats 40000000 in
theorem rmZ1 (l : Launch) (Z : State) (aZ : Array Value) (hw : ∀ d ∈ tables_1, d.before aZ Z = true) (q0 : Int64) (h0 : Heap) (n0 : Nat) (Z0 : n0 ≤ h0.size) :
    Ctr l Z (⟨"java/lang/Long", "numberOfTrailingZeros", "(J)I"⟩ : MethodName) jdk_35_method_49_code 3 (some .int) ({ frames := 1, cells := 0, slots := 0, locals := 14 } : Room) #[(.long q0)] h0 n0 (QZ1 Z q0 h0 n0) := by
  refine Ctr.of_go pn1 (fun m => efZ1 m q0) ?_
  intro p e s m below meth c hnm C
  refine g_lloadN C iZ1_0 rfl ?_
  refine g_l2i C iZ1_1 ?_
  refine g_istoreN C (Ls' := #[.val (.long q0), .second, .val (.int (q0.toInt32))]) iZ1_2 rfl ?_
  refine g_iloadN C iZ1_3 rfl ?_
  refine Go.join (mkF m 25 #[.val (.long q0), .second, .val (.int (q0.toInt32))] [(.int (vZ1_0 q0))]) ?_ (fun J => ?_)
  · exact g_retInt C iZ1_25 rfl (by decide) (by decide) ⟨rfl, rfl⟩
  · refine g_if_ne C iZ1_4 (fun hc4_1 => ?_) (fun hc4_1 => ?_)
    · refine g_bipush C (32 : Int32) iZ1_7 rfl ?_
      refine g_lloadN C iZ1_9 rfl ?_
      refine g_bipush C (32 : Int32) iZ1_10 rfl ?_
      refine g_lushr C iZ1_12 ?_
      refine g_l2i C iZ1_13 ?_
      refine g_callS C (rmZ0 l Z aZ hw (((q0.toUInt64 >>> ((32 : Int32) &&& 0x3f).toInt64.toUInt64).toInt64).toInt32) h0 n0 Z0) iZ1_14 (hw _ (List.mem_of_getElem? (i := 42) rfl)) (hw _ (List.mem_of_getElem? (i := 43) rfl)) (hw _ (List.mem_of_getElem? (i := 44) rfl)) (hw _ (List.mem_of_getElem? (i := 45) rfl)) (by decide) (argsL := [(.int (((q0.toUInt64 >>> ((32 : Int32) &&& 0x3f).toInt64.toUInt64).toInt64).toInt32))]) (rest := [(.int (32 : Int32))]) rfl rfl pd0 rfl rfl 1 (Nat.le_of_eq rfl) (by decide) (by decide) (by decide) (by decide) rfl rfl ?_
      rintro _ _ ⟨rfl, he1⟩
      refine Go.heap he1.symm ?_
      refine Go.some' ?_
      refine g_iadd C iZ1_17 ?_
      refine g_goto C iZ1_18 ?_
      have e0 : (vZ1_0 q0) = ((32 : Int32) + (ret_Z0 (((q0.toUInt64 >>> ((32 : Int32) &&& 0x3f).toInt64.toUInt64).toInt64).toInt32))) := by simp only [vZ1_0, if_pos hc4_1]
      exact Go.cast J (by rw [e0])
    · refine g_iloadN C iZ1_21 rfl ?_
      refine g_callS C (rmZ0 l Z aZ hw (q0.toInt32) h0 n0 Z0) iZ1_22 (hw _ (List.mem_of_getElem? (i := 42) rfl)) (hw _ (List.mem_of_getElem? (i := 43) rfl)) (hw _ (List.mem_of_getElem? (i := 44) rfl)) (hw _ (List.mem_of_getElem? (i := 45) rfl)) (by decide) (argsL := [(.int (q0.toInt32))]) (rest := []) rfl rfl pd0 rfl rfl 0 (Nat.le_of_eq rfl) (by decide) (by decide) (by decide) (by decide) rfl rfl ?_
      rintro _ _ ⟨rfl, he2⟩
      refine Go.heap he2.symm ?_
      refine Go.some' ?_
      have e0 : (vZ1_0 q0) = (ret_Z0 (q0.toInt32)) := by simp only [vZ1_0, if_neg hc4_1]
      exact Go.cast J (by rw [e0])
theorem own_words {p : Int32} (h : 1 ≤ p.toInt ∧ p.toInt ≤ 256) : ((p + (63 : Int32)) / (64 : Int32)).toInt = (p.toInt + 63) / 64 := by
  have g1 := c_iadd p 63
  have g2 := rng32 (p + 63)
  have g3 : (63 : Int32).toInt = 63 := rfl
  rw [g3] at g1
  have g4 := (c_idiv (p + 63) 64 64 rfl (by decide)).1 (by omega)
  rw [g4]; omega
theorem own_used {p : Int32} (h : 1 ≤ p.toInt ∧ p.toInt ≤ 256) : ((2 : Int32) * ((p + (63 : Int32)) / (64 : Int32))).toInt = 2 * ((p.toInt + 63) / 64) := by
  have g0 := own_words h
  have g1 := c_imul 2 ((p + (63 : Int32)) / (64 : Int32))
  have g2 := rng32 ((2 : Int32) * ((p + (63 : Int32)) / (64 : Int32)))
  have g3 : (2 : Int32).toInt = 2 := rfl
  rw [g3, g0] at g1
  omega
theorem own_usedn {p : Int32} (h : 1 ≤ p.toInt ∧ p.toInt ≤ 256) : ¬ (((2 : Int32) * ((p + (63 : Int32)) / (64 : Int32))) < 0) ∧ ((2 : Int32) * ((p + (63 : Int32)) / (64 : Int32))).toNatClampNeg ≤ 8 := by
  have g := own_used h
  have e0 : (0 : Int32).toInt = 0 := rfl
  refine ⟨?_, ?_⟩
  · rw [Int32.lt_iff_toInt_lt]; omega
  · simp only [Int32.toNatClampNeg]; omega
theorem pn2 : plainFor (⟨"com/example/bandweave/bandweave/simulate/Fibres", "<init>", "(II)V"⟩ : MethodName) = true := by decide +kernel
theorem iI_0 : I1 prog_24_method_1_code 0 (.aload_n 0) 1 1 := ⟨(by decide +kernel), rfl⟩
theorem iI_1 : I1 prog_24_method_1_code 1 (.invokespecial 1) 3 4 := ⟨(by decide +kernel), rfl⟩
theorem iI_4 : I1 prog_24_method_1_code 4 (.aload_n 0) 1 5 := ⟨(by decide +kernel), rfl⟩
theorem iI_5 : I1 prog_24_method_1_code 5 (.iload_n 2) 1 6 := ⟨(by decide +kernel), rfl⟩
theorem iI_6 : I1 prog_24_method_1_code 6 (.bipush 63) 2 8 := ⟨(by decide +kernel), rfl⟩
theorem iI_8 : I1 prog_24_method_1_code 8 (.iadd) 1 9 := ⟨(by decide +kernel), rfl⟩
theorem iI_9 : I1 prog_24_method_1_code 9 (.bipush 64) 2 11 := ⟨(by decide +kernel), rfl⟩
theorem iI_11 : I1 prog_24_method_1_code 11 (.idiv) 1 12 := ⟨(by decide +kernel), rfl⟩
theorem iI_12 : I1 prog_24_method_1_code 12 (.putfield 7) 3 15 := ⟨(by decide +kernel), rfl⟩
theorem iI_15 : I1 prog_24_method_1_code 15 (.aload_n 0) 1 16 := ⟨(by decide +kernel), rfl⟩
theorem iI_16 : I1 prog_24_method_1_code 16 (.iload_n 1) 1 17 := ⟨(by decide +kernel), rfl⟩
theorem iI_17 : I1 prog_24_method_1_code 17 (.aload_n 0) 1 18 := ⟨(by decide +kernel), rfl⟩
theorem iI_18 : I1 prog_24_method_1_code 18 (.getfield 7) 3 21 := ⟨(by decide +kernel), rfl⟩
theorem iI_21 : I1 prog_24_method_1_code 21 (.imul) 1 22 := ⟨(by decide +kernel), rfl⟩
theorem iI_22 : I1 prog_24_method_1_code 22 (.newarray .long) 2 24 := ⟨(by decide +kernel), rfl⟩
theorem iI_24 : I1 prog_24_method_1_code 24 (.putfield 13) 3 27 := ⟨(by decide +kernel), rfl⟩
theorem iI_27 : I1 prog_24_method_1_code 27 (.iload_n 2) 1 28 := ⟨(by decide +kernel), rfl⟩
theorem iI_28 : I1 prog_24_method_1_code 28 (.bipush 64) 2 30 := ⟨(by decide +kernel), rfl⟩
theorem iI_30 : I1 prog_24_method_1_code 30 (.aload_n 0) 1 31 := ⟨(by decide +kernel), rfl⟩
theorem iI_31 : I1 prog_24_method_1_code 31 (.getfield 7) 3 34 := ⟨(by decide +kernel), rfl⟩
theorem iI_34 : I1 prog_24_method_1_code 34 (.iconst 1) 1 35 := ⟨(by decide +kernel), rfl⟩
theorem iI_35 : I1 prog_24_method_1_code 35 (.isub) 1 36 := ⟨(by decide +kernel), rfl⟩
theorem iI_36 : I1 prog_24_method_1_code 36 (.imul) 1 37 := ⟨(by decide +kernel), rfl⟩
theorem iI_37 : I1 prog_24_method_1_code 37 (.isub) 1 38 := ⟨(by decide +kernel), rfl⟩
theorem iI_38 : I1 prog_24_method_1_code 38 (.istore_n 3) 1 39 := ⟨(by decide +kernel), rfl⟩
theorem iI_39 : I1 prog_24_method_1_code 39 (.aload_n 0) 1 40 := ⟨(by decide +kernel), rfl⟩
theorem iI_40 : I1 prog_24_method_1_code 40 (.iload_n 3) 1 41 := ⟨(by decide +kernel), rfl⟩
theorem iI_41 : I1 prog_24_method_1_code 41 (.bipush 64) 2 43 := ⟨(by decide +kernel), rfl⟩
theorem iI_43 : B1 prog_24_method_1_code 43 (.if_icmp .ne 9) 9 52 46 := ⟨(by decide +kernel), rfl, by decide, by decide⟩
theorem iI_46 : I1 prog_24_method_1_code 46 (.ldc2_w 17) 3 49 := ⟨(by decide +kernel), rfl⟩
theorem iI_49 : B1 prog_24_method_1_code 49 (.goto 8) 8 57 52 := ⟨(by decide +kernel), rfl, by decide, by decide⟩
theorem iI_52 : I1 prog_24_method_1_code 52 (.lconst 1) 1 53 := ⟨(by decide +kernel), rfl⟩
theorem iI_53 : I1 prog_24_method_1_code 53 (.iload_n 3) 1 54 := ⟨(by decide +kernel), rfl⟩
theorem iI_54 : I1 prog_24_method_1_code 54 (.lshl) 1 55 := ⟨(by decide +kernel), rfl⟩
theorem iI_55 : I1 prog_24_method_1_code 55 (.lconst 1) 1 56 := ⟨(by decide +kernel), rfl⟩
theorem iI_56 : I1 prog_24_method_1_code 56 (.lsub) 1 57 := ⟨(by decide +kernel), rfl⟩
theorem iI_57 : I1 prog_24_method_1_code 57 (.putfield 19) 3 60 := ⟨(by decide +kernel), rfl⟩
theorem iI_60 : I1 prog_24_method_1_code 60 (.return_) 1 61 := ⟨(by decide +kernel), rfl⟩
def vI_0 (p2 : Int32) (w_words_a0 : Int32) (w_lastWord_a0 : Int64) : Int32 := (p2 - ((64 : Int32) * (((p2 + (63 : Int32)) / (64 : Int32)) - (1 : Int32))))
def vI_1 (p2 : Int32) (w_words_a0 : Int32) (w_lastWord_a0 : Int64) : Int64 := (if (vI_0 p2 w_words_a0 w_lastWord_a0) = (64 : Int32) then (-1 : Int64) else (((1 : Int64) <<< ((vI_0 p2 w_words_a0 w_lastWord_a0) &&& 0x3f).toInt64) - (1 : Int64)))
theorem efI (m : MethodId) (a0 : Addr) (p2 : Int32) : entryFrame m #[(.ref a0), (.int (2 : Int32)), (.int p2)] 4 = mkF m 0 #[.val (.ref a0), .val (.int (2 : Int32)), .val (.int p2), .unset] [] := by first | (simp [entryFrame, mkF, argsToLocals, Value.category]; done) | rfl
def QI (Z : State) (a0 : Addr) (p2 : Int32) (w_words_a0 : Int32) (w_used_a0 : Value) (w_lastWord_a0 : Int64) (h0 : Heap) (n0 : Nat) (v : Option Value) (h : Heap) : Prop := ∃ fb0 : Addr, v = none ∧ (n0 ≤ fb0 ∧ h0.size ≤ fb0) ∧ Keep h0 h [a0] ∧ AV Z h fb0 .long ((2 : Int32) * ((p2 + (63 : Int32)) / (64 : Int32))).toNatClampNeg (fun ix => .long ((fun _ => (0 : Int64)) ix)) ∧ Exa Z h a0 "com/example/bandweave/bandweave/simulate/Fibres" ∧ Fld Z h a0 "com/example/bandweave/bandweave/simulate/Fibres" "words" "I" (.int ((p2 + (63 : Int32)) / (64 : Int32))) ∧ Fld Z h a0 "com/example/bandweave/bandweave/simulate/Fibres" "used" "[J" (.ref fb0) ∧ Fld Z h a0 "com/example/bandweave/bandweave/simulate/Fibres" "lastWord" "J" (.long (vI_1 p2 w_words_a0 w_lastWord_a0))
set_option maxRecDepth 65536 in
set_option maxHeartbeats 40000000 in
theorem rmI (l : Launch) (Z : State) (aZ : Array Value) (hw : ∀ d ∈ tables_1, d.before aZ Z = true) (a0 : Addr) (p2 : Int32) (w_words_a0 : Int32) (w_used_a0 : Value) (w_lastWord_a0 : Int64) (h0 : Heap) (n0 : Nat) (Z0 : n0 ≤ h0.size) (hp : 1 ≤ p2.toInt ∧ p2.toInt ≤ 256) (E_a0 : Exa Z h0 a0 "com/example/bandweave/bandweave/simulate/Fibres") (F_words_a0 : Fld Z h0 a0 "com/example/bandweave/bandweave/simulate/Fibres" "words" "I" (.int w_words_a0)) (g_a0 : n0 ≤ a0) (F_used_a0 : Fld Z h0 a0 "com/example/bandweave/bandweave/simulate/Fibres" "used" "[J" w_used_a0) (F_lastWord_a0 : Fld Z h0 a0 "com/example/bandweave/bandweave/simulate/Fibres" "lastWord" "J" (.long w_lastWord_a0)) :
    Ctr l Z (⟨"com/example/bandweave/bandweave/simulate/Fibres", "<init>", "(II)V"⟩ : MethodName) prog_24_method_1_code 4 none ({ frames := 1, cells := 1, slots := 8, locals := 12 } : Room) #[(.ref a0), (.int (2 : Int32)), (.int p2)] h0 n0 (QI Z a0 p2 w_words_a0 w_used_a0 w_lastWord_a0 h0 n0) := by
  refine Ctr.of_go pn2 (fun m => efI m a0 p2) ?_
  intro p e s m below meth c hnm C
  refine g_aloadN C iI_0 rfl rfl ?_
  refine g_initO C iI_1 (hw _ (List.mem_of_getElem? (i := 12) rfl)) (hw _ (List.mem_of_getElem? (i := 13) rfl)) (hw _ (List.mem_of_getElem? (i := 14) rfl)) rfl (by decide) 0 (Nat.le_of_eq rfl) (by decide) ?_
  refine g_aloadN C iI_4 rfl rfl ?_
  refine g_iloadN C iI_5 rfl ?_
  refine g_bipush C (63 : Int32) iI_6 rfl ?_
  refine g_iadd C iI_8 ?_
  refine g_bipush C (64 : Int32) iI_9 rfl ?_
  refine g_idiv C iI_11 (by decide) ?_
  refine g_putF C iI_12 (host := "") (Or.inl (hw _ (List.mem_of_getElem? (i := 15) rfl))) Via.refl F_words_a0 E_a0 (Or.inr ⟨(hw _ (List.mem_of_getElem? (i := 16) rfl)), rfl, hnm⟩) (hw _ (List.mem_of_getElem? (i := 7) rfl)) (ty := .int) (by decide) rfl rfl g_a0 (fun h4 W4 => ?_)
  have E_a0_c4 := Exa.wr W4 E_a0
  have F_used_a0_c4 := Fld.other W4 F_used_a0 (Or.inr (slot_ne (a0 := aZ) (Or.inr (hw _ (List.mem_of_getElem? (i := 19) rfl))) (Or.inr (hw _ (List.mem_of_getElem? (i := 16) rfl))) (by decide) (t := (.array .long)) (t' := .int) (by decide) (by decide)))
  have F_lastWord_a0_c4 := Fld.other W4 F_lastWord_a0 (Or.inr (slot_ne (a0 := aZ) (Or.inr (hw _ (List.mem_of_getElem? (i := 21) rfl))) (Or.inr (hw _ (List.mem_of_getElem? (i := 16) rfl))) (by decide) (t := .long) (t' := .int) (by decide) (by decide)))
  have Fw4 := Fld.same W4 F_words_a0
  have K4 := Keep.wr (Keep.refl h0 [a0]) W4 (Or.inl (List.mem_of_getElem? (i := 0) rfl))
  have Z4 : n0 ≤ h4.size := Nat.le_trans Z0 (Keep.of_wr W4).1
  refine g_aloadN C iI_15 rfl rfl ?_
  refine g_iloadN C iI_16 rfl ?_
  refine g_aloadN C iI_17 rfl rfl ?_
  refine g_getF C iI_18 (host := "") (Or.inl (hw _ (List.mem_of_getElem? (i := 15) rfl))) Via.refl Fw4 ?_
  refine g_imul C iI_21 ?_
  refine g_newP C iI_22 (hw _ (List.mem_of_getElem? (i := 17) rfl)) (own_usedn hp).1 8 (own_usedn hp).2 (by decide) (by decide) (by decide) rfl rfl (fun h5 b5 g5 E5 A5 => ?_)
  have ne_a0_b5 : a0 ≠ b5 := Nat.ne_of_lt (Nat.lt_of_lt_of_le E_a0_c4.lt (Nat.le_of_eq g5.symm))
  have ge5 : n0 ≤ b5 := Nat.le_trans Z4 (Nat.le_of_eq g5.symm)
  have fr5 : h0.size ≤ b5 := Nat.le_trans K4.1 (Nat.le_of_eq g5.symm)
  have K5 := Keep.ext K4 E5
  have Z5 : n0 ≤ h5.size := Nat.le_trans Z4 E5.1
  have E_a0_c5 := Exa.ext E5 E_a0_c4
  have F_used_a0_c5 := Fld.ext E5 F_used_a0_c4
  have F_lastWord_a0_c5 := Fld.ext E5 F_lastWord_a0_c4
  have F_words_a0_c5 := Fld.ext E5 Fw4
  have V5 : AV Z h5 b5 .long ((2 : Int32) * ((p2 + (63 : Int32)) / (64 : Int32))).toNatClampNeg (fun ix => .long ((fun _ => (0 : Int64)) ix)) := A5
  refine g_putF C iI_24 (host := "") (Or.inl (hw _ (List.mem_of_getElem? (i := 18) rfl))) Via.refl F_used_a0_c5 E_a0_c5 (Or.inr ⟨(hw _ (List.mem_of_getElem? (i := 19) rfl)), rfl, hnm⟩) (hw _ (List.mem_of_getElem? (i := 7) rfl)) (ty := (.array .long)) (by decide) rfl rfl g_a0 (fun h6 W6 => ?_)
  have E_a0_c6 := Exa.wr W6 E_a0_c5
  have F_lastWord_a0_c6 := Fld.other W6 F_lastWord_a0_c5 (Or.inr (slot_ne (a0 := aZ) (Or.inr (hw _ (List.mem_of_getElem? (i := 21) rfl))) (Or.inr (hw _ (List.mem_of_getElem? (i := 19) rfl))) (by decide) (t := .long) (t' := (.array .long)) (by decide) (by decide)))
  have F_words_a0_c6 := Fld.other W6 F_words_a0_c5 (Or.inr (slot_ne (a0 := aZ) (Or.inr (hw _ (List.mem_of_getElem? (i := 16) rfl))) (Or.inr (hw _ (List.mem_of_getElem? (i := 19) rfl))) (by decide) (t := .int) (t' := (.array .long)) (by decide) (by decide)))
  have V_b5_c6 := AV.other V5 W6 (Ne.symm ne_a0_b5)
  have Fw6 := Fld.same W6 F_used_a0_c5
  have K6 := Keep.wr K5 W6 (Or.inl (List.mem_of_getElem? (i := 0) rfl))
  have Z6 : n0 ≤ h6.size := Nat.le_trans Z5 (Keep.of_wr W6).1
  refine g_iloadN C iI_27 rfl ?_
  refine g_bipush C (64 : Int32) iI_28 rfl ?_
  refine g_aloadN C iI_30 rfl rfl ?_
  refine g_getF C iI_31 (host := "") (Or.inl (hw _ (List.mem_of_getElem? (i := 15) rfl))) Via.refl F_words_a0_c6 ?_
  refine g_iconst C (1 : Int32) iI_34 rfl ?_
  refine g_isub C iI_35 ?_
  refine g_imul C iI_36 ?_
  refine g_isub C iI_37 ?_
  refine g_istoreN C (Ls' := #[.val (.ref a0), .val (.int (2 : Int32)), .val (.int p2), .val (.int (vI_0 p2 w_words_a0 w_lastWord_a0))]) iI_38 rfl ?_
  refine g_aloadN C iI_39 rfl rfl ?_
  refine g_iloadN C iI_40 rfl ?_
  refine g_bipush C (64 : Int32) iI_41 rfl ?_
  refine Go.join (mkF m 57 #[.val (.ref a0), .val (.int (2 : Int32)), .val (.int p2), .val (.int (vI_0 p2 w_words_a0 w_lastWord_a0))] [(.long (vI_1 p2 w_words_a0 w_lastWord_a0)), (.ref a0)]) ?_ (fun J => ?_)
  · refine g_putF C iI_57 (host := "") (Or.inl (hw _ (List.mem_of_getElem? (i := 20) rfl))) Via.refl F_lastWord_a0_c6 E_a0_c6 (Or.inr ⟨(hw _ (List.mem_of_getElem? (i := 21) rfl)), rfl, hnm⟩) (hw _ (List.mem_of_getElem? (i := 7) rfl)) (ty := .long) (by decide) rfl rfl g_a0 (fun h7 W7 => ?_)
    have E_a0_c7 := Exa.wr W7 E_a0_c6
    have F_words_a0_c7 := Fld.other W7 F_words_a0_c6 (Or.inr (slot_ne (a0 := aZ) (Or.inr (hw _ (List.mem_of_getElem? (i := 16) rfl))) (Or.inr (hw _ (List.mem_of_getElem? (i := 21) rfl))) (by decide) (t := .int) (t' := .long) (by decide) (by decide)))
    have V_b5_c7 := AV.other V_b5_c6 W7 (Ne.symm ne_a0_b5)
    have F_used_a0_c7 := Fld.other W7 Fw6 (Or.inr (slot_ne (a0 := aZ) (Or.inr (hw _ (List.mem_of_getElem? (i := 19) rfl))) (Or.inr (hw _ (List.mem_of_getElem? (i := 21) rfl))) (by decide) (t := (.array .long)) (t' := .long) (by decide) (by decide)))
    have Fw7 := Fld.same W7 F_lastWord_a0_c6
    have K7 := Keep.wr K6 W7 (Or.inl (List.mem_of_getElem? (i := 0) rfl))
    have Z7 : n0 ≤ h7.size := Nat.le_trans Z6 (Keep.of_wr W7).1
    exact g_retV C iI_60 rfl (by decide) (by decide) ⟨b5, rfl, ⟨ge5, fr5⟩, K7, AV.congr V_b5_c7 (fun _ _ => rfl), E_a0_c7, F_words_a0_c7, F_used_a0_c7, Fw7⟩
  · refine g_icmp_ne C iI_43 (fun hc43_1 => ?_) (fun hc43_1 => ?_)
    · refine g_ldc2Long C iI_46 (hw _ (List.mem_of_getElem? (i := 32) rfl)) ?_
      refine g_goto C iI_49 ?_
      have e0 : (vI_1 p2 w_words_a0 w_lastWord_a0) = (-1 : Int64) := by simp only [vI_1, if_pos hc43_1]
      exact Go.cast J (by rw [e0])
    · refine g_lconst C (1 : Int64) iI_52 rfl ?_
      refine g_iloadN C iI_53 rfl ?_
      refine g_lshl C iI_54 ?_
      refine g_lconst C (1 : Int64) iI_55 rfl ?_
      refine g_lsub C iI_56 ?_
      have e0 : (vI_1 p2 w_words_a0 w_lastWord_a0) = (((1 : Int64) <<< ((vI_0 p2 w_words_a0 w_lastWord_a0) &&& 0x3f).toInt64) - (1 : Int64)) := by simp only [vI_1, if_neg hc43_1]
      exact Go.cast J (by rw [e0])
theorem pn3 : plainFor (⟨"com/example/bandweave/bandweave/simulate/Fibres", "take", "([III)V"⟩ : MethodName) = true := by decide +kernel
theorem iT_0 : I1 prog_24_method_3_code 0 (.lconst 1) 1 1 := ⟨(by decide +kernel), rfl⟩
theorem iT_1 : I1 prog_24_method_3_code 1 (.iload_n 3) 1 2 := ⟨(by decide +kernel), rfl⟩
theorem iT_2 : I1 prog_24_method_3_code 2 (.bipush 64) 2 4 := ⟨(by decide +kernel), rfl⟩
theorem iT_4 : I1 prog_24_method_3_code 4 (.irem) 1 5 := ⟨(by decide +kernel), rfl⟩
theorem iT_5 : I1 prog_24_method_3_code 5 (.lshl) 1 6 := ⟨(by decide +kernel), rfl⟩
theorem iT_6 : I1 prog_24_method_3_code 6 (.lstore 4) 2 8 := ⟨(by decide +kernel), rfl⟩
theorem iT_8 : I1 prog_24_method_3_code 8 (.iconst 0) 1 9 := ⟨(by decide +kernel), rfl⟩
theorem iT_9 : I1 prog_24_method_3_code 9 (.istore 6) 2 11 := ⟨(by decide +kernel), rfl⟩
theorem iT_11 : I1 prog_24_method_3_code 11 (.iload 6) 2 13 := ⟨(by decide +kernel), rfl⟩
theorem iT_13 : I1 prog_24_method_3_code 13 (.iload_n 2) 1 14 := ⟨(by decide +kernel), rfl⟩
theorem iT_14 : B1 prog_24_method_3_code 14 (.if_icmp .ge 33) 33 47 17 := ⟨(by decide +kernel), rfl, by decide, by decide⟩
theorem iT_17 : I1 prog_24_method_3_code 17 (.aload_n 0) 1 18 := ⟨(by decide +kernel), rfl⟩
theorem iT_18 : I1 prog_24_method_3_code 18 (.getfield 13) 3 21 := ⟨(by decide +kernel), rfl⟩
theorem iT_21 : I1 prog_24_method_3_code 21 (.aload_n 1) 1 22 := ⟨(by decide +kernel), rfl⟩
theorem iT_22 : I1 prog_24_method_3_code 22 (.iload 6) 2 24 := ⟨(by decide +kernel), rfl⟩
theorem iT_24 : I1 prog_24_method_3_code 24 (.iaload) 1 25 := ⟨(by decide +kernel), rfl⟩
theorem iT_25 : I1 prog_24_method_3_code 25 (.aload_n 0) 1 26 := ⟨(by decide +kernel), rfl⟩
theorem iT_26 : I1 prog_24_method_3_code 26 (.getfield 7) 3 29 := ⟨(by decide +kernel), rfl⟩
theorem iT_29 : I1 prog_24_method_3_code 29 (.imul) 1 30 := ⟨(by decide +kernel), rfl⟩
theorem iT_30 : I1 prog_24_method_3_code 30 (.iload_n 3) 1 31 := ⟨(by decide +kernel), rfl⟩
theorem iT_31 : I1 prog_24_method_3_code 31 (.bipush 64) 2 33 := ⟨(by decide +kernel), rfl⟩
theorem iT_33 : I1 prog_24_method_3_code 33 (.idiv) 1 34 := ⟨(by decide +kernel), rfl⟩
theorem iT_34 : I1 prog_24_method_3_code 34 (.iadd) 1 35 := ⟨(by decide +kernel), rfl⟩
theorem iT_35 : I1 prog_24_method_3_code 35 (.dup2) 1 36 := ⟨(by decide +kernel), rfl⟩
theorem iT_36 : I1 prog_24_method_3_code 36 (.laload) 1 37 := ⟨(by decide +kernel), rfl⟩
theorem iT_37 : I1 prog_24_method_3_code 37 (.lload 4) 2 39 := ⟨(by decide +kernel), rfl⟩
theorem iT_39 : I1 prog_24_method_3_code 39 (.lor) 1 40 := ⟨(by decide +kernel), rfl⟩
theorem iT_40 : I1 prog_24_method_3_code 40 (.lastore) 1 41 := ⟨(by decide +kernel), rfl⟩
theorem iT_41 : I1 prog_24_method_3_code 41 (.iinc 6 1) 3 44 := ⟨(by decide +kernel), rfl⟩
theorem iT_44 : B1 prog_24_method_3_code 44 (.goto (-33)) (-33) 11 47 := ⟨(by decide +kernel), rfl, by decide, by decide⟩
theorem iT_47 : I1 prog_24_method_3_code 47 (.return_) 1 48 := ⟨(by decide +kernel), rfl⟩
def vT_0 (p3 : Int32) (n_a1 : Nat) (n_w_used_a0 : Nat) (f_a1 : Nat → Int32) (w_words_a0 : Int32) (f_w_used_a0 : Nat → Int64) : Int64 := ((f_w_used_a0 ((((f_a1 0) * w_words_a0) + (p3 / (64 : Int32)))).toNatClampNeg) ||| ((1 : Int64) <<< ((p3 % (64 : Int32)) &&& 0x3f).toInt64))
def vT_1 (p3 : Int32) (n_a1 : Nat) (n_w_used_a0 : Nat) (f_a1 : Nat → Int32) (w_words_a0 : Int32) (f_w_used_a0 : Nat → Int64) : Nat → Int64 := (fun ix => if ix = ((((f_a1 0) * w_words_a0) + (p3 / (64 : Int32)))).toNatClampNeg then (vT_0 p3 n_a1 n_w_used_a0 f_a1 w_words_a0 f_w_used_a0) else f_w_used_a0 ix)
def vT_2 (p3 : Int32) (n_a1 : Nat) (n_w_used_a0 : Nat) (f_a1 : Nat → Int32) (w_words_a0 : Int32) (f_w_used_a0 : Nat → Int64) : Int64 := (((vT_1 p3 n_a1 n_w_used_a0 f_a1 w_words_a0 f_w_used_a0) ((((f_a1 1) * w_words_a0) + (p3 / (64 : Int32)))).toNatClampNeg) ||| ((1 : Int64) <<< ((p3 % (64 : Int32)) &&& 0x3f).toInt64))
def vT_3 (p3 : Int32) (n_a1 : Nat) (n_w_used_a0 : Nat) (f_a1 : Nat → Int32) (w_words_a0 : Int32) (f_w_used_a0 : Nat → Int64) : Nat → Int64 := (fun ix => if ix = ((((f_a1 1) * w_words_a0) + (p3 / (64 : Int32)))).toNatClampNeg then (vT_2 p3 n_a1 n_w_used_a0 f_a1 w_words_a0 f_w_used_a0) else (vT_1 p3 n_a1 n_w_used_a0 f_a1 w_words_a0 f_w_used_a0) ix)
theorem efT (m : MethodId) (a0 : Addr) (a1 : Addr) (p3 : Int32) : entryFrame m #[(.ref a0), (.ref a1), (.int (2 : Int32)), (.int p3)] 7 = mkF m 0 #[.val (.ref a0), .val (.ref a1), .val (.int (2 : Int32)), .val (.int p3), .unset, .unset, .unset] [] := by first | (simp [entryFrame, mkF, argsToLocals, Value.category]; done) | rfl
def QT (Z : State) (a0 : Addr) (a1 : Addr) (p3 : Int32) (n_a1 : Nat) (n_w_used_a0 : Nat) (f_a1 : Nat → Int32) (w_words_a0 : Int32) (w_used_a0 : Addr) (f_w_used_a0 : Nat → Int64) (h0 : Heap) (n0 : Nat) (v : Option Value) (h : Heap) : Prop := v = none ∧ Keep h0 h [w_used_a0] ∧ AV Z h w_used_a0 .long n_w_used_a0 (fun ix => .long ((vT_3 p3 n_a1 n_w_used_a0 f_a1 w_words_a0 f_w_used_a0) ix))
set_option maxRecDepth 65536 in
set_option maxHeartbeats 40000000 in
theorem rmT (l : Launch) (Z : State) (aZ : Array Value) (hw : ∀ d ∈ tables_1, d.before aZ Z = true) (a0 : Addr) (a1 : Addr) (p3 : Int32) (n_a1 : Nat) (n_w_used_a0 : Nat) (f_a1 : Nat → Int32) (w_words_a0 : Int32) (w_used_a0 : Addr) (f_w_used_a0 : Nat → Int64) (h0 : Heap) (n0 : Nat) (Z0 : n0 ≤ h0.size) (hn : n_a1 = 2) (hin0 : Inb (((f_a1 0) * w_words_a0) + (p3 / (64 : Int32))) n_w_used_a0) (hin1 : Inb (((f_a1 1) * w_words_a0) + (p3 / (64 : Int32))) n_w_used_a0) (F_used_a0 : Fld Z h0 a0 "com/example/bandweave/bandweave/simulate/Fibres" "used" "[J" (.ref w_used_a0)) (V_a1 : AV Z h0 a1 .int n_a1 (fun ix => .int (f_a1 ix))) (F_words_a0 : Fld Z h0 a0 "com/example/bandweave/bandweave/simulate/Fibres" "words" "I" (.int w_words_a0)) (V_w_used_a0 : AV Z h0 w_used_a0 .long n_w_used_a0 (fun ix => .long (f_w_used_a0 ix))) (g_w_used_a0 : n0 ≤ w_used_a0) (ne_a0_w_used_a0 : a0 ≠ w_used_a0) (ne_a1_w_used_a0 : a1 ≠ w_used_a0) :
    Ctr l Z (⟨"com/example/bandweave/bandweave/simulate/Fibres", "take", "([III)V"⟩ : MethodName) prog_24_method_3_code 7 none ({ frames := 0, cells := 0, slots := 0, locals := 0 } : Room) #[(.ref a0), (.ref a1), (.int (2 : Int32)), (.int p3)] h0 n0 (QT Z a0 a1 p3 n_a1 n_w_used_a0 f_a1 w_words_a0 w_used_a0 f_w_used_a0 h0 n0) := by
  refine Ctr.of_go pn3 (fun m => efT m a0 a1 p3) ?_
  intro p e s m below meth c hnm C
  refine g_lconst C (1 : Int64) iT_0 rfl ?_
  refine g_iloadN C iT_1 rfl ?_
  refine g_bipush C (64 : Int32) iT_2 rfl ?_
  refine g_irem C iT_4 (by decide) ?_
  refine g_lshl C iT_5 ?_
  refine g_lstore C (Ls' := #[.val (.ref a0), .val (.ref a1), .val (.int (2 : Int32)), .val (.int p3), .val (.long ((1 : Int64) <<< ((p3 % (64 : Int32)) &&& 0x3f).toInt64)), .second, .unset]) iT_6 rfl ?_
  refine g_iconst C (0 : Int32) iT_8 rfl ?_
  refine g_istore C (Ls' := #[.val (.ref a0), .val (.ref a1), .val (.int (2 : Int32)), .val (.int p3), .val (.long ((1 : Int64) <<< ((p3 % (64 : Int32)) &&& 0x3f).toInt64)), .second, .val (.int (0 : Int32))]) iT_9 rfl ?_
  refine g_iload C iT_11 rfl ?_
  refine g_iloadN C iT_13 rfl ?_
  refine g_icmp_ge C iT_14 (fun _ => ?_) (fun q => absurd (by decide) q)
  refine g_aloadN C iT_17 rfl rfl ?_
  refine g_getF C iT_18 (host := "") (Or.inl (hw _ (List.mem_of_getElem? (i := 18) rfl))) Via.refl F_used_a0 ?_
  refine g_aloadN C iT_21 rfl rfl ?_
  refine g_iload C iT_22 rfl ?_
  refine g_iald C (.int (f_a1 0)) iT_24 V_a1 (by subst hn; exact ⟨by decide, by decide⟩) rfl ?_
  refine g_aloadN C iT_25 rfl rfl ?_
  refine g_getF C iT_26 (host := "") (Or.inl (hw _ (List.mem_of_getElem? (i := 15) rfl))) Via.refl F_words_a0 ?_
  refine g_imul C iT_29 ?_
  refine g_iloadN C iT_30 rfl ?_
  refine g_bipush C (64 : Int32) iT_31 rfl ?_
  refine g_idiv C iT_33 (by decide) ?_
  refine g_iadd C iT_34 ?_
  refine g_dup2 C iT_35 rfl rfl ?_
  refine g_lald C (.long (f_w_used_a0 ((((f_a1 0) * w_words_a0) + (p3 / (64 : Int32)))).toNatClampNeg)) iT_36 V_w_used_a0 hin0 rfl ?_
  refine g_lload C iT_37 rfl ?_
  refine g_lor C iT_39 ?_
  refine g_lastI C iT_40 V_w_used_a0 hin0 g_w_used_a0 (fun h8 W8 V8 => ?_)
  have F_used_a0_c8 := Fld.other W8 F_used_a0 (Or.inl ne_a0_w_used_a0)
  have V_a1_c8 := AV.other V_a1 W8 ne_a1_w_used_a0
  have F_words_a0_c8 := Fld.other W8 F_words_a0 (Or.inl ne_a0_w_used_a0)
  have Vw8 : AV Z h8 w_used_a0 .long n_w_used_a0 (fun ix => .long ((vT_1 p3 n_a1 n_w_used_a0 f_a1 w_words_a0 f_w_used_a0) ix)) := V8
  have K8 := Keep.wr (Keep.refl h0 [w_used_a0]) W8 (Or.inl (List.mem_of_getElem? (i := 0) rfl))
  have Z8 : n0 ≤ h8.size := Nat.le_trans Z0 (Keep.of_wr W8).1
  refine g_iinc C (Ls' := #[.val (.ref a0), .val (.ref a1), .val (.int (2 : Int32)), .val (.int p3), .val (.long ((1 : Int64) <<< ((p3 % (64 : Int32)) &&& 0x3f).toInt64)), .second, .val (.int (1 : Int32))]) iT_41 rfl rfl ?_
  refine g_goto C iT_44 ?_
  refine g_iload C iT_11 rfl ?_
  refine g_iloadN C iT_13 rfl ?_
  refine g_icmp_ge C iT_14 (fun _ => ?_) (fun q => absurd (by decide) q)
  refine g_aloadN C iT_17 rfl rfl ?_
  refine g_getF C iT_18 (host := "") (Or.inl (hw _ (List.mem_of_getElem? (i := 18) rfl))) Via.refl F_used_a0_c8 ?_
  refine g_aloadN C iT_21 rfl rfl ?_
  refine g_iload C iT_22 rfl ?_
  refine g_iald C (.int (f_a1 1)) iT_24 V_a1_c8 (by subst hn; exact ⟨by decide, by decide⟩) rfl ?_
  refine g_aloadN C iT_25 rfl rfl ?_
  refine g_getF C iT_26 (host := "") (Or.inl (hw _ (List.mem_of_getElem? (i := 15) rfl))) Via.refl F_words_a0_c8 ?_
  refine g_imul C iT_29 ?_
  refine g_iloadN C iT_30 rfl ?_
  refine g_bipush C (64 : Int32) iT_31 rfl ?_
  refine g_idiv C iT_33 (by decide) ?_
  refine g_iadd C iT_34 ?_
  refine g_dup2 C iT_35 rfl rfl ?_
  refine g_lald C (.long ((vT_1 p3 n_a1 n_w_used_a0 f_a1 w_words_a0 f_w_used_a0) ((((f_a1 1) * w_words_a0) + (p3 / (64 : Int32)))).toNatClampNeg)) iT_36 Vw8 hin1 rfl ?_
  refine g_lload C iT_37 rfl ?_
  refine g_lor C iT_39 ?_
  refine g_lastI C iT_40 Vw8 hin1 g_w_used_a0 (fun h9 W9 V9 => ?_)
  have F_used_a0_c9 := Fld.other W9 F_used_a0_c8 (Or.inl ne_a0_w_used_a0)
  have V_a1_c9 := AV.other V_a1_c8 W9 ne_a1_w_used_a0
  have F_words_a0_c9 := Fld.other W9 F_words_a0_c8 (Or.inl ne_a0_w_used_a0)
  have Vw9 : AV Z h9 w_used_a0 .long n_w_used_a0 (fun ix => .long ((vT_3 p3 n_a1 n_w_used_a0 f_a1 w_words_a0 f_w_used_a0) ix)) := V9
  have K9 := Keep.wr K8 W9 (Or.inl (List.mem_of_getElem? (i := 0) rfl))
  have Z9 : n0 ≤ h9.size := Nat.le_trans Z8 (Keep.of_wr W9).1
  refine g_iinc C (Ls' := #[.val (.ref a0), .val (.ref a1), .val (.int (2 : Int32)), .val (.int p3), .val (.long ((1 : Int64) <<< ((p3 % (64 : Int32)) &&& 0x3f).toInt64)), .second, .val (.int (2 : Int32))]) iT_41 rfl rfl ?_
  refine g_goto C iT_44 ?_
  refine g_iload C iT_11 rfl ?_
  refine g_iloadN C iT_13 rfl ?_
  refine g_icmp_ge C iT_14 (fun q => absurd q (by decide)) (fun _ => ?_)
  exact g_retV C iT_47 rfl (by decide) (by decide) ⟨rfl, K9, AV.congr Vw9 (fun _ _ => rfl)⟩
theorem pn4 : plainFor (⟨"com/example/bandweave/bandweave/simulate/Fibres", "release", "([III)V"⟩ : MethodName) = true := by decide +kernel
theorem iR2_0 : I1 prog_24_method_4_code 0 (.lconst 1) 1 1 := ⟨(by decide +kernel), rfl⟩
theorem iR2_1 : I1 prog_24_method_4_code 1 (.iload_n 3) 1 2 := ⟨(by decide +kernel), rfl⟩
theorem iR2_2 : I1 prog_24_method_4_code 2 (.bipush 64) 2 4 := ⟨(by decide +kernel), rfl⟩
theorem iR2_4 : I1 prog_24_method_4_code 4 (.irem) 1 5 := ⟨(by decide +kernel), rfl⟩
theorem iR2_5 : I1 prog_24_method_4_code 5 (.lshl) 1 6 := ⟨(by decide +kernel), rfl⟩
theorem iR2_6 : I1 prog_24_method_4_code 6 (.lstore 4) 2 8 := ⟨(by decide +kernel), rfl⟩
theorem iR2_8 : I1 prog_24_method_4_code 8 (.iconst 0) 1 9 := ⟨(by decide +kernel), rfl⟩
theorem iR2_9 : I1 prog_24_method_4_code 9 (.istore 6) 2 11 := ⟨(by decide +kernel), rfl⟩
theorem iR2_11 : I1 prog_24_method_4_code 11 (.iload 6) 2 13 := ⟨(by decide +kernel), rfl⟩
theorem iR2_13 : I1 prog_24_method_4_code 13 (.iload_n 2) 1 14 := ⟨(by decide +kernel), rfl⟩
theorem iR2_14 : B1 prog_24_method_4_code 14 (.if_icmp .ge 37) 37 51 17 := ⟨(by decide +kernel), rfl, by decide, by decide⟩
theorem iR2_17 : I1 prog_24_method_4_code 17 (.aload_n 0) 1 18 := ⟨(by decide +kernel), rfl⟩
theorem iR2_18 : I1 prog_24_method_4_code 18 (.getfield 13) 3 21 := ⟨(by decide +kernel), rfl⟩
theorem iR2_21 : I1 prog_24_method_4_code 21 (.aload_n 1) 1 22 := ⟨(by decide +kernel), rfl⟩
theorem iR2_22 : I1 prog_24_method_4_code 22 (.iload 6) 2 24 := ⟨(by decide +kernel), rfl⟩
theorem iR2_24 : I1 prog_24_method_4_code 24 (.iaload) 1 25 := ⟨(by decide +kernel), rfl⟩
theorem iR2_25 : I1 prog_24_method_4_code 25 (.aload_n 0) 1 26 := ⟨(by decide +kernel), rfl⟩
theorem iR2_26 : I1 prog_24_method_4_code 26 (.getfield 7) 3 29 := ⟨(by decide +kernel), rfl⟩
theorem iR2_29 : I1 prog_24_method_4_code 29 (.imul) 1 30 := ⟨(by decide +kernel), rfl⟩
theorem iR2_30 : I1 prog_24_method_4_code 30 (.iload_n 3) 1 31 := ⟨(by decide +kernel), rfl⟩
theorem iR2_31 : I1 prog_24_method_4_code 31 (.bipush 64) 2 33 := ⟨(by decide +kernel), rfl⟩
theorem iR2_33 : I1 prog_24_method_4_code 33 (.idiv) 1 34 := ⟨(by decide +kernel), rfl⟩
theorem iR2_34 : I1 prog_24_method_4_code 34 (.iadd) 1 35 := ⟨(by decide +kernel), rfl⟩
theorem iR2_35 : I1 prog_24_method_4_code 35 (.dup2) 1 36 := ⟨(by decide +kernel), rfl⟩
theorem iR2_36 : I1 prog_24_method_4_code 36 (.laload) 1 37 := ⟨(by decide +kernel), rfl⟩
theorem iR2_37 : I1 prog_24_method_4_code 37 (.lload 4) 2 39 := ⟨(by decide +kernel), rfl⟩
theorem iR2_39 : I1 prog_24_method_4_code 39 (.ldc2_w 17) 3 42 := ⟨(by decide +kernel), rfl⟩
theorem iR2_42 : I1 prog_24_method_4_code 42 (.lxor) 1 43 := ⟨(by decide +kernel), rfl⟩
theorem iR2_43 : I1 prog_24_method_4_code 43 (.land) 1 44 := ⟨(by decide +kernel), rfl⟩
theorem iR2_44 : I1 prog_24_method_4_code 44 (.lastore) 1 45 := ⟨(by decide +kernel), rfl⟩
theorem iR2_45 : I1 prog_24_method_4_code 45 (.iinc 6 1) 3 48 := ⟨(by decide +kernel), rfl⟩
theorem iR2_48 : B1 prog_24_method_4_code 48 (.goto (-37)) (-37) 11 51 := ⟨(by decide +kernel), rfl, by decide, by decide⟩
theorem iR2_51 : I1 prog_24_method_4_code 51 (.return_) 1 52 := ⟨(by decide +kernel), rfl⟩
def vR2_0 (p3 : Int32) (n_a1 : Nat) (n_w_used_a0 : Nat) (f_a1 : Nat → Int32) (w_words_a0 : Int32) (f_w_used_a0 : Nat → Int64) : Int64 := ((f_w_used_a0 ((((f_a1 0) * w_words_a0) + (p3 / (64 : Int32)))).toNatClampNeg) &&& (((1 : Int64) <<< ((p3 % (64 : Int32)) &&& 0x3f).toInt64) ^^^ (-1 : Int64)))
def vR2_1 (p3 : Int32) (n_a1 : Nat) (n_w_used_a0 : Nat) (f_a1 : Nat → Int32) (w_words_a0 : Int32) (f_w_used_a0 : Nat → Int64) : Nat → Int64 := (fun ix => if ix = ((((f_a1 0) * w_words_a0) + (p3 / (64 : Int32)))).toNatClampNeg then (vR2_0 p3 n_a1 n_w_used_a0 f_a1 w_words_a0 f_w_used_a0) else f_w_used_a0 ix)
def vR2_2 (p3 : Int32) (n_a1 : Nat) (n_w_used_a0 : Nat) (f_a1 : Nat → Int32) (w_words_a0 : Int32) (f_w_used_a0 : Nat → Int64) : Int64 := (((vR2_1 p3 n_a1 n_w_used_a0 f_a1 w_words_a0 f_w_used_a0) ((((f_a1 1) * w_words_a0) + (p3 / (64 : Int32)))).toNatClampNeg) &&& (((1 : Int64) <<< ((p3 % (64 : Int32)) &&& 0x3f).toInt64) ^^^ (-1 : Int64)))
def vR2_3 (p3 : Int32) (n_a1 : Nat) (n_w_used_a0 : Nat) (f_a1 : Nat → Int32) (w_words_a0 : Int32) (f_w_used_a0 : Nat → Int64) : Nat → Int64 := (fun ix => if ix = ((((f_a1 1) * w_words_a0) + (p3 / (64 : Int32)))).toNatClampNeg then (vR2_2 p3 n_a1 n_w_used_a0 f_a1 w_words_a0 f_w_used_a0) else (vR2_1 p3 n_a1 n_w_used_a0 f_a1 w_words_a0 f_w_used_a0) ix)
theorem efR2 (m : MethodId) (a0 : Addr) (a1 : Addr) (p3 : Int32) : entryFrame m #[(.ref a0), (.ref a1), (.int (2 : Int32)), (.int p3)] 7 = mkF m 0 #[.val (.ref a0), .val (.ref a1), .val (.int (2 : Int32)), .val (.int p3), .unset, .unset, .unset] [] := by first | (simp [entryFrame, mkF, argsToLocals, Value.category]; done) | rfl
def QR2 (Z : State) (a0 : Addr) (a1 : Addr) (p3 : Int32) (n_a1 : Nat) (n_w_used_a0 : Nat) (f_a1 : Nat → Int32) (w_words_a0 : Int32) (w_used_a0 : Addr) (f_w_used_a0 : Nat → Int64) (h0 : Heap) (n0 : Nat) (v : Option Value) (h : Heap) : Prop := v = none ∧ Keep h0 h [w_used_a0] ∧ AV Z h w_used_a0 .long n_w_used_a0 (fun ix => .long ((vR2_3 p3 n_a1 n_w_used_a0 f_a1 w_words_a0 f_w_used_a0) ix))
set_option maxRecDepth 65536 in
set_option maxHeartbeats 40000000 in
theorem rmR2 (l : Launch) (Z : State) (aZ : Array Value) (hw : ∀ d ∈ tables_1, d.before aZ Z = true) (a0 : Addr) (a1 : Addr) (p3 : Int32) (n_a1 : Nat) (n_w_used_a0 : Nat) (f_a1 : Nat → Int32) (w_words_a0 : Int32) (w_used_a0 : Addr) (f_w_used_a0 : Nat → Int64) (h0 : Heap) (n0 : Nat) (Z0 : n0 ≤ h0.size) (hn : n_a1 = 2) (hin0 : Inb (((f_a1 0) * w_words_a0) + (p3 / (64 : Int32))) n_w_used_a0) (hin1 : Inb (((f_a1 1) * w_words_a0) + (p3 / (64 : Int32))) n_w_used_a0) (F_used_a0 : Fld Z h0 a0 "com/example/bandweave/bandweave/simulate/Fibres" "used" "[J" (.ref w_used_a0)) (V_a1 : AV Z h0 a1 .int n_a1 (fun ix => .int (f_a1 ix))) (F_words_a0 : Fld Z h0 a0 "com/example/bandweave/bandweave/simulate/Fibres" "words" "I" (.int w_words_a0)) (V_w_used_a0 : AV Z h0 w_used_a0 .long n_w_used_a0 (fun ix => .long (f_w_used_a0 ix))) (g_w_used_a0 : n0 ≤ w_used_a0) (ne_a0_w_used_a0 : a0 ≠ w_used_a0) (ne_a1_w_used_a0 : a1 ≠ w_used_a0) :
    Ctr l Z (⟨"com/example/bandweave/bandweave/simulate/Fibres", "release", "([III)V"⟩ : MethodName) prog_24_method_4_code 7 none ({ frames := 0, cells := 0, slots := 0, locals := 0 } : Room) #[(.ref a0), (.ref a1), (.int (2 : Int32)), (.int p3)] h0 n0 (QR2 Z a0 a1 p3 n_a1 n_w_used_a0 f_a1 w_words_a0 w_used_a0 f_w_used_a0 h0 n0) := by
  refine Ctr.of_go pn4 (fun m => efR2 m a0 a1 p3) ?_
  intro p e s m below meth c hnm C
  refine g_lconst C (1 : Int64) iR2_0 rfl ?_
  refine g_iloadN C iR2_1 rfl ?_
  refine g_bipush C (64 : Int32) iR2_2 rfl ?_
  refine g_irem C iR2_4 (by decide) ?_
  refine g_lshl C iR2_5 ?_
  refine g_lstore C (Ls' := #[.val (.ref a0), .val (.ref a1), .val (.int (2 : Int32)), .val (.int p3), .val (.long ((1 : Int64) <<< ((p3 % (64 : Int32)) &&& 0x3f).toInt64)), .second, .unset]) iR2_6 rfl ?_
  refine g_iconst C (0 : Int32) iR2_8 rfl ?_
  refine g_istore C (Ls' := #[.val (.ref a0), .val (.ref a1), .val (.int (2 : Int32)), .val (.int p3), .val (.long ((1 : Int64) <<< ((p3 % (64 : Int32)) &&& 0x3f).toInt64)), .second, .val (.int (0 : Int32))]) iR2_9 rfl ?_
  refine g_iload C iR2_11 rfl ?_
  refine g_iloadN C iR2_13 rfl ?_
  refine g_icmp_ge C iR2_14 (fun _ => ?_) (fun q => absurd (by decide) q)
  refine g_aloadN C iR2_17 rfl rfl ?_
  refine g_getF C iR2_18 (host := "") (Or.inl (hw _ (List.mem_of_getElem? (i := 18) rfl))) Via.refl F_used_a0 ?_
  refine g_aloadN C iR2_21 rfl rfl ?_
  refine g_iload C iR2_22 rfl ?_
  refine g_iald C (.int (f_a1 0)) iR2_24 V_a1 (by subst hn; exact ⟨by decide, by decide⟩) rfl ?_
  refine g_aloadN C iR2_25 rfl rfl ?_
  refine g_getF C iR2_26 (host := "") (Or.inl (hw _ (List.mem_of_getElem? (i := 15) rfl))) Via.refl F_words_a0 ?_
  refine g_imul C iR2_29 ?_
  refine g_iloadN C iR2_30 rfl ?_
  refine g_bipush C (64 : Int32) iR2_31 rfl ?_
  refine g_idiv C iR2_33 (by decide) ?_
  refine g_iadd C iR2_34 ?_
  refine g_dup2 C iR2_35 rfl rfl ?_
  refine g_lald C (.long (f_w_used_a0 ((((f_a1 0) * w_words_a0) + (p3 / (64 : Int32)))).toNatClampNeg)) iR2_36 V_w_used_a0 hin0 rfl ?_
  refine g_lload C iR2_37 rfl ?_
  refine g_ldc2Long C iR2_39 (hw _ (List.mem_of_getElem? (i := 32) rfl)) ?_
  refine g_lxor C iR2_42 ?_
  refine g_land C iR2_43 ?_
  refine g_lastI C iR2_44 V_w_used_a0 hin0 g_w_used_a0 (fun h10 W10 V10 => ?_)
  have F_used_a0_c10 := Fld.other W10 F_used_a0 (Or.inl ne_a0_w_used_a0)
  have V_a1_c10 := AV.other V_a1 W10 ne_a1_w_used_a0
  have F_words_a0_c10 := Fld.other W10 F_words_a0 (Or.inl ne_a0_w_used_a0)
  have Vw10 : AV Z h10 w_used_a0 .long n_w_used_a0 (fun ix => .long ((vR2_1 p3 n_a1 n_w_used_a0 f_a1 w_words_a0 f_w_used_a0) ix)) := V10
  have K10 := Keep.wr (Keep.refl h0 [w_used_a0]) W10 (Or.inl (List.mem_of_getElem? (i := 0) rfl))
  have Z10 : n0 ≤ h10.size := Nat.le_trans Z0 (Keep.of_wr W10).1
  refine g_iinc C (Ls' := #[.val (.ref a0), .val (.ref a1), .val (.int (2 : Int32)), .val (.int p3), .val (.long ((1 : Int64) <<< ((p3 % (64 : Int32)) &&& 0x3f).toInt64)), .second, .val (.int (1 : Int32))]) iR2_45 rfl rfl ?_
  refine g_goto C iR2_48 ?_
  refine g_iload C iR2_11 rfl ?_
  refine g_iloadN C iR2_13 rfl ?_
  refine g_icmp_ge C iR2_14 (fun _ => ?_) (fun q => absurd (by decide) q)
  refine g_aloadN C iR2_17 rfl rfl ?_
  refine g_getF C iR2_18 (host := "") (Or.inl (hw _ (List.mem_of_getElem? (i := 18) rfl))) Via.refl F_used_a0_c10 ?_
  refine g_aloadN C iR2_21 rfl rfl ?_
  refine g_iload C iR2_22 rfl ?_
  refine g_iald C (.int (f_a1 1)) iR2_24 V_a1_c10 (by subst hn; exact ⟨by decide, by decide⟩) rfl ?_
  refine g_aloadN C iR2_25 rfl rfl ?_
  refine g_getF C iR2_26 (host := "") (Or.inl (hw _ (List.mem_of_getElem? (i := 15) rfl))) Via.refl F_words_a0_c10 ?_
  refine g_imul C iR2_29 ?_
  refine g_iloadN C iR2_30 rfl ?_
  refine g_bipush C (64 : Int32) iR2_31 rfl ?_
  refine g_idiv C iR2_33 (by decide) ?_
  refine g_iadd C iR2_34 ?_
  refine g_dup2 C iR2_35 rfl rfl ?_
  refine g_lald C (.long ((vR2_1 p3 n_a1 n_w_used_a0 f_a1 w_words_a0 f_w_used_a0) ((((f_a1 1) * w_words_a0) + (p3 / (64 : Int32)))).toNatClampNeg)) iR2_36 Vw10 hin1 rfl ?_
  refine g_lload C iR2_37 rfl ?_
  refine g_ldc2Long C iR2_39 (hw _ (List.mem_of_getElem? (i := 32) rfl)) ?_
  refine g_lxor C iR2_42 ?_
  refine g_land C iR2_43 ?_
  refine g_lastI C iR2_44 Vw10 hin1 g_w_used_a0 (fun h11 W11 V11 => ?_)
  have F_used_a0_c11 := Fld.other W11 F_used_a0_c10 (Or.inl ne_a0_w_used_a0)
  have V_a1_c11 := AV.other V_a1_c10 W11 ne_a1_w_used_a0
  have F_words_a0_c11 := Fld.other W11 F_words_a0_c10 (Or.inl ne_a0_w_used_a0)
  have Vw11 : AV Z h11 w_used_a0 .long n_w_used_a0 (fun ix => .long ((vR2_3 p3 n_a1 n_w_used_a0 f_a1 w_words_a0 f_w_used_a0) ix)) := V11
  have K11 := Keep.wr K10 W11 (Or.inl (List.mem_of_getElem? (i := 0) rfl))
  have Z11 : n0 ≤ h11.size := Nat.le_trans Z10 (Keep.of_wr W11).1
  refine g_iinc C (Ls' := #[.val (.ref a0), .val (.ref a1), .val (.int (2 : Int32)), .val (.int p3), .val (.long ((1 : Int64) <<< ((p3 % (64 : Int32)) &&& 0x3f).toInt64)), .second, .val (.int (2 : Int32))]) iR2_45 rfl rfl ?_
  refine g_goto C iR2_48 ?_
  refine g_iload C iR2_11 rfl ?_
  refine g_iloadN C iR2_13 rfl ?_
  refine g_icmp_ge C iR2_14 (fun q => absurd q (by decide)) (fun _ => ?_)
  exact g_retV C iR2_51 rfl (by decide) (by decide) ⟨rfl, K11, AV.congr Vw11 (fun _ _ => rfl)⟩
theorem iR1_0 : I1 prog_24_method_4_code 0 (.lconst 1) 1 1 := ⟨(by decide +kernel), rfl⟩
theorem iR1_1 : I1 prog_24_method_4_code 1 (.iload_n 3) 1 2 := ⟨(by decide +kernel), rfl⟩
theorem iR1_2 : I1 prog_24_method_4_code 2 (.bipush 64) 2 4 := ⟨(by decide +kernel), rfl⟩
theorem iR1_4 : I1 prog_24_method_4_code 4 (.irem) 1 5 := ⟨(by decide +kernel), rfl⟩
theorem iR1_5 : I1 prog_24_method_4_code 5 (.lshl) 1 6 := ⟨(by decide +kernel), rfl⟩
theorem iR1_6 : I1 prog_24_method_4_code 6 (.lstore 4) 2 8 := ⟨(by decide +kernel), rfl⟩
theorem iR1_8 : I1 prog_24_method_4_code 8 (.iconst 0) 1 9 := ⟨(by decide +kernel), rfl⟩
theorem iR1_9 : I1 prog_24_method_4_code 9 (.istore 6) 2 11 := ⟨(by decide +kernel), rfl⟩
theorem iR1_11 : I1 prog_24_method_4_code 11 (.iload 6) 2 13 := ⟨(by decide +kernel), rfl⟩
theorem iR1_13 : I1 prog_24_method_4_code 13 (.iload_n 2) 1 14 := ⟨(by decide +kernel), rfl⟩
theorem iR1_14 : B1 prog_24_method_4_code 14 (.if_icmp .ge 37) 37 51 17 := ⟨(by decide +kernel), rfl, by decide, by decide⟩
theorem iR1_17 : I1 prog_24_method_4_code 17 (.aload_n 0) 1 18 := ⟨(by decide +kernel), rfl⟩
theorem iR1_18 : I1 prog_24_method_4_code 18 (.getfield 13) 3 21 := ⟨(by decide +kernel), rfl⟩
theorem iR1_21 : I1 prog_24_method_4_code 21 (.aload_n 1) 1 22 := ⟨(by decide +kernel), rfl⟩
theorem iR1_22 : I1 prog_24_method_4_code 22 (.iload 6) 2 24 := ⟨(by decide +kernel), rfl⟩
theorem iR1_24 : I1 prog_24_method_4_code 24 (.iaload) 1 25 := ⟨(by decide +kernel), rfl⟩
theorem iR1_25 : I1 prog_24_method_4_code 25 (.aload_n 0) 1 26 := ⟨(by decide +kernel), rfl⟩
theorem iR1_26 : I1 prog_24_method_4_code 26 (.getfield 7) 3 29 := ⟨(by decide +kernel), rfl⟩
theorem iR1_29 : I1 prog_24_method_4_code 29 (.imul) 1 30 := ⟨(by decide +kernel), rfl⟩
theorem iR1_30 : I1 prog_24_method_4_code 30 (.iload_n 3) 1 31 := ⟨(by decide +kernel), rfl⟩
theorem iR1_31 : I1 prog_24_method_4_code 31 (.bipush 64) 2 33 := ⟨(by decide +kernel), rfl⟩
theorem iR1_33 : I1 prog_24_method_4_code 33 (.idiv) 1 34 := ⟨(by decide +kernel), rfl⟩
theorem iR1_34 : I1 prog_24_method_4_code 34 (.iadd) 1 35 := ⟨(by decide +kernel), rfl⟩
theorem iR1_35 : I1 prog_24_method_4_code 35 (.dup2) 1 36 := ⟨(by decide +kernel), rfl⟩
theorem iR1_36 : I1 prog_24_method_4_code 36 (.laload) 1 37 := ⟨(by decide +kernel), rfl⟩
theorem iR1_37 : I1 prog_24_method_4_code 37 (.lload 4) 2 39 := ⟨(by decide +kernel), rfl⟩
theorem iR1_39 : I1 prog_24_method_4_code 39 (.ldc2_w 17) 3 42 := ⟨(by decide +kernel), rfl⟩
theorem iR1_42 : I1 prog_24_method_4_code 42 (.lxor) 1 43 := ⟨(by decide +kernel), rfl⟩
theorem iR1_43 : I1 prog_24_method_4_code 43 (.land) 1 44 := ⟨(by decide +kernel), rfl⟩
theorem iR1_44 : I1 prog_24_method_4_code 44 (.lastore) 1 45 := ⟨(by decide +kernel), rfl⟩
theorem iR1_45 : I1 prog_24_method_4_code 45 (.iinc 6 1) 3 48 := ⟨(by decide +kernel), rfl⟩
theorem iR1_48 : B1 prog_24_method_4_code 48 (.goto (-37)) (-37) 11 51 := ⟨(by decide +kernel), rfl, by decide, by decide⟩
theorem iR1_51 : I1 prog_24_method_4_code 51 (.return_) 1 52 := ⟨(by decide +kernel), rfl⟩
def vR1_0 (p3 : Int32) (n_a1 : Nat) (n_w_used_a0 : Nat) (f_a1 : Nat → Int32) (w_words_a0 : Int32) (f_w_used_a0 : Nat → Int64) : Int64 := ((f_w_used_a0 ((((f_a1 0) * w_words_a0) + (p3 / (64 : Int32)))).toNatClampNeg) &&& (((1 : Int64) <<< ((p3 % (64 : Int32)) &&& 0x3f).toInt64) ^^^ (-1 : Int64)))
def vR1_1 (p3 : Int32) (n_a1 : Nat) (n_w_used_a0 : Nat) (f_a1 : Nat → Int32) (w_words_a0 : Int32) (f_w_used_a0 : Nat → Int64) : Nat → Int64 := (fun ix => if ix = ((((f_a1 0) * w_words_a0) + (p3 / (64 : Int32)))).toNatClampNeg then (vR1_0 p3 n_a1 n_w_used_a0 f_a1 w_words_a0 f_w_used_a0) else f_w_used_a0 ix)
theorem efR1 (m : MethodId) (a0 : Addr) (a1 : Addr) (p3 : Int32) : entryFrame m #[(.ref a0), (.ref a1), (.int (1 : Int32)), (.int p3)] 7 = mkF m 0 #[.val (.ref a0), .val (.ref a1), .val (.int (1 : Int32)), .val (.int p3), .unset, .unset, .unset] [] := by first | (simp [entryFrame, mkF, argsToLocals, Value.category]; done) | rfl
def QR1 (Z : State) (a0 : Addr) (a1 : Addr) (p3 : Int32) (n_a1 : Nat) (n_w_used_a0 : Nat) (f_a1 : Nat → Int32) (w_words_a0 : Int32) (w_used_a0 : Addr) (f_w_used_a0 : Nat → Int64) (h0 : Heap) (n0 : Nat) (v : Option Value) (h : Heap) : Prop := v = none ∧ Keep h0 h [w_used_a0] ∧ AV Z h w_used_a0 .long n_w_used_a0 (fun ix => .long ((vR1_1 p3 n_a1 n_w_used_a0 f_a1 w_words_a0 f_w_used_a0) ix))
set_option maxRecDepth 65536 in
set_option maxHeartbeats 40000000 in
theorem rmR1 (l : Launch) (Z : State) (aZ : Array Value) (hw : ∀ d ∈ tables_1, d.before aZ Z = true) (a0 : Addr) (a1 : Addr) (p3 : Int32) (n_a1 : Nat) (n_w_used_a0 : Nat) (f_a1 : Nat → Int32) (w_words_a0 : Int32) (w_used_a0 : Addr) (f_w_used_a0 : Nat → Int64) (h0 : Heap) (n0 : Nat) (Z0 : n0 ≤ h0.size) (hn : n_a1 = 2) (hin0 : Inb (((f_a1 0) * w_words_a0) + (p3 / (64 : Int32))) n_w_used_a0) (F_used_a0 : Fld Z h0 a0 "com/example/bandweave/bandweave/simulate/Fibres" "used" "[J" (.ref w_used_a0)) (V_a1 : AV Z h0 a1 .int n_a1 (fun ix => .int (f_a1 ix))) (F_words_a0 : Fld Z h0 a0 "com/example/bandweave/bandweave/simulate/Fibres" "words" "I" (.int w_words_a0)) (V_w_used_a0 : AV Z h0 w_used_a0 .long n_w_used_a0 (fun ix => .long (f_w_used_a0 ix))) (g_w_used_a0 : n0 ≤ w_used_a0) (ne_a0_w_used_a0 : a0 ≠ w_used_a0) (ne_a1_w_used_a0 : a1 ≠ w_used_a0) :
    Ctr l Z (⟨"com/example/bandweave/bandweave/simulate/Fibres", "release", "([III)V"⟩ : MethodName) prog_24_method_4_code 7 none ({ frames := 0, cells := 0, slots := 0, locals := 0 } : Room) #[(.ref a0), (.ref a1), (.int (1 : Int32)), (.int p3)] h0 n0 (QR1 Z a0 a1 p3 n_a1 n_w_used_a0 f_a1 w_words_a0 w_used_a0 f_w_used_a0 h0 n0) := by
  refine Ctr.of_go pn4 (fun m => efR1 m a0 a1 p3) ?_
  intro p e s m below meth c hnm C
  refine g_lconst C (1 : Int64) iR1_0 rfl ?_
  refine g_iloadN C iR1_1 rfl ?_
  refine g_bipush C (64 : Int32) iR1_2 rfl ?_
  refine g_irem C iR1_4 (by decide) ?_
  refine g_lshl C iR1_5 ?_
  refine g_lstore C (Ls' := #[.val (.ref a0), .val (.ref a1), .val (.int (1 : Int32)), .val (.int p3), .val (.long ((1 : Int64) <<< ((p3 % (64 : Int32)) &&& 0x3f).toInt64)), .second, .unset]) iR1_6 rfl ?_
  refine g_iconst C (0 : Int32) iR1_8 rfl ?_
  refine g_istore C (Ls' := #[.val (.ref a0), .val (.ref a1), .val (.int (1 : Int32)), .val (.int p3), .val (.long ((1 : Int64) <<< ((p3 % (64 : Int32)) &&& 0x3f).toInt64)), .second, .val (.int (0 : Int32))]) iR1_9 rfl ?_
  refine g_iload C iR1_11 rfl ?_
  refine g_iloadN C iR1_13 rfl ?_
  refine g_icmp_ge C iR1_14 (fun _ => ?_) (fun q => absurd (by decide) q)
  refine g_aloadN C iR1_17 rfl rfl ?_
  refine g_getF C iR1_18 (host := "") (Or.inl (hw _ (List.mem_of_getElem? (i := 18) rfl))) Via.refl F_used_a0 ?_
  refine g_aloadN C iR1_21 rfl rfl ?_
  refine g_iload C iR1_22 rfl ?_
  refine g_iald C (.int (f_a1 0)) iR1_24 V_a1 (by subst hn; exact ⟨by decide, by decide⟩) rfl ?_
  refine g_aloadN C iR1_25 rfl rfl ?_
  refine g_getF C iR1_26 (host := "") (Or.inl (hw _ (List.mem_of_getElem? (i := 15) rfl))) Via.refl F_words_a0 ?_
  refine g_imul C iR1_29 ?_
  refine g_iloadN C iR1_30 rfl ?_
  refine g_bipush C (64 : Int32) iR1_31 rfl ?_
  refine g_idiv C iR1_33 (by decide) ?_
  refine g_iadd C iR1_34 ?_
  refine g_dup2 C iR1_35 rfl rfl ?_
  refine g_lald C (.long (f_w_used_a0 ((((f_a1 0) * w_words_a0) + (p3 / (64 : Int32)))).toNatClampNeg)) iR1_36 V_w_used_a0 hin0 rfl ?_
  refine g_lload C iR1_37 rfl ?_
  refine g_ldc2Long C iR1_39 (hw _ (List.mem_of_getElem? (i := 32) rfl)) ?_
  refine g_lxor C iR1_42 ?_
  refine g_land C iR1_43 ?_
  refine g_lastI C iR1_44 V_w_used_a0 hin0 g_w_used_a0 (fun h12 W12 V12 => ?_)
  have F_used_a0_c12 := Fld.other W12 F_used_a0 (Or.inl ne_a0_w_used_a0)
  have V_a1_c12 := AV.other V_a1 W12 ne_a1_w_used_a0
  have F_words_a0_c12 := Fld.other W12 F_words_a0 (Or.inl ne_a0_w_used_a0)
  have Vw12 : AV Z h12 w_used_a0 .long n_w_used_a0 (fun ix => .long ((vR1_1 p3 n_a1 n_w_used_a0 f_a1 w_words_a0 f_w_used_a0) ix)) := V12
  have K12 := Keep.wr (Keep.refl h0 [w_used_a0]) W12 (Or.inl (List.mem_of_getElem? (i := 0) rfl))
  have Z12 : n0 ≤ h12.size := Nat.le_trans Z0 (Keep.of_wr W12).1
  refine g_iinc C (Ls' := #[.val (.ref a0), .val (.ref a1), .val (.int (1 : Int32)), .val (.int p3), .val (.long ((1 : Int64) <<< ((p3 % (64 : Int32)) &&& 0x3f).toInt64)), .second, .val (.int (1 : Int32))]) iR1_45 rfl rfl ?_
  refine g_goto C iR1_48 ?_
  refine g_iload C iR1_11 rfl ?_
  refine g_iloadN C iR1_13 rfl ?_
  refine g_icmp_ge C iR1_14 (fun q => absurd q (by decide)) (fun _ => ?_)
  exact g_retV C iR1_51 rfl (by decide) (by decide) ⟨rfl, K12, AV.congr Vw12 (fun _ _ => rfl)⟩
theorem iR0_0 : I1 prog_24_method_4_code 0 (.lconst 1) 1 1 := ⟨(by decide +kernel), rfl⟩
theorem iR0_1 : I1 prog_24_method_4_code 1 (.iload_n 3) 1 2 := ⟨(by decide +kernel), rfl⟩
theorem iR0_2 : I1 prog_24_method_4_code 2 (.bipush 64) 2 4 := ⟨(by decide +kernel), rfl⟩
theorem iR0_4 : I1 prog_24_method_4_code 4 (.irem) 1 5 := ⟨(by decide +kernel), rfl⟩
theorem iR0_5 : I1 prog_24_method_4_code 5 (.lshl) 1 6 := ⟨(by decide +kernel), rfl⟩
theorem iR0_6 : I1 prog_24_method_4_code 6 (.lstore 4) 2 8 := ⟨(by decide +kernel), rfl⟩
theorem iR0_8 : I1 prog_24_method_4_code 8 (.iconst 0) 1 9 := ⟨(by decide +kernel), rfl⟩
theorem iR0_9 : I1 prog_24_method_4_code 9 (.istore 6) 2 11 := ⟨(by decide +kernel), rfl⟩
theorem iR0_11 : I1 prog_24_method_4_code 11 (.iload 6) 2 13 := ⟨(by decide +kernel), rfl⟩
theorem iR0_13 : I1 prog_24_method_4_code 13 (.iload_n 2) 1 14 := ⟨(by decide +kernel), rfl⟩
theorem iR0_14 : B1 prog_24_method_4_code 14 (.if_icmp .ge 37) 37 51 17 := ⟨(by decide +kernel), rfl, by decide, by decide⟩
theorem iR0_51 : I1 prog_24_method_4_code 51 (.return_) 1 52 := ⟨(by decide +kernel), rfl⟩
theorem efR0 (m : MethodId) (a0 : Addr) (a1 : Addr) (p3 : Int32) : entryFrame m #[(.ref a0), (.ref a1), (.int (0 : Int32)), (.int p3)] 7 = mkF m 0 #[.val (.ref a0), .val (.ref a1), .val (.int (0 : Int32)), .val (.int p3), .unset, .unset, .unset] [] := by first | (simp [entryFrame, mkF, argsToLocals, Value.category]; done) | rfl
def QR0 (Z : State) (a0 : Addr) (a1 : Addr) (p3 : Int32) (h0 : Heap) (n0 : Nat) (v : Option Value) (h : Heap) : Prop := v = none ∧ h = h0
set_option maxRecDepth 65536 in
set_option maxHeartbeats 40000000 in
theorem rmR0 (l : Launch) (Z : State) (aZ : Array Value) (hw : ∀ d ∈ tables_1, d.before aZ Z = true) (a0 : Addr) (a1 : Addr) (p3 : Int32) (h0 : Heap) (n0 : Nat) (Z0 : n0 ≤ h0.size) :
    Ctr l Z (⟨"com/example/bandweave/bandweave/simulate/Fibres", "release", "([III)V"⟩ : MethodName) prog_24_method_4_code 7 none ({ frames := 0, cells := 0, slots := 0, locals := 0 } : Room) #[(.ref a0), (.ref a1), (.int (0 : Int32)), (.int p3)] h0 n0 (QR0 Z a0 a1 p3 h0 n0) := by
  refine Ctr.of_go pn4 (fun m => efR0 m a0 a1 p3) ?_
  intro p e s m below meth c hnm C
  refine g_lconst C (1 : Int64) iR0_0 rfl ?_
  refine g_iloadN C iR0_1 rfl ?_
  refine g_bipush C (64 : Int32) iR0_2 rfl ?_
  refine g_irem C iR0_4 (by decide) ?_
  refine g_lshl C iR0_5 ?_
  refine g_lstore C (Ls' := #[.val (.ref a0), .val (.ref a1), .val (.int (0 : Int32)), .val (.int p3), .val (.long ((1 : Int64) <<< ((p3 % (64 : Int32)) &&& 0x3f).toInt64)), .second, .unset]) iR0_6 rfl ?_
  refine g_iconst C (0 : Int32) iR0_8 rfl ?_
  refine g_istore C (Ls' := #[.val (.ref a0), .val (.ref a1), .val (.int (0 : Int32)), .val (.int p3), .val (.long ((1 : Int64) <<< ((p3 % (64 : Int32)) &&& 0x3f).toInt64)), .second, .val (.int (0 : Int32))]) iR0_9 rfl ?_
  refine g_iload C iR0_11 rfl ?_
  refine g_iloadN C iR0_13 rfl ?_
  refine g_icmp_ge C iR0_14 (fun q => absurd q (by decide)) (fun _ => ?_)
  exact g_retV C iR0_51 rfl (by decide) (by decide) ⟨rfl, rfl⟩
/-- what is free of a word, and the search, in plain numbers -/
def frF (use : Nat → Int64) (W : Nat) (lw : Int64) (wd : Nat) : Int64 := ((use wd) ^^^ (-1 : Int64)) &&& (if (wd.toInt32) = ((W.toInt32) - (1 : Int32)) then lw else (-1 : Int64))
def ffF (use : Nat → Int64) (W : Nat) (lw : Int64) : Nat → Nat → Int32
  | 0, _ => -1
  | k + 1, wd => if wd < W then (if frF use W lw wd = 0 then ffF use W lw k (wd + 1) else (((64 : Int32) * (wd.toInt32)) + (vZ1_0 (frF use W lw wd)))) else -1
theorem pd1 : parseMethodDescriptor "(J)I" = some ⟨[.long], some .int⟩ := by decide +kernel
theorem iF1_2 : I1 prog_24_method_2_code 2 (.iload_n 3) 1 3 := ⟨(by decide +kernel), rfl⟩
theorem iF1_3 : I1 prog_24_method_2_code 3 (.aload_n 0) 1 4 := ⟨(by decide +kernel), rfl⟩
theorem iF1_4 : I1 prog_24_method_2_code 4 (.getfield 7) 3 7 := ⟨(by decide +kernel), rfl⟩
theorem iF1_7 : B1 prog_24_method_2_code 7 (.if_icmp .ge 95) 95 102 10 := ⟨(by decide +kernel), rfl, by decide, by decide⟩
theorem iF1_10 : I1 prog_24_method_2_code 10 (.lconst 0) 1 11 := ⟨(by decide +kernel), rfl⟩
theorem iF1_11 : I1 prog_24_method_2_code 11 (.lstore 4) 2 13 := ⟨(by decide +kernel), rfl⟩
theorem iF1_13 : I1 prog_24_method_2_code 13 (.iconst 0) 1 14 := ⟨(by decide +kernel), rfl⟩
theorem iF1_14 : I1 prog_24_method_2_code 14 (.istore 6) 2 16 := ⟨(by decide +kernel), rfl⟩
theorem iF1_16 : I1 prog_24_method_2_code 16 (.iload 6) 2 18 := ⟨(by decide +kernel), rfl⟩
theorem iF1_18 : I1 prog_24_method_2_code 18 (.iload_n 2) 1 19 := ⟨(by decide +kernel), rfl⟩
theorem iF1_19 : B1 prog_24_method_2_code 19 (.if_icmp .ge 30) 30 49 22 := ⟨(by decide +kernel), rfl, by decide, by decide⟩
theorem iF1_22 : I1 prog_24_method_2_code 22 (.lload 4) 2 24 := ⟨(by decide +kernel), rfl⟩
theorem iF1_24 : I1 prog_24_method_2_code 24 (.aload_n 0) 1 25 := ⟨(by decide +kernel), rfl⟩
theorem iF1_25 : I1 prog_24_method_2_code 25 (.getfield 13) 3 28 := ⟨(by decide +kernel), rfl⟩
theorem iF1_28 : I1 prog_24_method_2_code 28 (.aload_n 1) 1 29 := ⟨(by decide +kernel), rfl⟩
theorem iF1_29 : I1 prog_24_method_2_code 29 (.iload 6) 2 31 := ⟨(by decide +kernel), rfl⟩
theorem iF1_31 : I1 prog_24_method_2_code 31 (.iaload) 1 32 := ⟨(by decide +kernel), rfl⟩
theorem iF1_32 : I1 prog_24_method_2_code 32 (.aload_n 0) 1 33 := ⟨(by decide +kernel), rfl⟩
theorem iF1_33 : I1 prog_24_method_2_code 33 (.getfield 7) 3 36 := ⟨(by decide +kernel), rfl⟩
theorem iF1_36 : I1 prog_24_method_2_code 36 (.imul) 1 37 := ⟨(by decide +kernel), rfl⟩
theorem iF1_37 : I1 prog_24_method_2_code 37 (.iload_n 3) 1 38 := ⟨(by decide +kernel), rfl⟩
theorem iF1_38 : I1 prog_24_method_2_code 38 (.iadd) 1 39 := ⟨(by decide +kernel), rfl⟩
theorem iF1_39 : I1 prog_24_method_2_code 39 (.laload) 1 40 := ⟨(by decide +kernel), rfl⟩
theorem iF1_40 : I1 prog_24_method_2_code 40 (.lor) 1 41 := ⟨(by decide +kernel), rfl⟩
theorem iF1_41 : I1 prog_24_method_2_code 41 (.lstore 4) 2 43 := ⟨(by decide +kernel), rfl⟩
theorem iF1_43 : I1 prog_24_method_2_code 43 (.iinc 6 1) 3 46 := ⟨(by decide +kernel), rfl⟩
theorem iF1_46 : B1 prog_24_method_2_code 46 (.goto (-30)) (-30) 16 49 := ⟨(by decide +kernel), rfl, by decide, by decide⟩
theorem iF1_49 : I1 prog_24_method_2_code 49 (.lload 4) 2 51 := ⟨(by decide +kernel), rfl⟩
theorem iF1_51 : I1 prog_24_method_2_code 51 (.ldc2_w 17) 3 54 := ⟨(by decide +kernel), rfl⟩
theorem iF1_54 : I1 prog_24_method_2_code 54 (.lxor) 1 55 := ⟨(by decide +kernel), rfl⟩
theorem iF1_55 : I1 prog_24_method_2_code 55 (.iload_n 3) 1 56 := ⟨(by decide +kernel), rfl⟩
theorem iF1_56 : I1 prog_24_method_2_code 56 (.aload_n 0) 1 57 := ⟨(by decide +kernel), rfl⟩
theorem iF1_57 : I1 prog_24_method_2_code 57 (.getfield 7) 3 60 := ⟨(by decide +kernel), rfl⟩
theorem iF1_60 : I1 prog_24_method_2_code 60 (.iconst 1) 1 61 := ⟨(by decide +kernel), rfl⟩
theorem iF1_61 : I1 prog_24_method_2_code 61 (.isub) 1 62 := ⟨(by decide +kernel), rfl⟩
theorem iF1_62 : B1 prog_24_method_2_code 62 (.if_icmp .ne 10) 10 72 65 := ⟨(by decide +kernel), rfl, by decide, by decide⟩
theorem iF1_65 : I1 prog_24_method_2_code 65 (.aload_n 0) 1 66 := ⟨(by decide +kernel), rfl⟩
theorem iF1_66 : I1 prog_24_method_2_code 66 (.getfield 19) 3 69 := ⟨(by decide +kernel), rfl⟩
theorem iF1_69 : B1 prog_24_method_2_code 69 (.goto 6) 6 75 72 := ⟨(by decide +kernel), rfl, by decide, by decide⟩
theorem iF1_72 : I1 prog_24_method_2_code 72 (.ldc2_w 17) 3 75 := ⟨(by decide +kernel), rfl⟩
theorem iF1_75 : I1 prog_24_method_2_code 75 (.land) 1 76 := ⟨(by decide +kernel), rfl⟩
theorem iF1_76 : I1 prog_24_method_2_code 76 (.lstore 6) 2 78 := ⟨(by decide +kernel), rfl⟩
theorem iF1_78 : I1 prog_24_method_2_code 78 (.lload 6) 2 80 := ⟨(by decide +kernel), rfl⟩
theorem iF1_80 : I1 prog_24_method_2_code 80 (.lconst 0) 1 81 := ⟨(by decide +kernel), rfl⟩
theorem iF1_81 : I1 prog_24_method_2_code 81 (.lcmp) 1 82 := ⟨(by decide +kernel), rfl⟩
theorem iF1_82 : B1 prog_24_method_2_code 82 (.ifCond .eq 14) 14 96 85 := ⟨(by decide +kernel), rfl, by decide, by decide⟩
theorem iF1_85 : I1 prog_24_method_2_code 85 (.bipush 64) 2 87 := ⟨(by decide +kernel), rfl⟩
theorem iF1_87 : I1 prog_24_method_2_code 87 (.iload_n 3) 1 88 := ⟨(by decide +kernel), rfl⟩
theorem iF1_88 : I1 prog_24_method_2_code 88 (.imul) 1 89 := ⟨(by decide +kernel), rfl⟩
theorem iF1_89 : I1 prog_24_method_2_code 89 (.lload 6) 2 91 := ⟨(by decide +kernel), rfl⟩
theorem iF1_91 : I1 prog_24_method_2_code 91 (.invokestatic 23) 3 94 := ⟨(by decide +kernel), rfl⟩
theorem iF1_94 : I1 prog_24_method_2_code 94 (.iadd) 1 95 := ⟨(by decide +kernel), rfl⟩
theorem iF1_95 : I1 prog_24_method_2_code 95 (.ireturn) 1 96 := ⟨(by decide +kernel), rfl⟩
theorem iF1_96 : I1 prog_24_method_2_code 96 (.iinc 3 1) 3 99 := ⟨(by decide +kernel), rfl⟩
theorem iF1_99 : B1 prog_24_method_2_code 99 (.goto (-97)) (-97) 2 102 := ⟨(by decide +kernel), rfl, by decide, by decide⟩
theorem iF1_102 : I1 prog_24_method_2_code 102 (.iconst (-1)) 1 103 := ⟨(by decide +kernel), rfl⟩
theorem iF1_103 : I1 prog_24_method_2_code 103 (.ireturn) 1 104 := ⟨(by decide +kernel), rfl⟩
set_option maxRecDepth 65536 in
set_option maxHeartbeats 40000000 in
theorem loopF1 (l : Launch) (Z : State) (aZ : Array Value) (hw : ∀ d ∈ tables_1, d.before aZ Z = true) (a0 a1 : Addr) (W : Nat) (lw : Int64) (us : Addr) (nu : Nat) (u : Nat → Int64) (n1 : Nat) (g : Nat → Int32) (h0 : Heap) (n0 : Nat) (Z0 : n0 ≤ h0.size) (F_w : Fld Z h0 a0 "com/example/bandweave/bandweave/simulate/Fibres" "words" "I" (.int (W.toInt32))) (F_u : Fld Z h0 a0 "com/example/bandweave/bandweave/simulate/Fibres" "used" "[J" (.ref us)) (F_l : Fld Z h0 a0 "com/example/bandweave/bandweave/simulate/Fibres" "lastWord" "J" (.long lw)) (V_u : AV Z h0 us .long nu (fun ix => .long (u ix))) (V_a1 : AV Z h0 a1 .int n1 (fun ix => .int (g ix))) (hW : 1 ≤ W ∧ W ≤ 4) (hn : 1 ≤ n1) (hin : ∀ i : Nat, i < 1 → ∀ wd : Nat, wd < W → Inb (((g i) * (W.toInt32)) + (wd.toInt32)) nu) {p : Program} {e : Env} {s : State} {m : MethodId} {below : List Frame} {meth : Method} {c : Code} (C : Cx p s m meth c Z prog_24_method_2_code 8 "com/example/bandweave/bandweave/simulate/Fibres" (some .int)) :
    ∀ (k wd : Nat) (i4 i6 : Int64), W - wd < k → wd ≤ W → Go p l e ({ frames := 2, cells := 0, slots := 0, locals := 29 } : Room) s m #[(.ref a0), (.ref a1), (.int (1 : Int32))] below meth c n0 0 0 (fun v h => v = some (.int (ffF (fun wd => ((0 : Int64) ||| (u ((((g 0) * (W.toInt32)) + (wd.toInt32))).toNatClampNeg))) W lw k wd)) ∧ h = h0) h0 0 0 (mkF m 2 #[.val (.ref a0), .val (.ref a1), .val (.int (1 : Int32)), .val (.int (wd.toInt32)), .val (.long i4), .second, .val (.long i6), .second] []) := by
  intro k
  induction k with
  | zero => intro wd i4 i6 hk; exact absurd hk (Nat.not_lt_zero _)
  | succ k ih =>
    intro wd i4 i6 hk hwd
    refine g_iloadN C iF1_2 rfl ?_
    refine g_aloadN C iF1_3 rfl rfl ?_
    refine g_getF C iF1_4 (host := "") (Or.inl (hw _ (List.mem_of_getElem? (i := 15) rfl))) Via.refl F_w ?_
    refine g_icmp_ge C iF1_7 (fun hc7_1 => ?_) (fun hc7_1 => ?_)
    · refine g_lconst C (0 : Int64) iF1_10 rfl ?_
      refine g_lstore C (Ls' := #[.val (.ref a0), .val (.ref a1), .val (.int (1 : Int32)), .val (.int (wd.toInt32)), .val (.long (0 : Int64)), .second, .val (.long i6), .second]) iF1_11 rfl ?_
      refine g_iconst C (0 : Int32) iF1_13 rfl ?_
      refine g_istore C (Ls' := #[.val (.ref a0), .val (.ref a1), .val (.int (1 : Int32)), .val (.int (wd.toInt32)), .val (.long (0 : Int64)), .second, .val (.int (0 : Int32)), .unset]) iF1_14 rfl ?_
      refine g_iload C iF1_16 rfl ?_
      refine g_iloadN C iF1_18 rfl ?_
      refine g_icmp_ge C iF1_19 (fun _ => ?_) (fun q => absurd (by decide) q)
      refine g_lload C iF1_22 rfl ?_
      refine g_aloadN C iF1_24 rfl rfl ?_
      refine g_getF C iF1_25 (host := "") (Or.inl (hw _ (List.mem_of_getElem? (i := 18) rfl))) Via.refl F_u ?_
      refine g_aloadN C iF1_28 rfl rfl ?_
      refine g_iload C iF1_29 rfl ?_
      refine g_iald C (.int (g 0)) iF1_31 V_a1 ⟨by decide, Nat.lt_of_lt_of_le (by decide) hn⟩ rfl ?_
      refine g_aloadN C iF1_32 rfl rfl ?_
      refine g_getF C iF1_33 (host := "") (Or.inl (hw _ (List.mem_of_getElem? (i := 15) rfl))) Via.refl F_w ?_
      refine g_imul C iF1_36 ?_
      refine g_iloadN C iF1_37 rfl ?_
      refine g_iadd C iF1_38 ?_
      refine g_lald C (.long (u ((((g 0) * (W.toInt32)) + (wd.toInt32))).toNatClampNeg)) iF1_39 V_u (hin 0 (by decide) wd ((own_lt (i := wd) (n := W) (by omega) (by omega)).mp hc7_1)) rfl ?_
      refine g_lor C iF1_40 ?_
      refine g_lstore C (Ls' := #[.val (.ref a0), .val (.ref a1), .val (.int (1 : Int32)), .val (.int (wd.toInt32)), .val (.long ((0 : Int64) ||| (u ((((g 0) * (W.toInt32)) + (wd.toInt32))).toNatClampNeg))), .second, .val (.int (0 : Int32)), .unset]) iF1_41 rfl ?_
      refine g_iinc C (Ls' := #[.val (.ref a0), .val (.ref a1), .val (.int (1 : Int32)), .val (.int (wd.toInt32)), .val (.long ((0 : Int64) ||| (u ((((g 0) * (W.toInt32)) + (wd.toInt32))).toNatClampNeg))), .second, .val (.int (1 : Int32)), .unset]) iF1_43 rfl rfl ?_
      refine g_goto C iF1_46 ?_
      refine g_iload C iF1_16 rfl ?_
      refine g_iloadN C iF1_18 rfl ?_
      refine g_icmp_ge C iF1_19 (fun q => absurd q (by decide)) (fun _ => ?_)
      refine g_lload C iF1_49 rfl ?_
      refine g_ldc2Long C iF1_51 (hw _ (List.mem_of_getElem? (i := 32) rfl)) ?_
      refine g_lxor C iF1_54 ?_
      refine g_iloadN C iF1_55 rfl ?_
      refine g_aloadN C iF1_56 rfl rfl ?_
      refine g_getF C iF1_57 (host := "") (Or.inl (hw _ (List.mem_of_getElem? (i := 15) rfl))) Via.refl F_w ?_
      refine g_iconst C (1 : Int32) iF1_60 rfl ?_
      refine g_isub C iF1_61 ?_
      refine Go.join (mkF m 75 #[.val (.ref a0), .val (.ref a1), .val (.int (1 : Int32)), .val (.int (wd.toInt32)), .val (.long ((0 : Int64) ||| (u ((((g 0) * (W.toInt32)) + (wd.toInt32))).toNatClampNeg))), .second, .val (.int (1 : Int32)), .unset] [(.long (if (wd.toInt32) = ((W.toInt32) - (1 : Int32)) then lw else (-1 : Int64))), (.long (((0 : Int64) ||| (u ((((g 0) * (W.toInt32)) + (wd.toInt32))).toNatClampNeg)) ^^^ (-1 : Int64)))]) ?_ (fun J => ?_)
      · refine g_land C iF1_75 ?_
        refine g_lstore C (Ls' := #[.val (.ref a0), .val (.ref a1), .val (.int (1 : Int32)), .val (.int (wd.toInt32)), .val (.long ((0 : Int64) ||| (u ((((g 0) * (W.toInt32)) + (wd.toInt32))).toNatClampNeg))), .second, .val (.long ((((0 : Int64) ||| (u ((((g 0) * (W.toInt32)) + (wd.toInt32))).toNatClampNeg)) ^^^ (-1 : Int64)) &&& (if (wd.toInt32) = ((W.toInt32) - (1 : Int32)) then lw else (-1 : Int64)))), .second]) iF1_76 rfl ?_
        refine g_lload C iF1_78 rfl ?_
        refine g_lconst C (0 : Int64) iF1_80 rfl ?_
        refine g_lcmp C iF1_81 ?_
        refine g_ifl_eq C iF1_82 (fun hc82_1 => ?_) (fun hc82_1 => ?_)
        · refine g_iinc C (Ls' := #[.val (.ref a0), .val (.ref a1), .val (.int (1 : Int32)), .val (.int ((wd.toInt32) + (1 : Int32))), .val (.long ((0 : Int64) ||| (u ((((g 0) * (W.toInt32)) + (wd.toInt32))).toNatClampNeg))), .second, .val (.long ((((0 : Int64) ||| (u ((((g 0) * (W.toInt32)) + (wd.toInt32))).toNatClampNeg)) ^^^ (-1 : Int64)) &&& (if (wd.toInt32) = ((W.toInt32) - (1 : Int32)) then lw else (-1 : Int64)))), .second]) iF1_96 rfl rfl ?_
          refine g_goto C iF1_99 ?_
          have hI := (own_lt (i := wd) (n := W) (by omega) (by omega)).mp hc7_1
          have hf : frF (fun wd => ((0 : Int64) ||| (u ((((g 0) * (W.toInt32)) + (wd.toInt32))).toNatClampNeg))) W lw wd = 0 := hc82_1
          have e : ffF (fun wd => ((0 : Int64) ||| (u ((((g 0) * (W.toInt32)) + (wd.toInt32))).toNatClampNeg))) W lw (k + 1) wd = ffF (fun wd => ((0 : Int64) ||| (u ((((g 0) * (W.toInt32)) + (wd.toInt32))).toNatClampNeg))) W lw k (wd + 1) := by simp only [ffF, if_pos hI, if_pos hf]
          rw [e]
          exact Go.cast (ih (wd + 1) _ _ (by omega) (by omega)) (by rw [own_succ (i := wd) (by omega)])
        · refine g_bipush C (64 : Int32) iF1_85 rfl ?_
          refine g_iloadN C iF1_87 rfl ?_
          refine g_imul C iF1_88 ?_
          refine g_lload C iF1_89 rfl ?_
          refine g_callS C (rmZ1 l Z aZ hw ((((0 : Int64) ||| (u ((((g 0) * (W.toInt32)) + (wd.toInt32))).toNatClampNeg)) ^^^ (-1 : Int64)) &&& (if (wd.toInt32) = ((W.toInt32) - (1 : Int32)) then lw else (-1 : Int64))) h0 n0 Z0) iF1_91 (hw _ (List.mem_of_getElem? (i := 38) rfl)) (hw _ (List.mem_of_getElem? (i := 39) rfl)) (hw _ (List.mem_of_getElem? (i := 40) rfl)) (hw _ (List.mem_of_getElem? (i := 41) rfl)) (by decide) (argsL := [(.long ((((0 : Int64) ||| (u ((((g 0) * (W.toInt32)) + (wd.toInt32))).toNatClampNeg)) ^^^ (-1 : Int64)) &&& (if (wd.toInt32) = ((W.toInt32) - (1 : Int32)) then lw else (-1 : Int64))))]) (rest := [(.int ((64 : Int32) * (wd.toInt32)))]) rfl rfl pd1 rfl rfl 1 (Nat.le_of_eq rfl) (by decide) (by decide) (by decide) (by decide) rfl rfl ?_
          rintro _ _ ⟨rfl, he13⟩
          refine Go.heap he13.symm ?_
          refine Go.some' ?_
          refine g_iadd C iF1_94 ?_
          have hI := (own_lt (i := wd) (n := W) (by omega) (by omega)).mp hc7_1
          have hf : ¬ (frF (fun wd => ((0 : Int64) ||| (u ((((g 0) * (W.toInt32)) + (wd.toInt32))).toNatClampNeg))) W lw wd = 0) := hc82_1
          have e : ffF (fun wd => ((0 : Int64) ||| (u ((((g 0) * (W.toInt32)) + (wd.toInt32))).toNatClampNeg))) W lw (k + 1) wd = (((64 : Int32) * ((wd : Nat).toInt32)) + (vZ1_0 (frF (fun wd => ((0 : Int64) ||| (u ((((g 0) * (W.toInt32)) + (wd.toInt32))).toNatClampNeg))) W lw wd))) := by simp only [ffF, if_pos hI, if_neg hf]
          rw [e]
          exact g_retInt C iF1_95 rfl (by decide) (by decide) ⟨rfl, rfl⟩
      · refine g_icmp_ne C iF1_62 (fun hc62_1 => ?_) (fun hc62_1 => ?_)
        · refine g_aloadN C iF1_65 rfl rfl ?_
          refine g_getF C iF1_66 (host := "") (Or.inl (hw _ (List.mem_of_getElem? (i := 20) rfl))) Via.refl F_l ?_
          refine g_goto C iF1_69 ?_
          have e0 : (if (wd.toInt32) = ((W.toInt32) - (1 : Int32)) then lw else (-1 : Int64)) = lw := by simp only [if_pos hc62_1]
          exact Go.cast J (by rw [e0])
        · refine g_ldc2Long C iF1_72 (hw _ (List.mem_of_getElem? (i := 32) rfl)) ?_
          have e0 : (if (wd.toInt32) = ((W.toInt32) - (1 : Int32)) then lw else (-1 : Int64)) = (-1 : Int64) := by simp only [if_neg hc62_1]
          exact Go.cast J (by rw [e0])
    · refine g_iconst C (-1 : Int32) iF1_102 rfl ?_
      have hI : ¬ wd < W := fun q => hc7_1 ((own_lt (by omega) (by omega)).mpr q)
      have e : ffF (fun wd => ((0 : Int64) ||| (u ((((g 0) * (W.toInt32)) + (wd.toInt32))).toNatClampNeg))) W lw (k + 1) wd = -1 := by simp only [ffF, if_neg hI]
      rw [e]
      exact g_retInt C iF1_103 rfl (by decide) (by decide) ⟨rfl, rfl⟩
theorem iF1_0 : I1 prog_24_method_2_code 0 (.iconst 0) 1 1 := ⟨(by decide +kernel), rfl⟩
theorem iF1_1 : I1 prog_24_method_2_code 1 (.istore_n 3) 1 2 := ⟨(by decide +kernel), rfl⟩
theorem pn5 : plainFor (⟨"com/example/bandweave/bandweave/simulate/Fibres", "firstFree", "([II)I"⟩ : MethodName) = true := by decide +kernel
def QF1 (Z : State) (a0 a1 : Addr) (wo : Int32) (lw : Int64) (us : Addr) (nu : Nat) (u : Nat → Int64) (n1 : Nat) (g : Nat → Int32) (h0 : Heap) (n0 : Nat) (v : Option Value) (h : Heap) : Prop := v = some (.int (ffF (fun wd => ((0 : Int64) ||| (u ((((g 0) * wo) + (wd.toInt32))).toNatClampNeg))) wo.toNatClampNeg lw (wo.toNatClampNeg + 1) 0)) ∧ h = h0
theorem efF1 (m : MethodId) (a0 a1 : Addr) : entryFrame m #[(.ref a0), (.ref a1), (.int (1 : Int32))] 8 = mkF m 0 #[.val (.ref a0), .val (.ref a1), .val (.int (1 : Int32)), .unset, .unset, .unset, .unset, .unset] [] := by first | (simp [entryFrame, mkF, argsToLocals, Value.category]; done) | rfl
set_option maxRecDepth 65536 in
set_option maxHeartbeats 40000000 in
theorem rmF1 (l : Launch) (Z : State) (aZ : Array Value) (hw : ∀ d ∈ tables_1, d.before aZ Z = true) (a0 a1 : Addr) (wo : Int32) (lw : Int64) (us : Addr) (nu : Nat) (u : Nat → Int64) (n1 : Nat) (g : Nat → Int32) (h0 : Heap) (n0 : Nat) (Z0 : n0 ≤ h0.size) (F_w : Fld Z h0 a0 "com/example/bandweave/bandweave/simulate/Fibres" "words" "I" (.int wo)) (F_u : Fld Z h0 a0 "com/example/bandweave/bandweave/simulate/Fibres" "used" "[J" (.ref us)) (F_l : Fld Z h0 a0 "com/example/bandweave/bandweave/simulate/Fibres" "lastWord" "J" (.long lw)) (V_u : AV Z h0 us .long nu (fun ix => .long (u ix))) (V_a1 : AV Z h0 a1 .int n1 (fun ix => .int (g ix)))
    (hwo : 1 ≤ wo.toInt ∧ wo.toInt ≤ 4) (hn : 1 ≤ n1) (hin : ∀ i : Nat, i < 1 → ∀ wd : Nat, wd < wo.toNatClampNeg → Inb (((g i) * wo) + (wd.toInt32)) nu) :
    Ctr l Z (⟨"com/example/bandweave/bandweave/simulate/Fibres", "firstFree", "([II)I"⟩ : MethodName) prog_24_method_2_code 8 (some .int) ({ frames := 2, cells := 0, slots := 0, locals := 29 } : Room) #[(.ref a0), (.ref a1), (.int (1 : Int32))] h0 n0 (QF1 Z a0 a1 wo lw us nu u n1 g h0 n0) := by
  refine Ctr.of_go pn5 (fun m => efF1 m a0 a1) ?_
  intro p e s m below meth c hnm C
  have eW : wo = wo.toNatClampNeg.toInt32 := (back32 (by rw [Int32.lt_iff_toInt_lt]; have e0 : (0 : Int32).toInt = 0 := rfl; omega)).1.symm
  have hW : 1 ≤ wo.toNatClampNeg ∧ wo.toNatClampNeg ≤ 4 := by simp only [Int32.toNatClampNeg]; omega
  unfold QF1
  generalize wo.toNatClampNeg = W at eW hW hin ⊢
  subst eW
  have hI0 : 0 < W := by omega
  have hI32 : (0 : Int32) < W.toInt32 := (own_lt (i := 0) (n := W) (by omega) (by omega)).mpr hI0
  obtain ⟨k, hk⟩ : ∃ k, k = W := ⟨_, rfl⟩
  rw [show W + 1 = k + 1 by omega]
  refine g_iconst C (0 : Int32) iF1_0 rfl ?_
  refine g_istoreN C (Ls' := #[.val (.ref a0), .val (.ref a1), .val (.int (1 : Int32)), .val (.int (0 : Int32)), .unset, .unset, .unset, .unset]) iF1_1 rfl ?_
  refine g_iloadN C iF1_2 rfl ?_
  refine g_aloadN C iF1_3 rfl rfl ?_
  refine g_getF C iF1_4 (host := "") (Or.inl (hw _ (List.mem_of_getElem? (i := 15) rfl))) Via.refl F_w ?_
  refine g_icmp_ge C iF1_7 (fun _ => ?_) (fun q => absurd hI32 q)
  refine g_lconst C (0 : Int64) iF1_10 rfl ?_
  refine g_lstore C (Ls' := #[.val (.ref a0), .val (.ref a1), .val (.int (1 : Int32)), .val (.int (0 : Int32)), .val (.long (0 : Int64)), .second, .unset, .unset]) iF1_11 rfl ?_
  refine g_iconst C (0 : Int32) iF1_13 rfl ?_
  refine g_istore C (Ls' := #[.val (.ref a0), .val (.ref a1), .val (.int (1 : Int32)), .val (.int (0 : Int32)), .val (.long (0 : Int64)), .second, .val (.int (0 : Int32)), .unset]) iF1_14 rfl ?_
  refine g_iload C iF1_16 rfl ?_
  refine g_iloadN C iF1_18 rfl ?_
  refine g_icmp_ge C iF1_19 (fun _ => ?_) (fun q => absurd (by decide) q)
  refine g_lload C iF1_22 rfl ?_
  refine g_aloadN C iF1_24 rfl rfl ?_
  refine g_getF C iF1_25 (host := "") (Or.inl (hw _ (List.mem_of_getElem? (i := 18) rfl))) Via.refl F_u ?_
  refine g_aloadN C iF1_28 rfl rfl ?_
  refine g_iload C iF1_29 rfl ?_
  refine g_iald C (.int (g 0)) iF1_31 V_a1 ⟨by decide, Nat.lt_of_lt_of_le (by decide) hn⟩ rfl ?_
  refine g_aloadN C iF1_32 rfl rfl ?_
  refine g_getF C iF1_33 (host := "") (Or.inl (hw _ (List.mem_of_getElem? (i := 15) rfl))) Via.refl F_w ?_
  refine g_imul C iF1_36 ?_
  refine g_iloadN C iF1_37 rfl ?_
  refine g_iadd C iF1_38 ?_
  refine g_lald C (.long (u ((((g 0) * (W.toInt32)) + (0 : Int32))).toNatClampNeg)) iF1_39 V_u (hin 0 (by decide) 0 hI0) rfl ?_
  refine g_lor C iF1_40 ?_
  refine g_lstore C (Ls' := #[.val (.ref a0), .val (.ref a1), .val (.int (1 : Int32)), .val (.int (0 : Int32)), .val (.long ((0 : Int64) ||| (u ((((g 0) * (W.toInt32)) + (0 : Int32))).toNatClampNeg))), .second, .val (.int (0 : Int32)), .unset]) iF1_41 rfl ?_
  refine g_iinc C (Ls' := #[.val (.ref a0), .val (.ref a1), .val (.int (1 : Int32)), .val (.int (0 : Int32)), .val (.long ((0 : Int64) ||| (u ((((g 0) * (W.toInt32)) + (0 : Int32))).toNatClampNeg))), .second, .val (.int (1 : Int32)), .unset]) iF1_43 rfl rfl ?_
  refine g_goto C iF1_46 ?_
  refine g_iload C iF1_16 rfl ?_
  refine g_iloadN C iF1_18 rfl ?_
  refine g_icmp_ge C iF1_19 (fun q => absurd q (by decide)) (fun _ => ?_)
  refine g_lload C iF1_49 rfl ?_
  refine g_ldc2Long C iF1_51 (hw _ (List.mem_of_getElem? (i := 32) rfl)) ?_
  refine g_lxor C iF1_54 ?_
  refine g_iloadN C iF1_55 rfl ?_
  refine g_aloadN C iF1_56 rfl rfl ?_
  refine g_getF C iF1_57 (host := "") (Or.inl (hw _ (List.mem_of_getElem? (i := 15) rfl))) Via.refl F_w ?_
  refine g_iconst C (1 : Int32) iF1_60 rfl ?_
  refine g_isub C iF1_61 ?_
  refine Go.join (mkF m 75 #[.val (.ref a0), .val (.ref a1), .val (.int (1 : Int32)), .val (.int (0 : Int32)), .val (.long ((0 : Int64) ||| (u ((((g 0) * (W.toInt32)) + (0 : Int32))).toNatClampNeg))), .second, .val (.int (1 : Int32)), .unset] [(.long (if (0 : Int32) = ((W.toInt32) - (1 : Int32)) then lw else (-1 : Int64))), (.long (((0 : Int64) ||| (u ((((g 0) * (W.toInt32)) + (0 : Int32))).toNatClampNeg)) ^^^ (-1 : Int64)))]) ?_ (fun J => ?_)
  · refine g_land C iF1_75 ?_
    refine g_lstore C (Ls' := #[.val (.ref a0), .val (.ref a1), .val (.int (1 : Int32)), .val (.int (0 : Int32)), .val (.long ((0 : Int64) ||| (u ((((g 0) * (W.toInt32)) + (0 : Int32))).toNatClampNeg))), .second, .val (.long ((((0 : Int64) ||| (u ((((g 0) * (W.toInt32)) + (0 : Int32))).toNatClampNeg)) ^^^ (-1 : Int64)) &&& (if (0 : Int32) = ((W.toInt32) - (1 : Int32)) then lw else (-1 : Int64)))), .second]) iF1_76 rfl ?_
    refine g_lload C iF1_78 rfl ?_
    refine g_lconst C (0 : Int64) iF1_80 rfl ?_
    refine g_lcmp C iF1_81 ?_
    refine g_ifl_eq C iF1_82 (fun hc82_1 => ?_) (fun hc82_1 => ?_)
    · refine g_iinc C (Ls' := #[.val (.ref a0), .val (.ref a1), .val (.int (1 : Int32)), .val (.int (1 : Int32)), .val (.long ((0 : Int64) ||| (u ((((g 0) * (W.toInt32)) + (0 : Int32))).toNatClampNeg))), .second, .val (.long ((((0 : Int64) ||| (u ((((g 0) * (W.toInt32)) + (0 : Int32))).toNatClampNeg)) ^^^ (-1 : Int64)) &&& (if (0 : Int32) = ((W.toInt32) - (1 : Int32)) then lw else (-1 : Int64)))), .second]) iF1_96 rfl rfl ?_
      refine g_goto C iF1_99 ?_
      have hI := hI0
      have hf : frF (fun wd => ((0 : Int64) ||| (u ((((g 0) * (W.toInt32)) + (wd.toInt32))).toNatClampNeg))) W lw 0 = 0 := hc82_1
      have e : ffF (fun wd => ((0 : Int64) ||| (u ((((g 0) * (W.toInt32)) + (wd.toInt32))).toNatClampNeg))) W lw (k + 1) 0 = ffF (fun wd => ((0 : Int64) ||| (u ((((g 0) * (W.toInt32)) + (wd.toInt32))).toNatClampNeg))) W lw k (0 + 1) := by simp only [ffF, if_pos hI, if_pos hf]
      rw [e]
      exact Go.cast (loopF1 l Z aZ hw a0 a1 W lw us nu u n1 g h0 n0 Z0 F_w F_u F_l V_u V_a1 hW hn hin C k (0 + 1) _ _ (by omega) (by omega)) rfl
    · refine g_bipush C (64 : Int32) iF1_85 rfl ?_
      refine g_iloadN C iF1_87 rfl ?_
      refine g_imul C iF1_88 ?_
      refine g_lload C iF1_89 rfl ?_
      refine g_callS C (rmZ1 l Z aZ hw ((((0 : Int64) ||| (u ((((g 0) * (W.toInt32)) + (0 : Int32))).toNatClampNeg)) ^^^ (-1 : Int64)) &&& (if (0 : Int32) = ((W.toInt32) - (1 : Int32)) then lw else (-1 : Int64))) h0 n0 Z0) iF1_91 (hw _ (List.mem_of_getElem? (i := 38) rfl)) (hw _ (List.mem_of_getElem? (i := 39) rfl)) (hw _ (List.mem_of_getElem? (i := 40) rfl)) (hw _ (List.mem_of_getElem? (i := 41) rfl)) (by decide) (argsL := [(.long ((((0 : Int64) ||| (u ((((g 0) * (W.toInt32)) + (0 : Int32))).toNatClampNeg)) ^^^ (-1 : Int64)) &&& (if (0 : Int32) = ((W.toInt32) - (1 : Int32)) then lw else (-1 : Int64))))]) (rest := [(.int (0 : Int32))]) rfl rfl pd1 rfl rfl 1 (Nat.le_of_eq rfl) (by decide) (by decide) (by decide) (by decide) rfl rfl ?_
      rintro _ _ ⟨rfl, he14⟩
      refine Go.heap he14.symm ?_
      refine Go.some' ?_
      refine g_iadd C iF1_94 ?_
      have hI := hI0
      have hf : ¬ (frF (fun wd => ((0 : Int64) ||| (u ((((g 0) * (W.toInt32)) + (wd.toInt32))).toNatClampNeg))) W lw 0 = 0) := hc82_1
      have e : ffF (fun wd => ((0 : Int64) ||| (u ((((g 0) * (W.toInt32)) + (wd.toInt32))).toNatClampNeg))) W lw (k + 1) 0 = (((64 : Int32) * ((0 : Nat).toInt32)) + (vZ1_0 (frF (fun wd => ((0 : Int64) ||| (u ((((g 0) * (W.toInt32)) + (wd.toInt32))).toNatClampNeg))) W lw 0))) := by simp only [ffF, if_pos hI, if_neg hf]
      rw [e]
      exact g_retInt C iF1_95 rfl (by decide) (by decide) ⟨rfl, rfl⟩
  · refine g_icmp_ne C iF1_62 (fun hc62_1 => ?_) (fun hc62_1 => ?_)
    · refine g_aloadN C iF1_65 rfl rfl ?_
      refine g_getF C iF1_66 (host := "") (Or.inl (hw _ (List.mem_of_getElem? (i := 20) rfl))) Via.refl F_l ?_
      refine g_goto C iF1_69 ?_
      have e0 : (if (0 : Int32) = ((W.toInt32) - (1 : Int32)) then lw else (-1 : Int64)) = lw := by simp only [if_pos hc62_1]
      exact Go.cast J (by rw [e0])
    · refine g_ldc2Long C iF1_72 (hw _ (List.mem_of_getElem? (i := 32) rfl)) ?_
      have e0 : (if (0 : Int32) = ((W.toInt32) - (1 : Int32)) then lw else (-1 : Int64)) = (-1 : Int64) := by simp only [if_neg hc62_1]
      exact Go.cast J (by rw [e0])
theorem iF2_2 : I1 prog_24_method_2_code 2 (.iload_n 3) 1 3 := ⟨(by decide +kernel), rfl⟩
theorem iF2_3 : I1 prog_24_method_2_code 3 (.aload_n 0) 1 4 := ⟨(by decide +kernel), rfl⟩
theorem iF2_4 : I1 prog_24_method_2_code 4 (.getfield 7) 3 7 := ⟨(by decide +kernel), rfl⟩
theorem iF2_7 : B1 prog_24_method_2_code 7 (.if_icmp .ge 95) 95 102 10 := ⟨(by decide +kernel), rfl, by decide, by decide⟩
theorem iF2_10 : I1 prog_24_method_2_code 10 (.lconst 0) 1 11 := ⟨(by decide +kernel), rfl⟩
theorem iF2_11 : I1 prog_24_method_2_code 11 (.lstore 4) 2 13 := ⟨(by decide +kernel), rfl⟩
theorem iF2_13 : I1 prog_24_method_2_code 13 (.iconst 0) 1 14 := ⟨(by decide +kernel), rfl⟩
theorem iF2_14 : I1 prog_24_method_2_code 14 (.istore 6) 2 16 := ⟨(by decide +kernel), rfl⟩
theorem iF2_16 : I1 prog_24_method_2_code 16 (.iload 6) 2 18 := ⟨(by decide +kernel), rfl⟩
theorem iF2_18 : I1 prog_24_method_2_code 18 (.iload_n 2) 1 19 := ⟨(by decide +kernel), rfl⟩
theorem iF2_19 : B1 prog_24_method_2_code 19 (.if_icmp .ge 30) 30 49 22 := ⟨(by decide +kernel), rfl, by decide, by decide⟩
theorem iF2_22 : I1 prog_24_method_2_code 22 (.lload 4) 2 24 := ⟨(by decide +kernel), rfl⟩
theorem iF2_24 : I1 prog_24_method_2_code 24 (.aload_n 0) 1 25 := ⟨(by decide +kernel), rfl⟩
theorem iF2_25 : I1 prog_24_method_2_code 25 (.getfield 13) 3 28 := ⟨(by decide +kernel), rfl⟩
theorem iF2_28 : I1 prog_24_method_2_code 28 (.aload_n 1) 1 29 := ⟨(by decide +kernel), rfl⟩
theorem iF2_29 : I1 prog_24_method_2_code 29 (.iload 6) 2 31 := ⟨(by decide +kernel), rfl⟩
theorem iF2_31 : I1 prog_24_method_2_code 31 (.iaload) 1 32 := ⟨(by decide +kernel), rfl⟩
theorem iF2_32 : I1 prog_24_method_2_code 32 (.aload_n 0) 1 33 := ⟨(by decide +kernel), rfl⟩
theorem iF2_33 : I1 prog_24_method_2_code 33 (.getfield 7) 3 36 := ⟨(by decide +kernel), rfl⟩
theorem iF2_36 : I1 prog_24_method_2_code 36 (.imul) 1 37 := ⟨(by decide +kernel), rfl⟩
theorem iF2_37 : I1 prog_24_method_2_code 37 (.iload_n 3) 1 38 := ⟨(by decide +kernel), rfl⟩
theorem iF2_38 : I1 prog_24_method_2_code 38 (.iadd) 1 39 := ⟨(by decide +kernel), rfl⟩
theorem iF2_39 : I1 prog_24_method_2_code 39 (.laload) 1 40 := ⟨(by decide +kernel), rfl⟩
theorem iF2_40 : I1 prog_24_method_2_code 40 (.lor) 1 41 := ⟨(by decide +kernel), rfl⟩
theorem iF2_41 : I1 prog_24_method_2_code 41 (.lstore 4) 2 43 := ⟨(by decide +kernel), rfl⟩
theorem iF2_43 : I1 prog_24_method_2_code 43 (.iinc 6 1) 3 46 := ⟨(by decide +kernel), rfl⟩
theorem iF2_46 : B1 prog_24_method_2_code 46 (.goto (-30)) (-30) 16 49 := ⟨(by decide +kernel), rfl, by decide, by decide⟩
theorem iF2_49 : I1 prog_24_method_2_code 49 (.lload 4) 2 51 := ⟨(by decide +kernel), rfl⟩
theorem iF2_51 : I1 prog_24_method_2_code 51 (.ldc2_w 17) 3 54 := ⟨(by decide +kernel), rfl⟩
theorem iF2_54 : I1 prog_24_method_2_code 54 (.lxor) 1 55 := ⟨(by decide +kernel), rfl⟩
theorem iF2_55 : I1 prog_24_method_2_code 55 (.iload_n 3) 1 56 := ⟨(by decide +kernel), rfl⟩
theorem iF2_56 : I1 prog_24_method_2_code 56 (.aload_n 0) 1 57 := ⟨(by decide +kernel), rfl⟩
theorem iF2_57 : I1 prog_24_method_2_code 57 (.getfield 7) 3 60 := ⟨(by decide +kernel), rfl⟩
theorem iF2_60 : I1 prog_24_method_2_code 60 (.iconst 1) 1 61 := ⟨(by decide +kernel), rfl⟩
theorem iF2_61 : I1 prog_24_method_2_code 61 (.isub) 1 62 := ⟨(by decide +kernel), rfl⟩
theorem iF2_62 : B1 prog_24_method_2_code 62 (.if_icmp .ne 10) 10 72 65 := ⟨(by decide +kernel), rfl, by decide, by decide⟩
theorem iF2_65 : I1 prog_24_method_2_code 65 (.aload_n 0) 1 66 := ⟨(by decide +kernel), rfl⟩
theorem iF2_66 : I1 prog_24_method_2_code 66 (.getfield 19) 3 69 := ⟨(by decide +kernel), rfl⟩
theorem iF2_69 : B1 prog_24_method_2_code 69 (.goto 6) 6 75 72 := ⟨(by decide +kernel), rfl, by decide, by decide⟩
theorem iF2_72 : I1 prog_24_method_2_code 72 (.ldc2_w 17) 3 75 := ⟨(by decide +kernel), rfl⟩
theorem iF2_75 : I1 prog_24_method_2_code 75 (.land) 1 76 := ⟨(by decide +kernel), rfl⟩
theorem iF2_76 : I1 prog_24_method_2_code 76 (.lstore 6) 2 78 := ⟨(by decide +kernel), rfl⟩
theorem iF2_78 : I1 prog_24_method_2_code 78 (.lload 6) 2 80 := ⟨(by decide +kernel), rfl⟩
theorem iF2_80 : I1 prog_24_method_2_code 80 (.lconst 0) 1 81 := ⟨(by decide +kernel), rfl⟩
theorem iF2_81 : I1 prog_24_method_2_code 81 (.lcmp) 1 82 := ⟨(by decide +kernel), rfl⟩
theorem iF2_82 : B1 prog_24_method_2_code 82 (.ifCond .eq 14) 14 96 85 := ⟨(by decide +kernel), rfl, by decide, by decide⟩
theorem iF2_85 : I1 prog_24_method_2_code 85 (.bipush 64) 2 87 := ⟨(by decide +kernel), rfl⟩
theorem iF2_87 : I1 prog_24_method_2_code 87 (.iload_n 3) 1 88 := ⟨(by decide +kernel), rfl⟩
theorem iF2_88 : I1 prog_24_method_2_code 88 (.imul) 1 89 := ⟨(by decide +kernel), rfl⟩
theorem iF2_89 : I1 prog_24_method_2_code 89 (.lload 6) 2 91 := ⟨(by decide +kernel), rfl⟩
theorem iF2_91 : I1 prog_24_method_2_code 91 (.invokestatic 23) 3 94 := ⟨(by decide +kernel), rfl⟩
theorem iF2_94 : I1 prog_24_method_2_code 94 (.iadd) 1 95 := ⟨(by decide +kernel), rfl⟩
theorem iF2_95 : I1 prog_24_method_2_code 95 (.ireturn) 1 96 := ⟨(by decide +kernel), rfl⟩
theorem iF2_96 : I1 prog_24_method_2_code 96 (.iinc 3 1) 3 99 := ⟨(by decide +kernel), rfl⟩
theorem iF2_99 : B1 prog_24_method_2_code 99 (.goto (-97)) (-97) 2 102 := ⟨(by decide +kernel), rfl, by decide, by decide⟩
theorem iF2_102 : I1 prog_24_method_2_code 102 (.iconst (-1)) 1 103 := ⟨(by decide +kernel), rfl⟩
theorem iF2_103 : I1 prog_24_method_2_code 103 (.ireturn) 1 104 := ⟨(by decide +kernel), rfl⟩
set_option maxRecDepth 65536 in
set_option maxHeartbeats 40000000 in
theorem loopF2 (l : Launch) (Z : State) (aZ : Array Value) (hw : ∀ d ∈ tables_1, d.before aZ Z = true) (a0 a1 : Addr) (W : Nat) (lw : Int64) (us : Addr) (nu : Nat) (u : Nat → Int64) (n1 : Nat) (g : Nat → Int32) (h0 : Heap) (n0 : Nat) (Z0 : n0 ≤ h0.size) (F_w : Fld Z h0 a0 "com/example/bandweave/bandweave/simulate/Fibres" "words" "I" (.int (W.toInt32))) (F_u : Fld Z h0 a0 "com/example/bandweave/bandweave/simulate/Fibres" "used" "[J" (.ref us)) (F_l : Fld Z h0 a0 "com/example/bandweave/bandweave/simulate/Fibres" "lastWord" "J" (.long lw)) (V_u : AV Z h0 us .long nu (fun ix => .long (u ix))) (V_a1 : AV Z h0 a1 .int n1 (fun ix => .int (g ix))) (hW : 1 ≤ W ∧ W ≤ 4) (hn : 2 ≤ n1) (hin : ∀ i : Nat, i < 2 → ∀ wd : Nat, wd < W → Inb (((g i) * (W.toInt32)) + (wd.toInt32)) nu) {p : Program} {e : Env} {s : State} {m : MethodId} {below : List Frame} {meth : Method} {c : Code} (C : Cx p s m meth c Z prog_24_method_2_code 8 "com/example/bandweave/bandweave/simulate/Fibres" (some .int)) :
    ∀ (k wd : Nat) (i4 i6 : Int64), W - wd < k → wd ≤ W → Go p l e ({ frames := 2, cells := 0, slots := 0, locals := 29 } : Room) s m #[(.ref a0), (.ref a1), (.int (2 : Int32))] below meth c n0 0 0 (fun v h => v = some (.int (ffF (fun wd => (((0 : Int64) ||| (u ((((g 0) * (W.toInt32)) + (wd.toInt32))).toNatClampNeg)) ||| (u ((((g 1) * (W.toInt32)) + (wd.toInt32))).toNatClampNeg))) W lw k wd)) ∧ h = h0) h0 0 0 (mkF m 2 #[.val (.ref a0), .val (.ref a1), .val (.int (2 : Int32)), .val (.int (wd.toInt32)), .val (.long i4), .second, .val (.long i6), .second] []) := by
  intro k
  induction k with
  | zero => intro wd i4 i6 hk; exact absurd hk (Nat.not_lt_zero _)
  | succ k ih =>
    intro wd i4 i6 hk hwd
    refine g_iloadN C iF2_2 rfl ?_
    refine g_aloadN C iF2_3 rfl rfl ?_
    refine g_getF C iF2_4 (host := "") (Or.inl (hw _ (List.mem_of_getElem? (i := 15) rfl))) Via.refl F_w ?_
    refine g_icmp_ge C iF2_7 (fun hc7_1 => ?_) (fun hc7_1 => ?_)
    · refine g_lconst C (0 : Int64) iF2_10 rfl ?_
      refine g_lstore C (Ls' := #[.val (.ref a0), .val (.ref a1), .val (.int (2 : Int32)), .val (.int (wd.toInt32)), .val (.long (0 : Int64)), .second, .val (.long i6), .second]) iF2_11 rfl ?_
      refine g_iconst C (0 : Int32) iF2_13 rfl ?_
      refine g_istore C (Ls' := #[.val (.ref a0), .val (.ref a1), .val (.int (2 : Int32)), .val (.int (wd.toInt32)), .val (.long (0 : Int64)), .second, .val (.int (0 : Int32)), .unset]) iF2_14 rfl ?_
      refine g_iload C iF2_16 rfl ?_
      refine g_iloadN C iF2_18 rfl ?_
      refine g_icmp_ge C iF2_19 (fun _ => ?_) (fun q => absurd (by decide) q)
      refine g_lload C iF2_22 rfl ?_
      refine g_aloadN C iF2_24 rfl rfl ?_
      refine g_getF C iF2_25 (host := "") (Or.inl (hw _ (List.mem_of_getElem? (i := 18) rfl))) Via.refl F_u ?_
      refine g_aloadN C iF2_28 rfl rfl ?_
      refine g_iload C iF2_29 rfl ?_
      refine g_iald C (.int (g 0)) iF2_31 V_a1 ⟨by decide, Nat.lt_of_lt_of_le (by decide) hn⟩ rfl ?_
      refine g_aloadN C iF2_32 rfl rfl ?_
      refine g_getF C iF2_33 (host := "") (Or.inl (hw _ (List.mem_of_getElem? (i := 15) rfl))) Via.refl F_w ?_
      refine g_imul C iF2_36 ?_
      refine g_iloadN C iF2_37 rfl ?_
      refine g_iadd C iF2_38 ?_
      refine g_lald C (.long (u ((((g 0) * (W.toInt32)) + (wd.toInt32))).toNatClampNeg)) iF2_39 V_u (hin 0 (by decide) wd ((own_lt (i := wd) (n := W) (by omega) (by omega)).mp hc7_1)) rfl ?_
      refine g_lor C iF2_40 ?_
      refine g_lstore C (Ls' := #[.val (.ref a0), .val (.ref a1), .val (.int (2 : Int32)), .val (.int (wd.toInt32)), .val (.long ((0 : Int64) ||| (u ((((g 0) * (W.toInt32)) + (wd.toInt32))).toNatClampNeg))), .second, .val (.int (0 : Int32)), .unset]) iF2_41 rfl ?_
      refine g_iinc C (Ls' := #[.val (.ref a0), .val (.ref a1), .val (.int (2 : Int32)), .val (.int (wd.toInt32)), .val (.long ((0 : Int64) ||| (u ((((g 0) * (W.toInt32)) + (wd.toInt32))).toNatClampNeg))), .second, .val (.int (1 : Int32)), .unset]) iF2_43 rfl rfl ?_
      refine g_goto C iF2_46 ?_
      refine g_iload C iF2_16 rfl ?_
      refine g_iloadN C iF2_18 rfl ?_
      refine g_icmp_ge C iF2_19 (fun _ => ?_) (fun q => absurd (by decide) q)
      refine g_lload C iF2_22 rfl ?_
      refine g_aloadN C iF2_24 rfl rfl ?_
      refine g_getF C iF2_25 (host := "") (Or.inl (hw _ (List.mem_of_getElem? (i := 18) rfl))) Via.refl F_u ?_
      refine g_aloadN C iF2_28 rfl rfl ?_
      refine g_iload C iF2_29 rfl ?_
      refine g_iald C (.int (g 1)) iF2_31 V_a1 ⟨by decide, Nat.lt_of_lt_of_le (by decide) hn⟩ rfl ?_
      refine g_aloadN C iF2_32 rfl rfl ?_
      refine g_getF C iF2_33 (host := "") (Or.inl (hw _ (List.mem_of_getElem? (i := 15) rfl))) Via.refl F_w ?_
      refine g_imul C iF2_36 ?_
      refine g_iloadN C iF2_37 rfl ?_
      refine g_iadd C iF2_38 ?_
      refine g_lald C (.long (u ((((g 1) * (W.toInt32)) + (wd.toInt32))).toNatClampNeg)) iF2_39 V_u (hin 1 (by decide) wd ((own_lt (i := wd) (n := W) (by omega) (by omega)).mp hc7_1)) rfl ?_
      refine g_lor C iF2_40 ?_
      refine g_lstore C (Ls' := #[.val (.ref a0), .val (.ref a1), .val (.int (2 : Int32)), .val (.int (wd.toInt32)), .val (.long (((0 : Int64) ||| (u ((((g 0) * (W.toInt32)) + (wd.toInt32))).toNatClampNeg)) ||| (u ((((g 1) * (W.toInt32)) + (wd.toInt32))).toNatClampNeg))), .second, .val (.int (1 : Int32)), .unset]) iF2_41 rfl ?_
      refine g_iinc C (Ls' := #[.val (.ref a0), .val (.ref a1), .val (.int (2 : Int32)), .val (.int (wd.toInt32)), .val (.long (((0 : Int64) ||| (u ((((g 0) * (W.toInt32)) + (wd.toInt32))).toNatClampNeg)) ||| (u ((((g 1) * (W.toInt32)) + (wd.toInt32))).toNatClampNeg))), .second, .val (.int (2 : Int32)), .unset]) iF2_43 rfl rfl ?_
      refine g_goto C iF2_46 ?_
      refine g_iload C iF2_16 rfl ?_
      refine g_iloadN C iF2_18 rfl ?_
      refine g_icmp_ge C iF2_19 (fun q => absurd q (by decide)) (fun _ => ?_)
      refine g_lload C iF2_49 rfl ?_
      refine g_ldc2Long C iF2_51 (hw _ (List.mem_of_getElem? (i := 32) rfl)) ?_
      refine g_lxor C iF2_54 ?_
      refine g_iloadN C iF2_55 rfl ?_
      refine g_aloadN C iF2_56 rfl rfl ?_
      refine g_getF C iF2_57 (host := "") (Or.inl (hw _ (List.mem_of_getElem? (i := 15) rfl))) Via.refl F_w ?_
      refine g_iconst C (1 : Int32) iF2_60 rfl ?_
      refine g_isub C iF2_61 ?_
      refine Go.join (mkF m 75 #[.val (.ref a0), .val (.ref a1), .val (.int (2 : Int32)), .val (.int (wd.toInt32)), .val (.long (((0 : Int64) ||| (u ((((g 0) * (W.toInt32)) + (wd.toInt32))).toNatClampNeg)) ||| (u ((((g 1) * (W.toInt32)) + (wd.toInt32))).toNatClampNeg))), .second, .val (.int (2 : Int32)), .unset] [(.long (if (wd.toInt32) = ((W.toInt32) - (1 : Int32)) then lw else (-1 : Int64))), (.long ((((0 : Int64) ||| (u ((((g 0) * (W.toInt32)) + (wd.toInt32))).toNatClampNeg)) ||| (u ((((g 1) * (W.toInt32)) + (wd.toInt32))).toNatClampNeg)) ^^^ (-1 : Int64)))]) ?_ (fun J => ?_)
      · refine g_land C iF2_75 ?_
        refine g_lstore C (Ls' := #[.val (.ref a0), .val (.ref a1), .val (.int (2 : Int32)), .val (.int (wd.toInt32)), .val (.long (((0 : Int64) ||| (u ((((g 0) * (W.toInt32)) + (wd.toInt32))).toNatClampNeg)) ||| (u ((((g 1) * (W.toInt32)) + (wd.toInt32))).toNatClampNeg))), .second, .val (.long (((((0 : Int64) ||| (u ((((g 0) * (W.toInt32)) + (wd.toInt32))).toNatClampNeg)) ||| (u ((((g 1) * (W.toInt32)) + (wd.toInt32))).toNatClampNeg)) ^^^ (-1 : Int64)) &&& (if (wd.toInt32) = ((W.toInt32) - (1 : Int32)) then lw else (-1 : Int64)))), .second]) iF2_76 rfl ?_
        refine g_lload C iF2_78 rfl ?_
        refine g_lconst C (0 : Int64) iF2_80 rfl ?_
        refine g_lcmp C iF2_81 ?_
        refine g_ifl_eq C iF2_82 (fun hc82_1 => ?_) (fun hc82_1 => ?_)
        · refine g_iinc C (Ls' := #[.val (.ref a0), .val (.ref a1), .val (.int (2 : Int32)), .val (.int ((wd.toInt32) + (1 : Int32))), .val (.long (((0 : Int64) ||| (u ((((g 0) * (W.toInt32)) + (wd.toInt32))).toNatClampNeg)) ||| (u ((((g 1) * (W.toInt32)) + (wd.toInt32))).toNatClampNeg))), .second, .val (.long (((((0 : Int64) ||| (u ((((g 0) * (W.toInt32)) + (wd.toInt32))).toNatClampNeg)) ||| (u ((((g 1) * (W.toInt32)) + (wd.toInt32))).toNatClampNeg)) ^^^ (-1 : Int64)) &&& (if (wd.toInt32) = ((W.toInt32) - (1 : Int32)) then lw else (-1 : Int64)))), .second]) iF2_96 rfl rfl ?_
          refine g_goto C iF2_99 ?_
          have hI := (own_lt (i := wd) (n := W) (by omega) (by omega)).mp hc7_1
          have hf : frF (fun wd => (((0 : Int64) ||| (u ((((g 0) * (W.toInt32)) + (wd.toInt32))).toNatClampNeg)) ||| (u ((((g 1) * (W.toInt32)) + (wd.toInt32))).toNatClampNeg))) W lw wd = 0 := hc82_1
          have e : ffF (fun wd => (((0 : Int64) ||| (u ((((g 0) * (W.toInt32)) + (wd.toInt32))).toNatClampNeg)) ||| (u ((((g 1) * (W.toInt32)) + (wd.toInt32))).toNatClampNeg))) W lw (k + 1) wd = ffF (fun wd => (((0 : Int64) ||| (u ((((g 0) * (W.toInt32)) + (wd.toInt32))).toNatClampNeg)) ||| (u ((((g 1) * (W.toInt32)) + (wd.toInt32))).toNatClampNeg))) W lw k (wd + 1) := by simp only [ffF, if_pos hI, if_pos hf]
          rw [e]
          exact Go.cast (ih (wd + 1) _ _ (by omega) (by omega)) (by rw [own_succ (i := wd) (by omega)])
        · refine g_bipush C (64 : Int32) iF2_85 rfl ?_
          refine g_iloadN C iF2_87 rfl ?_
          refine g_imul C iF2_88 ?_
          refine g_lload C iF2_89 rfl ?_
          refine g_callS C (rmZ1 l Z aZ hw (((((0 : Int64) ||| (u ((((g 0) * (W.toInt32)) + (wd.toInt32))).toNatClampNeg)) ||| (u ((((g 1) * (W.toInt32)) + (wd.toInt32))).toNatClampNeg)) ^^^ (-1 : Int64)) &&& (if (wd.toInt32) = ((W.toInt32) - (1 : Int32)) then lw else (-1 : Int64))) h0 n0 Z0) iF2_91 (hw _ (List.mem_of_getElem? (i := 38) rfl)) (hw _ (List.mem_of_getElem? (i := 39) rfl)) (hw _ (List.mem_of_getElem? (i := 40) rfl)) (hw _ (List.mem_of_getElem? (i := 41) rfl)) (by decide) (argsL := [(.long (((((0 : Int64) ||| (u ((((g 0) * (W.toInt32)) + (wd.toInt32))).toNatClampNeg)) ||| (u ((((g 1) * (W.toInt32)) + (wd.toInt32))).toNatClampNeg)) ^^^ (-1 : Int64)) &&& (if (wd.toInt32) = ((W.toInt32) - (1 : Int32)) then lw else (-1 : Int64))))]) (rest := [(.int ((64 : Int32) * (wd.toInt32)))]) rfl rfl pd1 rfl rfl 1 (Nat.le_of_eq rfl) (by decide) (by decide) (by decide) (by decide) rfl rfl ?_
          rintro _ _ ⟨rfl, he15⟩
          refine Go.heap he15.symm ?_
          refine Go.some' ?_
          refine g_iadd C iF2_94 ?_
          have hI := (own_lt (i := wd) (n := W) (by omega) (by omega)).mp hc7_1
          have hf : ¬ (frF (fun wd => (((0 : Int64) ||| (u ((((g 0) * (W.toInt32)) + (wd.toInt32))).toNatClampNeg)) ||| (u ((((g 1) * (W.toInt32)) + (wd.toInt32))).toNatClampNeg))) W lw wd = 0) := hc82_1
          have e : ffF (fun wd => (((0 : Int64) ||| (u ((((g 0) * (W.toInt32)) + (wd.toInt32))).toNatClampNeg)) ||| (u ((((g 1) * (W.toInt32)) + (wd.toInt32))).toNatClampNeg))) W lw (k + 1) wd = (((64 : Int32) * ((wd : Nat).toInt32)) + (vZ1_0 (frF (fun wd => (((0 : Int64) ||| (u ((((g 0) * (W.toInt32)) + (wd.toInt32))).toNatClampNeg)) ||| (u ((((g 1) * (W.toInt32)) + (wd.toInt32))).toNatClampNeg))) W lw wd))) := by simp only [ffF, if_pos hI, if_neg hf]
          rw [e]
          exact g_retInt C iF2_95 rfl (by decide) (by decide) ⟨rfl, rfl⟩
      · refine g_icmp_ne C iF2_62 (fun hc62_1 => ?_) (fun hc62_1 => ?_)
        · refine g_aloadN C iF2_65 rfl rfl ?_
          refine g_getF C iF2_66 (host := "") (Or.inl (hw _ (List.mem_of_getElem? (i := 20) rfl))) Via.refl F_l ?_
          refine g_goto C iF2_69 ?_
          have e0 : (if (wd.toInt32) = ((W.toInt32) - (1 : Int32)) then lw else (-1 : Int64)) = lw := by simp only [if_pos hc62_1]
          exact Go.cast J (by rw [e0])
        · refine g_ldc2Long C iF2_72 (hw _ (List.mem_of_getElem? (i := 32) rfl)) ?_
          have e0 : (if (wd.toInt32) = ((W.toInt32) - (1 : Int32)) then lw else (-1 : Int64)) = (-1 : Int64) := by simp only [if_neg hc62_1]
          exact Go.cast J (by rw [e0])
    · refine g_iconst C (-1 : Int32) iF2_102 rfl ?_
      have hI : ¬ wd < W := fun q => hc7_1 ((own_lt (by omega) (by omega)).mpr q)
      have e : ffF (fun wd => (((0 : Int64) ||| (u ((((g 0) * (W.toInt32)) + (wd.toInt32))).toNatClampNeg)) ||| (u ((((g 1) * (W.toInt32)) + (wd.toInt32))).toNatClampNeg))) W lw (k + 1) wd = -1 := by simp only [ffF, if_neg hI]
      rw [e]
      exact g_retInt C iF2_103 rfl (by decide) (by decide) ⟨rfl, rfl⟩
theorem iF2_0 : I1 prog_24_method_2_code 0 (.iconst 0) 1 1 := ⟨(by decide +kernel), rfl⟩
theorem iF2_1 : I1 prog_24_method_2_code 1 (.istore_n 3) 1 2 := ⟨(by decide +kernel), rfl⟩
def QF2 (Z : State) (a0 a1 : Addr) (wo : Int32) (lw : Int64) (us : Addr) (nu : Nat) (u : Nat → Int64) (n1 : Nat) (g : Nat → Int32) (h0 : Heap) (n0 : Nat) (v : Option Value) (h : Heap) : Prop := v = some (.int (ffF (fun wd => (((0 : Int64) ||| (u ((((g 0) * wo) + (wd.toInt32))).toNatClampNeg)) ||| (u ((((g 1) * wo) + (wd.toInt32))).toNatClampNeg))) wo.toNatClampNeg lw (wo.toNatClampNeg + 1) 0)) ∧ h = h0
theorem efF2 (m : MethodId) (a0 a1 : Addr) : entryFrame m #[(.ref a0), (.ref a1), (.int (2 : Int32))] 8 = mkF m 0 #[.val (.ref a0), .val (.ref a1), .val (.int (2 : Int32)), .unset, .unset, .unset, .unset, .unset] [] := by first | (simp [entryFrame, mkF, argsToLocals, Value.category]; done) | rfl
set_option maxRecDepth 65536 in
set_option maxHeartbeats 40000000 in
theorem rmF2 (l : Launch) (Z : State) (aZ : Array Value) (hw : ∀ d ∈ tables_1, d.before aZ Z = true) (a0 a1 : Addr) (wo : Int32) (lw : Int64) (us : Addr) (nu : Nat) (u : Nat → Int64) (n1 : Nat) (g : Nat → Int32) (h0 : Heap) (n0 : Nat) (Z0 : n0 ≤ h0.size) (F_w : Fld Z h0 a0 "com/example/bandweave/bandweave/simulate/Fibres" "words" "I" (.int wo)) (F_u : Fld Z h0 a0 "com/example/bandweave/bandweave/simulate/Fibres" "used" "[J" (.ref us)) (F_l : Fld Z h0 a0 "com/example/bandweave/bandweave/simulate/Fibres" "lastWord" "J" (.long lw)) (V_u : AV Z h0 us .long nu (fun ix => .long (u ix))) (V_a1 : AV Z h0 a1 .int n1 (fun ix => .int (g ix)))
    (hwo : 1 ≤ wo.toInt ∧ wo.toInt ≤ 4) (hn : 2 ≤ n1) (hin : ∀ i : Nat, i < 2 → ∀ wd : Nat, wd < wo.toNatClampNeg → Inb (((g i) * wo) + (wd.toInt32)) nu) :
    Ctr l Z (⟨"com/example/bandweave/bandweave/simulate/Fibres", "firstFree", "([II)I"⟩ : MethodName) prog_24_method_2_code 8 (some .int) ({ frames := 2, cells := 0, slots := 0, locals := 29 } : Room) #[(.ref a0), (.ref a1), (.int (2 : Int32))] h0 n0 (QF2 Z a0 a1 wo lw us nu u n1 g h0 n0) := by
  refine Ctr.of_go pn5 (fun m => efF2 m a0 a1) ?_
  intro p e s m below meth c hnm C
  have eW : wo = wo.toNatClampNeg.toInt32 := (back32 (by rw [Int32.lt_iff_toInt_lt]; have e0 : (0 : Int32).toInt = 0 := rfl; omega)).1.symm
  have hW : 1 ≤ wo.toNatClampNeg ∧ wo.toNatClampNeg ≤ 4 := by simp only [Int32.toNatClampNeg]; omega
  unfold QF2
  generalize wo.toNatClampNeg = W at eW hW hin ⊢
  subst eW
  have hI0 : 0 < W := by omega
  have hI32 : (0 : Int32) < W.toInt32 := (own_lt (i := 0) (n := W) (by omega) (by omega)).mpr hI0
  obtain ⟨k, hk⟩ : ∃ k, k = W := ⟨_, rfl⟩
  rw [show W + 1 = k + 1 by omega]
  refine g_iconst C (0 : Int32) iF2_0 rfl ?_
  refine g_istoreN C (Ls' := #[.val (.ref a0), .val (.ref a1), .val (.int (2 : Int32)), .val (.int (0 : Int32)), .unset, .unset, .unset, .unset]) iF2_1 rfl ?_
  refine g_iloadN C iF2_2 rfl ?_
  refine g_aloadN C iF2_3 rfl rfl ?_
  refine g_getF C iF2_4 (host := "") (Or.inl (hw _ (List.mem_of_getElem? (i := 15) rfl))) Via.refl F_w ?_
  refine g_icmp_ge C iF2_7 (fun _ => ?_) (fun q => absurd hI32 q)
  refine g_lconst C (0 : Int64) iF2_10 rfl ?_
  refine g_lstore C (Ls' := #[.val (.ref a0), .val (.ref a1), .val (.int (2 : Int32)), .val (.int (0 : Int32)), .val (.long (0 : Int64)), .second, .unset, .unset]) iF2_11 rfl ?_
  refine g_iconst C (0 : Int32) iF2_13 rfl ?_
  refine g_istore C (Ls' := #[.val (.ref a0), .val (.ref a1), .val (.int (2 : Int32)), .val (.int (0 : Int32)), .val (.long (0 : Int64)), .second, .val (.int (0 : Int32)), .unset]) iF2_14 rfl ?_
  refine g_iload C iF2_16 rfl ?_
  refine g_iloadN C iF2_18 rfl ?_
  refine g_icmp_ge C iF2_19 (fun _ => ?_) (fun q => absurd (by decide) q)
  refine g_lload C iF2_22 rfl ?_
  refine g_aloadN C iF2_24 rfl rfl ?_
  refine g_getF C iF2_25 (host := "") (Or.inl (hw _ (List.mem_of_getElem? (i := 18) rfl))) Via.refl F_u ?_
  refine g_aloadN C iF2_28 rfl rfl ?_
  refine g_iload C iF2_29 rfl ?_
  refine g_iald C (.int (g 0)) iF2_31 V_a1 ⟨by decide, Nat.lt_of_lt_of_le (by decide) hn⟩ rfl ?_
  refine g_aloadN C iF2_32 rfl rfl ?_
  refine g_getF C iF2_33 (host := "") (Or.inl (hw _ (List.mem_of_getElem? (i := 15) rfl))) Via.refl F_w ?_
  refine g_imul C iF2_36 ?_
  refine g_iloadN C iF2_37 rfl ?_
  refine g_iadd C iF2_38 ?_
  refine g_lald C (.long (u ((((g 0) * (W.toInt32)) + (0 : Int32))).toNatClampNeg)) iF2_39 V_u (hin 0 (by decide) 0 hI0) rfl ?_
  refine g_lor C iF2_40 ?_
  refine g_lstore C (Ls' := #[.val (.ref a0), .val (.ref a1), .val (.int (2 : Int32)), .val (.int (0 : Int32)), .val (.long ((0 : Int64) ||| (u ((((g 0) * (W.toInt32)) + (0 : Int32))).toNatClampNeg))), .second, .val (.int (0 : Int32)), .unset]) iF2_41 rfl ?_
  refine g_iinc C (Ls' := #[.val (.ref a0), .val (.ref a1), .val (.int (2 : Int32)), .val (.int (0 : Int32)), .val (.long ((0 : Int64) ||| (u ((((g 0) * (W.toInt32)) + (0 : Int32))).toNatClampNeg))), .second, .val (.int (1 : Int32)), .unset]) iF2_43 rfl rfl ?_
  refine g_goto C iF2_46 ?_
  refine g_iload C iF2_16 rfl ?_
  refine g_iloadN C iF2_18 rfl ?_
  refine g_icmp_ge C iF2_19 (fun _ => ?_) (fun q => absurd (by decide) q)
  refine g_lload C iF2_22 rfl ?_
  refine g_aloadN C iF2_24 rfl rfl ?_
  refine g_getF C iF2_25 (host := "") (Or.inl (hw _ (List.mem_of_getElem? (i := 18) rfl))) Via.refl F_u ?_
  refine g_aloadN C iF2_28 rfl rfl ?_
  refine g_iload C iF2_29 rfl ?_
  refine g_iald C (.int (g 1)) iF2_31 V_a1 ⟨by decide, Nat.lt_of_lt_of_le (by decide) hn⟩ rfl ?_
  refine g_aloadN C iF2_32 rfl rfl ?_
  refine g_getF C iF2_33 (host := "") (Or.inl (hw _ (List.mem_of_getElem? (i := 15) rfl))) Via.refl F_w ?_
  refine g_imul C iF2_36 ?_
  refine g_iloadN C iF2_37 rfl ?_
  refine g_iadd C iF2_38 ?_
  refine g_lald C (.long (u ((((g 1) * (W.toInt32)) + (0 : Int32))).toNatClampNeg)) iF2_39 V_u (hin 1 (by decide) 0 hI0) rfl ?_
  refine g_lor C iF2_40 ?_
  refine g_lstore C (Ls' := #[.val (.ref a0), .val (.ref a1), .val (.int (2 : Int32)), .val (.int (0 : Int32)), .val (.long (((0 : Int64) ||| (u ((((g 0) * (W.toInt32)) + (0 : Int32))).toNatClampNeg)) ||| (u ((((g 1) * (W.toInt32)) + (0 : Int32))).toNatClampNeg))), .second, .val (.int (1 : Int32)), .unset]) iF2_41 rfl ?_
  refine g_iinc C (Ls' := #[.val (.ref a0), .val (.ref a1), .val (.int (2 : Int32)), .val (.int (0 : Int32)), .val (.long (((0 : Int64) ||| (u ((((g 0) * (W.toInt32)) + (0 : Int32))).toNatClampNeg)) ||| (u ((((g 1) * (W.toInt32)) + (0 : Int32))).toNatClampNeg))), .second, .val (.int (2 : Int32)), .unset]) iF2_43 rfl rfl ?_
  refine g_goto C iF2_46 ?_
  refine g_iload C iF2_16 rfl ?_
  refine g_iloadN C iF2_18 rfl ?_
  refine g_icmp_ge C iF2_19 (fun q => absurd q (by decide)) (fun _ => ?_)
  refine g_lload C iF2_49 rfl ?_
  refine g_ldc2Long C iF2_51 (hw _ (List.mem_of_getElem? (i := 32) rfl)) ?_
  refine g_lxor C iF2_54 ?_
  refine g_iloadN C iF2_55 rfl ?_
  refine g_aloadN C iF2_56 rfl rfl ?_
  refine g_getF C iF2_57 (host := "") (Or.inl (hw _ (List.mem_of_getElem? (i := 15) rfl))) Via.refl F_w ?_
  refine g_iconst C (1 : Int32) iF2_60 rfl ?_
  refine g_isub C iF2_61 ?_
  refine Go.join (mkF m 75 #[.val (.ref a0), .val (.ref a1), .val (.int (2 : Int32)), .val (.int (0 : Int32)), .val (.long (((0 : Int64) ||| (u ((((g 0) * (W.toInt32)) + (0 : Int32))).toNatClampNeg)) ||| (u ((((g 1) * (W.toInt32)) + (0 : Int32))).toNatClampNeg))), .second, .val (.int (2 : Int32)), .unset] [(.long (if (0 : Int32) = ((W.toInt32) - (1 : Int32)) then lw else (-1 : Int64))), (.long ((((0 : Int64) ||| (u ((((g 0) * (W.toInt32)) + (0 : Int32))).toNatClampNeg)) ||| (u ((((g 1) * (W.toInt32)) + (0 : Int32))).toNatClampNeg)) ^^^ (-1 : Int64)))]) ?_ (fun J => ?_)
  · refine g_land C iF2_75 ?_
    refine g_lstore C (Ls' := #[.val (.ref a0), .val (.ref a1), .val (.int (2 : Int32)), .val (.int (0 : Int32)), .val (.long (((0 : Int64) ||| (u ((((g 0) * (W.toInt32)) + (0 : Int32))).toNatClampNeg)) ||| (u ((((g 1) * (W.toInt32)) + (0 : Int32))).toNatClampNeg))), .second, .val (.long (((((0 : Int64) ||| (u ((((g 0) * (W.toInt32)) + (0 : Int32))).toNatClampNeg)) ||| (u ((((g 1) * (W.toInt32)) + (0 : Int32))).toNatClampNeg)) ^^^ (-1 : Int64)) &&& (if (0 : Int32) = ((W.toInt32) - (1 : Int32)) then lw else (-1 : Int64)))), .second]) iF2_76 rfl ?_
    refine g_lload C iF2_78 rfl ?_
    refine g_lconst C (0 : Int64) iF2_80 rfl ?_
    refine g_lcmp C iF2_81 ?_
    refine g_ifl_eq C iF2_82 (fun hc82_1 => ?_) (fun hc82_1 => ?_)
    · refine g_iinc C (Ls' := #[.val (.ref a0), .val (.ref a1), .val (.int (2 : Int32)), .val (.int (1 : Int32)), .val (.long (((0 : Int64) ||| (u ((((g 0) * (W.toInt32)) + (0 : Int32))).toNatClampNeg)) ||| (u ((((g 1) * (W.toInt32)) + (0 : Int32))).toNatClampNeg))), .second, .val (.long (((((0 : Int64) ||| (u ((((g 0) * (W.toInt32)) + (0 : Int32))).toNatClampNeg)) ||| (u ((((g 1) * (W.toInt32)) + (0 : Int32))).toNatClampNeg)) ^^^ (-1 : Int64)) &&& (if (0 : Int32) = ((W.toInt32) - (1 : Int32)) then lw else (-1 : Int64)))), .second]) iF2_96 rfl rfl ?_
      refine g_goto C iF2_99 ?_
      have hI := hI0
      have hf : frF (fun wd => (((0 : Int64) ||| (u ((((g 0) * (W.toInt32)) + (wd.toInt32))).toNatClampNeg)) ||| (u ((((g 1) * (W.toInt32)) + (wd.toInt32))).toNatClampNeg))) W lw 0 = 0 := hc82_1
      have e : ffF (fun wd => (((0 : Int64) ||| (u ((((g 0) * (W.toInt32)) + (wd.toInt32))).toNatClampNeg)) ||| (u ((((g 1) * (W.toInt32)) + (wd.toInt32))).toNatClampNeg))) W lw (k + 1) 0 = ffF (fun wd => (((0 : Int64) ||| (u ((((g 0) * (W.toInt32)) + (wd.toInt32))).toNatClampNeg)) ||| (u ((((g 1) * (W.toInt32)) + (wd.toInt32))).toNatClampNeg))) W lw k (0 + 1) := by simp only [ffF, if_pos hI, if_pos hf]
      rw [e]
      exact Go.cast (loopF2 l Z aZ hw a0 a1 W lw us nu u n1 g h0 n0 Z0 F_w F_u F_l V_u V_a1 hW hn hin C k (0 + 1) _ _ (by omega) (by omega)) rfl
    · refine g_bipush C (64 : Int32) iF2_85 rfl ?_
      refine g_iloadN C iF2_87 rfl ?_
      refine g_imul C iF2_88 ?_
      refine g_lload C iF2_89 rfl ?_
      refine g_callS C (rmZ1 l Z aZ hw (((((0 : Int64) ||| (u ((((g 0) * (W.toInt32)) + (0 : Int32))).toNatClampNeg)) ||| (u ((((g 1) * (W.toInt32)) + (0 : Int32))).toNatClampNeg)) ^^^ (-1 : Int64)) &&& (if (0 : Int32) = ((W.toInt32) - (1 : Int32)) then lw else (-1 : Int64))) h0 n0 Z0) iF2_91 (hw _ (List.mem_of_getElem? (i := 38) rfl)) (hw _ (List.mem_of_getElem? (i := 39) rfl)) (hw _ (List.mem_of_getElem? (i := 40) rfl)) (hw _ (List.mem_of_getElem? (i := 41) rfl)) (by decide) (argsL := [(.long (((((0 : Int64) ||| (u ((((g 0) * (W.toInt32)) + (0 : Int32))).toNatClampNeg)) ||| (u ((((g 1) * (W.toInt32)) + (0 : Int32))).toNatClampNeg)) ^^^ (-1 : Int64)) &&& (if (0 : Int32) = ((W.toInt32) - (1 : Int32)) then lw else (-1 : Int64))))]) (rest := [(.int (0 : Int32))]) rfl rfl pd1 rfl rfl 1 (Nat.le_of_eq rfl) (by decide) (by decide) (by decide) (by decide) rfl rfl ?_
      rintro _ _ ⟨rfl, he16⟩
      refine Go.heap he16.symm ?_
      refine Go.some' ?_
      refine g_iadd C iF2_94 ?_
      have hI := hI0
      have hf : ¬ (frF (fun wd => (((0 : Int64) ||| (u ((((g 0) * (W.toInt32)) + (wd.toInt32))).toNatClampNeg)) ||| (u ((((g 1) * (W.toInt32)) + (wd.toInt32))).toNatClampNeg))) W lw 0 = 0) := hc82_1
      have e : ffF (fun wd => (((0 : Int64) ||| (u ((((g 0) * (W.toInt32)) + (wd.toInt32))).toNatClampNeg)) ||| (u ((((g 1) * (W.toInt32)) + (wd.toInt32))).toNatClampNeg))) W lw (k + 1) 0 = (((64 : Int32) * ((0 : Nat).toInt32)) + (vZ1_0 (frF (fun wd => (((0 : Int64) ||| (u ((((g 0) * (W.toInt32)) + (wd.toInt32))).toNatClampNeg)) ||| (u ((((g 1) * (W.toInt32)) + (wd.toInt32))).toNatClampNeg))) W lw 0))) := by simp only [ffF, if_pos hI, if_neg hf]
      rw [e]
      exact g_retInt C iF2_95 rfl (by decide) (by decide) ⟨rfl, rfl⟩
  · refine g_icmp_ne C iF2_62 (fun hc62_1 => ?_) (fun hc62_1 => ?_)
    · refine g_aloadN C iF2_65 rfl rfl ?_
      refine g_getF C iF2_66 (host := "") (Or.inl (hw _ (List.mem_of_getElem? (i := 20) rfl))) Via.refl F_l ?_
      refine g_goto C iF2_69 ?_
      have e0 : (if (0 : Int32) = ((W.toInt32) - (1 : Int32)) then lw else (-1 : Int64)) = lw := by simp only [if_pos hc62_1]
      exact Go.cast J (by rw [e0])
    · refine g_ldc2Long C iF2_72 (hw _ (List.mem_of_getElem? (i := 32) rfl)) ?_
      have e0 : (if (0 : Int32) = ((W.toInt32) - (1 : Int32)) then lw else (-1 : Int64)) = (-1 : Int64) := by simp only [if_neg hc62_1]
      exact Go.cast J (by rw [e0])
theorem own_hin {wl : Int32} (h : 1 ≤ wl.toInt ∧ wl.toInt ≤ 256) (L : Int32) (hL : L.toInt = 0 ∨ L.toInt = 1) (w : Int32) (hw : 0 ≤ w.toInt ∧ w.toInt ≤ 3) : Inb ((L * ((wl + (63 : Int32)) / (64 : Int32))) + (w / (64 : Int32))) ((2 : Int32) * ((wl + (63 : Int32)) / (64 : Int32))).toNatClampNeg := by
  have g0 := own_words h
  have g1 := own_used h
  have g2 := c_imul L ((wl + (63 : Int32)) / (64 : Int32))
  have g3 := rng32 (L * ((wl + (63 : Int32)) / (64 : Int32)))
  have g4 := (c_idiv w 64 64 rfl (by decide)).1 hw.1
  have g5 := c_iadd (L * ((wl + (63 : Int32)) / (64 : Int32))) (w / (64 : Int32))
  have g6 := rng32 ((L * ((wl + (63 : Int32)) / (64 : Int32))) + (w / (64 : Int32)))
  have g7 : (L * ((wl + (63 : Int32)) / (64 : Int32))).toInt = 0 ∨ (L * ((wl + (63 : Int32)) / (64 : Int32))).toInt = (wl.toInt + 63) / 64 := by
    rcases hL with q | q <;> rw [q, g0] at g2 <;> omega
  refine inb_int (by omega) ?_
  simp only [Int32.toNatClampNeg, g1]
  omega
theorem own_hinF {wl : Int32} (h : 1 ≤ wl.toInt ∧ wl.toInt ≤ 256) (L : Int32) (hL : L.toInt = 0 ∨ L.toInt = 1) (wd : Nat) (hw : wd < ((wl + (63 : Int32)) / (64 : Int32)).toNatClampNeg) : Inb ((L * ((wl + (63 : Int32)) / (64 : Int32))) + (wd.toInt32)) ((2 : Int32) * ((wl + (63 : Int32)) / (64 : Int32))).toNatClampNeg := by
  have g0 := own_words h
  have g1 := own_used h
  have g2 := c_imul L ((wl + (63 : Int32)) / (64 : Int32))
  have g3 := rng32 (L * ((wl + (63 : Int32)) / (64 : Int32)))
  have hw' : (wd : Int) < (wl.toInt + 63) / 64 := by simp only [Int32.toNatClampNeg, g0] at hw; omega
  have g4 : wd.toInt32.toInt = wd := own_nat (by omega)
  have g5 := c_iadd (L * ((wl + (63 : Int32)) / (64 : Int32))) wd.toInt32
  have g6 := rng32 ((L * ((wl + (63 : Int32)) / (64 : Int32))) + wd.toInt32)
  have g7 : (L * ((wl + (63 : Int32)) / (64 : Int32))).toInt = 0 ∨ (L * ((wl + (63 : Int32)) / (64 : Int32))).toInt = (wl.toInt + 63) / 64 := by
    rcases hL with q | q <;> rw [q, g0] at g2 <;> omega
  refine inb_int (by omega) ?_
  simp only [Int32.toNatClampNeg, g1]
  omega
theorem own_hF1 {wl : Int32} (h : 1 ≤ wl.toInt ∧ wl.toInt ≤ 256) (g : Nat → Int32) (h0 : (g 0).toInt = 0 ∨ (g 0).toInt = 1) : ∀ i : Nat, i < 1 → ∀ wd : Nat, wd < ((wl + (63 : Int32)) / (64 : Int32)).toNatClampNeg → Inb (((g i) * ((wl + (63 : Int32)) / (64 : Int32))) + (wd.toInt32)) ((2 : Int32) * ((wl + (63 : Int32)) / (64 : Int32))).toNatClampNeg := by
  intro i hi wd hwd
  obtain rfl : i = 0 := by omega
  exact own_hinF h _ h0 wd hwd
theorem own_hF2 {wl : Int32} (h : 1 ≤ wl.toInt ∧ wl.toInt ≤ 256) (g : Nat → Int32) (h0 : (g 0).toInt = 0 ∨ (g 0).toInt = 1) (h1 : (g 1).toInt = 0 ∨ (g 1).toInt = 1) : ∀ i : Nat, i < 2 → ∀ wd : Nat, wd < ((wl + (63 : Int32)) / (64 : Int32)).toNatClampNeg → Inb (((g i) * ((wl + (63 : Int32)) / (64 : Int32))) + (wd.toInt32)) ((2 : Int32) * ((wl + (63 : Int32)) / (64 : Int32))).toNatClampNeg := by
  intro i hi wd hwd
  rcases (by omega : i = 0 ∨ i = 1) with rfl | rfl
  · exact own_hinF h _ h0 wd hwd
  · exact own_hinF h _ h1 wd hwd
theorem own_wo {wl : Int32} (h : 1 ≤ wl.toInt ∧ wl.toInt ≤ 256) : 1 ≤ ((wl + (63 : Int32)) / (64 : Int32)).toInt ∧ ((wl + (63 : Int32)) / (64 : Int32)).toInt ≤ 4 := by
  rw [own_words h]; omega
theorem own_l1 {x : Int32} (h : x.toInt = 0 ∨ x.toInt = 1) : ((1 : Int32) - x).toInt = 0 ∨ ((1 : Int32) - x).toInt = 1 := by
  have g1 := c_isub 1 x
  have g2 := rng32 (1 - x)
  have g3 : (1 : Int32).toInt = 1 := rfl
  omega
theorem own_ltlt {a b x : Int32} (hab : a < b) (h : ¬ (a < x)) : ¬ (b < x) := by
  rw [Int32.lt_iff_toInt_lt] at *; omega
theorem own_asNat {p : Int32} (h : 0 ≤ p.toInt) : ∃ n : Nat, p = n.toInt32 ∧ p.toNatClampNeg = n ∧ p.toInt = n := by
  refine ⟨p.toNatClampNeg, (back32 (by rw [Int32.lt_iff_toInt_lt]; have e0 : (0 : Int32).toInt = 0 := rfl; omega)).1.symm, rfl, ?_⟩
  simp only [Int32.toNatClampNeg]; omega
theorem pd2 : parseMethodDescriptor "(II)V" = some ⟨[.int, .int], none⟩ := by decide +kernel
theorem pd3 : parseMethodDescriptor "([III)V" = some ⟨[(.array .int), .int, .int], none⟩ := by decide +kernel
theorem pd4 : parseMethodDescriptor "([II)I" = some ⟨[(.array .int), .int], some .int⟩ := by decide +kernel
theorem iG_36 : I1 code 36 (.iconst 2) 1 37 := ⟨at_36, rfl⟩
theorem iG_37 : I1 code 37 (.newarray .int) 2 39 := ⟨at_37, rfl⟩
theorem iG_39 : I1 code 39 (.dup) 1 40 := ⟨at_39, rfl⟩
theorem iG_40 : I1 code 40 (.iconst 0) 1 41 := ⟨at_40, rfl⟩
theorem iG_41 : I1 code 41 (.iload 6) 2 43 := ⟨at_41, rfl⟩
theorem iG_43 : I1 code 43 (.iastore) 1 44 := ⟨at_43, rfl⟩
theorem iG_44 : I1 code 44 (.dup) 1 45 := ⟨at_44, rfl⟩
theorem iG_45 : I1 code 45 (.iconst 1) 1 46 := ⟨at_45, rfl⟩
theorem iG_46 : I1 code 46 (.iconst 1) 1 47 := ⟨at_46, rfl⟩
theorem iG_47 : I1 code 47 (.iload 6) 2 49 := ⟨at_47, rfl⟩
theorem iG_49 : I1 code 49 (.isub) 1 50 := ⟨at_49, rfl⟩
theorem iG_50 : I1 code 50 (.iastore) 1 51 := ⟨at_50, rfl⟩
theorem iG_51 : I1 code 51 (.astore 8) 2 53 := ⟨at_51, rfl⟩
theorem iG_53 : I1 code 53 (.iconst 1) 1 54 := ⟨at_53, rfl⟩
theorem iG_54 : I1 code 54 (.newarray .int) 2 56 := ⟨at_54, rfl⟩
theorem iG_56 : I1 code 56 (.dup) 1 57 := ⟨at_56, rfl⟩
theorem iG_57 : I1 code 57 (.iconst 0) 1 58 := ⟨at_57, rfl⟩
theorem iG_58 : I1 code 58 (.iload 6) 2 60 := ⟨at_58, rfl⟩
theorem iG_60 : I1 code 60 (.iastore) 1 61 := ⟨at_60, rfl⟩
theorem iG_61 : I1 code 61 (.astore 9) 2 63 := ⟨at_61, rfl⟩
theorem iG_63 : I1 code 63 (.iconst 1) 1 64 := ⟨at_63, rfl⟩
theorem iG_64 : I1 code 64 (.newarray .int) 2 66 := ⟨at_64, rfl⟩
theorem iG_66 : I1 code 66 (.dup) 1 67 := ⟨at_66, rfl⟩
theorem iG_67 : I1 code 67 (.iconst 0) 1 68 := ⟨at_67, rfl⟩
theorem iG_68 : I1 code 68 (.iconst 1) 1 69 := ⟨at_68, rfl⟩
theorem iG_69 : I1 code 69 (.iload 6) 2 71 := ⟨at_69, rfl⟩
theorem iG_71 : I1 code 71 (.isub) 1 72 := ⟨at_71, rfl⟩
theorem iG_72 : I1 code 72 (.iastore) 1 73 := ⟨at_72, rfl⟩
theorem iG_73 : I1 code 73 (.astore 10) 2 75 := ⟨at_73, rfl⟩
theorem iG_75 : I1 code 75 (.new 14) 3 78 := ⟨at_75, rfl⟩
theorem iG_78 : I1 code 78 (.dup) 1 79 := ⟨at_78, rfl⟩
theorem iG_79 : I1 code 79 (.iconst 2) 1 80 := ⟨at_79, rfl⟩
theorem iG_80 : I1 code 80 (.iload_n 3) 1 81 := ⟨at_80, rfl⟩
theorem iG_81 : I1 code 81 (.invokespecial 16) 3 84 := ⟨at_81, rfl⟩
theorem iG_84 : I1 code 84 (.astore 11) 2 86 := ⟨at_84, rfl⟩
theorem iG_86 : I1 code 86 (.aload 11) 2 88 := ⟨at_86, rfl⟩
theorem iG_88 : I1 code 88 (.aload 8) 2 90 := ⟨at_88, rfl⟩
theorem iG_90 : I1 code 90 (.iconst 2) 1 91 := ⟨at_90, rfl⟩
theorem iG_91 : I1 code 91 (.iconst 0) 1 92 := ⟨at_91, rfl⟩
theorem iG_92 : I1 code 92 (.invokevirtual 19) 3 95 := ⟨at_92, rfl⟩
theorem iG_95 : I1 code 95 (.iload_n 3) 1 96 := ⟨at_95, rfl⟩
theorem iG_96 : I1 code 96 (.iconst 1) 1 97 := ⟨at_96, rfl⟩
theorem iG_97 : B1 code 97 (.if_icmp .le 12) 12 109 100 := ⟨at_97, rfl, by decide, by decide⟩
theorem iG_100 : I1 code 100 (.aload 11) 2 102 := ⟨at_100, rfl⟩
theorem iG_102 : I1 code 102 (.aload 8) 2 104 := ⟨at_102, rfl⟩
theorem iG_104 : I1 code 104 (.iconst 2) 1 105 := ⟨at_104, rfl⟩
theorem iG_105 : I1 code 105 (.iconst 1) 1 106 := ⟨at_105, rfl⟩
theorem iG_106 : I1 code 106 (.invokevirtual 19) 3 109 := ⟨at_106, rfl⟩
theorem iG_109 : I1 code 109 (.iload_n 3) 1 110 := ⟨at_109, rfl⟩
theorem iG_110 : I1 code 110 (.iconst 2) 1 111 := ⟨at_110, rfl⟩
theorem iG_111 : B1 code 111 (.if_icmp .le 12) 12 123 114 := ⟨at_111, rfl, by decide, by decide⟩
theorem iG_114 : I1 code 114 (.aload 11) 2 116 := ⟨at_114, rfl⟩
theorem iG_116 : I1 code 116 (.aload 8) 2 118 := ⟨at_116, rfl⟩
theorem iG_118 : I1 code 118 (.iconst 2) 1 119 := ⟨at_118, rfl⟩
theorem iG_119 : I1 code 119 (.iconst 2) 1 120 := ⟨at_119, rfl⟩
theorem iG_120 : I1 code 120 (.invokevirtual 19) 3 123 := ⟨at_120, rfl⟩
theorem iG_123 : I1 code 123 (.iload_n 3) 1 124 := ⟨at_123, rfl⟩
theorem iG_124 : I1 code 124 (.iconst 3) 1 125 := ⟨at_124, rfl⟩
theorem iG_125 : B1 code 125 (.if_icmp .le 12) 12 137 128 := ⟨at_125, rfl, by decide, by decide⟩
theorem iG_128 : I1 code 128 (.aload 11) 2 130 := ⟨at_128, rfl⟩
theorem iG_130 : I1 code 130 (.aload 8) 2 132 := ⟨at_130, rfl⟩
theorem iG_132 : I1 code 132 (.iconst 2) 1 133 := ⟨at_132, rfl⟩
theorem iG_133 : I1 code 133 (.iconst 3) 1 134 := ⟨at_133, rfl⟩
theorem iG_134 : I1 code 134 (.invokevirtual 19) 3 137 := ⟨at_134, rfl⟩
theorem iG_137 : I1 code 137 (.aload 11) 2 139 := ⟨at_137, rfl⟩
theorem iG_139 : I1 code 139 (.aload 8) 2 141 := ⟨at_139, rfl⟩
theorem iG_141 : I1 code 141 (.iload 7) 2 143 := ⟨at_141, rfl⟩
theorem iG_143 : I1 code 143 (.iload 5) 2 145 := ⟨at_143, rfl⟩
theorem iG_145 : I1 code 145 (.invokevirtual 23) 3 148 := ⟨at_145, rfl⟩
theorem iG_148 : I1 code 148 (.iload_n 3) 1 149 := ⟨at_148, rfl⟩
theorem iG_149 : I1 code 149 (.iconst 4) 1 150 := ⟨at_149, rfl⟩
theorem iG_150 : B1 code 150 (.if_icmp .gt 7) 7 157 153 := ⟨at_150, rfl, by decide, by decide⟩
theorem iG_153 : I1 code 153 (.iconst (-1)) 1 154 := ⟨at_153, rfl⟩
theorem iG_154 : B1 code 154 (.goto 4) 4 158 157 := ⟨at_154, rfl, by decide, by decide⟩
theorem iG_157 : I1 code 157 (.iconst 4) 1 158 := ⟨at_157, rfl⟩
theorem iG_158 : I1 code 158 (.istore 12) 2 160 := ⟨at_158, rfl⟩
theorem iG_160 : I1 code 160 (.aload 11) 2 162 := ⟨at_160, rfl⟩
theorem iG_162 : I1 code 162 (.aload 9) 2 164 := ⟨at_162, rfl⟩
theorem iG_164 : I1 code 164 (.iconst 1) 1 165 := ⟨at_164, rfl⟩
theorem iG_165 : I1 code 165 (.invokevirtual 26) 3 168 := ⟨at_165, rfl⟩
theorem iG_168 : I1 code 168 (.istore 13) 2 170 := ⟨at_168, rfl⟩
theorem iG_170 : I1 code 170 (.aload 11) 2 172 := ⟨at_170, rfl⟩
theorem iG_172 : I1 code 172 (.aload 10) 2 174 := ⟨at_172, rfl⟩
theorem iG_174 : I1 code 174 (.iconst 1) 1 175 := ⟨at_174, rfl⟩
theorem iG_175 : I1 code 175 (.invokevirtual 26) 3 178 := ⟨at_175, rfl⟩
theorem iG_178 : I1 code 178 (.istore 14) 2 180 := ⟨at_178, rfl⟩
theorem iG_180 : I1 code 180 (.iload 7) 2 182 := ⟨at_180, rfl⟩
theorem iG_182 : I1 code 182 (.iconst 1) 1 183 := ⟨at_182, rfl⟩
theorem iG_183 : B1 code 183 (.if_icmp .lt 8) 8 191 186 := ⟨at_183, rfl, by decide, by decide⟩
theorem iG_186 : I1 code 186 (.iload 5) 2 188 := ⟨at_186, rfl⟩
theorem iG_188 : B1 code 188 (.goto 5) 5 193 191 := ⟨at_188, rfl, by decide, by decide⟩
theorem iG_191 : I1 code 191 (.iload 12) 2 193 := ⟨at_191, rfl⟩
theorem iG_193 : I1 code 193 (.istore 15) 2 195 := ⟨at_193, rfl⟩
theorem iG_195 : I1 code 195 (.iload 7) 2 197 := ⟨at_195, rfl⟩
theorem iG_197 : I1 code 197 (.iconst 2) 1 198 := ⟨at_197, rfl⟩
theorem iG_198 : B1 code 198 (.if_icmp .lt 8) 8 206 201 := ⟨at_198, rfl, by decide, by decide⟩
theorem iG_201 : I1 code 201 (.iload 5) 2 203 := ⟨at_201, rfl⟩
theorem iG_203 : B1 code 203 (.goto 5) 5 208 206 := ⟨at_203, rfl, by decide, by decide⟩
theorem iG_206 : I1 code 206 (.iload 12) 2 208 := ⟨at_206, rfl⟩
theorem iG_208 : I1 code 208 (.istore 16) 2 210 := ⟨at_208, rfl⟩
theorem iG_210 : I1 code 210 (.aload 11) 2 212 := ⟨at_210, rfl⟩
theorem iG_212 : I1 code 212 (.aload 8) 2 214 := ⟨at_212, rfl⟩
theorem iG_214 : I1 code 214 (.iconst 2) 1 215 := ⟨at_214, rfl⟩
theorem iG_215 : I1 code 215 (.iload 5) 2 217 := ⟨at_215, rfl⟩
theorem iG_217 : I1 code 217 (.invokevirtual 19) 3 220 := ⟨at_217, rfl⟩
theorem iG_220 : I1 code 220 (.aload 11) 2 222 := ⟨at_220, rfl⟩
theorem iG_222 : I1 code 222 (.aload 8) 2 224 := ⟨at_222, rfl⟩
theorem iG_224 : I1 code 224 (.iconst 2) 1 225 := ⟨at_224, rfl⟩
theorem iG_225 : I1 code 225 (.invokevirtual 26) 3 228 := ⟨at_225, rfl⟩
theorem iG_228 : I1 code 228 (.istore 17) 2 230 := ⟨at_228, rfl⟩
theorem iG_230 : I1 code 230 (.iload 13) 2 232 := ⟨at_230, rfl⟩
theorem iG_232 : I1 code 232 (.iload 15) 2 234 := ⟨at_232, rfl⟩
theorem iG_234 : B1 code 234 (.if_icmp .ne 21) 21 255 237 := ⟨at_234, rfl, by decide, by decide⟩
theorem iG_237 : I1 code 237 (.iload 14) 2 239 := ⟨at_237, rfl⟩
theorem iG_239 : I1 code 239 (.iload 16) 2 241 := ⟨at_239, rfl⟩
theorem iG_241 : B1 code 241 (.if_icmp .ne 14) 14 255 244 := ⟨at_241, rfl, by decide, by decide⟩
theorem iG_244 : I1 code 244 (.iload 17) 2 246 := ⟨at_244, rfl⟩
theorem iG_246 : I1 code 246 (.iload 12) 2 248 := ⟨at_246, rfl⟩
theorem iG_248 : B1 code 248 (.if_icmp .ne 7) 7 255 251 := ⟨at_248, rfl, by decide, by decide⟩
theorem iG_251 : I1 code 251 (.iconst 1) 1 252 := ⟨at_251, rfl⟩
theorem iG_252 : B1 code 252 (.goto 4) 4 256 255 := ⟨at_252, rfl, by decide, by decide⟩
theorem iG_255 : I1 code 255 (.iconst 0) 1 256 := ⟨at_255, rfl⟩
theorem iG_256 : I1 code 256 (.ireturn) 1 257 := ⟨at_256, rfl⟩
def vG_0 (wl : Int32) (w : Int32) (x : Int32) (cnt : Int32) : Nat → Int32 := (fun ix => if ix = 0 then x else (fun _ => (0 : Int32)) ix)
def vG_1 (wl : Int32) (w : Int32) (x : Int32) (cnt : Int32) : Nat → Int32 := (fun ix => if ix = 1 then ((1 : Int32) - x) else (vG_0 wl w x cnt) ix)
def vG_2 (wl : Int32) (w : Int32) (x : Int32) (cnt : Int32) : Nat → Int32 := (fun ix => if ix = 0 then ((1 : Int32) - x) else (fun _ => (0 : Int32)) ix)
def vG_3 (wl : Int32) (w : Int32) (x : Int32) (cnt : Int32) : Int32 := (if (4 : Int32) < wl then (4 : Int32) else (-1 : Int32))
def vG_4 (wl : Int32) (w : Int32) (x : Int32) (cnt : Int32) : Int32 := (ffF (fun wd => ((0 : Int64) ||| ((vT_3 (3 : Int32) 2 ((2 : Int32) * ((wl + (63 : Int32)) / (64 : Int32))).toNatClampNeg (vG_1 wl w x cnt) ((wl + (63 : Int32)) / (64 : Int32)) (vT_3 (2 : Int32) 2 ((2 : Int32) * ((wl + (63 : Int32)) / (64 : Int32))).toNatClampNeg (vG_1 wl w x cnt) ((wl + (63 : Int32)) / (64 : Int32)) (vT_3 (1 : Int32) 2 ((2 : Int32) * ((wl + (63 : Int32)) / (64 : Int32))).toNatClampNeg (vG_1 wl w x cnt) ((wl + (63 : Int32)) / (64 : Int32)) (vT_3 (0 : Int32) 2 ((2 : Int32) * ((wl + (63 : Int32)) / (64 : Int32))).toNatClampNeg (vG_1 wl w x cnt) ((wl + (63 : Int32)) / (64 : Int32)) (fun _ => (0 : Int64)))))) (((((vG_0 wl w x cnt) 0) * ((wl + (63 : Int32)) / (64 : Int32))) + (wd.toInt32))).toNatClampNeg))) ((wl + (63 : Int32)) / (64 : Int32)).toNatClampNeg (vI_1 wl (0 : Int32) (0 : Int64)) (((wl + (63 : Int32)) / (64 : Int32)).toNatClampNeg + 1) 0)
def vG_5 (wl : Int32) (w : Int32) (x : Int32) (cnt : Int32) : Int32 := (ffF (fun wd => ((0 : Int64) ||| ((vT_3 (3 : Int32) 2 ((2 : Int32) * ((wl + (63 : Int32)) / (64 : Int32))).toNatClampNeg (vG_1 wl w x cnt) ((wl + (63 : Int32)) / (64 : Int32)) (vT_3 (2 : Int32) 2 ((2 : Int32) * ((wl + (63 : Int32)) / (64 : Int32))).toNatClampNeg (vG_1 wl w x cnt) ((wl + (63 : Int32)) / (64 : Int32)) (vT_3 (1 : Int32) 2 ((2 : Int32) * ((wl + (63 : Int32)) / (64 : Int32))).toNatClampNeg (vG_1 wl w x cnt) ((wl + (63 : Int32)) / (64 : Int32)) (vT_3 (0 : Int32) 2 ((2 : Int32) * ((wl + (63 : Int32)) / (64 : Int32))).toNatClampNeg (vG_1 wl w x cnt) ((wl + (63 : Int32)) / (64 : Int32)) (fun _ => (0 : Int64)))))) (((((vG_2 wl w x cnt) 0) * ((wl + (63 : Int32)) / (64 : Int32))) + (wd.toInt32))).toNatClampNeg))) ((wl + (63 : Int32)) / (64 : Int32)).toNatClampNeg (vI_1 wl (0 : Int32) (0 : Int64)) (((wl + (63 : Int32)) / (64 : Int32)).toNatClampNeg + 1) 0)
def vG_6 (wl : Int32) (w : Int32) (x : Int32) (cnt : Int32) : Int32 := (ffF (fun wd => (((0 : Int64) ||| ((vT_3 w 2 ((2 : Int32) * ((wl + (63 : Int32)) / (64 : Int32))).toNatClampNeg (vG_1 wl w x cnt) ((wl + (63 : Int32)) / (64 : Int32)) (vT_3 (3 : Int32) 2 ((2 : Int32) * ((wl + (63 : Int32)) / (64 : Int32))).toNatClampNeg (vG_1 wl w x cnt) ((wl + (63 : Int32)) / (64 : Int32)) (vT_3 (2 : Int32) 2 ((2 : Int32) * ((wl + (63 : Int32)) / (64 : Int32))).toNatClampNeg (vG_1 wl w x cnt) ((wl + (63 : Int32)) / (64 : Int32)) (vT_3 (1 : Int32) 2 ((2 : Int32) * ((wl + (63 : Int32)) / (64 : Int32))).toNatClampNeg (vG_1 wl w x cnt) ((wl + (63 : Int32)) / (64 : Int32)) (vT_3 (0 : Int32) 2 ((2 : Int32) * ((wl + (63 : Int32)) / (64 : Int32))).toNatClampNeg (vG_1 wl w x cnt) ((wl + (63 : Int32)) / (64 : Int32)) (fun _ => (0 : Int64))))))) (((((vG_1 wl w x cnt) 0) * ((wl + (63 : Int32)) / (64 : Int32))) + (wd.toInt32))).toNatClampNeg)) ||| ((vT_3 w 2 ((2 : Int32) * ((wl + (63 : Int32)) / (64 : Int32))).toNatClampNeg (vG_1 wl w x cnt) ((wl + (63 : Int32)) / (64 : Int32)) (vT_3 (3 : Int32) 2 ((2 : Int32) * ((wl + (63 : Int32)) / (64 : Int32))).toNatClampNeg (vG_1 wl w x cnt) ((wl + (63 : Int32)) / (64 : Int32)) (vT_3 (2 : Int32) 2 ((2 : Int32) * ((wl + (63 : Int32)) / (64 : Int32))).toNatClampNeg (vG_1 wl w x cnt) ((wl + (63 : Int32)) / (64 : Int32)) (vT_3 (1 : Int32) 2 ((2 : Int32) * ((wl + (63 : Int32)) / (64 : Int32))).toNatClampNeg (vG_1 wl w x cnt) ((wl + (63 : Int32)) / (64 : Int32)) (vT_3 (0 : Int32) 2 ((2 : Int32) * ((wl + (63 : Int32)) / (64 : Int32))).toNatClampNeg (vG_1 wl w x cnt) ((wl + (63 : Int32)) / (64 : Int32)) (fun _ => (0 : Int64))))))) (((((vG_1 wl w x cnt) 1) * ((wl + (63 : Int32)) / (64 : Int32))) + (wd.toInt32))).toNatClampNeg))) ((wl + (63 : Int32)) / (64 : Int32)).toNatClampNeg (vI_1 wl (0 : Int32) (0 : Int64)) (((wl + (63 : Int32)) / (64 : Int32)).toNatClampNeg + 1) 0)
def vG_7 (wl : Int32) (w : Int32) (x : Int32) (cnt : Int32) : Int32 := (if (vG_6 wl w x cnt) = (vG_3 wl w x cnt) then (1 : Int32) else (0 : Int32))
def vG_8 (wl : Int32) (w : Int32) (x : Int32) (cnt : Int32) : Int32 := (if (vG_5 wl w x cnt) = (vG_3 wl w x cnt) then (if (vG_6 wl w x cnt) = (vG_3 wl w x cnt) then (1 : Int32) else (0 : Int32)) else (0 : Int32))
def vG_9 (wl : Int32) (w : Int32) (x : Int32) (cnt : Int32) : Int32 := (if (vG_4 wl w x cnt) = (vG_3 wl w x cnt) then (if (vG_5 wl w x cnt) = (vG_3 wl w x cnt) then (if (vG_6 wl w x cnt) = (vG_3 wl w x cnt) then (1 : Int32) else (0 : Int32)) else (0 : Int32)) else (0 : Int32))
def vG_10 (wl : Int32) (w : Int32) (x : Int32) (cnt : Int32) : Int32 := (ffF (fun wd => ((0 : Int64) ||| ((vR1_1 w 2 ((2 : Int32) * ((wl + (63 : Int32)) / (64 : Int32))).toNatClampNeg (vG_1 wl w x cnt) ((wl + (63 : Int32)) / (64 : Int32)) (vT_3 (3 : Int32) 2 ((2 : Int32) * ((wl + (63 : Int32)) / (64 : Int32))).toNatClampNeg (vG_1 wl w x cnt) ((wl + (63 : Int32)) / (64 : Int32)) (vT_3 (2 : Int32) 2 ((2 : Int32) * ((wl + (63 : Int32)) / (64 : Int32))).toNatClampNeg (vG_1 wl w x cnt) ((wl + (63 : Int32)) / (64 : Int32)) (vT_3 (1 : Int32) 2 ((2 : Int32) * ((wl + (63 : Int32)) / (64 : Int32))).toNatClampNeg (vG_1 wl w x cnt) ((wl + (63 : Int32)) / (64 : Int32)) (vT_3 (0 : Int32) 2 ((2 : Int32) * ((wl + (63 : Int32)) / (64 : Int32))).toNatClampNeg (vG_1 wl w x cnt) ((wl + (63 : Int32)) / (64 : Int32)) (fun _ => (0 : Int64))))))) (((((vG_0 wl w x cnt) 0) * ((wl + (63 : Int32)) / (64 : Int32))) + (wd.toInt32))).toNatClampNeg))) ((wl + (63 : Int32)) / (64 : Int32)).toNatClampNeg (vI_1 wl (0 : Int32) (0 : Int64)) (((wl + (63 : Int32)) / (64 : Int32)).toNatClampNeg + 1) 0)
def vG_11 (wl : Int32) (w : Int32) (x : Int32) (cnt : Int32) : Int32 := (ffF (fun wd => ((0 : Int64) ||| ((vR1_1 w 2 ((2 : Int32) * ((wl + (63 : Int32)) / (64 : Int32))).toNatClampNeg (vG_1 wl w x cnt) ((wl + (63 : Int32)) / (64 : Int32)) (vT_3 (3 : Int32) 2 ((2 : Int32) * ((wl + (63 : Int32)) / (64 : Int32))).toNatClampNeg (vG_1 wl w x cnt) ((wl + (63 : Int32)) / (64 : Int32)) (vT_3 (2 : Int32) 2 ((2 : Int32) * ((wl + (63 : Int32)) / (64 : Int32))).toNatClampNeg (vG_1 wl w x cnt) ((wl + (63 : Int32)) / (64 : Int32)) (vT_3 (1 : Int32) 2 ((2 : Int32) * ((wl + (63 : Int32)) / (64 : Int32))).toNatClampNeg (vG_1 wl w x cnt) ((wl + (63 : Int32)) / (64 : Int32)) (vT_3 (0 : Int32) 2 ((2 : Int32) * ((wl + (63 : Int32)) / (64 : Int32))).toNatClampNeg (vG_1 wl w x cnt) ((wl + (63 : Int32)) / (64 : Int32)) (fun _ => (0 : Int64))))))) (((((vG_2 wl w x cnt) 0) * ((wl + (63 : Int32)) / (64 : Int32))) + (wd.toInt32))).toNatClampNeg))) ((wl + (63 : Int32)) / (64 : Int32)).toNatClampNeg (vI_1 wl (0 : Int32) (0 : Int64)) (((wl + (63 : Int32)) / (64 : Int32)).toNatClampNeg + 1) 0)
def vG_12 (wl : Int32) (w : Int32) (x : Int32) (cnt : Int32) : Int32 := (ffF (fun wd => (((0 : Int64) ||| ((vT_3 w 2 ((2 : Int32) * ((wl + (63 : Int32)) / (64 : Int32))).toNatClampNeg (vG_1 wl w x cnt) ((wl + (63 : Int32)) / (64 : Int32)) (vR1_1 w 2 ((2 : Int32) * ((wl + (63 : Int32)) / (64 : Int32))).toNatClampNeg (vG_1 wl w x cnt) ((wl + (63 : Int32)) / (64 : Int32)) (vT_3 (3 : Int32) 2 ((2 : Int32) * ((wl + (63 : Int32)) / (64 : Int32))).toNatClampNeg (vG_1 wl w x cnt) ((wl + (63 : Int32)) / (64 : Int32)) (vT_3 (2 : Int32) 2 ((2 : Int32) * ((wl + (63 : Int32)) / (64 : Int32))).toNatClampNeg (vG_1 wl w x cnt) ((wl + (63 : Int32)) / (64 : Int32)) (vT_3 (1 : Int32) 2 ((2 : Int32) * ((wl + (63 : Int32)) / (64 : Int32))).toNatClampNeg (vG_1 wl w x cnt) ((wl + (63 : Int32)) / (64 : Int32)) (vT_3 (0 : Int32) 2 ((2 : Int32) * ((wl + (63 : Int32)) / (64 : Int32))).toNatClampNeg (vG_1 wl w x cnt) ((wl + (63 : Int32)) / (64 : Int32)) (fun _ => (0 : Int64)))))))) (((((vG_1 wl w x cnt) 0) * ((wl + (63 : Int32)) / (64 : Int32))) + (wd.toInt32))).toNatClampNeg)) ||| ((vT_3 w 2 ((2 : Int32) * ((wl + (63 : Int32)) / (64 : Int32))).toNatClampNeg (vG_1 wl w x cnt) ((wl + (63 : Int32)) / (64 : Int32)) (vR1_1 w 2 ((2 : Int32) * ((wl + (63 : Int32)) / (64 : Int32))).toNatClampNeg (vG_1 wl w x cnt) ((wl + (63 : Int32)) / (64 : Int32)) (vT_3 (3 : Int32) 2 ((2 : Int32) * ((wl + (63 : Int32)) / (64 : Int32))).toNatClampNeg (vG_1 wl w x cnt) ((wl + (63 : Int32)) / (64 : Int32)) (vT_3 (2 : Int32) 2 ((2 : Int32) * ((wl + (63 : Int32)) / (64 : Int32))).toNatClampNeg (vG_1 wl w x cnt) ((wl + (63 : Int32)) / (64 : Int32)) (vT_3 (1 : Int32) 2 ((2 : Int32) * ((wl + (63 : Int32)) / (64 : Int32))).toNatClampNeg (vG_1 wl w x cnt) ((wl + (63 : Int32)) / (64 : Int32)) (vT_3 (0 : Int32) 2 ((2 : Int32) * ((wl + (63 : Int32)) / (64 : Int32))).toNatClampNeg (vG_1 wl w x cnt) ((wl + (63 : Int32)) / (64 : Int32)) (fun _ => (0 : Int64)))))))) (((((vG_1 wl w x cnt) 1) * ((wl + (63 : Int32)) / (64 : Int32))) + (wd.toInt32))).toNatClampNeg))) ((wl + (63 : Int32)) / (64 : Int32)).toNatClampNeg (vI_1 wl (0 : Int32) (0 : Int64)) (((wl + (63 : Int32)) / (64 : Int32)).toNatClampNeg + 1) 0)
def vG_13 (wl : Int32) (w : Int32) (x : Int32) (cnt : Int32) : Int32 := (if (vG_12 wl w x cnt) = (vG_3 wl w x cnt) then (1 : Int32) else (0 : Int32))
def vG_14 (wl : Int32) (w : Int32) (x : Int32) (cnt : Int32) : Int32 := (if (vG_11 wl w x cnt) = (vG_3 wl w x cnt) then (if (vG_12 wl w x cnt) = (vG_3 wl w x cnt) then (1 : Int32) else (0 : Int32)) else (0 : Int32))
def vG_15 (wl : Int32) (w : Int32) (x : Int32) (cnt : Int32) : Int32 := (if (vG_10 wl w x cnt) = w then (if (vG_11 wl w x cnt) = (vG_3 wl w x cnt) then (if (vG_12 wl w x cnt) = (vG_3 wl w x cnt) then (1 : Int32) else (0 : Int32)) else (0 : Int32)) else (0 : Int32))
def vG_16 (wl : Int32) (w : Int32) (x : Int32) (cnt : Int32) : Int32 := (ffF (fun wd => ((0 : Int64) ||| ((vR2_3 w 2 ((2 : Int32) * ((wl + (63 : Int32)) / (64 : Int32))).toNatClampNeg (vG_1 wl w x cnt) ((wl + (63 : Int32)) / (64 : Int32)) (vT_3 (3 : Int32) 2 ((2 : Int32) * ((wl + (63 : Int32)) / (64 : Int32))).toNatClampNeg (vG_1 wl w x cnt) ((wl + (63 : Int32)) / (64 : Int32)) (vT_3 (2 : Int32) 2 ((2 : Int32) * ((wl + (63 : Int32)) / (64 : Int32))).toNatClampNeg (vG_1 wl w x cnt) ((wl + (63 : Int32)) / (64 : Int32)) (vT_3 (1 : Int32) 2 ((2 : Int32) * ((wl + (63 : Int32)) / (64 : Int32))).toNatClampNeg (vG_1 wl w x cnt) ((wl + (63 : Int32)) / (64 : Int32)) (vT_3 (0 : Int32) 2 ((2 : Int32) * ((wl + (63 : Int32)) / (64 : Int32))).toNatClampNeg (vG_1 wl w x cnt) ((wl + (63 : Int32)) / (64 : Int32)) (fun _ => (0 : Int64))))))) (((((vG_0 wl w x cnt) 0) * ((wl + (63 : Int32)) / (64 : Int32))) + (wd.toInt32))).toNatClampNeg))) ((wl + (63 : Int32)) / (64 : Int32)).toNatClampNeg (vI_1 wl (0 : Int32) (0 : Int64)) (((wl + (63 : Int32)) / (64 : Int32)).toNatClampNeg + 1) 0)
def vG_17 (wl : Int32) (w : Int32) (x : Int32) (cnt : Int32) : Int32 := (ffF (fun wd => ((0 : Int64) ||| ((vR2_3 w 2 ((2 : Int32) * ((wl + (63 : Int32)) / (64 : Int32))).toNatClampNeg (vG_1 wl w x cnt) ((wl + (63 : Int32)) / (64 : Int32)) (vT_3 (3 : Int32) 2 ((2 : Int32) * ((wl + (63 : Int32)) / (64 : Int32))).toNatClampNeg (vG_1 wl w x cnt) ((wl + (63 : Int32)) / (64 : Int32)) (vT_3 (2 : Int32) 2 ((2 : Int32) * ((wl + (63 : Int32)) / (64 : Int32))).toNatClampNeg (vG_1 wl w x cnt) ((wl + (63 : Int32)) / (64 : Int32)) (vT_3 (1 : Int32) 2 ((2 : Int32) * ((wl + (63 : Int32)) / (64 : Int32))).toNatClampNeg (vG_1 wl w x cnt) ((wl + (63 : Int32)) / (64 : Int32)) (vT_3 (0 : Int32) 2 ((2 : Int32) * ((wl + (63 : Int32)) / (64 : Int32))).toNatClampNeg (vG_1 wl w x cnt) ((wl + (63 : Int32)) / (64 : Int32)) (fun _ => (0 : Int64))))))) (((((vG_2 wl w x cnt) 0) * ((wl + (63 : Int32)) / (64 : Int32))) + (wd.toInt32))).toNatClampNeg))) ((wl + (63 : Int32)) / (64 : Int32)).toNatClampNeg (vI_1 wl (0 : Int32) (0 : Int64)) (((wl + (63 : Int32)) / (64 : Int32)).toNatClampNeg + 1) 0)
def vG_18 (wl : Int32) (w : Int32) (x : Int32) (cnt : Int32) : Int32 := (ffF (fun wd => (((0 : Int64) ||| ((vT_3 w 2 ((2 : Int32) * ((wl + (63 : Int32)) / (64 : Int32))).toNatClampNeg (vG_1 wl w x cnt) ((wl + (63 : Int32)) / (64 : Int32)) (vR2_3 w 2 ((2 : Int32) * ((wl + (63 : Int32)) / (64 : Int32))).toNatClampNeg (vG_1 wl w x cnt) ((wl + (63 : Int32)) / (64 : Int32)) (vT_3 (3 : Int32) 2 ((2 : Int32) * ((wl + (63 : Int32)) / (64 : Int32))).toNatClampNeg (vG_1 wl w x cnt) ((wl + (63 : Int32)) / (64 : Int32)) (vT_3 (2 : Int32) 2 ((2 : Int32) * ((wl + (63 : Int32)) / (64 : Int32))).toNatClampNeg (vG_1 wl w x cnt) ((wl + (63 : Int32)) / (64 : Int32)) (vT_3 (1 : Int32) 2 ((2 : Int32) * ((wl + (63 : Int32)) / (64 : Int32))).toNatClampNeg (vG_1 wl w x cnt) ((wl + (63 : Int32)) / (64 : Int32)) (vT_3 (0 : Int32) 2 ((2 : Int32) * ((wl + (63 : Int32)) / (64 : Int32))).toNatClampNeg (vG_1 wl w x cnt) ((wl + (63 : Int32)) / (64 : Int32)) (fun _ => (0 : Int64)))))))) (((((vG_1 wl w x cnt) 0) * ((wl + (63 : Int32)) / (64 : Int32))) + (wd.toInt32))).toNatClampNeg)) ||| ((vT_3 w 2 ((2 : Int32) * ((wl + (63 : Int32)) / (64 : Int32))).toNatClampNeg (vG_1 wl w x cnt) ((wl + (63 : Int32)) / (64 : Int32)) (vR2_3 w 2 ((2 : Int32) * ((wl + (63 : Int32)) / (64 : Int32))).toNatClampNeg (vG_1 wl w x cnt) ((wl + (63 : Int32)) / (64 : Int32)) (vT_3 (3 : Int32) 2 ((2 : Int32) * ((wl + (63 : Int32)) / (64 : Int32))).toNatClampNeg (vG_1 wl w x cnt) ((wl + (63 : Int32)) / (64 : Int32)) (vT_3 (2 : Int32) 2 ((2 : Int32) * ((wl + (63 : Int32)) / (64 : Int32))).toNatClampNeg (vG_1 wl w x cnt) ((wl + (63 : Int32)) / (64 : Int32)) (vT_3 (1 : Int32) 2 ((2 : Int32) * ((wl + (63 : Int32)) / (64 : Int32))).toNatClampNeg (vG_1 wl w x cnt) ((wl + (63 : Int32)) / (64 : Int32)) (vT_3 (0 : Int32) 2 ((2 : Int32) * ((wl + (63 : Int32)) / (64 : Int32))).toNatClampNeg (vG_1 wl w x cnt) ((wl + (63 : Int32)) / (64 : Int32)) (fun _ => (0 : Int64)))))))) (((((vG_1 wl w x cnt) 1) * ((wl + (63 : Int32)) / (64 : Int32))) + (wd.toInt32))).toNatClampNeg))) ((wl + (63 : Int32)) / (64 : Int32)).toNatClampNeg (vI_1 wl (0 : Int32) (0 : Int64)) (((wl + (63 : Int32)) / (64 : Int32)).toNatClampNeg + 1) 0)
def vG_19 (wl : Int32) (w : Int32) (x : Int32) (cnt : Int32) : Int32 := (if (vG_18 wl w x cnt) = (vG_3 wl w x cnt) then (1 : Int32) else (0 : Int32))
def vG_20 (wl : Int32) (w : Int32) (x : Int32) (cnt : Int32) : Int32 := (if (vG_17 wl w x cnt) = w then (if (vG_18 wl w x cnt) = (vG_3 wl w x cnt) then (1 : Int32) else (0 : Int32)) else (0 : Int32))
def vG_21 (wl : Int32) (w : Int32) (x : Int32) (cnt : Int32) : Int32 := (if (vG_16 wl w x cnt) = w then (if (vG_17 wl w x cnt) = w then (if (vG_18 wl w x cnt) = (vG_3 wl w x cnt) then (1 : Int32) else (0 : Int32)) else (0 : Int32)) else (0 : Int32))
def vG_22 (wl : Int32) (w : Int32) (x : Int32) (cnt : Int32) : Int32 := (ffF (fun wd => ((0 : Int64) ||| ((vT_3 (2 : Int32) 2 ((2 : Int32) * ((wl + (63 : Int32)) / (64 : Int32))).toNatClampNeg (vG_1 wl w x cnt) ((wl + (63 : Int32)) / (64 : Int32)) (vT_3 (1 : Int32) 2 ((2 : Int32) * ((wl + (63 : Int32)) / (64 : Int32))).toNatClampNeg (vG_1 wl w x cnt) ((wl + (63 : Int32)) / (64 : Int32)) (vT_3 (0 : Int32) 2 ((2 : Int32) * ((wl + (63 : Int32)) / (64 : Int32))).toNatClampNeg (vG_1 wl w x cnt) ((wl + (63 : Int32)) / (64 : Int32)) (fun _ => (0 : Int64))))) (((((vG_0 wl w x cnt) 0) * ((wl + (63 : Int32)) / (64 : Int32))) + (wd.toInt32))).toNatClampNeg))) ((wl + (63 : Int32)) / (64 : Int32)).toNatClampNeg (vI_1 wl (0 : Int32) (0 : Int64)) (((wl + (63 : Int32)) / (64 : Int32)).toNatClampNeg + 1) 0)
def vG_23 (wl : Int32) (w : Int32) (x : Int32) (cnt : Int32) : Int32 := (ffF (fun wd => ((0 : Int64) ||| ((vT_3 (2 : Int32) 2 ((2 : Int32) * ((wl + (63 : Int32)) / (64 : Int32))).toNatClampNeg (vG_1 wl w x cnt) ((wl + (63 : Int32)) / (64 : Int32)) (vT_3 (1 : Int32) 2 ((2 : Int32) * ((wl + (63 : Int32)) / (64 : Int32))).toNatClampNeg (vG_1 wl w x cnt) ((wl + (63 : Int32)) / (64 : Int32)) (vT_3 (0 : Int32) 2 ((2 : Int32) * ((wl + (63 : Int32)) / (64 : Int32))).toNatClampNeg (vG_1 wl w x cnt) ((wl + (63 : Int32)) / (64 : Int32)) (fun _ => (0 : Int64))))) (((((vG_2 wl w x cnt) 0) * ((wl + (63 : Int32)) / (64 : Int32))) + (wd.toInt32))).toNatClampNeg))) ((wl + (63 : Int32)) / (64 : Int32)).toNatClampNeg (vI_1 wl (0 : Int32) (0 : Int64)) (((wl + (63 : Int32)) / (64 : Int32)).toNatClampNeg + 1) 0)
def vG_24 (wl : Int32) (w : Int32) (x : Int32) (cnt : Int32) : Int32 := (ffF (fun wd => (((0 : Int64) ||| ((vT_3 w 2 ((2 : Int32) * ((wl + (63 : Int32)) / (64 : Int32))).toNatClampNeg (vG_1 wl w x cnt) ((wl + (63 : Int32)) / (64 : Int32)) (vT_3 (2 : Int32) 2 ((2 : Int32) * ((wl + (63 : Int32)) / (64 : Int32))).toNatClampNeg (vG_1 wl w x cnt) ((wl + (63 : Int32)) / (64 : Int32)) (vT_3 (1 : Int32) 2 ((2 : Int32) * ((wl + (63 : Int32)) / (64 : Int32))).toNatClampNeg (vG_1 wl w x cnt) ((wl + (63 : Int32)) / (64 : Int32)) (vT_3 (0 : Int32) 2 ((2 : Int32) * ((wl + (63 : Int32)) / (64 : Int32))).toNatClampNeg (vG_1 wl w x cnt) ((wl + (63 : Int32)) / (64 : Int32)) (fun _ => (0 : Int64)))))) (((((vG_1 wl w x cnt) 0) * ((wl + (63 : Int32)) / (64 : Int32))) + (wd.toInt32))).toNatClampNeg)) ||| ((vT_3 w 2 ((2 : Int32) * ((wl + (63 : Int32)) / (64 : Int32))).toNatClampNeg (vG_1 wl w x cnt) ((wl + (63 : Int32)) / (64 : Int32)) (vT_3 (2 : Int32) 2 ((2 : Int32) * ((wl + (63 : Int32)) / (64 : Int32))).toNatClampNeg (vG_1 wl w x cnt) ((wl + (63 : Int32)) / (64 : Int32)) (vT_3 (1 : Int32) 2 ((2 : Int32) * ((wl + (63 : Int32)) / (64 : Int32))).toNatClampNeg (vG_1 wl w x cnt) ((wl + (63 : Int32)) / (64 : Int32)) (vT_3 (0 : Int32) 2 ((2 : Int32) * ((wl + (63 : Int32)) / (64 : Int32))).toNatClampNeg (vG_1 wl w x cnt) ((wl + (63 : Int32)) / (64 : Int32)) (fun _ => (0 : Int64)))))) (((((vG_1 wl w x cnt) 1) * ((wl + (63 : Int32)) / (64 : Int32))) + (wd.toInt32))).toNatClampNeg))) ((wl + (63 : Int32)) / (64 : Int32)).toNatClampNeg (vI_1 wl (0 : Int32) (0 : Int64)) (((wl + (63 : Int32)) / (64 : Int32)).toNatClampNeg + 1) 0)
def vG_25 (wl : Int32) (w : Int32) (x : Int32) (cnt : Int32) : Int32 := (if (vG_24 wl w x cnt) = (vG_3 wl w x cnt) then (1 : Int32) else (0 : Int32))
def vG_26 (wl : Int32) (w : Int32) (x : Int32) (cnt : Int32) : Int32 := (if (vG_23 wl w x cnt) = (vG_3 wl w x cnt) then (if (vG_24 wl w x cnt) = (vG_3 wl w x cnt) then (1 : Int32) else (0 : Int32)) else (0 : Int32))
def vG_27 (wl : Int32) (w : Int32) (x : Int32) (cnt : Int32) : Int32 := (if (vG_22 wl w x cnt) = (vG_3 wl w x cnt) then (if (vG_23 wl w x cnt) = (vG_3 wl w x cnt) then (if (vG_24 wl w x cnt) = (vG_3 wl w x cnt) then (1 : Int32) else (0 : Int32)) else (0 : Int32)) else (0 : Int32))
def vG_28 (wl : Int32) (w : Int32) (x : Int32) (cnt : Int32) : Int32 := (ffF (fun wd => ((0 : Int64) ||| ((vR1_1 w 2 ((2 : Int32) * ((wl + (63 : Int32)) / (64 : Int32))).toNatClampNeg (vG_1 wl w x cnt) ((wl + (63 : Int32)) / (64 : Int32)) (vT_3 (2 : Int32) 2 ((2 : Int32) * ((wl + (63 : Int32)) / (64 : Int32))).toNatClampNeg (vG_1 wl w x cnt) ((wl + (63 : Int32)) / (64 : Int32)) (vT_3 (1 : Int32) 2 ((2 : Int32) * ((wl + (63 : Int32)) / (64 : Int32))).toNatClampNeg (vG_1 wl w x cnt) ((wl + (63 : Int32)) / (64 : Int32)) (vT_3 (0 : Int32) 2 ((2 : Int32) * ((wl + (63 : Int32)) / (64 : Int32))).toNatClampNeg (vG_1 wl w x cnt) ((wl + (63 : Int32)) / (64 : Int32)) (fun _ => (0 : Int64)))))) (((((vG_0 wl w x cnt) 0) * ((wl + (63 : Int32)) / (64 : Int32))) + (wd.toInt32))).toNatClampNeg))) ((wl + (63 : Int32)) / (64 : Int32)).toNatClampNeg (vI_1 wl (0 : Int32) (0 : Int64)) (((wl + (63 : Int32)) / (64 : Int32)).toNatClampNeg + 1) 0)
def vG_29 (wl : Int32) (w : Int32) (x : Int32) (cnt : Int32) : Int32 := (ffF (fun wd => ((0 : Int64) ||| ((vR1_1 w 2 ((2 : Int32) * ((wl + (63 : Int32)) / (64 : Int32))).toNatClampNeg (vG_1 wl w x cnt) ((wl + (63 : Int32)) / (64 : Int32)) (vT_3 (2 : Int32) 2 ((2 : Int32) * ((wl + (63 : Int32)) / (64 : Int32))).toNatClampNeg (vG_1 wl w x cnt) ((wl + (63 : Int32)) / (64 : Int32)) (vT_3 (1 : Int32) 2 ((2 : Int32) * ((wl + (63 : Int32)) / (64 : Int32))).toNatClampNeg (vG_1 wl w x cnt) ((wl + (63 : Int32)) / (64 : Int32)) (vT_3 (0 : Int32) 2 ((2 : Int32) * ((wl + (63 : Int32)) / (64 : Int32))).toNatClampNeg (vG_1 wl w x cnt) ((wl + (63 : Int32)) / (64 : Int32)) (fun _ => (0 : Int64)))))) (((((vG_2 wl w x cnt) 0) * ((wl + (63 : Int32)) / (64 : Int32))) + (wd.toInt32))).toNatClampNeg))) ((wl + (63 : Int32)) / (64 : Int32)).toNatClampNeg (vI_1 wl (0 : Int32) (0 : Int64)) (((wl + (63 : Int32)) / (64 : Int32)).toNatClampNeg + 1) 0)
def vG_30 (wl : Int32) (w : Int32) (x : Int32) (cnt : Int32) : Int32 := (ffF (fun wd => (((0 : Int64) ||| ((vT_3 w 2 ((2 : Int32) * ((wl + (63 : Int32)) / (64 : Int32))).toNatClampNeg (vG_1 wl w x cnt) ((wl + (63 : Int32)) / (64 : Int32)) (vR1_1 w 2 ((2 : Int32) * ((wl + (63 : Int32)) / (64 : Int32))).toNatClampNeg (vG_1 wl w x cnt) ((wl + (63 : Int32)) / (64 : Int32)) (vT_3 (2 : Int32) 2 ((2 : Int32) * ((wl + (63 : Int32)) / (64 : Int32))).toNatClampNeg (vG_1 wl w x cnt) ((wl + (63 : Int32)) / (64 : Int32)) (vT_3 (1 : Int32) 2 ((2 : Int32) * ((wl + (63 : Int32)) / (64 : Int32))).toNatClampNeg (vG_1 wl w x cnt) ((wl + (63 : Int32)) / (64 : Int32)) (vT_3 (0 : Int32) 2 ((2 : Int32) * ((wl + (63 : Int32)) / (64 : Int32))).toNatClampNeg (vG_1 wl w x cnt) ((wl + (63 : Int32)) / (64 : Int32)) (fun _ => (0 : Int64))))))) (((((vG_1 wl w x cnt) 0) * ((wl + (63 : Int32)) / (64 : Int32))) + (wd.toInt32))).toNatClampNeg)) ||| ((vT_3 w 2 ((2 : Int32) * ((wl + (63 : Int32)) / (64 : Int32))).toNatClampNeg (vG_1 wl w x cnt) ((wl + (63 : Int32)) / (64 : Int32)) (vR1_1 w 2 ((2 : Int32) * ((wl + (63 : Int32)) / (64 : Int32))).toNatClampNeg (vG_1 wl w x cnt) ((wl + (63 : Int32)) / (64 : Int32)) (vT_3 (2 : Int32) 2 ((2 : Int32) * ((wl + (63 : Int32)) / (64 : Int32))).toNatClampNeg (vG_1 wl w x cnt) ((wl + (63 : Int32)) / (64 : Int32)) (vT_3 (1 : Int32) 2 ((2 : Int32) * ((wl + (63 : Int32)) / (64 : Int32))).toNatClampNeg (vG_1 wl w x cnt) ((wl + (63 : Int32)) / (64 : Int32)) (vT_3 (0 : Int32) 2 ((2 : Int32) * ((wl + (63 : Int32)) / (64 : Int32))).toNatClampNeg (vG_1 wl w x cnt) ((wl + (63 : Int32)) / (64 : Int32)) (fun _ => (0 : Int64))))))) (((((vG_1 wl w x cnt) 1) * ((wl + (63 : Int32)) / (64 : Int32))) + (wd.toInt32))).toNatClampNeg))) ((wl + (63 : Int32)) / (64 : Int32)).toNatClampNeg (vI_1 wl (0 : Int32) (0 : Int64)) (((wl + (63 : Int32)) / (64 : Int32)).toNatClampNeg + 1) 0)
def vG_31 (wl : Int32) (w : Int32) (x : Int32) (cnt : Int32) : Int32 := (if (vG_30 wl w x cnt) = (vG_3 wl w x cnt) then (1 : Int32) else (0 : Int32))
def vG_32 (wl : Int32) (w : Int32) (x : Int32) (cnt : Int32) : Int32 := (if (vG_29 wl w x cnt) = (vG_3 wl w x cnt) then (if (vG_30 wl w x cnt) = (vG_3 wl w x cnt) then (1 : Int32) else (0 : Int32)) else (0 : Int32))
def vG_33 (wl : Int32) (w : Int32) (x : Int32) (cnt : Int32) : Int32 := (if (vG_28 wl w x cnt) = w then (if (vG_29 wl w x cnt) = (vG_3 wl w x cnt) then (if (vG_30 wl w x cnt) = (vG_3 wl w x cnt) then (1 : Int32) else (0 : Int32)) else (0 : Int32)) else (0 : Int32))
def vG_34 (wl : Int32) (w : Int32) (x : Int32) (cnt : Int32) : Int32 := (ffF (fun wd => ((0 : Int64) ||| ((vR2_3 w 2 ((2 : Int32) * ((wl + (63 : Int32)) / (64 : Int32))).toNatClampNeg (vG_1 wl w x cnt) ((wl + (63 : Int32)) / (64 : Int32)) (vT_3 (2 : Int32) 2 ((2 : Int32) * ((wl + (63 : Int32)) / (64 : Int32))).toNatClampNeg (vG_1 wl w x cnt) ((wl + (63 : Int32)) / (64 : Int32)) (vT_3 (1 : Int32) 2 ((2 : Int32) * ((wl + (63 : Int32)) / (64 : Int32))).toNatClampNeg (vG_1 wl w x cnt) ((wl + (63 : Int32)) / (64 : Int32)) (vT_3 (0 : Int32) 2 ((2 : Int32) * ((wl + (63 : Int32)) / (64 : Int32))).toNatClampNeg (vG_1 wl w x cnt) ((wl + (63 : Int32)) / (64 : Int32)) (fun _ => (0 : Int64)))))) (((((vG_0 wl w x cnt) 0) * ((wl + (63 : Int32)) / (64 : Int32))) + (wd.toInt32))).toNatClampNeg))) ((wl + (63 : Int32)) / (64 : Int32)).toNatClampNeg (vI_1 wl (0 : Int32) (0 : Int64)) (((wl + (63 : Int32)) / (64 : Int32)).toNatClampNeg + 1) 0)
def vG_35 (wl : Int32) (w : Int32) (x : Int32) (cnt : Int32) : Int32 := (ffF (fun wd => ((0 : Int64) ||| ((vR2_3 w 2 ((2 : Int32) * ((wl + (63 : Int32)) / (64 : Int32))).toNatClampNeg (vG_1 wl w x cnt) ((wl + (63 : Int32)) / (64 : Int32)) (vT_3 (2 : Int32) 2 ((2 : Int32) * ((wl + (63 : Int32)) / (64 : Int32))).toNatClampNeg (vG_1 wl w x cnt) ((wl + (63 : Int32)) / (64 : Int32)) (vT_3 (1 : Int32) 2 ((2 : Int32) * ((wl + (63 : Int32)) / (64 : Int32))).toNatClampNeg (vG_1 wl w x cnt) ((wl + (63 : Int32)) / (64 : Int32)) (vT_3 (0 : Int32) 2 ((2 : Int32) * ((wl + (63 : Int32)) / (64 : Int32))).toNatClampNeg (vG_1 wl w x cnt) ((wl + (63 : Int32)) / (64 : Int32)) (fun _ => (0 : Int64)))))) (((((vG_2 wl w x cnt) 0) * ((wl + (63 : Int32)) / (64 : Int32))) + (wd.toInt32))).toNatClampNeg))) ((wl + (63 : Int32)) / (64 : Int32)).toNatClampNeg (vI_1 wl (0 : Int32) (0 : Int64)) (((wl + (63 : Int32)) / (64 : Int32)).toNatClampNeg + 1) 0)
def vG_36 (wl : Int32) (w : Int32) (x : Int32) (cnt : Int32) : Int32 := (ffF (fun wd => (((0 : Int64) ||| ((vT_3 w 2 ((2 : Int32) * ((wl + (63 : Int32)) / (64 : Int32))).toNatClampNeg (vG_1 wl w x cnt) ((wl + (63 : Int32)) / (64 : Int32)) (vR2_3 w 2 ((2 : Int32) * ((wl + (63 : Int32)) / (64 : Int32))).toNatClampNeg (vG_1 wl w x cnt) ((wl + (63 : Int32)) / (64 : Int32)) (vT_3 (2 : Int32) 2 ((2 : Int32) * ((wl + (63 : Int32)) / (64 : Int32))).toNatClampNeg (vG_1 wl w x cnt) ((wl + (63 : Int32)) / (64 : Int32)) (vT_3 (1 : Int32) 2 ((2 : Int32) * ((wl + (63 : Int32)) / (64 : Int32))).toNatClampNeg (vG_1 wl w x cnt) ((wl + (63 : Int32)) / (64 : Int32)) (vT_3 (0 : Int32) 2 ((2 : Int32) * ((wl + (63 : Int32)) / (64 : Int32))).toNatClampNeg (vG_1 wl w x cnt) ((wl + (63 : Int32)) / (64 : Int32)) (fun _ => (0 : Int64))))))) (((((vG_1 wl w x cnt) 0) * ((wl + (63 : Int32)) / (64 : Int32))) + (wd.toInt32))).toNatClampNeg)) ||| ((vT_3 w 2 ((2 : Int32) * ((wl + (63 : Int32)) / (64 : Int32))).toNatClampNeg (vG_1 wl w x cnt) ((wl + (63 : Int32)) / (64 : Int32)) (vR2_3 w 2 ((2 : Int32) * ((wl + (63 : Int32)) / (64 : Int32))).toNatClampNeg (vG_1 wl w x cnt) ((wl + (63 : Int32)) / (64 : Int32)) (vT_3 (2 : Int32) 2 ((2 : Int32) * ((wl + (63 : Int32)) / (64 : Int32))).toNatClampNeg (vG_1 wl w x cnt) ((wl + (63 : Int32)) / (64 : Int32)) (vT_3 (1 : Int32) 2 ((2 : Int32) * ((wl + (63 : Int32)) / (64 : Int32))).toNatClampNeg (vG_1 wl w x cnt) ((wl + (63 : Int32)) / (64 : Int32)) (vT_3 (0 : Int32) 2 ((2 : Int32) * ((wl + (63 : Int32)) / (64 : Int32))).toNatClampNeg (vG_1 wl w x cnt) ((wl + (63 : Int32)) / (64 : Int32)) (fun _ => (0 : Int64))))))) (((((vG_1 wl w x cnt) 1) * ((wl + (63 : Int32)) / (64 : Int32))) + (wd.toInt32))).toNatClampNeg))) ((wl + (63 : Int32)) / (64 : Int32)).toNatClampNeg (vI_1 wl (0 : Int32) (0 : Int64)) (((wl + (63 : Int32)) / (64 : Int32)).toNatClampNeg + 1) 0)
def vG_37 (wl : Int32) (w : Int32) (x : Int32) (cnt : Int32) : Int32 := (if (vG_36 wl w x cnt) = (vG_3 wl w x cnt) then (1 : Int32) else (0 : Int32))
def vG_38 (wl : Int32) (w : Int32) (x : Int32) (cnt : Int32) : Int32 := (if (vG_35 wl w x cnt) = w then (if (vG_36 wl w x cnt) = (vG_3 wl w x cnt) then (1 : Int32) else (0 : Int32)) else (0 : Int32))
def vG_39 (wl : Int32) (w : Int32) (x : Int32) (cnt : Int32) : Int32 := (if (vG_34 wl w x cnt) = w then (if (vG_35 wl w x cnt) = w then (if (vG_36 wl w x cnt) = (vG_3 wl w x cnt) then (1 : Int32) else (0 : Int32)) else (0 : Int32)) else (0 : Int32))
def vG_40 (wl : Int32) (w : Int32) (x : Int32) (cnt : Int32) : Int32 := (ffF (fun wd => ((0 : Int64) ||| ((vT_3 (1 : Int32) 2 ((2 : Int32) * ((wl + (63 : Int32)) / (64 : Int32))).toNatClampNeg (vG_1 wl w x cnt) ((wl + (63 : Int32)) / (64 : Int32)) (vT_3 (0 : Int32) 2 ((2 : Int32) * ((wl + (63 : Int32)) / (64 : Int32))).toNatClampNeg (vG_1 wl w x cnt) ((wl + (63 : Int32)) / (64 : Int32)) (fun _ => (0 : Int64)))) (((((vG_0 wl w x cnt) 0) * ((wl + (63 : Int32)) / (64 : Int32))) + (wd.toInt32))).toNatClampNeg))) ((wl + (63 : Int32)) / (64 : Int32)).toNatClampNeg (vI_1 wl (0 : Int32) (0 : Int64)) (((wl + (63 : Int32)) / (64 : Int32)).toNatClampNeg + 1) 0)
def vG_41 (wl : Int32) (w : Int32) (x : Int32) (cnt : Int32) : Int32 := (ffF (fun wd => ((0 : Int64) ||| ((vT_3 (1 : Int32) 2 ((2 : Int32) * ((wl + (63 : Int32)) / (64 : Int32))).toNatClampNeg (vG_1 wl w x cnt) ((wl + (63 : Int32)) / (64 : Int32)) (vT_3 (0 : Int32) 2 ((2 : Int32) * ((wl + (63 : Int32)) / (64 : Int32))).toNatClampNeg (vG_1 wl w x cnt) ((wl + (63 : Int32)) / (64 : Int32)) (fun _ => (0 : Int64)))) (((((vG_2 wl w x cnt) 0) * ((wl + (63 : Int32)) / (64 : Int32))) + (wd.toInt32))).toNatClampNeg))) ((wl + (63 : Int32)) / (64 : Int32)).toNatClampNeg (vI_1 wl (0 : Int32) (0 : Int64)) (((wl + (63 : Int32)) / (64 : Int32)).toNatClampNeg + 1) 0)
def vG_42 (wl : Int32) (w : Int32) (x : Int32) (cnt : Int32) : Int32 := (ffF (fun wd => (((0 : Int64) ||| ((vT_3 w 2 ((2 : Int32) * ((wl + (63 : Int32)) / (64 : Int32))).toNatClampNeg (vG_1 wl w x cnt) ((wl + (63 : Int32)) / (64 : Int32)) (vT_3 (1 : Int32) 2 ((2 : Int32) * ((wl + (63 : Int32)) / (64 : Int32))).toNatClampNeg (vG_1 wl w x cnt) ((wl + (63 : Int32)) / (64 : Int32)) (vT_3 (0 : Int32) 2 ((2 : Int32) * ((wl + (63 : Int32)) / (64 : Int32))).toNatClampNeg (vG_1 wl w x cnt) ((wl + (63 : Int32)) / (64 : Int32)) (fun _ => (0 : Int64))))) (((((vG_1 wl w x cnt) 0) * ((wl + (63 : Int32)) / (64 : Int32))) + (wd.toInt32))).toNatClampNeg)) ||| ((vT_3 w 2 ((2 : Int32) * ((wl + (63 : Int32)) / (64 : Int32))).toNatClampNeg (vG_1 wl w x cnt) ((wl + (63 : Int32)) / (64 : Int32)) (vT_3 (1 : Int32) 2 ((2 : Int32) * ((wl + (63 : Int32)) / (64 : Int32))).toNatClampNeg (vG_1 wl w x cnt) ((wl + (63 : Int32)) / (64 : Int32)) (vT_3 (0 : Int32) 2 ((2 : Int32) * ((wl + (63 : Int32)) / (64 : Int32))).toNatClampNeg (vG_1 wl w x cnt) ((wl + (63 : Int32)) / (64 : Int32)) (fun _ => (0 : Int64))))) (((((vG_1 wl w x cnt) 1) * ((wl + (63 : Int32)) / (64 : Int32))) + (wd.toInt32))).toNatClampNeg))) ((wl + (63 : Int32)) / (64 : Int32)).toNatClampNeg (vI_1 wl (0 : Int32) (0 : Int64)) (((wl + (63 : Int32)) / (64 : Int32)).toNatClampNeg + 1) 0)
def vG_43 (wl : Int32) (w : Int32) (x : Int32) (cnt : Int32) : Int32 := (if (vG_42 wl w x cnt) = (vG_3 wl w x cnt) then (1 : Int32) else (0 : Int32))
def vG_44 (wl : Int32) (w : Int32) (x : Int32) (cnt : Int32) : Int32 := (if (vG_41 wl w x cnt) = (vG_3 wl w x cnt) then (if (vG_42 wl w x cnt) = (vG_3 wl w x cnt) then (1 : Int32) else (0 : Int32)) else (0 : Int32))
def vG_45 (wl : Int32) (w : Int32) (x : Int32) (cnt : Int32) : Int32 := (if (vG_40 wl w x cnt) = (vG_3 wl w x cnt) then (if (vG_41 wl w x cnt) = (vG_3 wl w x cnt) then (if (vG_42 wl w x cnt) = (vG_3 wl w x cnt) then (1 : Int32) else (0 : Int32)) else (0 : Int32)) else (0 : Int32))
def vG_46 (wl : Int32) (w : Int32) (x : Int32) (cnt : Int32) : Int32 := (ffF (fun wd => ((0 : Int64) ||| ((vR1_1 w 2 ((2 : Int32) * ((wl + (63 : Int32)) / (64 : Int32))).toNatClampNeg (vG_1 wl w x cnt) ((wl + (63 : Int32)) / (64 : Int32)) (vT_3 (1 : Int32) 2 ((2 : Int32) * ((wl + (63 : Int32)) / (64 : Int32))).toNatClampNeg (vG_1 wl w x cnt) ((wl + (63 : Int32)) / (64 : Int32)) (vT_3 (0 : Int32) 2 ((2 : Int32) * ((wl + (63 : Int32)) / (64 : Int32))).toNatClampNeg (vG_1 wl w x cnt) ((wl + (63 : Int32)) / (64 : Int32)) (fun _ => (0 : Int64))))) (((((vG_0 wl w x cnt) 0) * ((wl + (63 : Int32)) / (64 : Int32))) + (wd.toInt32))).toNatClampNeg))) ((wl + (63 : Int32)) / (64 : Int32)).toNatClampNeg (vI_1 wl (0 : Int32) (0 : Int64)) (((wl + (63 : Int32)) / (64 : Int32)).toNatClampNeg + 1) 0)
def vG_47 (wl : Int32) (w : Int32) (x : Int32) (cnt : Int32) : Int32 := (ffF (fun wd => ((0 : Int64) ||| ((vR1_1 w 2 ((2 : Int32) * ((wl + (63 : Int32)) / (64 : Int32))).toNatClampNeg (vG_1 wl w x cnt) ((wl + (63 : Int32)) / (64 : Int32)) (vT_3 (1 : Int32) 2 ((2 : Int32) * ((wl + (63 : Int32)) / (64 : Int32))).toNatClampNeg (vG_1 wl w x cnt) ((wl + (63 : Int32)) / (64 : Int32)) (vT_3 (0 : Int32) 2 ((2 : Int32) * ((wl + (63 : Int32)) / (64 : Int32))).toNatClampNeg (vG_1 wl w x cnt) ((wl + (63 : Int32)) / (64 : Int32)) (fun _ => (0 : Int64))))) (((((vG_2 wl w x cnt) 0) * ((wl + (63 : Int32)) / (64 : Int32))) + (wd.toInt32))).toNatClampNeg))) ((wl + (63 : Int32)) / (64 : Int32)).toNatClampNeg (vI_1 wl (0 : Int32) (0 : Int64)) (((wl + (63 : Int32)) / (64 : Int32)).toNatClampNeg + 1) 0)
def vG_48 (wl : Int32) (w : Int32) (x : Int32) (cnt : Int32) : Int32 := (ffF (fun wd => (((0 : Int64) ||| ((vT_3 w 2 ((2 : Int32) * ((wl + (63 : Int32)) / (64 : Int32))).toNatClampNeg (vG_1 wl w x cnt) ((wl + (63 : Int32)) / (64 : Int32)) (vR1_1 w 2 ((2 : Int32) * ((wl + (63 : Int32)) / (64 : Int32))).toNatClampNeg (vG_1 wl w x cnt) ((wl + (63 : Int32)) / (64 : Int32)) (vT_3 (1 : Int32) 2 ((2 : Int32) * ((wl + (63 : Int32)) / (64 : Int32))).toNatClampNeg (vG_1 wl w x cnt) ((wl + (63 : Int32)) / (64 : Int32)) (vT_3 (0 : Int32) 2 ((2 : Int32) * ((wl + (63 : Int32)) / (64 : Int32))).toNatClampNeg (vG_1 wl w x cnt) ((wl + (63 : Int32)) / (64 : Int32)) (fun _ => (0 : Int64)))))) (((((vG_1 wl w x cnt) 0) * ((wl + (63 : Int32)) / (64 : Int32))) + (wd.toInt32))).toNatClampNeg)) ||| ((vT_3 w 2 ((2 : Int32) * ((wl + (63 : Int32)) / (64 : Int32))).toNatClampNeg (vG_1 wl w x cnt) ((wl + (63 : Int32)) / (64 : Int32)) (vR1_1 w 2 ((2 : Int32) * ((wl + (63 : Int32)) / (64 : Int32))).toNatClampNeg (vG_1 wl w x cnt) ((wl + (63 : Int32)) / (64 : Int32)) (vT_3 (1 : Int32) 2 ((2 : Int32) * ((wl + (63 : Int32)) / (64 : Int32))).toNatClampNeg (vG_1 wl w x cnt) ((wl + (63 : Int32)) / (64 : Int32)) (vT_3 (0 : Int32) 2 ((2 : Int32) * ((wl + (63 : Int32)) / (64 : Int32))).toNatClampNeg (vG_1 wl w x cnt) ((wl + (63 : Int32)) / (64 : Int32)) (fun _ => (0 : Int64)))))) (((((vG_1 wl w x cnt) 1) * ((wl + (63 : Int32)) / (64 : Int32))) + (wd.toInt32))).toNatClampNeg))) ((wl + (63 : Int32)) / (64 : Int32)).toNatClampNeg (vI_1 wl (0 : Int32) (0 : Int64)) (((wl + (63 : Int32)) / (64 : Int32)).toNatClampNeg + 1) 0)
def vG_49 (wl : Int32) (w : Int32) (x : Int32) (cnt : Int32) : Int32 := (if (vG_48 wl w x cnt) = (vG_3 wl w x cnt) then (1 : Int32) else (0 : Int32))
def vG_50 (wl : Int32) (w : Int32) (x : Int32) (cnt : Int32) : Int32 := (if (vG_47 wl w x cnt) = (vG_3 wl w x cnt) then (if (vG_48 wl w x cnt) = (vG_3 wl w x cnt) then (1 : Int32) else (0 : Int32)) else (0 : Int32))
def vG_51 (wl : Int32) (w : Int32) (x : Int32) (cnt : Int32) : Int32 := (if (vG_46 wl w x cnt) = w then (if (vG_47 wl w x cnt) = (vG_3 wl w x cnt) then (if (vG_48 wl w x cnt) = (vG_3 wl w x cnt) then (1 : Int32) else (0 : Int32)) else (0 : Int32)) else (0 : Int32))
def vG_52 (wl : Int32) (w : Int32) (x : Int32) (cnt : Int32) : Int32 := (ffF (fun wd => ((0 : Int64) ||| ((vR2_3 w 2 ((2 : Int32) * ((wl + (63 : Int32)) / (64 : Int32))).toNatClampNeg (vG_1 wl w x cnt) ((wl + (63 : Int32)) / (64 : Int32)) (vT_3 (1 : Int32) 2 ((2 : Int32) * ((wl + (63 : Int32)) / (64 : Int32))).toNatClampNeg (vG_1 wl w x cnt) ((wl + (63 : Int32)) / (64 : Int32)) (vT_3 (0 : Int32) 2 ((2 : Int32) * ((wl + (63 : Int32)) / (64 : Int32))).toNatClampNeg (vG_1 wl w x cnt) ((wl + (63 : Int32)) / (64 : Int32)) (fun _ => (0 : Int64))))) (((((vG_0 wl w x cnt) 0) * ((wl + (63 : Int32)) / (64 : Int32))) + (wd.toInt32))).toNatClampNeg))) ((wl + (63 : Int32)) / (64 : Int32)).toNatClampNeg (vI_1 wl (0 : Int32) (0 : Int64)) (((wl + (63 : Int32)) / (64 : Int32)).toNatClampNeg + 1) 0)
def vG_53 (wl : Int32) (w : Int32) (x : Int32) (cnt : Int32) : Int32 := (ffF (fun wd => ((0 : Int64) ||| ((vR2_3 w 2 ((2 : Int32) * ((wl + (63 : Int32)) / (64 : Int32))).toNatClampNeg (vG_1 wl w x cnt) ((wl + (63 : Int32)) / (64 : Int32)) (vT_3 (1 : Int32) 2 ((2 : Int32) * ((wl + (63 : Int32)) / (64 : Int32))).toNatClampNeg (vG_1 wl w x cnt) ((wl + (63 : Int32)) / (64 : Int32)) (vT_3 (0 : Int32) 2 ((2 : Int32) * ((wl + (63 : Int32)) / (64 : Int32))).toNatClampNeg (vG_1 wl w x cnt) ((wl + (63 : Int32)) / (64 : Int32)) (fun _ => (0 : Int64))))) (((((vG_2 wl w x cnt) 0) * ((wl + (63 : Int32)) / (64 : Int32))) + (wd.toInt32))).toNatClampNeg))) ((wl + (63 : Int32)) / (64 : Int32)).toNatClampNeg (vI_1 wl (0 : Int32) (0 : Int64)) (((wl + (63 : Int32)) / (64 : Int32)).toNatClampNeg + 1) 0)
def vG_54 (wl : Int32) (w : Int32) (x : Int32) (cnt : Int32) : Int32 := (ffF (fun wd => (((0 : Int64) ||| ((vT_3 w 2 ((2 : Int32) * ((wl + (63 : Int32)) / (64 : Int32))).toNatClampNeg (vG_1 wl w x cnt) ((wl + (63 : Int32)) / (64 : Int32)) (vR2_3 w 2 ((2 : Int32) * ((wl + (63 : Int32)) / (64 : Int32))).toNatClampNeg (vG_1 wl w x cnt) ((wl + (63 : Int32)) / (64 : Int32)) (vT_3 (1 : Int32) 2 ((2 : Int32) * ((wl + (63 : Int32)) / (64 : Int32))).toNatClampNeg (vG_1 wl w x cnt) ((wl + (63 : Int32)) / (64 : Int32)) (vT_3 (0 : Int32) 2 ((2 : Int32) * ((wl + (63 : Int32)) / (64 : Int32))).toNatClampNeg (vG_1 wl w x cnt) ((wl + (63 : Int32)) / (64 : Int32)) (fun _ => (0 : Int64)))))) (((((vG_1 wl w x cnt) 0) * ((wl + (63 : Int32)) / (64 : Int32))) + (wd.toInt32))).toNatClampNeg)) ||| ((vT_3 w 2 ((2 : Int32) * ((wl + (63 : Int32)) / (64 : Int32))).toNatClampNeg (vG_1 wl w x cnt) ((wl + (63 : Int32)) / (64 : Int32)) (vR2_3 w 2 ((2 : Int32) * ((wl + (63 : Int32)) / (64 : Int32))).toNatClampNeg (vG_1 wl w x cnt) ((wl + (63 : Int32)) / (64 : Int32)) (vT_3 (1 : Int32) 2 ((2 : Int32) * ((wl + (63 : Int32)) / (64 : Int32))).toNatClampNeg (vG_1 wl w x cnt) ((wl + (63 : Int32)) / (64 : Int32)) (vT_3 (0 : Int32) 2 ((2 : Int32) * ((wl + (63 : Int32)) / (64 : Int32))).toNatClampNeg (vG_1 wl w x cnt) ((wl + (63 : Int32)) / (64 : Int32)) (fun _ => (0 : Int64)))))) (((((vG_1 wl w x cnt) 1) * ((wl + (63 : Int32)) / (64 : Int32))) + (wd.toInt32))).toNatClampNeg))) ((wl + (63 : Int32)) / (64 : Int32)).toNatClampNeg (vI_1 wl (0 : Int32) (0 : Int64)) (((wl + (63 : Int32)) / (64 : Int32)).toNatClampNeg + 1) 0)
def vG_55 (wl : Int32) (w : Int32) (x : Int32) (cnt : Int32) : Int32 := (if (vG_54 wl w x cnt) = (vG_3 wl w x cnt) then (1 : Int32) else (0 : Int32))
def vG_56 (wl : Int32) (w : Int32) (x : Int32) (cnt : Int32) : Int32 := (if (vG_53 wl w x cnt) = w then (if (vG_54 wl w x cnt) = (vG_3 wl w x cnt) then (1 : Int32) else (0 : Int32)) else (0 : Int32))
def vG_57 (wl : Int32) (w : Int32) (x : Int32) (cnt : Int32) : Int32 := (if (vG_52 wl w x cnt) = w then (if (vG_53 wl w x cnt) = w then (if (vG_54 wl w x cnt) = (vG_3 wl w x cnt) then (1 : Int32) else (0 : Int32)) else (0 : Int32)) else (0 : Int32))
def vG_58 (wl : Int32) (w : Int32) (x : Int32) (cnt : Int32) : Int32 := (ffF (fun wd => ((0 : Int64) ||| ((vT_3 (3 : Int32) 2 ((2 : Int32) * ((wl + (63 : Int32)) / (64 : Int32))).toNatClampNeg (vG_1 wl w x cnt) ((wl + (63 : Int32)) / (64 : Int32)) (vT_3 (0 : Int32) 2 ((2 : Int32) * ((wl + (63 : Int32)) / (64 : Int32))).toNatClampNeg (vG_1 wl w x cnt) ((wl + (63 : Int32)) / (64 : Int32)) (fun _ => (0 : Int64)))) (((((vG_0 wl w x cnt) 0) * ((wl + (63 : Int32)) / (64 : Int32))) + (wd.toInt32))).toNatClampNeg))) ((wl + (63 : Int32)) / (64 : Int32)).toNatClampNeg (vI_1 wl (0 : Int32) (0 : Int64)) (((wl + (63 : Int32)) / (64 : Int32)).toNatClampNeg + 1) 0)
def vG_59 (wl : Int32) (w : Int32) (x : Int32) (cnt : Int32) : Int32 := (ffF (fun wd => ((0 : Int64) ||| ((vT_3 (3 : Int32) 2 ((2 : Int32) * ((wl + (63 : Int32)) / (64 : Int32))).toNatClampNeg (vG_1 wl w x cnt) ((wl + (63 : Int32)) / (64 : Int32)) (vT_3 (0 : Int32) 2 ((2 : Int32) * ((wl + (63 : Int32)) / (64 : Int32))).toNatClampNeg (vG_1 wl w x cnt) ((wl + (63 : Int32)) / (64 : Int32)) (fun _ => (0 : Int64)))) (((((vG_2 wl w x cnt) 0) * ((wl + (63 : Int32)) / (64 : Int32))) + (wd.toInt32))).toNatClampNeg))) ((wl + (63 : Int32)) / (64 : Int32)).toNatClampNeg (vI_1 wl (0 : Int32) (0 : Int64)) (((wl + (63 : Int32)) / (64 : Int32)).toNatClampNeg + 1) 0)
def vG_60 (wl : Int32) (w : Int32) (x : Int32) (cnt : Int32) : Int32 := (ffF (fun wd => (((0 : Int64) ||| ((vT_3 w 2 ((2 : Int32) * ((wl + (63 : Int32)) / (64 : Int32))).toNatClampNeg (vG_1 wl w x cnt) ((wl + (63 : Int32)) / (64 : Int32)) (vT_3 (3 : Int32) 2 ((2 : Int32) * ((wl + (63 : Int32)) / (64 : Int32))).toNatClampNeg (vG_1 wl w x cnt) ((wl + (63 : Int32)) / (64 : Int32)) (vT_3 (0 : Int32) 2 ((2 : Int32) * ((wl + (63 : Int32)) / (64 : Int32))).toNatClampNeg (vG_1 wl w x cnt) ((wl + (63 : Int32)) / (64 : Int32)) (fun _ => (0 : Int64))))) (((((vG_1 wl w x cnt) 0) * ((wl + (63 : Int32)) / (64 : Int32))) + (wd.toInt32))).toNatClampNeg)) ||| ((vT_3 w 2 ((2 : Int32) * ((wl + (63 : Int32)) / (64 : Int32))).toNatClampNeg (vG_1 wl w x cnt) ((wl + (63 : Int32)) / (64 : Int32)) (vT_3 (3 : Int32) 2 ((2 : Int32) * ((wl + (63 : Int32)) / (64 : Int32))).toNatClampNeg (vG_1 wl w x cnt) ((wl + (63 : Int32)) / (64 : Int32)) (vT_3 (0 : Int32) 2 ((2 : Int32) * ((wl + (63 : Int32)) / (64 : Int32))).toNatClampNeg (vG_1 wl w x cnt) ((wl + (63 : Int32)) / (64 : Int32)) (fun _ => (0 : Int64))))) (((((vG_1 wl w x cnt) 1) * ((wl + (63 : Int32)) / (64 : Int32))) + (wd.toInt32))).toNatClampNeg))) ((wl + (63 : Int32)) / (64 : Int32)).toNatClampNeg (vI_1 wl (0 : Int32) (0 : Int64)) (((wl + (63 : Int32)) / (64 : Int32)).toNatClampNeg + 1) 0)
def vG_61 (wl : Int32) (w : Int32) (x : Int32) (cnt : Int32) : Int32 := (if (vG_60 wl w x cnt) = (vG_3 wl w x cnt) then (1 : Int32) else (0 : Int32))
def vG_62 (wl : Int32) (w : Int32) (x : Int32) (cnt : Int32) : Int32 := (if (vG_59 wl w x cnt) = (vG_3 wl w x cnt) then (if (vG_60 wl w x cnt) = (vG_3 wl w x cnt) then (1 : Int32) else (0 : Int32)) else (0 : Int32))
def vG_63 (wl : Int32) (w : Int32) (x : Int32) (cnt : Int32) : Int32 := (if (vG_58 wl w x cnt) = (vG_3 wl w x cnt) then (if (vG_59 wl w x cnt) = (vG_3 wl w x cnt) then (if (vG_60 wl w x cnt) = (vG_3 wl w x cnt) then (1 : Int32) else (0 : Int32)) else (0 : Int32)) else (0 : Int32))
def vG_64 (wl : Int32) (w : Int32) (x : Int32) (cnt : Int32) : Int32 := (ffF (fun wd => ((0 : Int64) ||| ((vR1_1 w 2 ((2 : Int32) * ((wl + (63 : Int32)) / (64 : Int32))).toNatClampNeg (vG_1 wl w x cnt) ((wl + (63 : Int32)) / (64 : Int32)) (vT_3 (3 : Int32) 2 ((2 : Int32) * ((wl + (63 : Int32)) / (64 : Int32))).toNatClampNeg (vG_1 wl w x cnt) ((wl + (63 : Int32)) / (64 : Int32)) (vT_3 (0 : Int32) 2 ((2 : Int32) * ((wl + (63 : Int32)) / (64 : Int32))).toNatClampNeg (vG_1 wl w x cnt) ((wl + (63 : Int32)) / (64 : Int32)) (fun _ => (0 : Int64))))) (((((vG_0 wl w x cnt) 0) * ((wl + (63 : Int32)) / (64 : Int32))) + (wd.toInt32))).toNatClampNeg))) ((wl + (63 : Int32)) / (64 : Int32)).toNatClampNeg (vI_1 wl (0 : Int32) (0 : Int64)) (((wl + (63 : Int32)) / (64 : Int32)).toNatClampNeg + 1) 0)
def vG_65 (wl : Int32) (w : Int32) (x : Int32) (cnt : Int32) : Int32 := (ffF (fun wd => ((0 : Int64) ||| ((vR1_1 w 2 ((2 : Int32) * ((wl + (63 : Int32)) / (64 : Int32))).toNatClampNeg (vG_1 wl w x cnt) ((wl + (63 : Int32)) / (64 : Int32)) (vT_3 (3 : Int32) 2 ((2 : Int32) * ((wl + (63 : Int32)) / (64 : Int32))).toNatClampNeg (vG_1 wl w x cnt) ((wl + (63 : Int32)) / (64 : Int32)) (vT_3 (0 : Int32) 2 ((2 : Int32) * ((wl + (63 : Int32)) / (64 : Int32))).toNatClampNeg (vG_1 wl w x cnt) ((wl + (63 : Int32)) / (64 : Int32)) (fun _ => (0 : Int64))))) (((((vG_2 wl w x cnt) 0) * ((wl + (63 : Int32)) / (64 : Int32))) + (wd.toInt32))).toNatClampNeg))) ((wl + (63 : Int32)) / (64 : Int32)).toNatClampNeg (vI_1 wl (0 : Int32) (0 : Int64)) (((wl + (63 : Int32)) / (64 : Int32)).toNatClampNeg + 1) 0)
def vG_66 (wl : Int32) (w : Int32) (x : Int32) (cnt : Int32) : Int32 := (ffF (fun wd => (((0 : Int64) ||| ((vT_3 w 2 ((2 : Int32) * ((wl + (63 : Int32)) / (64 : Int32))).toNatClampNeg (vG_1 wl w x cnt) ((wl + (63 : Int32)) / (64 : Int32)) (vR1_1 w 2 ((2 : Int32) * ((wl + (63 : Int32)) / (64 : Int32))).toNatClampNeg (vG_1 wl w x cnt) ((wl + (63 : Int32)) / (64 : Int32)) (vT_3 (3 : Int32) 2 ((2 : Int32) * ((wl + (63 : Int32)) / (64 : Int32))).toNatClampNeg (vG_1 wl w x cnt) ((wl + (63 : Int32)) / (64 : Int32)) (vT_3 (0 : Int32) 2 ((2 : Int32) * ((wl + (63 : Int32)) / (64 : Int32))).toNatClampNeg (vG_1 wl w x cnt) ((wl + (63 : Int32)) / (64 : Int32)) (fun _ => (0 : Int64)))))) (((((vG_1 wl w x cnt) 0) * ((wl + (63 : Int32)) / (64 : Int32))) + (wd.toInt32))).toNatClampNeg)) ||| ((vT_3 w 2 ((2 : Int32) * ((wl + (63 : Int32)) / (64 : Int32))).toNatClampNeg (vG_1 wl w x cnt) ((wl + (63 : Int32)) / (64 : Int32)) (vR1_1 w 2 ((2 : Int32) * ((wl + (63 : Int32)) / (64 : Int32))).toNatClampNeg (vG_1 wl w x cnt) ((wl + (63 : Int32)) / (64 : Int32)) (vT_3 (3 : Int32) 2 ((2 : Int32) * ((wl + (63 : Int32)) / (64 : Int32))).toNatClampNeg (vG_1 wl w x cnt) ((wl + (63 : Int32)) / (64 : Int32)) (vT_3 (0 : Int32) 2 ((2 : Int32) * ((wl + (63 : Int32)) / (64 : Int32))).toNatClampNeg (vG_1 wl w x cnt) ((wl + (63 : Int32)) / (64 : Int32)) (fun _ => (0 : Int64)))))) (((((vG_1 wl w x cnt) 1) * ((wl + (63 : Int32)) / (64 : Int32))) + (wd.toInt32))).toNatClampNeg))) ((wl + (63 : Int32)) / (64 : Int32)).toNatClampNeg (vI_1 wl (0 : Int32) (0 : Int64)) (((wl + (63 : Int32)) / (64 : Int32)).toNatClampNeg + 1) 0)
def vG_67 (wl : Int32) (w : Int32) (x : Int32) (cnt : Int32) : Int32 := (if (vG_66 wl w x cnt) = (vG_3 wl w x cnt) then (1 : Int32) else (0 : Int32))
def vG_68 (wl : Int32) (w : Int32) (x : Int32) (cnt : Int32) : Int32 := (if (vG_65 wl w x cnt) = (vG_3 wl w x cnt) then (if (vG_66 wl w x cnt) = (vG_3 wl w x cnt) then (1 : Int32) else (0 : Int32)) else (0 : Int32))
def vG_69 (wl : Int32) (w : Int32) (x : Int32) (cnt : Int32) : Int32 := (if (vG_64 wl w x cnt) = w then (if (vG_65 wl w x cnt) = (vG_3 wl w x cnt) then (if (vG_66 wl w x cnt) = (vG_3 wl w x cnt) then (1 : Int32) else (0 : Int32)) else (0 : Int32)) else (0 : Int32))
def vG_70 (wl : Int32) (w : Int32) (x : Int32) (cnt : Int32) : Int32 := (ffF (fun wd => ((0 : Int64) ||| ((vR2_3 w 2 ((2 : Int32) * ((wl + (63 : Int32)) / (64 : Int32))).toNatClampNeg (vG_1 wl w x cnt) ((wl + (63 : Int32)) / (64 : Int32)) (vT_3 (3 : Int32) 2 ((2 : Int32) * ((wl + (63 : Int32)) / (64 : Int32))).toNatClampNeg (vG_1 wl w x cnt) ((wl + (63 : Int32)) / (64 : Int32)) (vT_3 (0 : Int32) 2 ((2 : Int32) * ((wl + (63 : Int32)) / (64 : Int32))).toNatClampNeg (vG_1 wl w x cnt) ((wl + (63 : Int32)) / (64 : Int32)) (fun _ => (0 : Int64))))) (((((vG_0 wl w x cnt) 0) * ((wl + (63 : Int32)) / (64 : Int32))) + (wd.toInt32))).toNatClampNeg))) ((wl + (63 : Int32)) / (64 : Int32)).toNatClampNeg (vI_1 wl (0 : Int32) (0 : Int64)) (((wl + (63 : Int32)) / (64 : Int32)).toNatClampNeg + 1) 0)
def vG_71 (wl : Int32) (w : Int32) (x : Int32) (cnt : Int32) : Int32 := (ffF (fun wd => ((0 : Int64) ||| ((vR2_3 w 2 ((2 : Int32) * ((wl + (63 : Int32)) / (64 : Int32))).toNatClampNeg (vG_1 wl w x cnt) ((wl + (63 : Int32)) / (64 : Int32)) (vT_3 (3 : Int32) 2 ((2 : Int32) * ((wl + (63 : Int32)) / (64 : Int32))).toNatClampNeg (vG_1 wl w x cnt) ((wl + (63 : Int32)) / (64 : Int32)) (vT_3 (0 : Int32) 2 ((2 : Int32) * ((wl + (63 : Int32)) / (64 : Int32))).toNatClampNeg (vG_1 wl w x cnt) ((wl + (63 : Int32)) / (64 : Int32)) (fun _ => (0 : Int64))))) (((((vG_2 wl w x cnt) 0) * ((wl + (63 : Int32)) / (64 : Int32))) + (wd.toInt32))).toNatClampNeg))) ((wl + (63 : Int32)) / (64 : Int32)).toNatClampNeg (vI_1 wl (0 : Int32) (0 : Int64)) (((wl + (63 : Int32)) / (64 : Int32)).toNatClampNeg + 1) 0)
def vG_72 (wl : Int32) (w : Int32) (x : Int32) (cnt : Int32) : Int32 := (ffF (fun wd => (((0 : Int64) ||| ((vT_3 w 2 ((2 : Int32) * ((wl + (63 : Int32)) / (64 : Int32))).toNatClampNeg (vG_1 wl w x cnt) ((wl + (63 : Int32)) / (64 : Int32)) (vR2_3 w 2 ((2 : Int32) * ((wl + (63 : Int32)) / (64 : Int32))).toNatClampNeg (vG_1 wl w x cnt) ((wl + (63 : Int32)) / (64 : Int32)) (vT_3 (3 : Int32) 2 ((2 : Int32) * ((wl + (63 : Int32)) / (64 : Int32))).toNatClampNeg (vG_1 wl w x cnt) ((wl + (63 : Int32)) / (64 : Int32)) (vT_3 (0 : Int32) 2 ((2 : Int32) * ((wl + (63 : Int32)) / (64 : Int32))).toNatClampNeg (vG_1 wl w x cnt) ((wl + (63 : Int32)) / (64 : Int32)) (fun _ => (0 : Int64)))))) (((((vG_1 wl w x cnt) 0) * ((wl + (63 : Int32)) / (64 : Int32))) + (wd.toInt32))).toNatClampNeg)) ||| ((vT_3 w 2 ((2 : Int32) * ((wl + (63 : Int32)) / (64 : Int32))).toNatClampNeg (vG_1 wl w x cnt) ((wl + (63 : Int32)) / (64 : Int32)) (vR2_3 w 2 ((2 : Int32) * ((wl + (63 : Int32)) / (64 : Int32))).toNatClampNeg (vG_1 wl w x cnt) ((wl + (63 : Int32)) / (64 : Int32)) (vT_3 (3 : Int32) 2 ((2 : Int32) * ((wl + (63 : Int32)) / (64 : Int32))).toNatClampNeg (vG_1 wl w x cnt) ((wl + (63 : Int32)) / (64 : Int32)) (vT_3 (0 : Int32) 2 ((2 : Int32) * ((wl + (63 : Int32)) / (64 : Int32))).toNatClampNeg (vG_1 wl w x cnt) ((wl + (63 : Int32)) / (64 : Int32)) (fun _ => (0 : Int64)))))) (((((vG_1 wl w x cnt) 1) * ((wl + (63 : Int32)) / (64 : Int32))) + (wd.toInt32))).toNatClampNeg))) ((wl + (63 : Int32)) / (64 : Int32)).toNatClampNeg (vI_1 wl (0 : Int32) (0 : Int64)) (((wl + (63 : Int32)) / (64 : Int32)).toNatClampNeg + 1) 0)
def vG_73 (wl : Int32) (w : Int32) (x : Int32) (cnt : Int32) : Int32 := (if (vG_72 wl w x cnt) = (vG_3 wl w x cnt) then (1 : Int32) else (0 : Int32))
def vG_74 (wl : Int32) (w : Int32) (x : Int32) (cnt : Int32) : Int32 := (if (vG_71 wl w x cnt) = w then (if (vG_72 wl w x cnt) = (vG_3 wl w x cnt) then (1 : Int32) else (0 : Int32)) else (0 : Int32))
def vG_75 (wl : Int32) (w : Int32) (x : Int32) (cnt : Int32) : Int32 := (if (vG_70 wl w x cnt) = w then (if (vG_71 wl w x cnt) = w then (if (vG_72 wl w x cnt) = (vG_3 wl w x cnt) then (1 : Int32) else (0 : Int32)) else (0 : Int32)) else (0 : Int32))
def vG_76 (wl : Int32) (w : Int32) (x : Int32) (cnt : Int32) : Int32 := (ffF (fun wd => ((0 : Int64) ||| ((vT_3 (0 : Int32) 2 ((2 : Int32) * ((wl + (63 : Int32)) / (64 : Int32))).toNatClampNeg (vG_1 wl w x cnt) ((wl + (63 : Int32)) / (64 : Int32)) (fun _ => (0 : Int64))) (((((vG_0 wl w x cnt) 0) * ((wl + (63 : Int32)) / (64 : Int32))) + (wd.toInt32))).toNatClampNeg))) ((wl + (63 : Int32)) / (64 : Int32)).toNatClampNeg (vI_1 wl (0 : Int32) (0 : Int64)) (((wl + (63 : Int32)) / (64 : Int32)).toNatClampNeg + 1) 0)
def vG_77 (wl : Int32) (w : Int32) (x : Int32) (cnt : Int32) : Int32 := (ffF (fun wd => ((0 : Int64) ||| ((vT_3 (0 : Int32) 2 ((2 : Int32) * ((wl + (63 : Int32)) / (64 : Int32))).toNatClampNeg (vG_1 wl w x cnt) ((wl + (63 : Int32)) / (64 : Int32)) (fun _ => (0 : Int64))) (((((vG_2 wl w x cnt) 0) * ((wl + (63 : Int32)) / (64 : Int32))) + (wd.toInt32))).toNatClampNeg))) ((wl + (63 : Int32)) / (64 : Int32)).toNatClampNeg (vI_1 wl (0 : Int32) (0 : Int64)) (((wl + (63 : Int32)) / (64 : Int32)).toNatClampNeg + 1) 0)
def vG_78 (wl : Int32) (w : Int32) (x : Int32) (cnt : Int32) : Int32 := (ffF (fun wd => (((0 : Int64) ||| ((vT_3 w 2 ((2 : Int32) * ((wl + (63 : Int32)) / (64 : Int32))).toNatClampNeg (vG_1 wl w x cnt) ((wl + (63 : Int32)) / (64 : Int32)) (vT_3 (0 : Int32) 2 ((2 : Int32) * ((wl + (63 : Int32)) / (64 : Int32))).toNatClampNeg (vG_1 wl w x cnt) ((wl + (63 : Int32)) / (64 : Int32)) (fun _ => (0 : Int64)))) (((((vG_1 wl w x cnt) 0) * ((wl + (63 : Int32)) / (64 : Int32))) + (wd.toInt32))).toNatClampNeg)) ||| ((vT_3 w 2 ((2 : Int32) * ((wl + (63 : Int32)) / (64 : Int32))).toNatClampNeg (vG_1 wl w x cnt) ((wl + (63 : Int32)) / (64 : Int32)) (vT_3 (0 : Int32) 2 ((2 : Int32) * ((wl + (63 : Int32)) / (64 : Int32))).toNatClampNeg (vG_1 wl w x cnt) ((wl + (63 : Int32)) / (64 : Int32)) (fun _ => (0 : Int64)))) (((((vG_1 wl w x cnt) 1) * ((wl + (63 : Int32)) / (64 : Int32))) + (wd.toInt32))).toNatClampNeg))) ((wl + (63 : Int32)) / (64 : Int32)).toNatClampNeg (vI_1 wl (0 : Int32) (0 : Int64)) (((wl + (63 : Int32)) / (64 : Int32)).toNatClampNeg + 1) 0)
def vG_79 (wl : Int32) (w : Int32) (x : Int32) (cnt : Int32) : Int32 := (if (vG_78 wl w x cnt) = (vG_3 wl w x cnt) then (1 : Int32) else (0 : Int32))
def vG_80 (wl : Int32) (w : Int32) (x : Int32) (cnt : Int32) : Int32 := (if (vG_77 wl w x cnt) = (vG_3 wl w x cnt) then (if (vG_78 wl w x cnt) = (vG_3 wl w x cnt) then (1 : Int32) else (0 : Int32)) else (0 : Int32))
def vG_81 (wl : Int32) (w : Int32) (x : Int32) (cnt : Int32) : Int32 := (if (vG_76 wl w x cnt) = (vG_3 wl w x cnt) then (if (vG_77 wl w x cnt) = (vG_3 wl w x cnt) then (if (vG_78 wl w x cnt) = (vG_3 wl w x cnt) then (1 : Int32) else (0 : Int32)) else (0 : Int32)) else (0 : Int32))
def vG_82 (wl : Int32) (w : Int32) (x : Int32) (cnt : Int32) : Int32 := (ffF (fun wd => ((0 : Int64) ||| ((vR1_1 w 2 ((2 : Int32) * ((wl + (63 : Int32)) / (64 : Int32))).toNatClampNeg (vG_1 wl w x cnt) ((wl + (63 : Int32)) / (64 : Int32)) (vT_3 (0 : Int32) 2 ((2 : Int32) * ((wl + (63 : Int32)) / (64 : Int32))).toNatClampNeg (vG_1 wl w x cnt) ((wl + (63 : Int32)) / (64 : Int32)) (fun _ => (0 : Int64)))) (((((vG_0 wl w x cnt) 0) * ((wl + (63 : Int32)) / (64 : Int32))) + (wd.toInt32))).toNatClampNeg))) ((wl + (63 : Int32)) / (64 : Int32)).toNatClampNeg (vI_1 wl (0 : Int32) (0 : Int64)) (((wl + (63 : Int32)) / (64 : Int32)).toNatClampNeg + 1) 0)
def vG_83 (wl : Int32) (w : Int32) (x : Int32) (cnt : Int32) : Int32 := (ffF (fun wd => ((0 : Int64) ||| ((vR1_1 w 2 ((2 : Int32) * ((wl + (63 : Int32)) / (64 : Int32))).toNatClampNeg (vG_1 wl w x cnt) ((wl + (63 : Int32)) / (64 : Int32)) (vT_3 (0 : Int32) 2 ((2 : Int32) * ((wl + (63 : Int32)) / (64 : Int32))).toNatClampNeg (vG_1 wl w x cnt) ((wl + (63 : Int32)) / (64 : Int32)) (fun _ => (0 : Int64)))) (((((vG_2 wl w x cnt) 0) * ((wl + (63 : Int32)) / (64 : Int32))) + (wd.toInt32))).toNatClampNeg))) ((wl + (63 : Int32)) / (64 : Int32)).toNatClampNeg (vI_1 wl (0 : Int32) (0 : Int64)) (((wl + (63 : Int32)) / (64 : Int32)).toNatClampNeg + 1) 0)
def vG_84 (wl : Int32) (w : Int32) (x : Int32) (cnt : Int32) : Int32 := (ffF (fun wd => (((0 : Int64) ||| ((vT_3 w 2 ((2 : Int32) * ((wl + (63 : Int32)) / (64 : Int32))).toNatClampNeg (vG_1 wl w x cnt) ((wl + (63 : Int32)) / (64 : Int32)) (vR1_1 w 2 ((2 : Int32) * ((wl + (63 : Int32)) / (64 : Int32))).toNatClampNeg (vG_1 wl w x cnt) ((wl + (63 : Int32)) / (64 : Int32)) (vT_3 (0 : Int32) 2 ((2 : Int32) * ((wl + (63 : Int32)) / (64 : Int32))).toNatClampNeg (vG_1 wl w x cnt) ((wl + (63 : Int32)) / (64 : Int32)) (fun _ => (0 : Int64))))) (((((vG_1 wl w x cnt) 0) * ((wl + (63 : Int32)) / (64 : Int32))) + (wd.toInt32))).toNatClampNeg)) ||| ((vT_3 w 2 ((2 : Int32) * ((wl + (63 : Int32)) / (64 : Int32))).toNatClampNeg (vG_1 wl w x cnt) ((wl + (63 : Int32)) / (64 : Int32)) (vR1_1 w 2 ((2 : Int32) * ((wl + (63 : Int32)) / (64 : Int32))).toNatClampNeg (vG_1 wl w x cnt) ((wl + (63 : Int32)) / (64 : Int32)) (vT_3 (0 : Int32) 2 ((2 : Int32) * ((wl + (63 : Int32)) / (64 : Int32))).toNatClampNeg (vG_1 wl w x cnt) ((wl + (63 : Int32)) / (64 : Int32)) (fun _ => (0 : Int64))))) (((((vG_1 wl w x cnt) 1) * ((wl + (63 : Int32)) / (64 : Int32))) + (wd.toInt32))).toNatClampNeg))) ((wl + (63 : Int32)) / (64 : Int32)).toNatClampNeg (vI_1 wl (0 : Int32) (0 : Int64)) (((wl + (63 : Int32)) / (64 : Int32)).toNatClampNeg + 1) 0)
def vG_85 (wl : Int32) (w : Int32) (x : Int32) (cnt : Int32) : Int32 := (if (vG_84 wl w x cnt) = (vG_3 wl w x cnt) then (1 : Int32) else (0 : Int32))
def vG_86 (wl : Int32) (w : Int32) (x : Int32) (cnt : Int32) : Int32 := (if (vG_83 wl w x cnt) = (vG_3 wl w x cnt) then (if (vG_84 wl w x cnt) = (vG_3 wl w x cnt) then (1 : Int32) else (0 : Int32)) else (0 : Int32))
def vG_87 (wl : Int32) (w : Int32) (x : Int32) (cnt : Int32) : Int32 := (if (vG_82 wl w x cnt) = w then (if (vG_83 wl w x cnt) = (vG_3 wl w x cnt) then (if (vG_84 wl w x cnt) = (vG_3 wl w x cnt) then (1 : Int32) else (0 : Int32)) else (0 : Int32)) else (0 : Int32))
def vG_88 (wl : Int32) (w : Int32) (x : Int32) (cnt : Int32) : Int32 := (ffF (fun wd => ((0 : Int64) ||| ((vR2_3 w 2 ((2 : Int32) * ((wl + (63 : Int32)) / (64 : Int32))).toNatClampNeg (vG_1 wl w x cnt) ((wl + (63 : Int32)) / (64 : Int32)) (vT_3 (0 : Int32) 2 ((2 : Int32) * ((wl + (63 : Int32)) / (64 : Int32))).toNatClampNeg (vG_1 wl w x cnt) ((wl + (63 : Int32)) / (64 : Int32)) (fun _ => (0 : Int64)))) (((((vG_0 wl w x cnt) 0) * ((wl + (63 : Int32)) / (64 : Int32))) + (wd.toInt32))).toNatClampNeg))) ((wl + (63 : Int32)) / (64 : Int32)).toNatClampNeg (vI_1 wl (0 : Int32) (0 : Int64)) (((wl + (63 : Int32)) / (64 : Int32)).toNatClampNeg + 1) 0)
def vG_89 (wl : Int32) (w : Int32) (x : Int32) (cnt : Int32) : Int32 := (ffF (fun wd => ((0 : Int64) ||| ((vR2_3 w 2 ((2 : Int32) * ((wl + (63 : Int32)) / (64 : Int32))).toNatClampNeg (vG_1 wl w x cnt) ((wl + (63 : Int32)) / (64 : Int32)) (vT_3 (0 : Int32) 2 ((2 : Int32) * ((wl + (63 : Int32)) / (64 : Int32))).toNatClampNeg (vG_1 wl w x cnt) ((wl + (63 : Int32)) / (64 : Int32)) (fun _ => (0 : Int64)))) (((((vG_2 wl w x cnt) 0) * ((wl + (63 : Int32)) / (64 : Int32))) + (wd.toInt32))).toNatClampNeg))) ((wl + (63 : Int32)) / (64 : Int32)).toNatClampNeg (vI_1 wl (0 : Int32) (0 : Int64)) (((wl + (63 : Int32)) / (64 : Int32)).toNatClampNeg + 1) 0)
def vG_90 (wl : Int32) (w : Int32) (x : Int32) (cnt : Int32) : Int32 := (ffF (fun wd => (((0 : Int64) ||| ((vT_3 w 2 ((2 : Int32) * ((wl + (63 : Int32)) / (64 : Int32))).toNatClampNeg (vG_1 wl w x cnt) ((wl + (63 : Int32)) / (64 : Int32)) (vR2_3 w 2 ((2 : Int32) * ((wl + (63 : Int32)) / (64 : Int32))).toNatClampNeg (vG_1 wl w x cnt) ((wl + (63 : Int32)) / (64 : Int32)) (vT_3 (0 : Int32) 2 ((2 : Int32) * ((wl + (63 : Int32)) / (64 : Int32))).toNatClampNeg (vG_1 wl w x cnt) ((wl + (63 : Int32)) / (64 : Int32)) (fun _ => (0 : Int64))))) (((((vG_1 wl w x cnt) 0) * ((wl + (63 : Int32)) / (64 : Int32))) + (wd.toInt32))).toNatClampNeg)) ||| ((vT_3 w 2 ((2 : Int32) * ((wl + (63 : Int32)) / (64 : Int32))).toNatClampNeg (vG_1 wl w x cnt) ((wl + (63 : Int32)) / (64 : Int32)) (vR2_3 w 2 ((2 : Int32) * ((wl + (63 : Int32)) / (64 : Int32))).toNatClampNeg (vG_1 wl w x cnt) ((wl + (63 : Int32)) / (64 : Int32)) (vT_3 (0 : Int32) 2 ((2 : Int32) * ((wl + (63 : Int32)) / (64 : Int32))).toNatClampNeg (vG_1 wl w x cnt) ((wl + (63 : Int32)) / (64 : Int32)) (fun _ => (0 : Int64))))) (((((vG_1 wl w x cnt) 1) * ((wl + (63 : Int32)) / (64 : Int32))) + (wd.toInt32))).toNatClampNeg))) ((wl + (63 : Int32)) / (64 : Int32)).toNatClampNeg (vI_1 wl (0 : Int32) (0 : Int64)) (((wl + (63 : Int32)) / (64 : Int32)).toNatClampNeg + 1) 0)
def vG_91 (wl : Int32) (w : Int32) (x : Int32) (cnt : Int32) : Int32 := (if (vG_90 wl w x cnt) = (vG_3 wl w x cnt) then (1 : Int32) else (0 : Int32))
def vG_92 (wl : Int32) (w : Int32) (x : Int32) (cnt : Int32) : Int32 := (if (vG_89 wl w x cnt) = w then (if (vG_90 wl w x cnt) = (vG_3 wl w x cnt) then (1 : Int32) else (0 : Int32)) else (0 : Int32))
def vG_93 (wl : Int32) (w : Int32) (x : Int32) (cnt : Int32) : Int32 := (if (vG_88 wl w x cnt) = w then (if (vG_89 wl w x cnt) = w then (if (vG_90 wl w x cnt) = (vG_3 wl w x cnt) then (1 : Int32) else (0 : Int32)) else (0 : Int32)) else (0 : Int32))
def own_chk0 (a b y : Nat) : Bool := !(decide (b < a) && decide ((1 : Int32) < a.toInt32) && decide ((2 : Int32) < a.toInt32) && decide ((3 : Int32) < a.toInt32)) || decide (nar .boolean (vG_9 a.toInt32 b.toInt32 y.toInt32 (0 : Int32)) = 1)
theorem own_chk0_ok : ∀ a, a < 257 → ∀ b, b < 4 → ∀ y, y < 2 → own_chk0 a b y = true := by decide +kernel
def own_chk1 (a b y : Nat) : Bool := !(decide (b < a) && decide ((1 : Int32) < a.toInt32) && decide ((2 : Int32) < a.toInt32) && decide ((3 : Int32) < a.toInt32)) || decide (nar .boolean (vG_15 a.toInt32 b.toInt32 y.toInt32 (1 : Int32)) = 1)
theorem own_chk1_ok : ∀ a, a < 257 → ∀ b, b < 4 → ∀ y, y < 2 → own_chk1 a b y = true := by decide +kernel
def own_chk2 (a b y : Nat) : Bool := !(decide (b < a) && decide ((1 : Int32) < a.toInt32) && decide ((2 : Int32) < a.toInt32) && decide ((3 : Int32) < a.toInt32)) || decide (nar .boolean (vG_21 a.toInt32 b.toInt32 y.toInt32 (2 : Int32)) = 1)
theorem own_chk2_ok : ∀ a, a < 257 → ∀ b, b < 4 → ∀ y, y < 2 → own_chk2 a b y = true := by decide +kernel
def own_chk3 (a b y : Nat) : Bool := !(decide (b < a) && decide ((1 : Int32) < a.toInt32) && decide ((2 : Int32) < a.toInt32) && !decide ((3 : Int32) < a.toInt32)) || decide (nar .boolean (vG_27 a.toInt32 b.toInt32 y.toInt32 (0 : Int32)) = 1)
theorem own_chk3_ok : ∀ a, a < 257 → ∀ b, b < 4 → ∀ y, y < 2 → own_chk3 a b y = true := by decide +kernel
def own_chk4 (a b y : Nat) : Bool := !(decide (b < a) && decide ((1 : Int32) < a.toInt32) && decide ((2 : Int32) < a.toInt32) && !decide ((3 : Int32) < a.toInt32)) || decide (nar .boolean (vG_33 a.toInt32 b.toInt32 y.toInt32 (1 : Int32)) = 1)
theorem own_chk4_ok : ∀ a, a < 257 → ∀ b, b < 4 → ∀ y, y < 2 → own_chk4 a b y = true := by decide +kernel
def own_chk5 (a b y : Nat) : Bool := !(decide (b < a) && decide ((1 : Int32) < a.toInt32) && decide ((2 : Int32) < a.toInt32) && !decide ((3 : Int32) < a.toInt32)) || decide (nar .boolean (vG_39 a.toInt32 b.toInt32 y.toInt32 (2 : Int32)) = 1)
theorem own_chk5_ok : ∀ a, a < 257 → ∀ b, b < 4 → ∀ y, y < 2 → own_chk5 a b y = true := by decide +kernel
def own_chk6 (a b y : Nat) : Bool := !(decide (b < a) && decide ((1 : Int32) < a.toInt32) && !decide ((2 : Int32) < a.toInt32)) || decide (nar .boolean (vG_45 a.toInt32 b.toInt32 y.toInt32 (0 : Int32)) = 1)
theorem own_chk6_ok : ∀ a, a < 257 → ∀ b, b < 4 → ∀ y, y < 2 → own_chk6 a b y = true := by decide +kernel
def own_chk7 (a b y : Nat) : Bool := !(decide (b < a) && decide ((1 : Int32) < a.toInt32) && !decide ((2 : Int32) < a.toInt32)) || decide (nar .boolean (vG_51 a.toInt32 b.toInt32 y.toInt32 (1 : Int32)) = 1)
theorem own_chk7_ok : ∀ a, a < 257 → ∀ b, b < 4 → ∀ y, y < 2 → own_chk7 a b y = true := by decide +kernel
def own_chk8 (a b y : Nat) : Bool := !(decide (b < a) && decide ((1 : Int32) < a.toInt32) && !decide ((2 : Int32) < a.toInt32)) || decide (nar .boolean (vG_57 a.toInt32 b.toInt32 y.toInt32 (2 : Int32)) = 1)
theorem own_chk8_ok : ∀ a, a < 257 → ∀ b, b < 4 → ∀ y, y < 2 → own_chk8 a b y = true := by decide +kernel
def own_chk9 (a b y : Nat) : Bool := !(decide (b < a) && !decide ((1 : Int32) < a.toInt32) && decide ((3 : Int32) < a.toInt32)) || decide (nar .boolean (vG_63 a.toInt32 b.toInt32 y.toInt32 (0 : Int32)) = 1)
theorem own_chk9_ok : ∀ a, a < 257 → ∀ b, b < 4 → ∀ y, y < 2 → own_chk9 a b y = true := by decide +kernel
def own_chk10 (a b y : Nat) : Bool := !(decide (b < a) && !decide ((1 : Int32) < a.toInt32) && decide ((3 : Int32) < a.toInt32)) || decide (nar .boolean (vG_69 a.toInt32 b.toInt32 y.toInt32 (1 : Int32)) = 1)
theorem own_chk10_ok : ∀ a, a < 257 → ∀ b, b < 4 → ∀ y, y < 2 → own_chk10 a b y = true := by decide +kernel
def own_chk11 (a b y : Nat) : Bool := !(decide (b < a) && !decide ((1 : Int32) < a.toInt32) && decide ((3 : Int32) < a.toInt32)) || decide (nar .boolean (vG_75 a.toInt32 b.toInt32 y.toInt32 (2 : Int32)) = 1)
theorem own_chk11_ok : ∀ a, a < 257 → ∀ b, b < 4 → ∀ y, y < 2 → own_chk11 a b y = true := by decide +kernel
def own_chk12 (a b y : Nat) : Bool := !(decide (b < a) && !decide ((1 : Int32) < a.toInt32) && !decide ((3 : Int32) < a.toInt32)) || decide (nar .boolean (vG_81 a.toInt32 b.toInt32 y.toInt32 (0 : Int32)) = 1)
theorem own_chk12_ok : ∀ a, a < 257 → ∀ b, b < 4 → ∀ y, y < 2 → own_chk12 a b y = true := by decide +kernel
def own_chk13 (a b y : Nat) : Bool := !(decide (b < a) && !decide ((1 : Int32) < a.toInt32) && !decide ((3 : Int32) < a.toInt32)) || decide (nar .boolean (vG_87 a.toInt32 b.toInt32 y.toInt32 (1 : Int32)) = 1)
theorem own_chk13_ok : ∀ a, a < 257 → ∀ b, b < 4 → ∀ y, y < 2 → own_chk13 a b y = true := by decide +kernel
def own_chk14 (a b y : Nat) : Bool := !(decide (b < a) && !decide ((1 : Int32) < a.toInt32) && !decide ((3 : Int32) < a.toInt32)) || decide (nar .boolean (vG_93 a.toInt32 b.toInt32 y.toInt32 (2 : Int32)) = 1)
theorem own_chk14_ok : ∀ a, a < 257 → ∀ b, b < 4 → ∀ y, y < 2 → own_chk14 a b y = true := by decide +kernel
set_option maxRecDepth 65536 in
set_option maxHeartbeats 40000000 in
theorem leafG_0 (wl : Int32) (w : Int32) (x : Int32) (cnt : Int32) (hwl : 1 ≤ wl.toInt ∧ wl.toInt ≤ 256) (hw4 : 0 ≤ w.toInt ∧ w.toInt ≤ 3) (hwm : w.toInt < wl.toInt) (hx : x.toInt = 0 ∨ x.toInt = 1) (hc97_1 : (1 : Int32) < wl) (hc111_1 : (2 : Int32) < wl) (hc125_1 : (3 : Int32) < wl) (hq0 : cnt = (0 : Int32)) : nar .boolean (vG_9 wl w x cnt) = 1 := by
  subst hq0
  obtain ⟨a, rfl, ea, ga⟩ := own_asNat (p := wl) (by omega)
  obtain ⟨b, rfl, eb, gb⟩ := own_asNat (p := w) (by omega)
  obtain ⟨y, rfl, ey, gy⟩ := own_asNat (p := x) (by omega)
  have key := own_chk0_ok a (by omega) b (by omega) y (by omega)
  have hba : b < a := by omega
  simp only [own_chk0, decide_eq_true hba, decide_eq_true hc97_1, decide_eq_true hc111_1, decide_eq_true hc125_1, Bool.and_true, Bool.true_and, Bool.not_true, Bool.false_or, Bool.not_false] at key
  exact of_decide_eq_true key
set_option maxRecDepth 65536 in
set_option maxHeartbeats 40000000 in
theorem leafG_1 (wl : Int32) (w : Int32) (x : Int32) (cnt : Int32) (hwl : 1 ≤ wl.toInt ∧ wl.toInt ≤ 256) (hw4 : 0 ≤ w.toInt ∧ w.toInt ≤ 3) (hwm : w.toInt < wl.toInt) (hx : x.toInt = 0 ∨ x.toInt = 1) (hc97_1 : (1 : Int32) < wl) (hc111_1 : (2 : Int32) < wl) (hc125_1 : (3 : Int32) < wl) (hq1 : cnt = (1 : Int32)) : nar .boolean (vG_15 wl w x cnt) = 1 := by
  subst hq1
  obtain ⟨a, rfl, ea, ga⟩ := own_asNat (p := wl) (by omega)
  obtain ⟨b, rfl, eb, gb⟩ := own_asNat (p := w) (by omega)
  obtain ⟨y, rfl, ey, gy⟩ := own_asNat (p := x) (by omega)
  have key := own_chk1_ok a (by omega) b (by omega) y (by omega)
  have hba : b < a := by omega
  simp only [own_chk1, decide_eq_true hba, decide_eq_true hc97_1, decide_eq_true hc111_1, decide_eq_true hc125_1, Bool.and_true, Bool.true_and, Bool.not_true, Bool.false_or, Bool.not_false] at key
  exact of_decide_eq_true key
set_option maxRecDepth 65536 in
set_option maxHeartbeats 40000000 in
theorem leafG_2 (wl : Int32) (w : Int32) (x : Int32) (cnt : Int32) (hwl : 1 ≤ wl.toInt ∧ wl.toInt ≤ 256) (hw4 : 0 ≤ w.toInt ∧ w.toInt ≤ 3) (hwm : w.toInt < wl.toInt) (hx : x.toInt = 0 ∨ x.toInt = 1) (hc97_1 : (1 : Int32) < wl) (hc111_1 : (2 : Int32) < wl) (hc125_1 : (3 : Int32) < wl) (hq2 : cnt = (2 : Int32)) : nar .boolean (vG_21 wl w x cnt) = 1 := by
  subst hq2
  obtain ⟨a, rfl, ea, ga⟩ := own_asNat (p := wl) (by omega)
  obtain ⟨b, rfl, eb, gb⟩ := own_asNat (p := w) (by omega)
  obtain ⟨y, rfl, ey, gy⟩ := own_asNat (p := x) (by omega)
  have key := own_chk2_ok a (by omega) b (by omega) y (by omega)
  have hba : b < a := by omega
  simp only [own_chk2, decide_eq_true hba, decide_eq_true hc97_1, decide_eq_true hc111_1, decide_eq_true hc125_1, Bool.and_true, Bool.true_and, Bool.not_true, Bool.false_or, Bool.not_false] at key
  exact of_decide_eq_true key
set_option maxRecDepth 65536 in
set_option maxHeartbeats 40000000 in
theorem leafG_3 (wl : Int32) (w : Int32) (x : Int32) (cnt : Int32) (hwl : 1 ≤ wl.toInt ∧ wl.toInt ≤ 256) (hw4 : 0 ≤ w.toInt ∧ w.toInt ≤ 3) (hwm : w.toInt < wl.toInt) (hx : x.toInt = 0 ∨ x.toInt = 1) (hc97_1 : (1 : Int32) < wl) (hc111_1 : (2 : Int32) < wl) (hc125_1 : ¬ ((3 : Int32) < wl)) (hq0 : cnt = (0 : Int32)) : nar .boolean (vG_27 wl w x cnt) = 1 := by
  subst hq0
  obtain ⟨a, rfl, ea, ga⟩ := own_asNat (p := wl) (by omega)
  obtain ⟨b, rfl, eb, gb⟩ := own_asNat (p := w) (by omega)
  obtain ⟨y, rfl, ey, gy⟩ := own_asNat (p := x) (by omega)
  have key := own_chk3_ok a (by omega) b (by omega) y (by omega)
  have hba : b < a := by omega
  simp only [own_chk3, decide_eq_true hba, decide_eq_true hc97_1, decide_eq_true hc111_1, decide_eq_false hc125_1, Bool.and_true, Bool.true_and, Bool.not_true, Bool.false_or, Bool.not_false] at key
  exact of_decide_eq_true key
set_option maxRecDepth 65536 in
set_option maxHeartbeats 40000000 in
theorem leafG_4 (wl : Int32) (w : Int32) (x : Int32) (cnt : Int32) (hwl : 1 ≤ wl.toInt ∧ wl.toInt ≤ 256) (hw4 : 0 ≤ w.toInt ∧ w.toInt ≤ 3) (hwm : w.toInt < wl.toInt) (hx : x.toInt = 0 ∨ x.toInt = 1) (hc97_1 : (1 : Int32) < wl) (hc111_1 : (2 : Int32) < wl) (hc125_1 : ¬ ((3 : Int32) < wl)) (hq1 : cnt = (1 : Int32)) : nar .boolean (vG_33 wl w x cnt) = 1 := by
  subst hq1
  obtain ⟨a, rfl, ea, ga⟩ := own_asNat (p := wl) (by omega)
  obtain ⟨b, rfl, eb, gb⟩ := own_asNat (p := w) (by omega)
  obtain ⟨y, rfl, ey, gy⟩ := own_asNat (p := x) (by omega)
  have key := own_chk4_ok a (by omega) b (by omega) y (by omega)
  have hba : b < a := by omega
  simp only [own_chk4, decide_eq_true hba, decide_eq_true hc97_1, decide_eq_true hc111_1, decide_eq_false hc125_1, Bool.and_true, Bool.true_and, Bool.not_true, Bool.false_or, Bool.not_false] at key
  exact of_decide_eq_true key
set_option maxRecDepth 65536 in
set_option maxHeartbeats 40000000 in
theorem leafG_5 (wl : Int32) (w : Int32) (x : Int32) (cnt : Int32) (hwl : 1 ≤ wl.toInt ∧ wl.toInt ≤ 256) (hw4 : 0 ≤ w.toInt ∧ w.toInt ≤ 3) (hwm : w.toInt < wl.toInt) (hx : x.toInt = 0 ∨ x.toInt = 1) (hc97_1 : (1 : Int32) < wl) (hc111_1 : (2 : Int32) < wl) (hc125_1 : ¬ ((3 : Int32) < wl)) (hq2 : cnt = (2 : Int32)) : nar .boolean (vG_39 wl w x cnt) = 1 := by
  subst hq2
  obtain ⟨a, rfl, ea, ga⟩ := own_asNat (p := wl) (by omega)
  obtain ⟨b, rfl, eb, gb⟩ := own_asNat (p := w) (by omega)
  obtain ⟨y, rfl, ey, gy⟩ := own_asNat (p := x) (by omega)
  have key := own_chk5_ok a (by omega) b (by omega) y (by omega)
  have hba : b < a := by omega
  simp only [own_chk5, decide_eq_true hba, decide_eq_true hc97_1, decide_eq_true hc111_1, decide_eq_false hc125_1, Bool.and_true, Bool.true_and, Bool.not_true, Bool.false_or, Bool.not_false] at key
  exact of_decide_eq_true key
set_option maxRecDepth 65536 in
set_option maxHeartbeats 40000000 in
theorem leafG_6 (wl : Int32) (w : Int32) (x : Int32) (cnt : Int32) (hwl : 1 ≤ wl.toInt ∧ wl.toInt ≤ 256) (hw4 : 0 ≤ w.toInt ∧ w.toInt ≤ 3) (hwm : w.toInt < wl.toInt) (hx : x.toInt = 0 ∨ x.toInt = 1) (hc97_1 : (1 : Int32) < wl) (hc111_1 : ¬ ((2 : Int32) < wl)) (hq0 : cnt = (0 : Int32)) : nar .boolean (vG_45 wl w x cnt) = 1 := by
  subst hq0
  obtain ⟨a, rfl, ea, ga⟩ := own_asNat (p := wl) (by omega)
  obtain ⟨b, rfl, eb, gb⟩ := own_asNat (p := w) (by omega)
  obtain ⟨y, rfl, ey, gy⟩ := own_asNat (p := x) (by omega)
  have key := own_chk6_ok a (by omega) b (by omega) y (by omega)
  have hba : b < a := by omega
  simp only [own_chk6, decide_eq_true hba, decide_eq_true hc97_1, decide_eq_false hc111_1, Bool.and_true, Bool.true_and, Bool.not_true, Bool.false_or, Bool.not_false] at key
  exact of_decide_eq_true key
set_option maxRecDepth 65536 in
set_option maxHeartbeats 40000000 in
theorem leafG_7 (wl : Int32) (w : Int32) (x : Int32) (cnt : Int32) (hwl : 1 ≤ wl.toInt ∧ wl.toInt ≤ 256) (hw4 : 0 ≤ w.toInt ∧ w.toInt ≤ 3) (hwm : w.toInt < wl.toInt) (hx : x.toInt = 0 ∨ x.toInt = 1) (hc97_1 : (1 : Int32) < wl) (hc111_1 : ¬ ((2 : Int32) < wl)) (hq1 : cnt = (1 : Int32)) : nar .boolean (vG_51 wl w x cnt) = 1 := by
  subst hq1
  obtain ⟨a, rfl, ea, ga⟩ := own_asNat (p := wl) (by omega)
  obtain ⟨b, rfl, eb, gb⟩ := own_asNat (p := w) (by omega)
  obtain ⟨y, rfl, ey, gy⟩ := own_asNat (p := x) (by omega)
  have key := own_chk7_ok a (by omega) b (by omega) y (by omega)
  have hba : b < a := by omega
  simp only [own_chk7, decide_eq_true hba, decide_eq_true hc97_1, decide_eq_false hc111_1, Bool.and_true, Bool.true_and, Bool.not_true, Bool.false_or, Bool.not_false] at key
  exact of_decide_eq_true key
set_option maxRecDepth 65536 in
set_option maxHeartbeats 40000000 in
theorem leafG_8 (wl : Int32) (w : Int32) (x : Int32) (cnt : Int32) (hwl : 1 ≤ wl.toInt ∧ wl.toInt ≤ 256) (hw4 : 0 ≤ w.toInt ∧ w.toInt ≤ 3) (hwm : w.toInt < wl.toInt) (hx : x.toInt = 0 ∨ x.toInt = 1) (hc97_1 : (1 : Int32) < wl) (hc111_1 : ¬ ((2 : Int32) < wl)) (hq2 : cnt = (2 : Int32)) : nar .boolean (vG_57 wl w x cnt) = 1 := by
  subst hq2
  obtain ⟨a, rfl, ea, ga⟩ := own_asNat (p := wl) (by omega)
  obtain ⟨b, rfl, eb, gb⟩ := own_asNat (p := w) (by omega)
  obtain ⟨y, rfl, ey, gy⟩ := own_asNat (p := x) (by omega)
  have key := own_chk8_ok a (by omega) b (by omega) y (by omega)
  have hba : b < a := by omega
  simp only [own_chk8, decide_eq_true hba, decide_eq_true hc97_1, decide_eq_false hc111_1, Bool.and_true, Bool.true_and, Bool.not_true, Bool.false_or, Bool.not_false] at key
  exact of_decide_eq_true key
set_option maxRecDepth 65536 in
set_option maxHeartbeats 40000000 in
theorem leafG_9 (wl : Int32) (w : Int32) (x : Int32) (cnt : Int32) (hwl : 1 ≤ wl.toInt ∧ wl.toInt ≤ 256) (hw4 : 0 ≤ w.toInt ∧ w.toInt ≤ 3) (hwm : w.toInt < wl.toInt) (hx : x.toInt = 0 ∨ x.toInt = 1) (hc97_1 : ¬ ((1 : Int32) < wl)) (hc125_1 : (3 : Int32) < wl) (hq0 : cnt = (0 : Int32)) : nar .boolean (vG_63 wl w x cnt) = 1 := by
  subst hq0
  obtain ⟨a, rfl, ea, ga⟩ := own_asNat (p := wl) (by omega)
  obtain ⟨b, rfl, eb, gb⟩ := own_asNat (p := w) (by omega)
  obtain ⟨y, rfl, ey, gy⟩ := own_asNat (p := x) (by omega)
  have key := own_chk9_ok a (by omega) b (by omega) y (by omega)
  have hba : b < a := by omega
  simp only [own_chk9, decide_eq_true hba, decide_eq_false hc97_1, decide_eq_true hc125_1, Bool.and_true, Bool.true_and, Bool.not_true, Bool.false_or, Bool.not_false] at key
  exact of_decide_eq_true key
set_option maxRecDepth 65536 in
set_option maxHeartbeats 40000000 in
theorem leafG_10 (wl : Int32) (w : Int32) (x : Int32) (cnt : Int32) (hwl : 1 ≤ wl.toInt ∧ wl.toInt ≤ 256) (hw4 : 0 ≤ w.toInt ∧ w.toInt ≤ 3) (hwm : w.toInt < wl.toInt) (hx : x.toInt = 0 ∨ x.toInt = 1) (hc97_1 : ¬ ((1 : Int32) < wl)) (hc125_1 : (3 : Int32) < wl) (hq1 : cnt = (1 : Int32)) : nar .boolean (vG_69 wl w x cnt) = 1 := by
  subst hq1
  obtain ⟨a, rfl, ea, ga⟩ := own_asNat (p := wl) (by omega)
  obtain ⟨b, rfl, eb, gb⟩ := own_asNat (p := w) (by omega)
  obtain ⟨y, rfl, ey, gy⟩ := own_asNat (p := x) (by omega)
  have key := own_chk10_ok a (by omega) b (by omega) y (by omega)
  have hba : b < a := by omega
  simp only [own_chk10, decide_eq_true hba, decide_eq_false hc97_1, decide_eq_true hc125_1, Bool.and_true, Bool.true_and, Bool.not_true, Bool.false_or, Bool.not_false] at key
  exact of_decide_eq_true key
set_option maxRecDepth 65536 in
set_option maxHeartbeats 40000000 in
theorem leafG_11 (wl : Int32) (w : Int32) (x : Int32) (cnt : Int32) (hwl : 1 ≤ wl.toInt ∧ wl.toInt ≤ 256) (hw4 : 0 ≤ w.toInt ∧ w.toInt ≤ 3) (hwm : w.toInt < wl.toInt) (hx : x.toInt = 0 ∨ x.toInt = 1) (hc97_1 : ¬ ((1 : Int32) < wl)) (hc125_1 : (3 : Int32) < wl) (hq2 : cnt = (2 : Int32)) : nar .boolean (vG_75 wl w x cnt) = 1 := by
  subst hq2
  obtain ⟨a, rfl, ea, ga⟩ := own_asNat (p := wl) (by omega)
  obtain ⟨b, rfl, eb, gb⟩ := own_asNat (p := w) (by omega)
  obtain ⟨y, rfl, ey, gy⟩ := own_asNat (p := x) (by omega)
  have key := own_chk11_ok a (by omega) b (by omega) y (by omega)
  have hba : b < a := by omega
  simp only [own_chk11, decide_eq_true hba, decide_eq_false hc97_1, decide_eq_true hc125_1, Bool.and_true, Bool.true_and, Bool.not_true, Bool.false_or, Bool.not_false] at key
  exact of_decide_eq_true key
set_option maxRecDepth 65536 in
set_option maxHeartbeats 40000000 in
theorem leafG_12 (wl : Int32) (w : Int32) (x : Int32) (cnt : Int32) (hwl : 1 ≤ wl.toInt ∧ wl.toInt ≤ 256) (hw4 : 0 ≤ w.toInt ∧ w.toInt ≤ 3) (hwm : w.toInt < wl.toInt) (hx : x.toInt = 0 ∨ x.toInt = 1) (hc97_1 : ¬ ((1 : Int32) < wl)) (hc125_1 : ¬ ((3 : Int32) < wl)) (hq0 : cnt = (0 : Int32)) : nar .boolean (vG_81 wl w x cnt) = 1 := by
  subst hq0
  obtain ⟨a, rfl, ea, ga⟩ := own_asNat (p := wl) (by omega)
  obtain ⟨b, rfl, eb, gb⟩ := own_asNat (p := w) (by omega)
  obtain ⟨y, rfl, ey, gy⟩ := own_asNat (p := x) (by omega)
  have key := own_chk12_ok a (by omega) b (by omega) y (by omega)
  have hba : b < a := by omega
  simp only [own_chk12, decide_eq_true hba, decide_eq_false hc97_1, decide_eq_false hc125_1, Bool.and_true, Bool.true_and, Bool.not_true, Bool.false_or, Bool.not_false] at key
  exact of_decide_eq_true key
set_option maxRecDepth 65536 in
set_option maxHeartbeats 40000000 in
theorem leafG_13 (wl : Int32) (w : Int32) (x : Int32) (cnt : Int32) (hwl : 1 ≤ wl.toInt ∧ wl.toInt ≤ 256) (hw4 : 0 ≤ w.toInt ∧ w.toInt ≤ 3) (hwm : w.toInt < wl.toInt) (hx : x.toInt = 0 ∨ x.toInt = 1) (hc97_1 : ¬ ((1 : Int32) < wl)) (hc125_1 : ¬ ((3 : Int32) < wl)) (hq1 : cnt = (1 : Int32)) : nar .boolean (vG_87 wl w x cnt) = 1 := by
  subst hq1
  obtain ⟨a, rfl, ea, ga⟩ := own_asNat (p := wl) (by omega)
  obtain ⟨b, rfl, eb, gb⟩ := own_asNat (p := w) (by omega)
  obtain ⟨y, rfl, ey, gy⟩ := own_asNat (p := x) (by omega)
  have key := own_chk13_ok a (by omega) b (by omega) y (by omega)
  have hba : b < a := by omega
  simp only [own_chk13, decide_eq_true hba, decide_eq_false hc97_1, decide_eq_false hc125_1, Bool.and_true, Bool.true_and, Bool.not_true, Bool.false_or, Bool.not_false] at key
  exact of_decide_eq_true key
set_option maxRecDepth 65536 in
set_option maxHeartbeats 40000000 in
theorem leafG_14 (wl : Int32) (w : Int32) (x : Int32) (cnt : Int32) (hwl : 1 ≤ wl.toInt ∧ wl.toInt ≤ 256) (hw4 : 0 ≤ w.toInt ∧ w.toInt ≤ 3) (hwm : w.toInt < wl.toInt) (hx : x.toInt = 0 ∨ x.toInt = 1) (hc97_1 : ¬ ((1 : Int32) < wl)) (hc125_1 : ¬ ((3 : Int32) < wl)) (hq2 : cnt = (2 : Int32)) : nar .boolean (vG_93 wl w x cnt) = 1 := by
  subst hq2
  obtain ⟨a, rfl, ea, ga⟩ := own_asNat (p := wl) (by omega)
  obtain ⟨b, rfl, eb, gb⟩ := own_asNat (p := w) (by omega)
  obtain ⟨y, rfl, ey, gy⟩ := own_asNat (p := x) (by omega)
  have key := own_chk14_ok a (by omega) b (by omega) y (by omega)
  have hba : b < a := by omega
  simp only [own_chk14, decide_eq_true hba, decide_eq_false hc97_1, decide_eq_false hc125_1, Bool.and_true, Bool.true_and, Bool.not_true, Bool.false_or, Bool.not_false] at key
  exact of_decide_eq_true key
set_option maxRecDepth 65536 in
set_option maxHeartbeats 40000000 in
theorem segG (l : Launch) (Z : State) (aZ : Array Value) (hw : ∀ d ∈ tables_1, d.before aZ Z = true) (p0 p1 p2 wl mm w x cnt : Int32) (h0 : Heap) (n0 : Nat) (Z0 : n0 ≤ h0.size) (hwl : 1 ≤ wl.toInt ∧ wl.toInt ≤ 256) (hw4 : 0 ≤ w.toInt ∧ w.toInt ≤ 3) (hwm : w.toInt < wl.toInt) (hx : x.toInt = 0 ∨ x.toInt = 1) (hcnt : cnt = 0 ∨ cnt = 1 ∨ cnt = 2)
    {p : Program} {e : Env} {s : State} {m : MethodId} {below : List Frame} {meth : Method} {c : Code} (C : Cx p s m meth c Z code maxLocals "com/example/bandweave/bandweave/simulate/FibresReleasePinLaw" ret) : Go p l e room_1 s m #[(.int p0), (.int p1), (.int p2)] below meth c n0 room_1.cells room_1.slots (fun v h => v = some (.int 1)) h0 0 0 (mkF m 36 #[.val (.int p0), .val (.int p1), .val (.int p2), .val (.int wl), .val (.int mm), .val (.int w), .val (.int x), .val (.int cnt), .unset, .unset, .unset, .unset, .unset, .unset, .unset, .unset, .unset, .unset] []) := by
  refine g_iconst C (2 : Int32) iG_36 rfl ?_
  refine g_newP C iG_37 (hw _ (List.mem_of_getElem? (i := 5) rfl)) (by decide) 2 (by decide) (by decide) (by decide) (by decide) rfl rfl (fun h17 b17 g17 E17 A17 => ?_)
  have ge17 : n0 ≤ b17 := Nat.le_trans Z0 (Nat.le_of_eq g17.symm)
  have fr17 : h0.size ≤ b17 := Nat.le_trans (Keep.refl h0 []).1 (Nat.le_of_eq g17.symm)
  have K17 := Keep.ext (Keep.refl h0 []) E17
  have Z17 : n0 ≤ h17.size := Nat.le_trans Z0 E17.1
  have V17 : AV Z h17 b17 .int 2 (fun ix => .int ((fun _ => (0 : Int32)) ix)) := A17
  refine g_dup C iG_39 rfl ?_
  refine g_iconst C (0 : Int32) iG_40 rfl ?_
  refine g_iload C iG_41 rfl ?_
  refine g_iastI C iG_43 V17 ⟨by decide, by decide⟩ ge17 (fun h18 W18 V18 => ?_)
  have Vw18 : AV Z h18 b17 .int 2 (fun ix => .int ((vG_0 wl w x cnt) ix)) := V18
  have K18 := Keep.wr K17 W18 (Or.inr fr17)
  have Z18 : n0 ≤ h18.size := Nat.le_trans Z17 (Keep.of_wr W18).1
  refine g_dup C iG_44 rfl ?_
  refine g_iconst C (1 : Int32) iG_45 rfl ?_
  refine g_iconst C (1 : Int32) iG_46 rfl ?_
  refine g_iload C iG_47 rfl ?_
  refine g_isub C iG_49 ?_
  refine g_iastI C iG_50 Vw18 ⟨by decide, by decide⟩ ge17 (fun h19 W19 V19 => ?_)
  have Vw19 : AV Z h19 b17 .int 2 (fun ix => .int ((vG_1 wl w x cnt) ix)) := V19
  have K19 := Keep.wr K18 W19 (Or.inr fr17)
  have Z19 : n0 ≤ h19.size := Nat.le_trans Z18 (Keep.of_wr W19).1
  refine g_astore C (Ls' := #[.val (.int p0), .val (.int p1), .val (.int p2), .val (.int wl), .val (.int mm), .val (.int w), .val (.int x), .val (.int cnt), .val (.ref b17), .unset, .unset, .unset, .unset, .unset, .unset, .unset, .unset, .unset]) iG_51 rfl rfl ?_
  refine g_iconst C (1 : Int32) iG_53 rfl ?_
  refine g_newP C iG_54 (hw _ (List.mem_of_getElem? (i := 5) rfl)) (by decide) 1 (by decide) (by decide) (by decide) (by decide) rfl rfl (fun h20 b20 g20 E20 A20 => ?_)
  have ne_b17_b20 : b17 ≠ b20 := Nat.ne_of_lt (Nat.lt_of_lt_of_le Vw19.lt (Nat.le_of_eq g20.symm))
  have ge20 : n0 ≤ b20 := Nat.le_trans Z19 (Nat.le_of_eq g20.symm)
  have fr20 : h0.size ≤ b20 := Nat.le_trans K19.1 (Nat.le_of_eq g20.symm)
  have K20 := Keep.ext K19 E20
  have Z20 : n0 ≤ h20.size := Nat.le_trans Z19 E20.1
  have V_b17_c20 := Vw19.ext E20
  have V20 : AV Z h20 b20 .int 1 (fun ix => .int ((fun _ => (0 : Int32)) ix)) := A20
  refine g_dup C iG_56 rfl ?_
  refine g_iconst C (0 : Int32) iG_57 rfl ?_
  refine g_iload C iG_58 rfl ?_
  refine g_iastI C iG_60 V20 ⟨by decide, by decide⟩ ge20 (fun h21 W21 V21 => ?_)
  have V_b17_c21 := AV.other V_b17_c20 W21 ne_b17_b20
  have Vw21 : AV Z h21 b20 .int 1 (fun ix => .int ((vG_0 wl w x cnt) ix)) := V21
  have K21 := Keep.wr K20 W21 (Or.inr fr20)
  have Z21 : n0 ≤ h21.size := Nat.le_trans Z20 (Keep.of_wr W21).1
  refine g_astore C (Ls' := #[.val (.int p0), .val (.int p1), .val (.int p2), .val (.int wl), .val (.int mm), .val (.int w), .val (.int x), .val (.int cnt), .val (.ref b17), .val (.ref b20), .unset, .unset, .unset, .unset, .unset, .unset, .unset, .unset]) iG_61 rfl rfl ?_
  refine g_iconst C (1 : Int32) iG_63 rfl ?_
  refine g_newP C iG_64 (hw _ (List.mem_of_getElem? (i := 5) rfl)) (by decide) 1 (by decide) (by decide) (by decide) (by decide) rfl rfl (fun h22 b22 g22 E22 A22 => ?_)
  have ne_b20_b22 : b20 ≠ b22 := Nat.ne_of_lt (Nat.lt_of_lt_of_le Vw21.lt (Nat.le_of_eq g22.symm))
  have ne_b17_b22 : b17 ≠ b22 := Nat.ne_of_lt (Nat.lt_of_lt_of_le V_b17_c21.lt (Nat.le_of_eq g22.symm))
  have ge22 : n0 ≤ b22 := Nat.le_trans Z21 (Nat.le_of_eq g22.symm)
  have fr22 : h0.size ≤ b22 := Nat.le_trans K21.1 (Nat.le_of_eq g22.symm)
  have K22 := Keep.ext K21 E22
  have Z22 : n0 ≤ h22.size := Nat.le_trans Z21 E22.1
  have V_b17_c22 := V_b17_c21.ext E22
  have V_b20_c22 := Vw21.ext E22
  have V22 : AV Z h22 b22 .int 1 (fun ix => .int ((fun _ => (0 : Int32)) ix)) := A22
  refine g_dup C iG_66 rfl ?_
  refine g_iconst C (0 : Int32) iG_67 rfl ?_
  refine g_iconst C (1 : Int32) iG_68 rfl ?_
  refine g_iload C iG_69 rfl ?_
  refine g_isub C iG_71 ?_
  refine g_iastI C iG_72 V22 ⟨by decide, by decide⟩ ge22 (fun h23 W23 V23 => ?_)
  have V_b17_c23 := AV.other V_b17_c22 W23 ne_b17_b22
  have V_b20_c23 := AV.other V_b20_c22 W23 ne_b20_b22
  have Vw23 : AV Z h23 b22 .int 1 (fun ix => .int ((vG_2 wl w x cnt) ix)) := V23
  have K23 := Keep.wr K22 W23 (Or.inr fr22)
  have Z23 : n0 ≤ h23.size := Nat.le_trans Z22 (Keep.of_wr W23).1
  refine g_astore C (Ls' := #[.val (.int p0), .val (.int p1), .val (.int p2), .val (.int wl), .val (.int mm), .val (.int w), .val (.int x), .val (.int cnt), .val (.ref b17), .val (.ref b20), .val (.ref b22), .unset, .unset, .unset, .unset, .unset, .unset, .unset]) iG_73 rfl rfl ?_
  refine g_newO C iG_75 (hw _ (List.mem_of_getElem? (i := 6) rfl)) (hw _ (List.mem_of_getElem? (i := 7) rfl)) (hw _ (List.mem_of_getElem? (i := 8) rfl)) (by decide) (by decide) rfl rfl (fun h24 b24 g24 E24 A24 D24 => ?_)
  have ne_b20_b24 : b20 ≠ b24 := Nat.ne_of_lt (Nat.lt_of_lt_of_le V_b20_c23.lt (Nat.le_of_eq g24.symm))
  have ne_b22_b24 : b22 ≠ b24 := Nat.ne_of_lt (Nat.lt_of_lt_of_le Vw23.lt (Nat.le_of_eq g24.symm))
  have ne_b17_b24 : b17 ≠ b24 := Nat.ne_of_lt (Nat.lt_of_lt_of_le V_b17_c23.lt (Nat.le_of_eq g24.symm))
  have ge24 : n0 ≤ b24 := Nat.le_trans Z23 (Nat.le_of_eq g24.symm)
  have fr24 : h0.size ≤ b24 := Nat.le_trans K23.1 (Nat.le_of_eq g24.symm)
  have K24 := Keep.ext K23 E24
  have Z24 : n0 ≤ h24.size := Nat.le_trans Z23 E24.1
  have V_b17_c24 := V_b17_c23.ext E24
  have V_b20_c24 := V_b20_c23.ext E24
  have V_b22_c24 := Vw23.ext E24
  have F24_words : Fld Z h24 b24 "com/example/bandweave/bandweave/simulate/Fibres" "words" "I" (.int (0 : Int32)) := D24 (Or.inr (hw _ (List.mem_of_getElem? (i := 16) rfl))) (ty := .int) (by decide)
  have F24_used : Fld Z h24 b24 "com/example/bandweave/bandweave/simulate/Fibres" "used" "[J" .null := D24 (Or.inr (hw _ (List.mem_of_getElem? (i := 19) rfl))) (ty := (.array .long)) (by decide)
  have F24_lastWord : Fld Z h24 b24 "com/example/bandweave/bandweave/simulate/Fibres" "lastWord" "J" (.long (0 : Int64)) := D24 (Or.inr (hw _ (List.mem_of_getElem? (i := 21) rfl))) (ty := .long) (by decide)
  refine g_dup C iG_78 rfl ?_
  refine g_iconst C (2 : Int32) iG_79 rfl ?_
  refine g_iloadN C iG_80 rfl ?_
  refine g_callI C (rmI l Z aZ hw b24 wl (0 : Int32) .null (0 : Int64) h24 n0 Z24 hwl A24 F24_words ge24 F24_used F24_lastWord) (a := b24) iG_81 rfl (hw _ (List.mem_of_getElem? (i := 9) rfl)) (hw _ (List.mem_of_getElem? (i := 10) rfl)) (hw _ (List.mem_of_getElem? (i := 8) rfl)) (hw _ (List.mem_of_getElem? (i := 11) rfl)) rfl (by decide) (argsL := [(.int (2 : Int32)), (.int wl)]) (rest := [(.ref b24)]) rfl rfl pd2 rfl rfl 1 (Nat.le_of_eq rfl) (by decide) (by decide) (by decide) (by decide) rfl rfl ?_
  rintro _ h25 ⟨r25_fb0, rfl, ⟨ge25_fb0, fh25_fb0⟩, KC25, P25_0, P25_1, P25_2, P25_3, P25_4⟩
  refine Go.none' ?_
  have ne_b17_r25_fb0 : b17 ≠ r25_fb0 := Nat.ne_of_lt (Nat.lt_of_lt_of_le V_b17_c24.lt fh25_fb0)
  have ne_b20_r25_fb0 : b20 ≠ r25_fb0 := Nat.ne_of_lt (Nat.lt_of_lt_of_le V_b20_c24.lt fh25_fb0)
  have ne_b22_r25_fb0 : b22 ≠ r25_fb0 := Nat.ne_of_lt (Nat.lt_of_lt_of_le V_b22_c24.lt fh25_fb0)
  have ne_b24_r25_fb0 : b24 ≠ r25_fb0 := Nat.ne_of_lt (Nat.lt_of_lt_of_le A24.lt fh25_fb0)
  have fr25_fb0 : h0.size ≤ r25_fb0 := Nat.le_trans K24.1 fh25_fb0
  have V_b17_cC25 := AV.keep V_b17_c24 KC25 (ninS ne_b17_b24 nin0)
  have V_b20_cC25 := AV.keep V_b20_c24 KC25 (ninS ne_b20_b24 nin0)
  have V_b22_cC25 := AV.keep V_b22_c24 KC25 (ninS ne_b22_b24 nin0)
  have E_b24_cC25 := Exa.keep A24 KC25
  have K25 := Keep.trans K24 KC25 (allS (Or.inr fr24) all0)
  have Z25 : n0 ≤ h25.size := Nat.le_trans Z24 KC25.1
  have P25_2 : Fld Z h25 b24 "com/example/bandweave/bandweave/simulate/Fibres" "words" "I" (.int ((wl + (63 : Int32)) / (64 : Int32))) := P25_2
  have P25_4 : Fld Z h25 b24 "com/example/bandweave/bandweave/simulate/Fibres" "lastWord" "J" (.long (vI_1 wl (0 : Int32) (0 : Int64))) := P25_4
  refine g_astore C (Ls' := #[.val (.int p0), .val (.int p1), .val (.int p2), .val (.int wl), .val (.int mm), .val (.int w), .val (.int x), .val (.int cnt), .val (.ref b17), .val (.ref b20), .val (.ref b22), .val (.ref b24), .unset, .unset, .unset, .unset, .unset, .unset]) iG_84 rfl rfl ?_
  refine g_aload C iG_86 rfl rfl ?_
  refine g_aload C iG_88 rfl rfl ?_
  refine g_iconst C (2 : Int32) iG_90 rfl ?_
  refine g_iconst C (0 : Int32) iG_91 rfl ?_
  refine g_callV C (rmT l Z aZ hw b24 b17 (0 : Int32) 2 ((2 : Int32) * ((wl + (63 : Int32)) / (64 : Int32))).toNatClampNeg (vG_1 wl w x cnt) ((wl + (63 : Int32)) / (64 : Int32)) r25_fb0 (fun _ => (0 : Int64)) h25 n0 Z25 rfl (own_hin hwl _ hx _ (by decide)) (own_hin hwl _ (own_l1 hx) _ (by decide)) P25_3 V_b17_cC25 P25_2 P25_0 ge25_fb0 ne_b24_r25_fb0 ne_b17_r25_fb0) (a := b24) iG_92 (hw _ (List.mem_of_getElem? (i := 22) rfl)) (hw _ (List.mem_of_getElem? (i := 23) rfl)) (fun s hZ => notFace_of_selects (args := #[]) (mvT hZ (hw _ (List.mem_of_getElem? (i := 25) rfl)))) (hw _ (List.mem_of_getElem? (i := 25) rfl)) (hw _ (List.mem_of_getElem? (i := 24) rfl)) (hw _ (List.mem_of_getElem? (i := 8) rfl)) (hw _ (List.mem_of_getElem? (i := 26) rfl)) (by decide) P25_1 (argsL := [(.ref b17), (.int (2 : Int32)), (.int (0 : Int32))]) (rest := []) rfl rfl pd3 rfl rfl 0 (Nat.le_of_eq rfl) (by decide) (by decide) (by decide) (by decide) rfl rfl ?_
  rintro _ h26 ⟨rfl, KC26, P26_0⟩
  refine Go.none' ?_
  have V_b17_cC26 := AV.keep V_b17_cC25 KC26 (ninS ne_b17_r25_fb0 nin0)
  have V_b20_cC26 := AV.keep V_b20_cC25 KC26 (ninS ne_b20_r25_fb0 nin0)
  have V_b22_cC26 := AV.keep V_b22_cC25 KC26 (ninS ne_b22_r25_fb0 nin0)
  have E_b24_cC26 := Exa.keep P25_1 KC26
  have F_words_b24_cC26 := Fld.keep P25_2 KC26 (ninS ne_b24_r25_fb0 nin0)
  have F_used_b24_cC26 := Fld.keep P25_3 KC26 (ninS ne_b24_r25_fb0 nin0)
  have F_lastWord_b24_cC26 := Fld.keep P25_4 KC26 (ninS ne_b24_r25_fb0 nin0)
  have K26 := Keep.trans K25 KC26 (allS (Or.inr fr25_fb0) all0)
  have Z26 : n0 ≤ h26.size := Nat.le_trans Z25 KC26.1
  refine g_iloadN C iG_95 rfl ?_
  refine g_iconst C (1 : Int32) iG_96 rfl ?_
  refine g_icmp_le C iG_97 (fun hc97_1 => ?_) (fun hc97_1 => ?_)
  · refine g_aload C iG_100 rfl rfl ?_
    refine g_aload C iG_102 rfl rfl ?_
    refine g_iconst C (2 : Int32) iG_104 rfl ?_
    refine g_iconst C (1 : Int32) iG_105 rfl ?_
    refine g_callV C (rmT l Z aZ hw b24 b17 (1 : Int32) 2 ((2 : Int32) * ((wl + (63 : Int32)) / (64 : Int32))).toNatClampNeg (vG_1 wl w x cnt) ((wl + (63 : Int32)) / (64 : Int32)) r25_fb0 (vT_3 (0 : Int32) 2 ((2 : Int32) * ((wl + (63 : Int32)) / (64 : Int32))).toNatClampNeg (vG_1 wl w x cnt) ((wl + (63 : Int32)) / (64 : Int32)) (fun _ => (0 : Int64))) h26 n0 Z26 rfl (own_hin hwl _ hx _ (by decide)) (own_hin hwl _ (own_l1 hx) _ (by decide)) F_used_b24_cC26 V_b17_cC26 F_words_b24_cC26 P26_0 ge25_fb0 ne_b24_r25_fb0 ne_b17_r25_fb0) (a := b24) iG_106 (hw _ (List.mem_of_getElem? (i := 22) rfl)) (hw _ (List.mem_of_getElem? (i := 23) rfl)) (fun s hZ => notFace_of_selects (args := #[]) (mvT hZ (hw _ (List.mem_of_getElem? (i := 25) rfl)))) (hw _ (List.mem_of_getElem? (i := 25) rfl)) (hw _ (List.mem_of_getElem? (i := 24) rfl)) (hw _ (List.mem_of_getElem? (i := 8) rfl)) (hw _ (List.mem_of_getElem? (i := 26) rfl)) (by decide) E_b24_cC26 (argsL := [(.ref b17), (.int (2 : Int32)), (.int (1 : Int32))]) (rest := []) rfl rfl pd3 rfl rfl 0 (Nat.le_of_eq rfl) (by decide) (by decide) (by decide) (by decide) rfl rfl ?_
    rintro _ h27 ⟨rfl, KC27, P27_0⟩
    refine Go.none' ?_
    have V_b17_cC27 := AV.keep V_b17_cC26 KC27 (ninS ne_b17_r25_fb0 nin0)
    have V_b20_cC27 := AV.keep V_b20_cC26 KC27 (ninS ne_b20_r25_fb0 nin0)
    have V_b22_cC27 := AV.keep V_b22_cC26 KC27 (ninS ne_b22_r25_fb0 nin0)
    have E_b24_cC27 := Exa.keep E_b24_cC26 KC27
    have F_words_b24_cC27 := Fld.keep F_words_b24_cC26 KC27 (ninS ne_b24_r25_fb0 nin0)
    have F_used_b24_cC27 := Fld.keep F_used_b24_cC26 KC27 (ninS ne_b24_r25_fb0 nin0)
    have F_lastWord_b24_cC27 := Fld.keep F_lastWord_b24_cC26 KC27 (ninS ne_b24_r25_fb0 nin0)
    have K27 := Keep.trans K26 KC27 (allS (Or.inr fr25_fb0) all0)
    have Z27 : n0 ≤ h27.size := Nat.le_trans Z26 KC27.1
    refine g_iloadN C iG_109 rfl ?_
    refine g_iconst C (2 : Int32) iG_110 rfl ?_
    refine g_icmp_le C iG_111 (fun hc111_1 => ?_) (fun hc111_1 => ?_)
    · refine g_aload C iG_114 rfl rfl ?_
      refine g_aload C iG_116 rfl rfl ?_
      refine g_iconst C (2 : Int32) iG_118 rfl ?_
      refine g_iconst C (2 : Int32) iG_119 rfl ?_
      refine g_callV C (rmT l Z aZ hw b24 b17 (2 : Int32) 2 ((2 : Int32) * ((wl + (63 : Int32)) / (64 : Int32))).toNatClampNeg (vG_1 wl w x cnt) ((wl + (63 : Int32)) / (64 : Int32)) r25_fb0 (vT_3 (1 : Int32) 2 ((2 : Int32) * ((wl + (63 : Int32)) / (64 : Int32))).toNatClampNeg (vG_1 wl w x cnt) ((wl + (63 : Int32)) / (64 : Int32)) (vT_3 (0 : Int32) 2 ((2 : Int32) * ((wl + (63 : Int32)) / (64 : Int32))).toNatClampNeg (vG_1 wl w x cnt) ((wl + (63 : Int32)) / (64 : Int32)) (fun _ => (0 : Int64)))) h27 n0 Z27 rfl (own_hin hwl _ hx _ (by decide)) (own_hin hwl _ (own_l1 hx) _ (by decide)) F_used_b24_cC27 V_b17_cC27 F_words_b24_cC27 P27_0 ge25_fb0 ne_b24_r25_fb0 ne_b17_r25_fb0) (a := b24) iG_120 (hw _ (List.mem_of_getElem? (i := 22) rfl)) (hw _ (List.mem_of_getElem? (i := 23) rfl)) (fun s hZ => notFace_of_selects (args := #[]) (mvT hZ (hw _ (List.mem_of_getElem? (i := 25) rfl)))) (hw _ (List.mem_of_getElem? (i := 25) rfl)) (hw _ (List.mem_of_getElem? (i := 24) rfl)) (hw _ (List.mem_of_getElem? (i := 8) rfl)) (hw _ (List.mem_of_getElem? (i := 26) rfl)) (by decide) E_b24_cC27 (argsL := [(.ref b17), (.int (2 : Int32)), (.int (2 : Int32))]) (rest := []) rfl rfl pd3 rfl rfl 0 (Nat.le_of_eq rfl) (by decide) (by decide) (by decide) (by decide) rfl rfl ?_
      rintro _ h28 ⟨rfl, KC28, P28_0⟩
      refine Go.none' ?_
      have V_b17_cC28 := AV.keep V_b17_cC27 KC28 (ninS ne_b17_r25_fb0 nin0)
      have V_b20_cC28 := AV.keep V_b20_cC27 KC28 (ninS ne_b20_r25_fb0 nin0)
      have V_b22_cC28 := AV.keep V_b22_cC27 KC28 (ninS ne_b22_r25_fb0 nin0)
      have E_b24_cC28 := Exa.keep E_b24_cC27 KC28
      have F_words_b24_cC28 := Fld.keep F_words_b24_cC27 KC28 (ninS ne_b24_r25_fb0 nin0)
      have F_used_b24_cC28 := Fld.keep F_used_b24_cC27 KC28 (ninS ne_b24_r25_fb0 nin0)
      have F_lastWord_b24_cC28 := Fld.keep F_lastWord_b24_cC27 KC28 (ninS ne_b24_r25_fb0 nin0)
      have K28 := Keep.trans K27 KC28 (allS (Or.inr fr25_fb0) all0)
      have Z28 : n0 ≤ h28.size := Nat.le_trans Z27 KC28.1
      refine g_iloadN C iG_123 rfl ?_
      refine g_iconst C (3 : Int32) iG_124 rfl ?_
      refine g_icmp_le C iG_125 (fun hc125_1 => ?_) (fun hc125_1 => ?_)
      · refine g_aload C iG_128 rfl rfl ?_
        refine g_aload C iG_130 rfl rfl ?_
        refine g_iconst C (2 : Int32) iG_132 rfl ?_
        refine g_iconst C (3 : Int32) iG_133 rfl ?_
        refine g_callV C (rmT l Z aZ hw b24 b17 (3 : Int32) 2 ((2 : Int32) * ((wl + (63 : Int32)) / (64 : Int32))).toNatClampNeg (vG_1 wl w x cnt) ((wl + (63 : Int32)) / (64 : Int32)) r25_fb0 (vT_3 (2 : Int32) 2 ((2 : Int32) * ((wl + (63 : Int32)) / (64 : Int32))).toNatClampNeg (vG_1 wl w x cnt) ((wl + (63 : Int32)) / (64 : Int32)) (vT_3 (1 : Int32) 2 ((2 : Int32) * ((wl + (63 : Int32)) / (64 : Int32))).toNatClampNeg (vG_1 wl w x cnt) ((wl + (63 : Int32)) / (64 : Int32)) (vT_3 (0 : Int32) 2 ((2 : Int32) * ((wl + (63 : Int32)) / (64 : Int32))).toNatClampNeg (vG_1 wl w x cnt) ((wl + (63 : Int32)) / (64 : Int32)) (fun _ => (0 : Int64))))) h28 n0 Z28 rfl (own_hin hwl _ hx _ (by decide)) (own_hin hwl _ (own_l1 hx) _ (by decide)) F_used_b24_cC28 V_b17_cC28 F_words_b24_cC28 P28_0 ge25_fb0 ne_b24_r25_fb0 ne_b17_r25_fb0) (a := b24) iG_134 (hw _ (List.mem_of_getElem? (i := 22) rfl)) (hw _ (List.mem_of_getElem? (i := 23) rfl)) (fun s hZ => notFace_of_selects (args := #[]) (mvT hZ (hw _ (List.mem_of_getElem? (i := 25) rfl)))) (hw _ (List.mem_of_getElem? (i := 25) rfl)) (hw _ (List.mem_of_getElem? (i := 24) rfl)) (hw _ (List.mem_of_getElem? (i := 8) rfl)) (hw _ (List.mem_of_getElem? (i := 26) rfl)) (by decide) E_b24_cC28 (argsL := [(.ref b17), (.int (2 : Int32)), (.int (3 : Int32))]) (rest := []) rfl rfl pd3 rfl rfl 0 (Nat.le_of_eq rfl) (by decide) (by decide) (by decide) (by decide) rfl rfl ?_
        rintro _ h29 ⟨rfl, KC29, P29_0⟩
        refine Go.none' ?_
        have V_b17_cC29 := AV.keep V_b17_cC28 KC29 (ninS ne_b17_r25_fb0 nin0)
        have V_b20_cC29 := AV.keep V_b20_cC28 KC29 (ninS ne_b20_r25_fb0 nin0)
        have V_b22_cC29 := AV.keep V_b22_cC28 KC29 (ninS ne_b22_r25_fb0 nin0)
        have E_b24_cC29 := Exa.keep E_b24_cC28 KC29
        have F_words_b24_cC29 := Fld.keep F_words_b24_cC28 KC29 (ninS ne_b24_r25_fb0 nin0)
        have F_used_b24_cC29 := Fld.keep F_used_b24_cC28 KC29 (ninS ne_b24_r25_fb0 nin0)
        have F_lastWord_b24_cC29 := Fld.keep F_lastWord_b24_cC28 KC29 (ninS ne_b24_r25_fb0 nin0)
        have K29 := Keep.trans K28 KC29 (allS (Or.inr fr25_fb0) all0)
        have Z29 : n0 ≤ h29.size := Nat.le_trans Z28 KC29.1
        rcases hcnt with hq0 | hq1 | hq2
        · refine Go.cast (g' := mkF m 137 #[.val (.int p0), .val (.int p1), .val (.int p2), .val (.int wl), .val (.int mm), .val (.int w), .val (.int x), .val (.int (0 : Int32)), .val (.ref b17), .val (.ref b20), .val (.ref b22), .val (.ref b24), .unset, .unset, .unset, .unset, .unset, .unset] []) ?_ (by rw [hq0])
          refine g_aload C iG_137 rfl rfl ?_
          refine g_aload C iG_139 rfl rfl ?_
          refine g_iload C iG_141 rfl ?_
          refine g_iload C iG_143 rfl ?_
          refine g_callV C (rmR0 l Z aZ hw b24 b17 w h29 n0 Z29) (a := b24) iG_145 (hw _ (List.mem_of_getElem? (i := 27) rfl)) (hw _ (List.mem_of_getElem? (i := 28) rfl)) (fun s hZ => notFace_of_selects (args := #[]) (mvT hZ (hw _ (List.mem_of_getElem? (i := 30) rfl)))) (hw _ (List.mem_of_getElem? (i := 30) rfl)) (hw _ (List.mem_of_getElem? (i := 29) rfl)) (hw _ (List.mem_of_getElem? (i := 8) rfl)) (hw _ (List.mem_of_getElem? (i := 31) rfl)) (by decide) E_b24_cC29 (argsL := [(.ref b17), (.int (0 : Int32)), (.int w)]) (rest := []) rfl rfl pd3 rfl rfl 0 (Nat.le_of_eq rfl) (by decide) (by decide) (by decide) (by decide) rfl rfl ?_
          rintro _ _ ⟨rfl, he30⟩
          refine Go.heap he30.symm ?_
          refine Go.none' ?_
          refine g_iloadN C iG_148 rfl ?_
          refine g_iconst C (4 : Int32) iG_149 rfl ?_
          refine Go.join (mkF m 158 #[.val (.int p0), .val (.int p1), .val (.int p2), .val (.int wl), .val (.int mm), .val (.int w), .val (.int x), .val (.int (0 : Int32)), .val (.ref b17), .val (.ref b20), .val (.ref b22), .val (.ref b24), .unset, .unset, .unset, .unset, .unset, .unset] [(.int (vG_3 wl w x cnt))]) ?_ (fun J => ?_)
          · refine g_istore C (Ls' := #[.val (.int p0), .val (.int p1), .val (.int p2), .val (.int wl), .val (.int mm), .val (.int w), .val (.int x), .val (.int (0 : Int32)), .val (.ref b17), .val (.ref b20), .val (.ref b22), .val (.ref b24), .val (.int (vG_3 wl w x cnt)), .unset, .unset, .unset, .unset, .unset]) iG_158 rfl ?_
            refine g_aload C iG_160 rfl rfl ?_
            refine g_aload C iG_162 rfl rfl ?_
            refine g_iconst C (1 : Int32) iG_164 rfl ?_
            refine g_callV C (rmF1 l Z aZ hw b24 b20 ((wl + (63 : Int32)) / (64 : Int32)) (vI_1 wl (0 : Int32) (0 : Int64)) r25_fb0 ((2 : Int32) * ((wl + (63 : Int32)) / (64 : Int32))).toNatClampNeg (vT_3 (3 : Int32) 2 ((2 : Int32) * ((wl + (63 : Int32)) / (64 : Int32))).toNatClampNeg (vG_1 wl w x cnt) ((wl + (63 : Int32)) / (64 : Int32)) (vT_3 (2 : Int32) 2 ((2 : Int32) * ((wl + (63 : Int32)) / (64 : Int32))).toNatClampNeg (vG_1 wl w x cnt) ((wl + (63 : Int32)) / (64 : Int32)) (vT_3 (1 : Int32) 2 ((2 : Int32) * ((wl + (63 : Int32)) / (64 : Int32))).toNatClampNeg (vG_1 wl w x cnt) ((wl + (63 : Int32)) / (64 : Int32)) (vT_3 (0 : Int32) 2 ((2 : Int32) * ((wl + (63 : Int32)) / (64 : Int32))).toNatClampNeg (vG_1 wl w x cnt) ((wl + (63 : Int32)) / (64 : Int32)) (fun _ => (0 : Int64)))))) 1 (vG_0 wl w x cnt) h29 n0 Z29 F_words_b24_cC29 F_used_b24_cC29 F_lastWord_b24_cC29 P29_0 V_b20_cC29 (own_wo hwl) (by decide) (own_hF1 hwl _ hx)) (a := b24) iG_165 (hw _ (List.mem_of_getElem? (i := 33) rfl)) (hw _ (List.mem_of_getElem? (i := 34) rfl)) (fun s hZ => notFace_of_selects (args := #[]) (mvT hZ (hw _ (List.mem_of_getElem? (i := 36) rfl)))) (hw _ (List.mem_of_getElem? (i := 36) rfl)) (hw _ (List.mem_of_getElem? (i := 35) rfl)) (hw _ (List.mem_of_getElem? (i := 8) rfl)) (hw _ (List.mem_of_getElem? (i := 37) rfl)) (by decide) E_b24_cC29 (argsL := [(.ref b20), (.int (1 : Int32))]) (rest := []) rfl rfl pd4 rfl rfl 0 (Nat.le_of_eq rfl) (by decide) (by decide) (by decide) (by decide) rfl rfl ?_
            rintro _ _ ⟨rfl, he31⟩
            refine Go.heap he31.symm ?_
            refine Go.some' ?_
            refine g_istore C (Ls' := #[.val (.int p0), .val (.int p1), .val (.int p2), .val (.int wl), .val (.int mm), .val (.int w), .val (.int x), .val (.int (0 : Int32)), .val (.ref b17), .val (.ref b20), .val (.ref b22), .val (.ref b24), .val (.int (vG_3 wl w x cnt)), .val (.int (vG_4 wl w x cnt)), .unset, .unset, .unset, .unset]) iG_168 rfl ?_
            refine g_aload C iG_170 rfl rfl ?_
            refine g_aload C iG_172 rfl rfl ?_
            refine g_iconst C (1 : Int32) iG_174 rfl ?_
            refine g_callV C (rmF1 l Z aZ hw b24 b22 ((wl + (63 : Int32)) / (64 : Int32)) (vI_1 wl (0 : Int32) (0 : Int64)) r25_fb0 ((2 : Int32) * ((wl + (63 : Int32)) / (64 : Int32))).toNatClampNeg (vT_3 (3 : Int32) 2 ((2 : Int32) * ((wl + (63 : Int32)) / (64 : Int32))).toNatClampNeg (vG_1 wl w x cnt) ((wl + (63 : Int32)) / (64 : Int32)) (vT_3 (2 : Int32) 2 ((2 : Int32) * ((wl + (63 : Int32)) / (64 : Int32))).toNatClampNeg (vG_1 wl w x cnt) ((wl + (63 : Int32)) / (64 : Int32)) (vT_3 (1 : Int32) 2 ((2 : Int32) * ((wl + (63 : Int32)) / (64 : Int32))).toNatClampNeg (vG_1 wl w x cnt) ((wl + (63 : Int32)) / (64 : Int32)) (vT_3 (0 : Int32) 2 ((2 : Int32) * ((wl + (63 : Int32)) / (64 : Int32))).toNatClampNeg (vG_1 wl w x cnt) ((wl + (63 : Int32)) / (64 : Int32)) (fun _ => (0 : Int64)))))) 1 (vG_2 wl w x cnt) h29 n0 Z29 F_words_b24_cC29 F_used_b24_cC29 F_lastWord_b24_cC29 P29_0 V_b22_cC29 (own_wo hwl) (by decide) (own_hF1 hwl _ (own_l1 hx))) (a := b24) iG_175 (hw _ (List.mem_of_getElem? (i := 33) rfl)) (hw _ (List.mem_of_getElem? (i := 34) rfl)) (fun s hZ => notFace_of_selects (args := #[]) (mvT hZ (hw _ (List.mem_of_getElem? (i := 36) rfl)))) (hw _ (List.mem_of_getElem? (i := 36) rfl)) (hw _ (List.mem_of_getElem? (i := 35) rfl)) (hw _ (List.mem_of_getElem? (i := 8) rfl)) (hw _ (List.mem_of_getElem? (i := 37) rfl)) (by decide) E_b24_cC29 (argsL := [(.ref b22), (.int (1 : Int32))]) (rest := []) rfl rfl pd4 rfl rfl 0 (Nat.le_of_eq rfl) (by decide) (by decide) (by decide) (by decide) rfl rfl ?_
            rintro _ _ ⟨rfl, he32⟩
            refine Go.heap he32.symm ?_
            refine Go.some' ?_
            refine g_istore C (Ls' := #[.val (.int p0), .val (.int p1), .val (.int p2), .val (.int wl), .val (.int mm), .val (.int w), .val (.int x), .val (.int (0 : Int32)), .val (.ref b17), .val (.ref b20), .val (.ref b22), .val (.ref b24), .val (.int (vG_3 wl w x cnt)), .val (.int (vG_4 wl w x cnt)), .val (.int (vG_5 wl w x cnt)), .unset, .unset, .unset]) iG_178 rfl ?_
            refine g_iload C iG_180 rfl ?_
            refine g_iconst C (1 : Int32) iG_182 rfl ?_
            refine g_icmp_lt C iG_183 (fun _ => ?_) (fun q => absurd (by decide) q)
            refine g_iload C iG_191 rfl ?_
            refine g_istore C (Ls' := #[.val (.int p0), .val (.int p1), .val (.int p2), .val (.int wl), .val (.int mm), .val (.int w), .val (.int x), .val (.int (0 : Int32)), .val (.ref b17), .val (.ref b20), .val (.ref b22), .val (.ref b24), .val (.int (vG_3 wl w x cnt)), .val (.int (vG_4 wl w x cnt)), .val (.int (vG_5 wl w x cnt)), .val (.int (vG_3 wl w x cnt)), .unset, .unset]) iG_193 rfl ?_
            refine g_iload C iG_195 rfl ?_
            refine g_iconst C (2 : Int32) iG_197 rfl ?_
            refine g_icmp_lt C iG_198 (fun _ => ?_) (fun q => absurd (by decide) q)
            refine g_iload C iG_206 rfl ?_
            refine g_istore C (Ls' := #[.val (.int p0), .val (.int p1), .val (.int p2), .val (.int wl), .val (.int mm), .val (.int w), .val (.int x), .val (.int (0 : Int32)), .val (.ref b17), .val (.ref b20), .val (.ref b22), .val (.ref b24), .val (.int (vG_3 wl w x cnt)), .val (.int (vG_4 wl w x cnt)), .val (.int (vG_5 wl w x cnt)), .val (.int (vG_3 wl w x cnt)), .val (.int (vG_3 wl w x cnt)), .unset]) iG_208 rfl ?_
            refine g_aload C iG_210 rfl rfl ?_
            refine g_aload C iG_212 rfl rfl ?_
            refine g_iconst C (2 : Int32) iG_214 rfl ?_
            refine g_iload C iG_215 rfl ?_
            refine g_callV C (rmT l Z aZ hw b24 b17 w 2 ((2 : Int32) * ((wl + (63 : Int32)) / (64 : Int32))).toNatClampNeg (vG_1 wl w x cnt) ((wl + (63 : Int32)) / (64 : Int32)) r25_fb0 (vT_3 (3 : Int32) 2 ((2 : Int32) * ((wl + (63 : Int32)) / (64 : Int32))).toNatClampNeg (vG_1 wl w x cnt) ((wl + (63 : Int32)) / (64 : Int32)) (vT_3 (2 : Int32) 2 ((2 : Int32) * ((wl + (63 : Int32)) / (64 : Int32))).toNatClampNeg (vG_1 wl w x cnt) ((wl + (63 : Int32)) / (64 : Int32)) (vT_3 (1 : Int32) 2 ((2 : Int32) * ((wl + (63 : Int32)) / (64 : Int32))).toNatClampNeg (vG_1 wl w x cnt) ((wl + (63 : Int32)) / (64 : Int32)) (vT_3 (0 : Int32) 2 ((2 : Int32) * ((wl + (63 : Int32)) / (64 : Int32))).toNatClampNeg (vG_1 wl w x cnt) ((wl + (63 : Int32)) / (64 : Int32)) (fun _ => (0 : Int64)))))) h29 n0 Z29 rfl (own_hin hwl _ hx _ hw4) (own_hin hwl _ (own_l1 hx) _ hw4) F_used_b24_cC29 V_b17_cC29 F_words_b24_cC29 P29_0 ge25_fb0 ne_b24_r25_fb0 ne_b17_r25_fb0) (a := b24) iG_217 (hw _ (List.mem_of_getElem? (i := 22) rfl)) (hw _ (List.mem_of_getElem? (i := 23) rfl)) (fun s hZ => notFace_of_selects (args := #[]) (mvT hZ (hw _ (List.mem_of_getElem? (i := 25) rfl)))) (hw _ (List.mem_of_getElem? (i := 25) rfl)) (hw _ (List.mem_of_getElem? (i := 24) rfl)) (hw _ (List.mem_of_getElem? (i := 8) rfl)) (hw _ (List.mem_of_getElem? (i := 26) rfl)) (by decide) E_b24_cC29 (argsL := [(.ref b17), (.int (2 : Int32)), (.int w)]) (rest := []) rfl rfl pd3 rfl rfl 0 (Nat.le_of_eq rfl) (by decide) (by decide) (by decide) (by decide) rfl rfl ?_
            rintro _ h33 ⟨rfl, KC33, P33_0⟩
            refine Go.none' ?_
            have V_b17_cC33 := AV.keep V_b17_cC29 KC33 (ninS ne_b17_r25_fb0 nin0)
            have V_b20_cC33 := AV.keep V_b20_cC29 KC33 (ninS ne_b20_r25_fb0 nin0)
            have V_b22_cC33 := AV.keep V_b22_cC29 KC33 (ninS ne_b22_r25_fb0 nin0)
            have E_b24_cC33 := Exa.keep E_b24_cC29 KC33
            have F_words_b24_cC33 := Fld.keep F_words_b24_cC29 KC33 (ninS ne_b24_r25_fb0 nin0)
            have F_used_b24_cC33 := Fld.keep F_used_b24_cC29 KC33 (ninS ne_b24_r25_fb0 nin0)
            have F_lastWord_b24_cC33 := Fld.keep F_lastWord_b24_cC29 KC33 (ninS ne_b24_r25_fb0 nin0)
            have K33 := Keep.trans K29 KC33 (allS (Or.inr fr25_fb0) all0)
            have Z33 : n0 ≤ h33.size := Nat.le_trans Z29 KC33.1
            refine g_aload C iG_220 rfl rfl ?_
            refine g_aload C iG_222 rfl rfl ?_
            refine g_iconst C (2 : Int32) iG_224 rfl ?_
            refine g_callV C (rmF2 l Z aZ hw b24 b17 ((wl + (63 : Int32)) / (64 : Int32)) (vI_1 wl (0 : Int32) (0 : Int64)) r25_fb0 ((2 : Int32) * ((wl + (63 : Int32)) / (64 : Int32))).toNatClampNeg (vT_3 w 2 ((2 : Int32) * ((wl + (63 : Int32)) / (64 : Int32))).toNatClampNeg (vG_1 wl w x cnt) ((wl + (63 : Int32)) / (64 : Int32)) (vT_3 (3 : Int32) 2 ((2 : Int32) * ((wl + (63 : Int32)) / (64 : Int32))).toNatClampNeg (vG_1 wl w x cnt) ((wl + (63 : Int32)) / (64 : Int32)) (vT_3 (2 : Int32) 2 ((2 : Int32) * ((wl + (63 : Int32)) / (64 : Int32))).toNatClampNeg (vG_1 wl w x cnt) ((wl + (63 : Int32)) / (64 : Int32)) (vT_3 (1 : Int32) 2 ((2 : Int32) * ((wl + (63 : Int32)) / (64 : Int32))).toNatClampNeg (vG_1 wl w x cnt) ((wl + (63 : Int32)) / (64 : Int32)) (vT_3 (0 : Int32) 2 ((2 : Int32) * ((wl + (63 : Int32)) / (64 : Int32))).toNatClampNeg (vG_1 wl w x cnt) ((wl + (63 : Int32)) / (64 : Int32)) (fun _ => (0 : Int64))))))) 2 (vG_1 wl w x cnt) h33 n0 Z33 F_words_b24_cC33 F_used_b24_cC33 F_lastWord_b24_cC33 P33_0 V_b17_cC33 (own_wo hwl) (by decide) (own_hF2 hwl _ hx (own_l1 hx))) (a := b24) iG_225 (hw _ (List.mem_of_getElem? (i := 33) rfl)) (hw _ (List.mem_of_getElem? (i := 34) rfl)) (fun s hZ => notFace_of_selects (args := #[]) (mvT hZ (hw _ (List.mem_of_getElem? (i := 36) rfl)))) (hw _ (List.mem_of_getElem? (i := 36) rfl)) (hw _ (List.mem_of_getElem? (i := 35) rfl)) (hw _ (List.mem_of_getElem? (i := 8) rfl)) (hw _ (List.mem_of_getElem? (i := 37) rfl)) (by decide) E_b24_cC33 (argsL := [(.ref b17), (.int (2 : Int32))]) (rest := []) rfl rfl pd4 rfl rfl 0 (Nat.le_of_eq rfl) (by decide) (by decide) (by decide) (by decide) rfl rfl ?_
            rintro _ _ ⟨rfl, he34⟩
            refine Go.heap he34.symm ?_
            refine Go.some' ?_
            refine g_istore C (Ls' := #[.val (.int p0), .val (.int p1), .val (.int p2), .val (.int wl), .val (.int mm), .val (.int w), .val (.int x), .val (.int (0 : Int32)), .val (.ref b17), .val (.ref b20), .val (.ref b22), .val (.ref b24), .val (.int (vG_3 wl w x cnt)), .val (.int (vG_4 wl w x cnt)), .val (.int (vG_5 wl w x cnt)), .val (.int (vG_3 wl w x cnt)), .val (.int (vG_3 wl w x cnt)), .val (.int (vG_6 wl w x cnt))]) iG_228 rfl ?_
            refine g_iload C iG_230 rfl ?_
            refine g_iload C iG_232 rfl ?_
            refine Go.join (mkF m 256 #[.val (.int p0), .val (.int p1), .val (.int p2), .val (.int wl), .val (.int mm), .val (.int w), .val (.int x), .val (.int (0 : Int32)), .val (.ref b17), .val (.ref b20), .val (.ref b22), .val (.ref b24), .val (.int (vG_3 wl w x cnt)), .val (.int (vG_4 wl w x cnt)), .val (.int (vG_5 wl w x cnt)), .val (.int (vG_3 wl w x cnt)), .val (.int (vG_3 wl w x cnt)), .val (.int (vG_6 wl w x cnt))] [(.int (vG_9 wl w x cnt))]) ?_ (fun J => ?_)
            · exact g_retNar C (t := .boolean) iG_256 rfl (by simp) (by decide) (by decide) (show _ = _ from congrArg (fun z => some (Value.int z)) (leafG_0 wl w x cnt hwl hw4 hwm hx hc97_1 hc111_1 hc125_1 hq0))
            · refine g_icmp_ne C iG_234 (fun hc234_1 => ?_) (fun hc234_1 => ?_)
              · refine g_iload C iG_237 rfl ?_
                refine g_iload C iG_239 rfl ?_
                refine g_icmp_ne C iG_241 (fun hc241_1 => ?_) (fun hc241_1 => ?_)
                · refine g_iload C iG_244 rfl ?_
                  refine g_iload C iG_246 rfl ?_
                  refine g_icmp_ne C iG_248 (fun hc248_1 => ?_) (fun hc248_1 => ?_)
                  · refine g_iconst C (1 : Int32) iG_251 rfl ?_
                    refine g_goto C iG_252 ?_
                    have e0 : (vG_9 wl w x cnt) = (1 : Int32) := by simp only [vG_9, if_pos hc234_1, if_pos hc241_1, if_pos hc248_1]
                    exact Go.cast J (by rw [e0])
                  · refine g_iconst C (0 : Int32) iG_255 rfl ?_
                    have e0 : (vG_9 wl w x cnt) = (0 : Int32) := by simp only [vG_9, if_pos hc234_1, if_pos hc241_1, if_neg hc248_1]
                    exact Go.cast J (by rw [e0])
                · refine g_iconst C (0 : Int32) iG_255 rfl ?_
                  have e0 : (vG_9 wl w x cnt) = (0 : Int32) := by simp only [vG_9, if_pos hc234_1, if_neg hc241_1]
                  exact Go.cast J (by rw [e0])
              · refine g_iconst C (0 : Int32) iG_255 rfl ?_
                have e0 : (vG_9 wl w x cnt) = (0 : Int32) := by simp only [vG_9, if_neg hc234_1]
                exact Go.cast J (by rw [e0])
          · refine g_icmp_gt C iG_150 (fun hc150_1 => ?_) (fun hc150_1 => ?_)
            · refine g_iconst C (4 : Int32) iG_157 rfl ?_
              have e0 : (vG_3 wl w x cnt) = (4 : Int32) := by simp only [vG_3, if_pos hc150_1]
              exact Go.cast J (by rw [e0])
            · refine g_iconst C (-1 : Int32) iG_153 rfl ?_
              refine g_goto C iG_154 ?_
              have e0 : (vG_3 wl w x cnt) = (-1 : Int32) := by simp only [vG_3, if_neg hc150_1]
              exact Go.cast J (by rw [e0])
        · refine Go.cast (g' := mkF m 137 #[.val (.int p0), .val (.int p1), .val (.int p2), .val (.int wl), .val (.int mm), .val (.int w), .val (.int x), .val (.int (1 : Int32)), .val (.ref b17), .val (.ref b20), .val (.ref b22), .val (.ref b24), .unset, .unset, .unset, .unset, .unset, .unset] []) ?_ (by rw [hq1])
          refine g_aload C iG_137 rfl rfl ?_
          refine g_aload C iG_139 rfl rfl ?_
          refine g_iload C iG_141 rfl ?_
          refine g_iload C iG_143 rfl ?_
          refine g_callV C (rmR1 l Z aZ hw b24 b17 w 2 ((2 : Int32) * ((wl + (63 : Int32)) / (64 : Int32))).toNatClampNeg (vG_1 wl w x cnt) ((wl + (63 : Int32)) / (64 : Int32)) r25_fb0 (vT_3 (3 : Int32) 2 ((2 : Int32) * ((wl + (63 : Int32)) / (64 : Int32))).toNatClampNeg (vG_1 wl w x cnt) ((wl + (63 : Int32)) / (64 : Int32)) (vT_3 (2 : Int32) 2 ((2 : Int32) * ((wl + (63 : Int32)) / (64 : Int32))).toNatClampNeg (vG_1 wl w x cnt) ((wl + (63 : Int32)) / (64 : Int32)) (vT_3 (1 : Int32) 2 ((2 : Int32) * ((wl + (63 : Int32)) / (64 : Int32))).toNatClampNeg (vG_1 wl w x cnt) ((wl + (63 : Int32)) / (64 : Int32)) (vT_3 (0 : Int32) 2 ((2 : Int32) * ((wl + (63 : Int32)) / (64 : Int32))).toNatClampNeg (vG_1 wl w x cnt) ((wl + (63 : Int32)) / (64 : Int32)) (fun _ => (0 : Int64)))))) h29 n0 Z29 rfl (own_hin hwl _ hx _ hw4) F_used_b24_cC29 V_b17_cC29 F_words_b24_cC29 P29_0 ge25_fb0 ne_b24_r25_fb0 ne_b17_r25_fb0) (a := b24) iG_145 (hw _ (List.mem_of_getElem? (i := 27) rfl)) (hw _ (List.mem_of_getElem? (i := 28) rfl)) (fun s hZ => notFace_of_selects (args := #[]) (mvT hZ (hw _ (List.mem_of_getElem? (i := 30) rfl)))) (hw _ (List.mem_of_getElem? (i := 30) rfl)) (hw _ (List.mem_of_getElem? (i := 29) rfl)) (hw _ (List.mem_of_getElem? (i := 8) rfl)) (hw _ (List.mem_of_getElem? (i := 31) rfl)) (by decide) E_b24_cC29 (argsL := [(.ref b17), (.int (1 : Int32)), (.int w)]) (rest := []) rfl rfl pd3 rfl rfl 0 (Nat.le_of_eq rfl) (by decide) (by decide) (by decide) (by decide) rfl rfl ?_
          rintro _ h35 ⟨rfl, KC35, P35_0⟩
          refine Go.none' ?_
          have V_b17_cC35 := AV.keep V_b17_cC29 KC35 (ninS ne_b17_r25_fb0 nin0)
          have V_b20_cC35 := AV.keep V_b20_cC29 KC35 (ninS ne_b20_r25_fb0 nin0)
          have V_b22_cC35 := AV.keep V_b22_cC29 KC35 (ninS ne_b22_r25_fb0 nin0)
          have E_b24_cC35 := Exa.keep E_b24_cC29 KC35
          have F_words_b24_cC35 := Fld.keep F_words_b24_cC29 KC35 (ninS ne_b24_r25_fb0 nin0)
          have F_used_b24_cC35 := Fld.keep F_used_b24_cC29 KC35 (ninS ne_b24_r25_fb0 nin0)
          have F_lastWord_b24_cC35 := Fld.keep F_lastWord_b24_cC29 KC35 (ninS ne_b24_r25_fb0 nin0)
          have K35 := Keep.trans K29 KC35 (allS (Or.inr fr25_fb0) all0)
          have Z35 : n0 ≤ h35.size := Nat.le_trans Z29 KC35.1
          refine g_iloadN C iG_148 rfl ?_
          refine g_iconst C (4 : Int32) iG_149 rfl ?_
          refine Go.join (mkF m 158 #[.val (.int p0), .val (.int p1), .val (.int p2), .val (.int wl), .val (.int mm), .val (.int w), .val (.int x), .val (.int (1 : Int32)), .val (.ref b17), .val (.ref b20), .val (.ref b22), .val (.ref b24), .unset, .unset, .unset, .unset, .unset, .unset] [(.int (vG_3 wl w x cnt))]) ?_ (fun J => ?_)
          · refine g_istore C (Ls' := #[.val (.int p0), .val (.int p1), .val (.int p2), .val (.int wl), .val (.int mm), .val (.int w), .val (.int x), .val (.int (1 : Int32)), .val (.ref b17), .val (.ref b20), .val (.ref b22), .val (.ref b24), .val (.int (vG_3 wl w x cnt)), .unset, .unset, .unset, .unset, .unset]) iG_158 rfl ?_
            refine g_aload C iG_160 rfl rfl ?_
            refine g_aload C iG_162 rfl rfl ?_
            refine g_iconst C (1 : Int32) iG_164 rfl ?_
            refine g_callV C (rmF1 l Z aZ hw b24 b20 ((wl + (63 : Int32)) / (64 : Int32)) (vI_1 wl (0 : Int32) (0 : Int64)) r25_fb0 ((2 : Int32) * ((wl + (63 : Int32)) / (64 : Int32))).toNatClampNeg (vR1_1 w 2 ((2 : Int32) * ((wl + (63 : Int32)) / (64 : Int32))).toNatClampNeg (vG_1 wl w x cnt) ((wl + (63 : Int32)) / (64 : Int32)) (vT_3 (3 : Int32) 2 ((2 : Int32) * ((wl + (63 : Int32)) / (64 : Int32))).toNatClampNeg (vG_1 wl w x cnt) ((wl + (63 : Int32)) / (64 : Int32)) (vT_3 (2 : Int32) 2 ((2 : Int32) * ((wl + (63 : Int32)) / (64 : Int32))).toNatClampNeg (vG_1 wl w x cnt) ((wl + (63 : Int32)) / (64 : Int32)) (vT_3 (1 : Int32) 2 ((2 : Int32) * ((wl + (63 : Int32)) / (64 : Int32))).toNatClampNeg (vG_1 wl w x cnt) ((wl + (63 : Int32)) / (64 : Int32)) (vT_3 (0 : Int32) 2 ((2 : Int32) * ((wl + (63 : Int32)) / (64 : Int32))).toNatClampNeg (vG_1 wl w x cnt) ((wl + (63 : Int32)) / (64 : Int32)) (fun _ => (0 : Int64))))))) 1 (vG_0 wl w x cnt) h35 n0 Z35 F_words_b24_cC35 F_used_b24_cC35 F_lastWord_b24_cC35 P35_0 V_b20_cC35 (own_wo hwl) (by decide) (own_hF1 hwl _ hx)) (a := b24) iG_165 (hw _ (List.mem_of_getElem? (i := 33) rfl)) (hw _ (List.mem_of_getElem? (i := 34) rfl)) (fun s hZ => notFace_of_selects (args := #[]) (mvT hZ (hw _ (List.mem_of_getElem? (i := 36) rfl)))) (hw _ (List.mem_of_getElem? (i := 36) rfl)) (hw _ (List.mem_of_getElem? (i := 35) rfl)) (hw _ (List.mem_of_getElem? (i := 8) rfl)) (hw _ (List.mem_of_getElem? (i := 37) rfl)) (by decide) E_b24_cC35 (argsL := [(.ref b20), (.int (1 : Int32))]) (rest := []) rfl rfl pd4 rfl rfl 0 (Nat.le_of_eq rfl) (by decide) (by decide) (by decide) (by decide) rfl rfl ?_
            rintro _ _ ⟨rfl, he36⟩
            refine Go.heap he36.symm ?_
            refine Go.some' ?_
            refine g_istore C (Ls' := #[.val (.int p0), .val (.int p1), .val (.int p2), .val (.int wl), .val (.int mm), .val (.int w), .val (.int x), .val (.int (1 : Int32)), .val (.ref b17), .val (.ref b20), .val (.ref b22), .val (.ref b24), .val (.int (vG_3 wl w x cnt)), .val (.int (vG_10 wl w x cnt)), .unset, .unset, .unset, .unset]) iG_168 rfl ?_
            refine g_aload C iG_170 rfl rfl ?_
            refine g_aload C iG_172 rfl rfl ?_
            refine g_iconst C (1 : Int32) iG_174 rfl ?_
            refine g_callV C (rmF1 l Z aZ hw b24 b22 ((wl + (63 : Int32)) / (64 : Int32)) (vI_1 wl (0 : Int32) (0 : Int64)) r25_fb0 ((2 : Int32) * ((wl + (63 : Int32)) / (64 : Int32))).toNatClampNeg (vR1_1 w 2 ((2 : Int32) * ((wl + (63 : Int32)) / (64 : Int32))).toNatClampNeg (vG_1 wl w x cnt) ((wl + (63 : Int32)) / (64 : Int32)) (vT_3 (3 : Int32) 2 ((2 : Int32) * ((wl + (63 : Int32)) / (64 : Int32))).toNatClampNeg (vG_1 wl w x cnt) ((wl + (63 : Int32)) / (64 : Int32)) (vT_3 (2 : Int32) 2 ((2 : Int32) * ((wl + (63 : Int32)) / (64 : Int32))).toNatClampNeg (vG_1 wl w x cnt) ((wl + (63 : Int32)) / (64 : Int32)) (vT_3 (1 : Int32) 2 ((2 : Int32) * ((wl + (63 : Int32)) / (64 : Int32))).toNatClampNeg (vG_1 wl w x cnt) ((wl + (63 : Int32)) / (64 : Int32)) (vT_3 (0 : Int32) 2 ((2 : Int32) * ((wl + (63 : Int32)) / (64 : Int32))).toNatClampNeg (vG_1 wl w x cnt) ((wl + (63 : Int32)) / (64 : Int32)) (fun _ => (0 : Int64))))))) 1 (vG_2 wl w x cnt) h35 n0 Z35 F_words_b24_cC35 F_used_b24_cC35 F_lastWord_b24_cC35 P35_0 V_b22_cC35 (own_wo hwl) (by decide) (own_hF1 hwl _ (own_l1 hx))) (a := b24) iG_175 (hw _ (List.mem_of_getElem? (i := 33) rfl)) (hw _ (List.mem_of_getElem? (i := 34) rfl)) (fun s hZ => notFace_of_selects (args := #[]) (mvT hZ (hw _ (List.mem_of_getElem? (i := 36) rfl)))) (hw _ (List.mem_of_getElem? (i := 36) rfl)) (hw _ (List.mem_of_getElem? (i := 35) rfl)) (hw _ (List.mem_of_getElem? (i := 8) rfl)) (hw _ (List.mem_of_getElem? (i := 37) rfl)) (by decide) E_b24_cC35 (argsL := [(.ref b22), (.int (1 : Int32))]) (rest := []) rfl rfl pd4 rfl rfl 0 (Nat.le_of_eq rfl) (by decide) (by decide) (by decide) (by decide) rfl rfl ?_
            rintro _ _ ⟨rfl, he37⟩
            refine Go.heap he37.symm ?_
            refine Go.some' ?_
            refine g_istore C (Ls' := #[.val (.int p0), .val (.int p1), .val (.int p2), .val (.int wl), .val (.int mm), .val (.int w), .val (.int x), .val (.int (1 : Int32)), .val (.ref b17), .val (.ref b20), .val (.ref b22), .val (.ref b24), .val (.int (vG_3 wl w x cnt)), .val (.int (vG_10 wl w x cnt)), .val (.int (vG_11 wl w x cnt)), .unset, .unset, .unset]) iG_178 rfl ?_
            refine g_iload C iG_180 rfl ?_
            refine g_iconst C (1 : Int32) iG_182 rfl ?_
            refine g_icmp_lt C iG_183 (fun q => absurd q (by decide)) (fun _ => ?_)
            refine g_iload C iG_186 rfl ?_
            refine g_goto C iG_188 ?_
            refine g_istore C (Ls' := #[.val (.int p0), .val (.int p1), .val (.int p2), .val (.int wl), .val (.int mm), .val (.int w), .val (.int x), .val (.int (1 : Int32)), .val (.ref b17), .val (.ref b20), .val (.ref b22), .val (.ref b24), .val (.int (vG_3 wl w x cnt)), .val (.int (vG_10 wl w x cnt)), .val (.int (vG_11 wl w x cnt)), .val (.int w), .unset, .unset]) iG_193 rfl ?_
            refine g_iload C iG_195 rfl ?_
            refine g_iconst C (2 : Int32) iG_197 rfl ?_
            refine g_icmp_lt C iG_198 (fun _ => ?_) (fun q => absurd (by decide) q)
            refine g_iload C iG_206 rfl ?_
            refine g_istore C (Ls' := #[.val (.int p0), .val (.int p1), .val (.int p2), .val (.int wl), .val (.int mm), .val (.int w), .val (.int x), .val (.int (1 : Int32)), .val (.ref b17), .val (.ref b20), .val (.ref b22), .val (.ref b24), .val (.int (vG_3 wl w x cnt)), .val (.int (vG_10 wl w x cnt)), .val (.int (vG_11 wl w x cnt)), .val (.int w), .val (.int (vG_3 wl w x cnt)), .unset]) iG_208 rfl ?_
            refine g_aload C iG_210 rfl rfl ?_
            refine g_aload C iG_212 rfl rfl ?_
            refine g_iconst C (2 : Int32) iG_214 rfl ?_
            refine g_iload C iG_215 rfl ?_
            refine g_callV C (rmT l Z aZ hw b24 b17 w 2 ((2 : Int32) * ((wl + (63 : Int32)) / (64 : Int32))).toNatClampNeg (vG_1 wl w x cnt) ((wl + (63 : Int32)) / (64 : Int32)) r25_fb0 (vR1_1 w 2 ((2 : Int32) * ((wl + (63 : Int32)) / (64 : Int32))).toNatClampNeg (vG_1 wl w x cnt) ((wl + (63 : Int32)) / (64 : Int32)) (vT_3 (3 : Int32) 2 ((2 : Int32) * ((wl + (63 : Int32)) / (64 : Int32))).toNatClampNeg (vG_1 wl w x cnt) ((wl + (63 : Int32)) / (64 : Int32)) (vT_3 (2 : Int32) 2 ((2 : Int32) * ((wl + (63 : Int32)) / (64 : Int32))).toNatClampNeg (vG_1 wl w x cnt) ((wl + (63 : Int32)) / (64 : Int32)) (vT_3 (1 : Int32) 2 ((2 : Int32) * ((wl + (63 : Int32)) / (64 : Int32))).toNatClampNeg (vG_1 wl w x cnt) ((wl + (63 : Int32)) / (64 : Int32)) (vT_3 (0 : Int32) 2 ((2 : Int32) * ((wl + (63 : Int32)) / (64 : Int32))).toNatClampNeg (vG_1 wl w x cnt) ((wl + (63 : Int32)) / (64 : Int32)) (fun _ => (0 : Int64))))))) h35 n0 Z35 rfl (own_hin hwl _ hx _ hw4) (own_hin hwl _ (own_l1 hx) _ hw4) F_used_b24_cC35 V_b17_cC35 F_words_b24_cC35 P35_0 ge25_fb0 ne_b24_r25_fb0 ne_b17_r25_fb0) (a := b24) iG_217 (hw _ (List.mem_of_getElem? (i := 22) rfl)) (hw _ (List.mem_of_getElem? (i := 23) rfl)) (fun s hZ => notFace_of_selects (args := #[]) (mvT hZ (hw _ (List.mem_of_getElem? (i := 25) rfl)))) (hw _ (List.mem_of_getElem? (i := 25) rfl)) (hw _ (List.mem_of_getElem? (i := 24) rfl)) (hw _ (List.mem_of_getElem? (i := 8) rfl)) (hw _ (List.mem_of_getElem? (i := 26) rfl)) (by decide) E_b24_cC35 (argsL := [(.ref b17), (.int (2 : Int32)), (.int w)]) (rest := []) rfl rfl pd3 rfl rfl 0 (Nat.le_of_eq rfl) (by decide) (by decide) (by decide) (by decide) rfl rfl ?_
            rintro _ h38 ⟨rfl, KC38, P38_0⟩
            refine Go.none' ?_
            have V_b17_cC38 := AV.keep V_b17_cC35 KC38 (ninS ne_b17_r25_fb0 nin0)
            have V_b20_cC38 := AV.keep V_b20_cC35 KC38 (ninS ne_b20_r25_fb0 nin0)
            have V_b22_cC38 := AV.keep V_b22_cC35 KC38 (ninS ne_b22_r25_fb0 nin0)
            have E_b24_cC38 := Exa.keep E_b24_cC35 KC38
            have F_words_b24_cC38 := Fld.keep F_words_b24_cC35 KC38 (ninS ne_b24_r25_fb0 nin0)
            have F_used_b24_cC38 := Fld.keep F_used_b24_cC35 KC38 (ninS ne_b24_r25_fb0 nin0)
            have F_lastWord_b24_cC38 := Fld.keep F_lastWord_b24_cC35 KC38 (ninS ne_b24_r25_fb0 nin0)
            have K38 := Keep.trans K35 KC38 (allS (Or.inr fr25_fb0) all0)
            have Z38 : n0 ≤ h38.size := Nat.le_trans Z35 KC38.1
            refine g_aload C iG_220 rfl rfl ?_
            refine g_aload C iG_222 rfl rfl ?_
            refine g_iconst C (2 : Int32) iG_224 rfl ?_
            refine g_callV C (rmF2 l Z aZ hw b24 b17 ((wl + (63 : Int32)) / (64 : Int32)) (vI_1 wl (0 : Int32) (0 : Int64)) r25_fb0 ((2 : Int32) * ((wl + (63 : Int32)) / (64 : Int32))).toNatClampNeg (vT_3 w 2 ((2 : Int32) * ((wl + (63 : Int32)) / (64 : Int32))).toNatClampNeg (vG_1 wl w x cnt) ((wl + (63 : Int32)) / (64 : Int32)) (vR1_1 w 2 ((2 : Int32) * ((wl + (63 : Int32)) / (64 : Int32))).toNatClampNeg (vG_1 wl w x cnt) ((wl + (63 : Int32)) / (64 : Int32)) (vT_3 (3 : Int32) 2 ((2 : Int32) * ((wl + (63 : Int32)) / (64 : Int32))).toNatClampNeg (vG_1 wl w x cnt) ((wl + (63 : Int32)) / (64 : Int32)) (vT_3 (2 : Int32) 2 ((2 : Int32) * ((wl + (63 : Int32)) / (64 : Int32))).toNatClampNeg (vG_1 wl w x cnt) ((wl + (63 : Int32)) / (64 : Int32)) (vT_3 (1 : Int32) 2 ((2 : Int32) * ((wl + (63 : Int32)) / (64 : Int32))).toNatClampNeg (vG_1 wl w x cnt) ((wl + (63 : Int32)) / (64 : Int32)) (vT_3 (0 : Int32) 2 ((2 : Int32) * ((wl + (63 : Int32)) / (64 : Int32))).toNatClampNeg (vG_1 wl w x cnt) ((wl + (63 : Int32)) / (64 : Int32)) (fun _ => (0 : Int64)))))))) 2 (vG_1 wl w x cnt) h38 n0 Z38 F_words_b24_cC38 F_used_b24_cC38 F_lastWord_b24_cC38 P38_0 V_b17_cC38 (own_wo hwl) (by decide) (own_hF2 hwl _ hx (own_l1 hx))) (a := b24) iG_225 (hw _ (List.mem_of_getElem? (i := 33) rfl)) (hw _ (List.mem_of_getElem? (i := 34) rfl)) (fun s hZ => notFace_of_selects (args := #[]) (mvT hZ (hw _ (List.mem_of_getElem? (i := 36) rfl)))) (hw _ (List.mem_of_getElem? (i := 36) rfl)) (hw _ (List.mem_of_getElem? (i := 35) rfl)) (hw _ (List.mem_of_getElem? (i := 8) rfl)) (hw _ (List.mem_of_getElem? (i := 37) rfl)) (by decide) E_b24_cC38 (argsL := [(.ref b17), (.int (2 : Int32))]) (rest := []) rfl rfl pd4 rfl rfl 0 (Nat.le_of_eq rfl) (by decide) (by decide) (by decide) (by decide) rfl rfl ?_
            rintro _ _ ⟨rfl, he39⟩
            refine Go.heap he39.symm ?_
            refine Go.some' ?_
            refine g_istore C (Ls' := #[.val (.int p0), .val (.int p1), .val (.int p2), .val (.int wl), .val (.int mm), .val (.int w), .val (.int x), .val (.int (1 : Int32)), .val (.ref b17), .val (.ref b20), .val (.ref b22), .val (.ref b24), .val (.int (vG_3 wl w x cnt)), .val (.int (vG_10 wl w x cnt)), .val (.int (vG_11 wl w x cnt)), .val (.int w), .val (.int (vG_3 wl w x cnt)), .val (.int (vG_12 wl w x cnt))]) iG_228 rfl ?_
            refine g_iload C iG_230 rfl ?_
            refine g_iload C iG_232 rfl ?_
            refine Go.join (mkF m 256 #[.val (.int p0), .val (.int p1), .val (.int p2), .val (.int wl), .val (.int mm), .val (.int w), .val (.int x), .val (.int (1 : Int32)), .val (.ref b17), .val (.ref b20), .val (.ref b22), .val (.ref b24), .val (.int (vG_3 wl w x cnt)), .val (.int (vG_10 wl w x cnt)), .val (.int (vG_11 wl w x cnt)), .val (.int w), .val (.int (vG_3 wl w x cnt)), .val (.int (vG_12 wl w x cnt))] [(.int (vG_15 wl w x cnt))]) ?_ (fun J => ?_)
            · exact g_retNar C (t := .boolean) iG_256 rfl (by simp) (by decide) (by decide) (show _ = _ from congrArg (fun z => some (Value.int z)) (leafG_1 wl w x cnt hwl hw4 hwm hx hc97_1 hc111_1 hc125_1 hq1))
            · refine g_icmp_ne C iG_234 (fun hc234_1 => ?_) (fun hc234_1 => ?_)
              · refine g_iload C iG_237 rfl ?_
                refine g_iload C iG_239 rfl ?_
                refine g_icmp_ne C iG_241 (fun hc241_1 => ?_) (fun hc241_1 => ?_)
                · refine g_iload C iG_244 rfl ?_
                  refine g_iload C iG_246 rfl ?_
                  refine g_icmp_ne C iG_248 (fun hc248_1 => ?_) (fun hc248_1 => ?_)
                  · refine g_iconst C (1 : Int32) iG_251 rfl ?_
                    refine g_goto C iG_252 ?_
                    have e0 : (vG_15 wl w x cnt) = (1 : Int32) := by simp only [vG_15, if_pos hc234_1, if_pos hc241_1, if_pos hc248_1]
                    exact Go.cast J (by rw [e0])
                  · refine g_iconst C (0 : Int32) iG_255 rfl ?_
                    have e0 : (vG_15 wl w x cnt) = (0 : Int32) := by simp only [vG_15, if_pos hc234_1, if_pos hc241_1, if_neg hc248_1]
                    exact Go.cast J (by rw [e0])
                · refine g_iconst C (0 : Int32) iG_255 rfl ?_
                  have e0 : (vG_15 wl w x cnt) = (0 : Int32) := by simp only [vG_15, if_pos hc234_1, if_neg hc241_1]
                  exact Go.cast J (by rw [e0])
              · refine g_iconst C (0 : Int32) iG_255 rfl ?_
                have e0 : (vG_15 wl w x cnt) = (0 : Int32) := by simp only [vG_15, if_neg hc234_1]
                exact Go.cast J (by rw [e0])
          · refine g_icmp_gt C iG_150 (fun hc150_1 => ?_) (fun hc150_1 => ?_)
            · refine g_iconst C (4 : Int32) iG_157 rfl ?_
              have e0 : (vG_3 wl w x cnt) = (4 : Int32) := by simp only [vG_3, if_pos hc150_1]
              exact Go.cast J (by rw [e0])
            · refine g_iconst C (-1 : Int32) iG_153 rfl ?_
              refine g_goto C iG_154 ?_
              have e0 : (vG_3 wl w x cnt) = (-1 : Int32) := by simp only [vG_3, if_neg hc150_1]
              exact Go.cast J (by rw [e0])
        · refine Go.cast (g' := mkF m 137 #[.val (.int p0), .val (.int p1), .val (.int p2), .val (.int wl), .val (.int mm), .val (.int w), .val (.int x), .val (.int (2 : Int32)), .val (.ref b17), .val (.ref b20), .val (.ref b22), .val (.ref b24), .unset, .unset, .unset, .unset, .unset, .unset] []) ?_ (by rw [hq2])
          refine g_aload C iG_137 rfl rfl ?_
          refine g_aload C iG_139 rfl rfl ?_
          refine g_iload C iG_141 rfl ?_
          refine g_iload C iG_143 rfl ?_
          refine g_callV C (rmR2 l Z aZ hw b24 b17 w 2 ((2 : Int32) * ((wl + (63 : Int32)) / (64 : Int32))).toNatClampNeg (vG_1 wl w x cnt) ((wl + (63 : Int32)) / (64 : Int32)) r25_fb0 (vT_3 (3 : Int32) 2 ((2 : Int32) * ((wl + (63 : Int32)) / (64 : Int32))).toNatClampNeg (vG_1 wl w x cnt) ((wl + (63 : Int32)) / (64 : Int32)) (vT_3 (2 : Int32) 2 ((2 : Int32) * ((wl + (63 : Int32)) / (64 : Int32))).toNatClampNeg (vG_1 wl w x cnt) ((wl + (63 : Int32)) / (64 : Int32)) (vT_3 (1 : Int32) 2 ((2 : Int32) * ((wl + (63 : Int32)) / (64 : Int32))).toNatClampNeg (vG_1 wl w x cnt) ((wl + (63 : Int32)) / (64 : Int32)) (vT_3 (0 : Int32) 2 ((2 : Int32) * ((wl + (63 : Int32)) / (64 : Int32))).toNatClampNeg (vG_1 wl w x cnt) ((wl + (63 : Int32)) / (64 : Int32)) (fun _ => (0 : Int64)))))) h29 n0 Z29 rfl (own_hin hwl _ hx _ hw4) (own_hin hwl _ (own_l1 hx) _ hw4) F_used_b24_cC29 V_b17_cC29 F_words_b24_cC29 P29_0 ge25_fb0 ne_b24_r25_fb0 ne_b17_r25_fb0) (a := b24) iG_145 (hw _ (List.mem_of_getElem? (i := 27) rfl)) (hw _ (List.mem_of_getElem? (i := 28) rfl)) (fun s hZ => notFace_of_selects (args := #[]) (mvT hZ (hw _ (List.mem_of_getElem? (i := 30) rfl)))) (hw _ (List.mem_of_getElem? (i := 30) rfl)) (hw _ (List.mem_of_getElem? (i := 29) rfl)) (hw _ (List.mem_of_getElem? (i := 8) rfl)) (hw _ (List.mem_of_getElem? (i := 31) rfl)) (by decide) E_b24_cC29 (argsL := [(.ref b17), (.int (2 : Int32)), (.int w)]) (rest := []) rfl rfl pd3 rfl rfl 0 (Nat.le_of_eq rfl) (by decide) (by decide) (by decide) (by decide) rfl rfl ?_
          rintro _ h40 ⟨rfl, KC40, P40_0⟩
          refine Go.none' ?_
          have V_b17_cC40 := AV.keep V_b17_cC29 KC40 (ninS ne_b17_r25_fb0 nin0)
          have V_b20_cC40 := AV.keep V_b20_cC29 KC40 (ninS ne_b20_r25_fb0 nin0)
          have V_b22_cC40 := AV.keep V_b22_cC29 KC40 (ninS ne_b22_r25_fb0 nin0)
          have E_b24_cC40 := Exa.keep E_b24_cC29 KC40
          have F_words_b24_cC40 := Fld.keep F_words_b24_cC29 KC40 (ninS ne_b24_r25_fb0 nin0)
          have F_used_b24_cC40 := Fld.keep F_used_b24_cC29 KC40 (ninS ne_b24_r25_fb0 nin0)
          have F_lastWord_b24_cC40 := Fld.keep F_lastWord_b24_cC29 KC40 (ninS ne_b24_r25_fb0 nin0)
          have K40 := Keep.trans K29 KC40 (allS (Or.inr fr25_fb0) all0)
          have Z40 : n0 ≤ h40.size := Nat.le_trans Z29 KC40.1
          refine g_iloadN C iG_148 rfl ?_
          refine g_iconst C (4 : Int32) iG_149 rfl ?_
          refine Go.join (mkF m 158 #[.val (.int p0), .val (.int p1), .val (.int p2), .val (.int wl), .val (.int mm), .val (.int w), .val (.int x), .val (.int (2 : Int32)), .val (.ref b17), .val (.ref b20), .val (.ref b22), .val (.ref b24), .unset, .unset, .unset, .unset, .unset, .unset] [(.int (vG_3 wl w x cnt))]) ?_ (fun J => ?_)
          · refine g_istore C (Ls' := #[.val (.int p0), .val (.int p1), .val (.int p2), .val (.int wl), .val (.int mm), .val (.int w), .val (.int x), .val (.int (2 : Int32)), .val (.ref b17), .val (.ref b20), .val (.ref b22), .val (.ref b24), .val (.int (vG_3 wl w x cnt)), .unset, .unset, .unset, .unset, .unset]) iG_158 rfl ?_
            refine g_aload C iG_160 rfl rfl ?_
            refine g_aload C iG_162 rfl rfl ?_
            refine g_iconst C (1 : Int32) iG_164 rfl ?_
            refine g_callV C (rmF1 l Z aZ hw b24 b20 ((wl + (63 : Int32)) / (64 : Int32)) (vI_1 wl (0 : Int32) (0 : Int64)) r25_fb0 ((2 : Int32) * ((wl + (63 : Int32)) / (64 : Int32))).toNatClampNeg (vR2_3 w 2 ((2 : Int32) * ((wl + (63 : Int32)) / (64 : Int32))).toNatClampNeg (vG_1 wl w x cnt) ((wl + (63 : Int32)) / (64 : Int32)) (vT_3 (3 : Int32) 2 ((2 : Int32) * ((wl + (63 : Int32)) / (64 : Int32))).toNatClampNeg (vG_1 wl w x cnt) ((wl + (63 : Int32)) / (64 : Int32)) (vT_3 (2 : Int32) 2 ((2 : Int32) * ((wl + (63 : Int32)) / (64 : Int32))).toNatClampNeg (vG_1 wl w x cnt) ((wl + (63 : Int32)) / (64 : Int32)) (vT_3 (1 : Int32) 2 ((2 : Int32) * ((wl + (63 : Int32)) / (64 : Int32))).toNatClampNeg (vG_1 wl w x cnt) ((wl + (63 : Int32)) / (64 : Int32)) (vT_3 (0 : Int32) 2 ((2 : Int32) * ((wl + (63 : Int32)) / (64 : Int32))).toNatClampNeg (vG_1 wl w x cnt) ((wl + (63 : Int32)) / (64 : Int32)) (fun _ => (0 : Int64))))))) 1 (vG_0 wl w x cnt) h40 n0 Z40 F_words_b24_cC40 F_used_b24_cC40 F_lastWord_b24_cC40 P40_0 V_b20_cC40 (own_wo hwl) (by decide) (own_hF1 hwl _ hx)) (a := b24) iG_165 (hw _ (List.mem_of_getElem? (i := 33) rfl)) (hw _ (List.mem_of_getElem? (i := 34) rfl)) (fun s hZ => notFace_of_selects (args := #[]) (mvT hZ (hw _ (List.mem_of_getElem? (i := 36) rfl)))) (hw _ (List.mem_of_getElem? (i := 36) rfl)) (hw _ (List.mem_of_getElem? (i := 35) rfl)) (hw _ (List.mem_of_getElem? (i := 8) rfl)) (hw _ (List.mem_of_getElem? (i := 37) rfl)) (by decide) E_b24_cC40 (argsL := [(.ref b20), (.int (1 : Int32))]) (rest := []) rfl rfl pd4 rfl rfl 0 (Nat.le_of_eq rfl) (by decide) (by decide) (by decide) (by decide) rfl rfl ?_
            rintro _ _ ⟨rfl, he41⟩
            refine Go.heap he41.symm ?_
            refine Go.some' ?_
            refine g_istore C (Ls' := #[.val (.int p0), .val (.int p1), .val (.int p2), .val (.int wl), .val (.int mm), .val (.int w), .val (.int x), .val (.int (2 : Int32)), .val (.ref b17), .val (.ref b20), .val (.ref b22), .val (.ref b24), .val (.int (vG_3 wl w x cnt)), .val (.int (vG_16 wl w x cnt)), .unset, .unset, .unset, .unset]) iG_168 rfl ?_
            refine g_aload C iG_170 rfl rfl ?_
            refine g_aload C iG_172 rfl rfl ?_
            refine g_iconst C (1 : Int32) iG_174 rfl ?_
            refine g_callV C (rmF1 l Z aZ hw b24 b22 ((wl + (63 : Int32)) / (64 : Int32)) (vI_1 wl (0 : Int32) (0 : Int64)) r25_fb0 ((2 : Int32) * ((wl + (63 : Int32)) / (64 : Int32))).toNatClampNeg (vR2_3 w 2 ((2 : Int32) * ((wl + (63 : Int32)) / (64 : Int32))).toNatClampNeg (vG_1 wl w x cnt) ((wl + (63 : Int32)) / (64 : Int32)) (vT_3 (3 : Int32) 2 ((2 : Int32) * ((wl + (63 : Int32)) / (64 : Int32))).toNatClampNeg (vG_1 wl w x cnt) ((wl + (63 : Int32)) / (64 : Int32)) (vT_3 (2 : Int32) 2 ((2 : Int32) * ((wl + (63 : Int32)) / (64 : Int32))).toNatClampNeg (vG_1 wl w x cnt) ((wl + (63 : Int32)) / (64 : Int32)) (vT_3 (1 : Int32) 2 ((2 : Int32) * ((wl + (63 : Int32)) / (64 : Int32))).toNatClampNeg (vG_1 wl w x cnt) ((wl + (63 : Int32)) / (64 : Int32)) (vT_3 (0 : Int32) 2 ((2 : Int32) * ((wl + (63 : Int32)) / (64 : Int32))).toNatClampNeg (vG_1 wl w x cnt) ((wl + (63 : Int32)) / (64 : Int32)) (fun _ => (0 : Int64))))))) 1 (vG_2 wl w x cnt) h40 n0 Z40 F_words_b24_cC40 F_used_b24_cC40 F_lastWord_b24_cC40 P40_0 V_b22_cC40 (own_wo hwl) (by decide) (own_hF1 hwl _ (own_l1 hx))) (a := b24) iG_175 (hw _ (List.mem_of_getElem? (i := 33) rfl)) (hw _ (List.mem_of_getElem? (i := 34) rfl)) (fun s hZ => notFace_of_selects (args := #[]) (mvT hZ (hw _ (List.mem_of_getElem? (i := 36) rfl)))) (hw _ (List.mem_of_getElem? (i := 36) rfl)) (hw _ (List.mem_of_getElem? (i := 35) rfl)) (hw _ (List.mem_of_getElem? (i := 8) rfl)) (hw _ (List.mem_of_getElem? (i := 37) rfl)) (by decide) E_b24_cC40 (argsL := [(.ref b22), (.int (1 : Int32))]) (rest := []) rfl rfl pd4 rfl rfl 0 (Nat.le_of_eq rfl) (by decide) (by decide) (by decide) (by decide) rfl rfl ?_
            rintro _ _ ⟨rfl, he42⟩
            refine Go.heap he42.symm ?_
            refine Go.some' ?_
            refine g_istore C (Ls' := #[.val (.int p0), .val (.int p1), .val (.int p2), .val (.int wl), .val (.int mm), .val (.int w), .val (.int x), .val (.int (2 : Int32)), .val (.ref b17), .val (.ref b20), .val (.ref b22), .val (.ref b24), .val (.int (vG_3 wl w x cnt)), .val (.int (vG_16 wl w x cnt)), .val (.int (vG_17 wl w x cnt)), .unset, .unset, .unset]) iG_178 rfl ?_
            refine g_iload C iG_180 rfl ?_
            refine g_iconst C (1 : Int32) iG_182 rfl ?_
            refine g_icmp_lt C iG_183 (fun q => absurd q (by decide)) (fun _ => ?_)
            refine g_iload C iG_186 rfl ?_
            refine g_goto C iG_188 ?_
            refine g_istore C (Ls' := #[.val (.int p0), .val (.int p1), .val (.int p2), .val (.int wl), .val (.int mm), .val (.int w), .val (.int x), .val (.int (2 : Int32)), .val (.ref b17), .val (.ref b20), .val (.ref b22), .val (.ref b24), .val (.int (vG_3 wl w x cnt)), .val (.int (vG_16 wl w x cnt)), .val (.int (vG_17 wl w x cnt)), .val (.int w), .unset, .unset]) iG_193 rfl ?_
            refine g_iload C iG_195 rfl ?_
            refine g_iconst C (2 : Int32) iG_197 rfl ?_
            refine g_icmp_lt C iG_198 (fun q => absurd q (by decide)) (fun _ => ?_)
            refine g_iload C iG_201 rfl ?_
            refine g_goto C iG_203 ?_
            refine g_istore C (Ls' := #[.val (.int p0), .val (.int p1), .val (.int p2), .val (.int wl), .val (.int mm), .val (.int w), .val (.int x), .val (.int (2 : Int32)), .val (.ref b17), .val (.ref b20), .val (.ref b22), .val (.ref b24), .val (.int (vG_3 wl w x cnt)), .val (.int (vG_16 wl w x cnt)), .val (.int (vG_17 wl w x cnt)), .val (.int w), .val (.int w), .unset]) iG_208 rfl ?_
            refine g_aload C iG_210 rfl rfl ?_
            refine g_aload C iG_212 rfl rfl ?_
            refine g_iconst C (2 : Int32) iG_214 rfl ?_
            refine g_iload C iG_215 rfl ?_
            refine g_callV C (rmT l Z aZ hw b24 b17 w 2 ((2 : Int32) * ((wl + (63 : Int32)) / (64 : Int32))).toNatClampNeg (vG_1 wl w x cnt) ((wl + (63 : Int32)) / (64 : Int32)) r25_fb0 (vR2_3 w 2 ((2 : Int32) * ((wl + (63 : Int32)) / (64 : Int32))).toNatClampNeg (vG_1 wl w x cnt) ((wl + (63 : Int32)) / (64 : Int32)) (vT_3 (3 : Int32) 2 ((2 : Int32) * ((wl + (63 : Int32)) / (64 : Int32))).toNatClampNeg (vG_1 wl w x cnt) ((wl + (63 : Int32)) / (64 : Int32)) (vT_3 (2 : Int32) 2 ((2 : Int32) * ((wl + (63 : Int32)) / (64 : Int32))).toNatClampNeg (vG_1 wl w x cnt) ((wl + (63 : Int32)) / (64 : Int32)) (vT_3 (1 : Int32) 2 ((2 : Int32) * ((wl + (63 : Int32)) / (64 : Int32))).toNatClampNeg (vG_1 wl w x cnt) ((wl + (63 : Int32)) / (64 : Int32)) (vT_3 (0 : Int32) 2 ((2 : Int32) * ((wl + (63 : Int32)) / (64 : Int32))).toNatClampNeg (vG_1 wl w x cnt) ((wl + (63 : Int32)) / (64 : Int32)) (fun _ => (0 : Int64))))))) h40 n0 Z40 rfl (own_hin hwl _ hx _ hw4) (own_hin hwl _ (own_l1 hx) _ hw4) F_used_b24_cC40 V_b17_cC40 F_words_b24_cC40 P40_0 ge25_fb0 ne_b24_r25_fb0 ne_b17_r25_fb0) (a := b24) iG_217 (hw _ (List.mem_of_getElem? (i := 22) rfl)) (hw _ (List.mem_of_getElem? (i := 23) rfl)) (fun s hZ => notFace_of_selects (args := #[]) (mvT hZ (hw _ (List.mem_of_getElem? (i := 25) rfl)))) (hw _ (List.mem_of_getElem? (i := 25) rfl)) (hw _ (List.mem_of_getElem? (i := 24) rfl)) (hw _ (List.mem_of_getElem? (i := 8) rfl)) (hw _ (List.mem_of_getElem? (i := 26) rfl)) (by decide) E_b24_cC40 (argsL := [(.ref b17), (.int (2 : Int32)), (.int w)]) (rest := []) rfl rfl pd3 rfl rfl 0 (Nat.le_of_eq rfl) (by decide) (by decide) (by decide) (by decide) rfl rfl ?_
            rintro _ h43 ⟨rfl, KC43, P43_0⟩
            refine Go.none' ?_
            have V_b17_cC43 := AV.keep V_b17_cC40 KC43 (ninS ne_b17_r25_fb0 nin0)
            have V_b20_cC43 := AV.keep V_b20_cC40 KC43 (ninS ne_b20_r25_fb0 nin0)
            have V_b22_cC43 := AV.keep V_b22_cC40 KC43 (ninS ne_b22_r25_fb0 nin0)
            have E_b24_cC43 := Exa.keep E_b24_cC40 KC43
            have F_words_b24_cC43 := Fld.keep F_words_b24_cC40 KC43 (ninS ne_b24_r25_fb0 nin0)
            have F_used_b24_cC43 := Fld.keep F_used_b24_cC40 KC43 (ninS ne_b24_r25_fb0 nin0)
            have F_lastWord_b24_cC43 := Fld.keep F_lastWord_b24_cC40 KC43 (ninS ne_b24_r25_fb0 nin0)
            have K43 := Keep.trans K40 KC43 (allS (Or.inr fr25_fb0) all0)
            have Z43 : n0 ≤ h43.size := Nat.le_trans Z40 KC43.1
            refine g_aload C iG_220 rfl rfl ?_
            refine g_aload C iG_222 rfl rfl ?_
            refine g_iconst C (2 : Int32) iG_224 rfl ?_
            refine g_callV C (rmF2 l Z aZ hw b24 b17 ((wl + (63 : Int32)) / (64 : Int32)) (vI_1 wl (0 : Int32) (0 : Int64)) r25_fb0 ((2 : Int32) * ((wl + (63 : Int32)) / (64 : Int32))).toNatClampNeg (vT_3 w 2 ((2 : Int32) * ((wl + (63 : Int32)) / (64 : Int32))).toNatClampNeg (vG_1 wl w x cnt) ((wl + (63 : Int32)) / (64 : Int32)) (vR2_3 w 2 ((2 : Int32) * ((wl + (63 : Int32)) / (64 : Int32))).toNatClampNeg (vG_1 wl w x cnt) ((wl + (63 : Int32)) / (64 : Int32)) (vT_3 (3 : Int32) 2 ((2 : Int32) * ((wl + (63 : Int32)) / (64 : Int32))).toNatClampNeg (vG_1 wl w x cnt) ((wl + (63 : Int32)) / (64 : Int32)) (vT_3 (2 : Int32) 2 ((2 : Int32) * ((wl + (63 : Int32)) / (64 : Int32))).toNatClampNeg (vG_1 wl w x cnt) ((wl + (63 : Int32)) / (64 : Int32)) (vT_3 (1 : Int32) 2 ((2 : Int32) * ((wl + (63 : Int32)) / (64 : Int32))).toNatClampNeg (vG_1 wl w x cnt) ((wl + (63 : Int32)) / (64 : Int32)) (vT_3 (0 : Int32) 2 ((2 : Int32) * ((wl + (63 : Int32)) / (64 : Int32))).toNatClampNeg (vG_1 wl w x cnt) ((wl + (63 : Int32)) / (64 : Int32)) (fun _ => (0 : Int64)))))))) 2 (vG_1 wl w x cnt) h43 n0 Z43 F_words_b24_cC43 F_used_b24_cC43 F_lastWord_b24_cC43 P43_0 V_b17_cC43 (own_wo hwl) (by decide) (own_hF2 hwl _ hx (own_l1 hx))) (a := b24) iG_225 (hw _ (List.mem_of_getElem? (i := 33) rfl)) (hw _ (List.mem_of_getElem? (i := 34) rfl)) (fun s hZ => notFace_of_selects (args := #[]) (mvT hZ (hw _ (List.mem_of_getElem? (i := 36) rfl)))) (hw _ (List.mem_of_getElem? (i := 36) rfl)) (hw _ (List.mem_of_getElem? (i := 35) rfl)) (hw _ (List.mem_of_getElem? (i := 8) rfl)) (hw _ (List.mem_of_getElem? (i := 37) rfl)) (by decide) E_b24_cC43 (argsL := [(.ref b17), (.int (2 : Int32))]) (rest := []) rfl rfl pd4 rfl rfl 0 (Nat.le_of_eq rfl) (by decide) (by decide) (by decide) (by decide) rfl rfl ?_
            rintro _ _ ⟨rfl, he44⟩
            refine Go.heap he44.symm ?_
            refine Go.some' ?_
            refine g_istore C (Ls' := #[.val (.int p0), .val (.int p1), .val (.int p2), .val (.int wl), .val (.int mm), .val (.int w), .val (.int x), .val (.int (2 : Int32)), .val (.ref b17), .val (.ref b20), .val (.ref b22), .val (.ref b24), .val (.int (vG_3 wl w x cnt)), .val (.int (vG_16 wl w x cnt)), .val (.int (vG_17 wl w x cnt)), .val (.int w), .val (.int w), .val (.int (vG_18 wl w x cnt))]) iG_228 rfl ?_
            refine g_iload C iG_230 rfl ?_
            refine g_iload C iG_232 rfl ?_
            refine Go.join (mkF m 256 #[.val (.int p0), .val (.int p1), .val (.int p2), .val (.int wl), .val (.int mm), .val (.int w), .val (.int x), .val (.int (2 : Int32)), .val (.ref b17), .val (.ref b20), .val (.ref b22), .val (.ref b24), .val (.int (vG_3 wl w x cnt)), .val (.int (vG_16 wl w x cnt)), .val (.int (vG_17 wl w x cnt)), .val (.int w), .val (.int w), .val (.int (vG_18 wl w x cnt))] [(.int (vG_21 wl w x cnt))]) ?_ (fun J => ?_)
            · exact g_retNar C (t := .boolean) iG_256 rfl (by simp) (by decide) (by decide) (show _ = _ from congrArg (fun z => some (Value.int z)) (leafG_2 wl w x cnt hwl hw4 hwm hx hc97_1 hc111_1 hc125_1 hq2))
            · refine g_icmp_ne C iG_234 (fun hc234_1 => ?_) (fun hc234_1 => ?_)
              · refine g_iload C iG_237 rfl ?_
                refine g_iload C iG_239 rfl ?_
                refine g_icmp_ne C iG_241 (fun hc241_1 => ?_) (fun hc241_1 => ?_)
                · refine g_iload C iG_244 rfl ?_
                  refine g_iload C iG_246 rfl ?_
                  refine g_icmp_ne C iG_248 (fun hc248_1 => ?_) (fun hc248_1 => ?_)
                  · refine g_iconst C (1 : Int32) iG_251 rfl ?_
                    refine g_goto C iG_252 ?_
                    have e0 : (vG_21 wl w x cnt) = (1 : Int32) := by simp only [vG_21, if_pos hc234_1, if_pos hc241_1, if_pos hc248_1]
                    exact Go.cast J (by rw [e0])
                  · refine g_iconst C (0 : Int32) iG_255 rfl ?_
                    have e0 : (vG_21 wl w x cnt) = (0 : Int32) := by simp only [vG_21, if_pos hc234_1, if_pos hc241_1, if_neg hc248_1]
                    exact Go.cast J (by rw [e0])
                · refine g_iconst C (0 : Int32) iG_255 rfl ?_
                  have e0 : (vG_21 wl w x cnt) = (0 : Int32) := by simp only [vG_21, if_pos hc234_1, if_neg hc241_1]
                  exact Go.cast J (by rw [e0])
              · refine g_iconst C (0 : Int32) iG_255 rfl ?_
                have e0 : (vG_21 wl w x cnt) = (0 : Int32) := by simp only [vG_21, if_neg hc234_1]
                exact Go.cast J (by rw [e0])
          · refine g_icmp_gt C iG_150 (fun hc150_1 => ?_) (fun hc150_1 => ?_)
            · refine g_iconst C (4 : Int32) iG_157 rfl ?_
              have e0 : (vG_3 wl w x cnt) = (4 : Int32) := by simp only [vG_3, if_pos hc150_1]
              exact Go.cast J (by rw [e0])
            · refine g_iconst C (-1 : Int32) iG_153 rfl ?_
              refine g_goto C iG_154 ?_
              have e0 : (vG_3 wl w x cnt) = (-1 : Int32) := by simp only [vG_3, if_neg hc150_1]
              exact Go.cast J (by rw [e0])
      · rcases hcnt with hq0 | hq1 | hq2
        · refine Go.cast (g' := mkF m 137 #[.val (.int p0), .val (.int p1), .val (.int p2), .val (.int wl), .val (.int mm), .val (.int w), .val (.int x), .val (.int (0 : Int32)), .val (.ref b17), .val (.ref b20), .val (.ref b22), .val (.ref b24), .unset, .unset, .unset, .unset, .unset, .unset] []) ?_ (by rw [hq0])
          refine g_aload C iG_137 rfl rfl ?_
          refine g_aload C iG_139 rfl rfl ?_
          refine g_iload C iG_141 rfl ?_
          refine g_iload C iG_143 rfl ?_
          refine g_callV C (rmR0 l Z aZ hw b24 b17 w h28 n0 Z28) (a := b24) iG_145 (hw _ (List.mem_of_getElem? (i := 27) rfl)) (hw _ (List.mem_of_getElem? (i := 28) rfl)) (fun s hZ => notFace_of_selects (args := #[]) (mvT hZ (hw _ (List.mem_of_getElem? (i := 30) rfl)))) (hw _ (List.mem_of_getElem? (i := 30) rfl)) (hw _ (List.mem_of_getElem? (i := 29) rfl)) (hw _ (List.mem_of_getElem? (i := 8) rfl)) (hw _ (List.mem_of_getElem? (i := 31) rfl)) (by decide) E_b24_cC28 (argsL := [(.ref b17), (.int (0 : Int32)), (.int w)]) (rest := []) rfl rfl pd3 rfl rfl 0 (Nat.le_of_eq rfl) (by decide) (by decide) (by decide) (by decide) rfl rfl ?_
          rintro _ _ ⟨rfl, he45⟩
          refine Go.heap he45.symm ?_
          refine Go.none' ?_
          refine g_iloadN C iG_148 rfl ?_
          refine g_iconst C (4 : Int32) iG_149 rfl ?_
          refine Go.join (mkF m 158 #[.val (.int p0), .val (.int p1), .val (.int p2), .val (.int wl), .val (.int mm), .val (.int w), .val (.int x), .val (.int (0 : Int32)), .val (.ref b17), .val (.ref b20), .val (.ref b22), .val (.ref b24), .unset, .unset, .unset, .unset, .unset, .unset] [(.int (vG_3 wl w x cnt))]) ?_ (fun J => ?_)
          · refine g_istore C (Ls' := #[.val (.int p0), .val (.int p1), .val (.int p2), .val (.int wl), .val (.int mm), .val (.int w), .val (.int x), .val (.int (0 : Int32)), .val (.ref b17), .val (.ref b20), .val (.ref b22), .val (.ref b24), .val (.int (vG_3 wl w x cnt)), .unset, .unset, .unset, .unset, .unset]) iG_158 rfl ?_
            refine g_aload C iG_160 rfl rfl ?_
            refine g_aload C iG_162 rfl rfl ?_
            refine g_iconst C (1 : Int32) iG_164 rfl ?_
            refine g_callV C (rmF1 l Z aZ hw b24 b20 ((wl + (63 : Int32)) / (64 : Int32)) (vI_1 wl (0 : Int32) (0 : Int64)) r25_fb0 ((2 : Int32) * ((wl + (63 : Int32)) / (64 : Int32))).toNatClampNeg (vT_3 (2 : Int32) 2 ((2 : Int32) * ((wl + (63 : Int32)) / (64 : Int32))).toNatClampNeg (vG_1 wl w x cnt) ((wl + (63 : Int32)) / (64 : Int32)) (vT_3 (1 : Int32) 2 ((2 : Int32) * ((wl + (63 : Int32)) / (64 : Int32))).toNatClampNeg (vG_1 wl w x cnt) ((wl + (63 : Int32)) / (64 : Int32)) (vT_3 (0 : Int32) 2 ((2 : Int32) * ((wl + (63 : Int32)) / (64 : Int32))).toNatClampNeg (vG_1 wl w x cnt) ((wl + (63 : Int32)) / (64 : Int32)) (fun _ => (0 : Int64))))) 1 (vG_0 wl w x cnt) h28 n0 Z28 F_words_b24_cC28 F_used_b24_cC28 F_lastWord_b24_cC28 P28_0 V_b20_cC28 (own_wo hwl) (by decide) (own_hF1 hwl _ hx)) (a := b24) iG_165 (hw _ (List.mem_of_getElem? (i := 33) rfl)) (hw _ (List.mem_of_getElem? (i := 34) rfl)) (fun s hZ => notFace_of_selects (args := #[]) (mvT hZ (hw _ (List.mem_of_getElem? (i := 36) rfl)))) (hw _ (List.mem_of_getElem? (i := 36) rfl)) (hw _ (List.mem_of_getElem? (i := 35) rfl)) (hw _ (List.mem_of_getElem? (i := 8) rfl)) (hw _ (List.mem_of_getElem? (i := 37) rfl)) (by decide) E_b24_cC28 (argsL := [(.ref b20), (.int (1 : Int32))]) (rest := []) rfl rfl pd4 rfl rfl 0 (Nat.le_of_eq rfl) (by decide) (by decide) (by decide) (by decide) rfl rfl ?_
            rintro _ _ ⟨rfl, he46⟩
            refine Go.heap he46.symm ?_
            refine Go.some' ?_
            refine g_istore C (Ls' := #[.val (.int p0), .val (.int p1), .val (.int p2), .val (.int wl), .val (.int mm), .val (.int w), .val (.int x), .val (.int (0 : Int32)), .val (.ref b17), .val (.ref b20), .val (.ref b22), .val (.ref b24), .val (.int (vG_3 wl w x cnt)), .val (.int (vG_22 wl w x cnt)), .unset, .unset, .unset, .unset]) iG_168 rfl ?_
            refine g_aload C iG_170 rfl rfl ?_
            refine g_aload C iG_172 rfl rfl ?_
            refine g_iconst C (1 : Int32) iG_174 rfl ?_
            refine g_callV C (rmF1 l Z aZ hw b24 b22 ((wl + (63 : Int32)) / (64 : Int32)) (vI_1 wl (0 : Int32) (0 : Int64)) r25_fb0 ((2 : Int32) * ((wl + (63 : Int32)) / (64 : Int32))).toNatClampNeg (vT_3 (2 : Int32) 2 ((2 : Int32) * ((wl + (63 : Int32)) / (64 : Int32))).toNatClampNeg (vG_1 wl w x cnt) ((wl + (63 : Int32)) / (64 : Int32)) (vT_3 (1 : Int32) 2 ((2 : Int32) * ((wl + (63 : Int32)) / (64 : Int32))).toNatClampNeg (vG_1 wl w x cnt) ((wl + (63 : Int32)) / (64 : Int32)) (vT_3 (0 : Int32) 2 ((2 : Int32) * ((wl + (63 : Int32)) / (64 : Int32))).toNatClampNeg (vG_1 wl w x cnt) ((wl + (63 : Int32)) / (64 : Int32)) (fun _ => (0 : Int64))))) 1 (vG_2 wl w x cnt) h28 n0 Z28 F_words_b24_cC28 F_used_b24_cC28 F_lastWord_b24_cC28 P28_0 V_b22_cC28 (own_wo hwl) (by decide) (own_hF1 hwl _ (own_l1 hx))) (a := b24) iG_175 (hw _ (List.mem_of_getElem? (i := 33) rfl)) (hw _ (List.mem_of_getElem? (i := 34) rfl)) (fun s hZ => notFace_of_selects (args := #[]) (mvT hZ (hw _ (List.mem_of_getElem? (i := 36) rfl)))) (hw _ (List.mem_of_getElem? (i := 36) rfl)) (hw _ (List.mem_of_getElem? (i := 35) rfl)) (hw _ (List.mem_of_getElem? (i := 8) rfl)) (hw _ (List.mem_of_getElem? (i := 37) rfl)) (by decide) E_b24_cC28 (argsL := [(.ref b22), (.int (1 : Int32))]) (rest := []) rfl rfl pd4 rfl rfl 0 (Nat.le_of_eq rfl) (by decide) (by decide) (by decide) (by decide) rfl rfl ?_
            rintro _ _ ⟨rfl, he47⟩
            refine Go.heap he47.symm ?_
            refine Go.some' ?_
            refine g_istore C (Ls' := #[.val (.int p0), .val (.int p1), .val (.int p2), .val (.int wl), .val (.int mm), .val (.int w), .val (.int x), .val (.int (0 : Int32)), .val (.ref b17), .val (.ref b20), .val (.ref b22), .val (.ref b24), .val (.int (vG_3 wl w x cnt)), .val (.int (vG_22 wl w x cnt)), .val (.int (vG_23 wl w x cnt)), .unset, .unset, .unset]) iG_178 rfl ?_
            refine g_iload C iG_180 rfl ?_
            refine g_iconst C (1 : Int32) iG_182 rfl ?_
            refine g_icmp_lt C iG_183 (fun _ => ?_) (fun q => absurd (by decide) q)
            refine g_iload C iG_191 rfl ?_
            refine g_istore C (Ls' := #[.val (.int p0), .val (.int p1), .val (.int p2), .val (.int wl), .val (.int mm), .val (.int w), .val (.int x), .val (.int (0 : Int32)), .val (.ref b17), .val (.ref b20), .val (.ref b22), .val (.ref b24), .val (.int (vG_3 wl w x cnt)), .val (.int (vG_22 wl w x cnt)), .val (.int (vG_23 wl w x cnt)), .val (.int (vG_3 wl w x cnt)), .unset, .unset]) iG_193 rfl ?_
            refine g_iload C iG_195 rfl ?_
            refine g_iconst C (2 : Int32) iG_197 rfl ?_
            refine g_icmp_lt C iG_198 (fun _ => ?_) (fun q => absurd (by decide) q)
            refine g_iload C iG_206 rfl ?_
            refine g_istore C (Ls' := #[.val (.int p0), .val (.int p1), .val (.int p2), .val (.int wl), .val (.int mm), .val (.int w), .val (.int x), .val (.int (0 : Int32)), .val (.ref b17), .val (.ref b20), .val (.ref b22), .val (.ref b24), .val (.int (vG_3 wl w x cnt)), .val (.int (vG_22 wl w x cnt)), .val (.int (vG_23 wl w x cnt)), .val (.int (vG_3 wl w x cnt)), .val (.int (vG_3 wl w x cnt)), .unset]) iG_208 rfl ?_
            refine g_aload C iG_210 rfl rfl ?_
            refine g_aload C iG_212 rfl rfl ?_
            refine g_iconst C (2 : Int32) iG_214 rfl ?_
            refine g_iload C iG_215 rfl ?_
            refine g_callV C (rmT l Z aZ hw b24 b17 w 2 ((2 : Int32) * ((wl + (63 : Int32)) / (64 : Int32))).toNatClampNeg (vG_1 wl w x cnt) ((wl + (63 : Int32)) / (64 : Int32)) r25_fb0 (vT_3 (2 : Int32) 2 ((2 : Int32) * ((wl + (63 : Int32)) / (64 : Int32))).toNatClampNeg (vG_1 wl w x cnt) ((wl + (63 : Int32)) / (64 : Int32)) (vT_3 (1 : Int32) 2 ((2 : Int32) * ((wl + (63 : Int32)) / (64 : Int32))).toNatClampNeg (vG_1 wl w x cnt) ((wl + (63 : Int32)) / (64 : Int32)) (vT_3 (0 : Int32) 2 ((2 : Int32) * ((wl + (63 : Int32)) / (64 : Int32))).toNatClampNeg (vG_1 wl w x cnt) ((wl + (63 : Int32)) / (64 : Int32)) (fun _ => (0 : Int64))))) h28 n0 Z28 rfl (own_hin hwl _ hx _ hw4) (own_hin hwl _ (own_l1 hx) _ hw4) F_used_b24_cC28 V_b17_cC28 F_words_b24_cC28 P28_0 ge25_fb0 ne_b24_r25_fb0 ne_b17_r25_fb0) (a := b24) iG_217 (hw _ (List.mem_of_getElem? (i := 22) rfl)) (hw _ (List.mem_of_getElem? (i := 23) rfl)) (fun s hZ => notFace_of_selects (args := #[]) (mvT hZ (hw _ (List.mem_of_getElem? (i := 25) rfl)))) (hw _ (List.mem_of_getElem? (i := 25) rfl)) (hw _ (List.mem_of_getElem? (i := 24) rfl)) (hw _ (List.mem_of_getElem? (i := 8) rfl)) (hw _ (List.mem_of_getElem? (i := 26) rfl)) (by decide) E_b24_cC28 (argsL := [(.ref b17), (.int (2 : Int32)), (.int w)]) (rest := []) rfl rfl pd3 rfl rfl 0 (Nat.le_of_eq rfl) (by decide) (by decide) (by decide) (by decide) rfl rfl ?_
            rintro _ h48 ⟨rfl, KC48, P48_0⟩
            refine Go.none' ?_
            have V_b17_cC48 := AV.keep V_b17_cC28 KC48 (ninS ne_b17_r25_fb0 nin0)
            have V_b20_cC48 := AV.keep V_b20_cC28 KC48 (ninS ne_b20_r25_fb0 nin0)
            have V_b22_cC48 := AV.keep V_b22_cC28 KC48 (ninS ne_b22_r25_fb0 nin0)
            have E_b24_cC48 := Exa.keep E_b24_cC28 KC48
            have F_words_b24_cC48 := Fld.keep F_words_b24_cC28 KC48 (ninS ne_b24_r25_fb0 nin0)
            have F_used_b24_cC48 := Fld.keep F_used_b24_cC28 KC48 (ninS ne_b24_r25_fb0 nin0)
            have F_lastWord_b24_cC48 := Fld.keep F_lastWord_b24_cC28 KC48 (ninS ne_b24_r25_fb0 nin0)
            have K48 := Keep.trans K28 KC48 (allS (Or.inr fr25_fb0) all0)
            have Z48 : n0 ≤ h48.size := Nat.le_trans Z28 KC48.1
            refine g_aload C iG_220 rfl rfl ?_
            refine g_aload C iG_222 rfl rfl ?_
            refine g_iconst C (2 : Int32) iG_224 rfl ?_
            refine g_callV C (rmF2 l Z aZ hw b24 b17 ((wl + (63 : Int32)) / (64 : Int32)) (vI_1 wl (0 : Int32) (0 : Int64)) r25_fb0 ((2 : Int32) * ((wl + (63 : Int32)) / (64 : Int32))).toNatClampNeg (vT_3 w 2 ((2 : Int32) * ((wl + (63 : Int32)) / (64 : Int32))).toNatClampNeg (vG_1 wl w x cnt) ((wl + (63 : Int32)) / (64 : Int32)) (vT_3 (2 : Int32) 2 ((2 : Int32) * ((wl + (63 : Int32)) / (64 : Int32))).toNatClampNeg (vG_1 wl w x cnt) ((wl + (63 : Int32)) / (64 : Int32)) (vT_3 (1 : Int32) 2 ((2 : Int32) * ((wl + (63 : Int32)) / (64 : Int32))).toNatClampNeg (vG_1 wl w x cnt) ((wl + (63 : Int32)) / (64 : Int32)) (vT_3 (0 : Int32) 2 ((2 : Int32) * ((wl + (63 : Int32)) / (64 : Int32))).toNatClampNeg (vG_1 wl w x cnt) ((wl + (63 : Int32)) / (64 : Int32)) (fun _ => (0 : Int64)))))) 2 (vG_1 wl w x cnt) h48 n0 Z48 F_words_b24_cC48 F_used_b24_cC48 F_lastWord_b24_cC48 P48_0 V_b17_cC48 (own_wo hwl) (by decide) (own_hF2 hwl _ hx (own_l1 hx))) (a := b24) iG_225 (hw _ (List.mem_of_getElem? (i := 33) rfl)) (hw _ (List.mem_of_getElem? (i := 34) rfl)) (fun s hZ => notFace_of_selects (args := #[]) (mvT hZ (hw _ (List.mem_of_getElem? (i := 36) rfl)))) (hw _ (List.mem_of_getElem? (i := 36) rfl)) (hw _ (List.mem_of_getElem? (i := 35) rfl)) (hw _ (List.mem_of_getElem? (i := 8) rfl)) (hw _ (List.mem_of_getElem? (i := 37) rfl)) (by decide) E_b24_cC48 (argsL := [(.ref b17), (.int (2 : Int32))]) (rest := []) rfl rfl pd4 rfl rfl 0 (Nat.le_of_eq rfl) (by decide) (by decide) (by decide) (by decide) rfl rfl ?_
            rintro _ _ ⟨rfl, he49⟩
            refine Go.heap he49.symm ?_
            refine Go.some' ?_
            refine g_istore C (Ls' := #[.val (.int p0), .val (.int p1), .val (.int p2), .val (.int wl), .val (.int mm), .val (.int w), .val (.int x), .val (.int (0 : Int32)), .val (.ref b17), .val (.ref b20), .val (.ref b22), .val (.ref b24), .val (.int (vG_3 wl w x cnt)), .val (.int (vG_22 wl w x cnt)), .val (.int (vG_23 wl w x cnt)), .val (.int (vG_3 wl w x cnt)), .val (.int (vG_3 wl w x cnt)), .val (.int (vG_24 wl w x cnt))]) iG_228 rfl ?_
            refine g_iload C iG_230 rfl ?_
            refine g_iload C iG_232 rfl ?_
            refine Go.join (mkF m 256 #[.val (.int p0), .val (.int p1), .val (.int p2), .val (.int wl), .val (.int mm), .val (.int w), .val (.int x), .val (.int (0 : Int32)), .val (.ref b17), .val (.ref b20), .val (.ref b22), .val (.ref b24), .val (.int (vG_3 wl w x cnt)), .val (.int (vG_22 wl w x cnt)), .val (.int (vG_23 wl w x cnt)), .val (.int (vG_3 wl w x cnt)), .val (.int (vG_3 wl w x cnt)), .val (.int (vG_24 wl w x cnt))] [(.int (vG_27 wl w x cnt))]) ?_ (fun J => ?_)
            · exact g_retNar C (t := .boolean) iG_256 rfl (by simp) (by decide) (by decide) (show _ = _ from congrArg (fun z => some (Value.int z)) (leafG_3 wl w x cnt hwl hw4 hwm hx hc97_1 hc111_1 hc125_1 hq0))
            · refine g_icmp_ne C iG_234 (fun hc234_1 => ?_) (fun hc234_1 => ?_)
              · refine g_iload C iG_237 rfl ?_
                refine g_iload C iG_239 rfl ?_
                refine g_icmp_ne C iG_241 (fun hc241_1 => ?_) (fun hc241_1 => ?_)
                · refine g_iload C iG_244 rfl ?_
                  refine g_iload C iG_246 rfl ?_
                  refine g_icmp_ne C iG_248 (fun hc248_1 => ?_) (fun hc248_1 => ?_)
                  · refine g_iconst C (1 : Int32) iG_251 rfl ?_
                    refine g_goto C iG_252 ?_
                    have e0 : (vG_27 wl w x cnt) = (1 : Int32) := by simp only [vG_27, if_pos hc234_1, if_pos hc241_1, if_pos hc248_1]
                    exact Go.cast J (by rw [e0])
                  · refine g_iconst C (0 : Int32) iG_255 rfl ?_
                    have e0 : (vG_27 wl w x cnt) = (0 : Int32) := by simp only [vG_27, if_pos hc234_1, if_pos hc241_1, if_neg hc248_1]
                    exact Go.cast J (by rw [e0])
                · refine g_iconst C (0 : Int32) iG_255 rfl ?_
                  have e0 : (vG_27 wl w x cnt) = (0 : Int32) := by simp only [vG_27, if_pos hc234_1, if_neg hc241_1]
                  exact Go.cast J (by rw [e0])
              · refine g_iconst C (0 : Int32) iG_255 rfl ?_
                have e0 : (vG_27 wl w x cnt) = (0 : Int32) := by simp only [vG_27, if_neg hc234_1]
                exact Go.cast J (by rw [e0])
          · refine g_icmp_gt C iG_150 (fun hc150_1 => ?_) (fun hc150_1 => ?_)
            · refine g_iconst C (4 : Int32) iG_157 rfl ?_
              have e0 : (vG_3 wl w x cnt) = (4 : Int32) := by simp only [vG_3, if_pos hc150_1]
              exact Go.cast J (by rw [e0])
            · refine g_iconst C (-1 : Int32) iG_153 rfl ?_
              refine g_goto C iG_154 ?_
              have e0 : (vG_3 wl w x cnt) = (-1 : Int32) := by simp only [vG_3, if_neg hc150_1]
              exact Go.cast J (by rw [e0])
        · refine Go.cast (g' := mkF m 137 #[.val (.int p0), .val (.int p1), .val (.int p2), .val (.int wl), .val (.int mm), .val (.int w), .val (.int x), .val (.int (1 : Int32)), .val (.ref b17), .val (.ref b20), .val (.ref b22), .val (.ref b24), .unset, .unset, .unset, .unset, .unset, .unset] []) ?_ (by rw [hq1])
          refine g_aload C iG_137 rfl rfl ?_
          refine g_aload C iG_139 rfl rfl ?_
          refine g_iload C iG_141 rfl ?_
          refine g_iload C iG_143 rfl ?_
          refine g_callV C (rmR1 l Z aZ hw b24 b17 w 2 ((2 : Int32) * ((wl + (63 : Int32)) / (64 : Int32))).toNatClampNeg (vG_1 wl w x cnt) ((wl + (63 : Int32)) / (64 : Int32)) r25_fb0 (vT_3 (2 : Int32) 2 ((2 : Int32) * ((wl + (63 : Int32)) / (64 : Int32))).toNatClampNeg (vG_1 wl w x cnt) ((wl + (63 : Int32)) / (64 : Int32)) (vT_3 (1 : Int32) 2 ((2 : Int32) * ((wl + (63 : Int32)) / (64 : Int32))).toNatClampNeg (vG_1 wl w x cnt) ((wl + (63 : Int32)) / (64 : Int32)) (vT_3 (0 : Int32) 2 ((2 : Int32) * ((wl + (63 : Int32)) / (64 : Int32))).toNatClampNeg (vG_1 wl w x cnt) ((wl + (63 : Int32)) / (64 : Int32)) (fun _ => (0 : Int64))))) h28 n0 Z28 rfl (own_hin hwl _ hx _ hw4) F_used_b24_cC28 V_b17_cC28 F_words_b24_cC28 P28_0 ge25_fb0 ne_b24_r25_fb0 ne_b17_r25_fb0) (a := b24) iG_145 (hw _ (List.mem_of_getElem? (i := 27) rfl)) (hw _ (List.mem_of_getElem? (i := 28) rfl)) (fun s hZ => notFace_of_selects (args := #[]) (mvT hZ (hw _ (List.mem_of_getElem? (i := 30) rfl)))) (hw _ (List.mem_of_getElem? (i := 30) rfl)) (hw _ (List.mem_of_getElem? (i := 29) rfl)) (hw _ (List.mem_of_getElem? (i := 8) rfl)) (hw _ (List.mem_of_getElem? (i := 31) rfl)) (by decide) E_b24_cC28 (argsL := [(.ref b17), (.int (1 : Int32)), (.int w)]) (rest := []) rfl rfl pd3 rfl rfl 0 (Nat.le_of_eq rfl) (by decide) (by decide) (by decide) (by decide) rfl rfl ?_
          rintro _ h50 ⟨rfl, KC50, P50_0⟩
          refine Go.none' ?_
          have V_b17_cC50 := AV.keep V_b17_cC28 KC50 (ninS ne_b17_r25_fb0 nin0)
          have V_b20_cC50 := AV.keep V_b20_cC28 KC50 (ninS ne_b20_r25_fb0 nin0)
          have V_b22_cC50 := AV.keep V_b22_cC28 KC50 (ninS ne_b22_r25_fb0 nin0)
          have E_b24_cC50 := Exa.keep E_b24_cC28 KC50
          have F_words_b24_cC50 := Fld.keep F_words_b24_cC28 KC50 (ninS ne_b24_r25_fb0 nin0)
          have F_used_b24_cC50 := Fld.keep F_used_b24_cC28 KC50 (ninS ne_b24_r25_fb0 nin0)
          have F_lastWord_b24_cC50 := Fld.keep F_lastWord_b24_cC28 KC50 (ninS ne_b24_r25_fb0 nin0)
          have K50 := Keep.trans K28 KC50 (allS (Or.inr fr25_fb0) all0)
          have Z50 : n0 ≤ h50.size := Nat.le_trans Z28 KC50.1
          refine g_iloadN C iG_148 rfl ?_
          refine g_iconst C (4 : Int32) iG_149 rfl ?_
          refine Go.join (mkF m 158 #[.val (.int p0), .val (.int p1), .val (.int p2), .val (.int wl), .val (.int mm), .val (.int w), .val (.int x), .val (.int (1 : Int32)), .val (.ref b17), .val (.ref b20), .val (.ref b22), .val (.ref b24), .unset, .unset, .unset, .unset, .unset, .unset] [(.int (vG_3 wl w x cnt))]) ?_ (fun J => ?_)
          · refine g_istore C (Ls' := #[.val (.int p0), .val (.int p1), .val (.int p2), .val (.int wl), .val (.int mm), .val (.int w), .val (.int x), .val (.int (1 : Int32)), .val (.ref b17), .val (.ref b20), .val (.ref b22), .val (.ref b24), .val (.int (vG_3 wl w x cnt)), .unset, .unset, .unset, .unset, .unset]) iG_158 rfl ?_
            refine g_aload C iG_160 rfl rfl ?_
            refine g_aload C iG_162 rfl rfl ?_
            refine g_iconst C (1 : Int32) iG_164 rfl ?_
            refine g_callV C (rmF1 l Z aZ hw b24 b20 ((wl + (63 : Int32)) / (64 : Int32)) (vI_1 wl (0 : Int32) (0 : Int64)) r25_fb0 ((2 : Int32) * ((wl + (63 : Int32)) / (64 : Int32))).toNatClampNeg (vR1_1 w 2 ((2 : Int32) * ((wl + (63 : Int32)) / (64 : Int32))).toNatClampNeg (vG_1 wl w x cnt) ((wl + (63 : Int32)) / (64 : Int32)) (vT_3 (2 : Int32) 2 ((2 : Int32) * ((wl + (63 : Int32)) / (64 : Int32))).toNatClampNeg (vG_1 wl w x cnt) ((wl + (63 : Int32)) / (64 : Int32)) (vT_3 (1 : Int32) 2 ((2 : Int32) * ((wl + (63 : Int32)) / (64 : Int32))).toNatClampNeg (vG_1 wl w x cnt) ((wl + (63 : Int32)) / (64 : Int32)) (vT_3 (0 : Int32) 2 ((2 : Int32) * ((wl + (63 : Int32)) / (64 : Int32))).toNatClampNeg (vG_1 wl w x cnt) ((wl + (63 : Int32)) / (64 : Int32)) (fun _ => (0 : Int64)))))) 1 (vG_0 wl w x cnt) h50 n0 Z50 F_words_b24_cC50 F_used_b24_cC50 F_lastWord_b24_cC50 P50_0 V_b20_cC50 (own_wo hwl) (by decide) (own_hF1 hwl _ hx)) (a := b24) iG_165 (hw _ (List.mem_of_getElem? (i := 33) rfl)) (hw _ (List.mem_of_getElem? (i := 34) rfl)) (fun s hZ => notFace_of_selects (args := #[]) (mvT hZ (hw _ (List.mem_of_getElem? (i := 36) rfl)))) (hw _ (List.mem_of_getElem? (i := 36) rfl)) (hw _ (List.mem_of_getElem? (i := 35) rfl)) (hw _ (List.mem_of_getElem? (i := 8) rfl)) (hw _ (List.mem_of_getElem? (i := 37) rfl)) (by decide) E_b24_cC50 (argsL := [(.ref b20), (.int (1 : Int32))]) (rest := []) rfl rfl pd4 rfl rfl 0 (Nat.le_of_eq rfl) (by decide) (by decide) (by decide) (by decide) rfl rfl ?_
            rintro _ _ ⟨rfl, he51⟩
            refine Go.heap he51.symm ?_
            refine Go.some' ?_
            refine g_istore C (Ls' := #[.val (.int p0), .val (.int p1), .val (.int p2), .val (.int wl), .val (.int mm), .val (.int w), .val (.int x), .val (.int (1 : Int32)), .val (.ref b17), .val (.ref b20), .val (.ref b22), .val (.ref b24), .val (.int (vG_3 wl w x cnt)), .val (.int (vG_28 wl w x cnt)), .unset, .unset, .unset, .unset]) iG_168 rfl ?_
            refine g_aload C iG_170 rfl rfl ?_
            refine g_aload C iG_172 rfl rfl ?_
            refine g_iconst C (1 : Int32) iG_174 rfl ?_
            refine g_callV C (rmF1 l Z aZ hw b24 b22 ((wl + (63 : Int32)) / (64 : Int32)) (vI_1 wl (0 : Int32) (0 : Int64)) r25_fb0 ((2 : Int32) * ((wl + (63 : Int32)) / (64 : Int32))).toNatClampNeg (vR1_1 w 2 ((2 : Int32) * ((wl + (63 : Int32)) / (64 : Int32))).toNatClampNeg (vG_1 wl w x cnt) ((wl + (63 : Int32)) / (64 : Int32)) (vT_3 (2 : Int32) 2 ((2 : Int32) * ((wl + (63 : Int32)) / (64 : Int32))).toNatClampNeg (vG_1 wl w x cnt) ((wl + (63 : Int32)) / (64 : Int32)) (vT_3 (1 : Int32) 2 ((2 : Int32) * ((wl + (63 : Int32)) / (64 : Int32))).toNatClampNeg (vG_1 wl w x cnt) ((wl + (63 : Int32)) / (64 : Int32)) (vT_3 (0 : Int32) 2 ((2 : Int32) * ((wl + (63 : Int32)) / (64 : Int32))).toNatClampNeg (vG_1 wl w x cnt) ((wl + (63 : Int32)) / (64 : Int32)) (fun _ => (0 : Int64)))))) 1 (vG_2 wl w x cnt) h50 n0 Z50 F_words_b24_cC50 F_used_b24_cC50 F_lastWord_b24_cC50 P50_0 V_b22_cC50 (own_wo hwl) (by decide) (own_hF1 hwl _ (own_l1 hx))) (a := b24) iG_175 (hw _ (List.mem_of_getElem? (i := 33) rfl)) (hw _ (List.mem_of_getElem? (i := 34) rfl)) (fun s hZ => notFace_of_selects (args := #[]) (mvT hZ (hw _ (List.mem_of_getElem? (i := 36) rfl)))) (hw _ (List.mem_of_getElem? (i := 36) rfl)) (hw _ (List.mem_of_getElem? (i := 35) rfl)) (hw _ (List.mem_of_getElem? (i := 8) rfl)) (hw _ (List.mem_of_getElem? (i := 37) rfl)) (by decide) E_b24_cC50 (argsL := [(.ref b22), (.int (1 : Int32))]) (rest := []) rfl rfl pd4 rfl rfl 0 (Nat.le_of_eq rfl) (by decide) (by decide) (by decide) (by decide) rfl rfl ?_
            rintro _ _ ⟨rfl, he52⟩
            refine Go.heap he52.symm ?_
            refine Go.some' ?_
            refine g_istore C (Ls' := #[.val (.int p0), .val (.int p1), .val (.int p2), .val (.int wl), .val (.int mm), .val (.int w), .val (.int x), .val (.int (1 : Int32)), .val (.ref b17), .val (.ref b20), .val (.ref b22), .val (.ref b24), .val (.int (vG_3 wl w x cnt)), .val (.int (vG_28 wl w x cnt)), .val (.int (vG_29 wl w x cnt)), .unset, .unset, .unset]) iG_178 rfl ?_
            refine g_iload C iG_180 rfl ?_
            refine g_iconst C (1 : Int32) iG_182 rfl ?_
            refine g_icmp_lt C iG_183 (fun q => absurd q (by decide)) (fun _ => ?_)
            refine g_iload C iG_186 rfl ?_
            refine g_goto C iG_188 ?_
            refine g_istore C (Ls' := #[.val (.int p0), .val (.int p1), .val (.int p2), .val (.int wl), .val (.int mm), .val (.int w), .val (.int x), .val (.int (1 : Int32)), .val (.ref b17), .val (.ref b20), .val (.ref b22), .val (.ref b24), .val (.int (vG_3 wl w x cnt)), .val (.int (vG_28 wl w x cnt)), .val (.int (vG_29 wl w x cnt)), .val (.int w), .unset, .unset]) iG_193 rfl ?_
            refine g_iload C iG_195 rfl ?_
            refine g_iconst C (2 : Int32) iG_197 rfl ?_
            refine g_icmp_lt C iG_198 (fun _ => ?_) (fun q => absurd (by decide) q)
            refine g_iload C iG_206 rfl ?_
            refine g_istore C (Ls' := #[.val (.int p0), .val (.int p1), .val (.int p2), .val (.int wl), .val (.int mm), .val (.int w), .val (.int x), .val (.int (1 : Int32)), .val (.ref b17), .val (.ref b20), .val (.ref b22), .val (.ref b24), .val (.int (vG_3 wl w x cnt)), .val (.int (vG_28 wl w x cnt)), .val (.int (vG_29 wl w x cnt)), .val (.int w), .val (.int (vG_3 wl w x cnt)), .unset]) iG_208 rfl ?_
            refine g_aload C iG_210 rfl rfl ?_
            refine g_aload C iG_212 rfl rfl ?_
            refine g_iconst C (2 : Int32) iG_214 rfl ?_
            refine g_iload C iG_215 rfl ?_
            refine g_callV C (rmT l Z aZ hw b24 b17 w 2 ((2 : Int32) * ((wl + (63 : Int32)) / (64 : Int32))).toNatClampNeg (vG_1 wl w x cnt) ((wl + (63 : Int32)) / (64 : Int32)) r25_fb0 (vR1_1 w 2 ((2 : Int32) * ((wl + (63 : Int32)) / (64 : Int32))).toNatClampNeg (vG_1 wl w x cnt) ((wl + (63 : Int32)) / (64 : Int32)) (vT_3 (2 : Int32) 2 ((2 : Int32) * ((wl + (63 : Int32)) / (64 : Int32))).toNatClampNeg (vG_1 wl w x cnt) ((wl + (63 : Int32)) / (64 : Int32)) (vT_3 (1 : Int32) 2 ((2 : Int32) * ((wl + (63 : Int32)) / (64 : Int32))).toNatClampNeg (vG_1 wl w x cnt) ((wl + (63 : Int32)) / (64 : Int32)) (vT_3 (0 : Int32) 2 ((2 : Int32) * ((wl + (63 : Int32)) / (64 : Int32))).toNatClampNeg (vG_1 wl w x cnt) ((wl + (63 : Int32)) / (64 : Int32)) (fun _ => (0 : Int64)))))) h50 n0 Z50 rfl (own_hin hwl _ hx _ hw4) (own_hin hwl _ (own_l1 hx) _ hw4) F_used_b24_cC50 V_b17_cC50 F_words_b24_cC50 P50_0 ge25_fb0 ne_b24_r25_fb0 ne_b17_r25_fb0) (a := b24) iG_217 (hw _ (List.mem_of_getElem? (i := 22) rfl)) (hw _ (List.mem_of_getElem? (i := 23) rfl)) (fun s hZ => notFace_of_selects (args := #[]) (mvT hZ (hw _ (List.mem_of_getElem? (i := 25) rfl)))) (hw _ (List.mem_of_getElem? (i := 25) rfl)) (hw _ (List.mem_of_getElem? (i := 24) rfl)) (hw _ (List.mem_of_getElem? (i := 8) rfl)) (hw _ (List.mem_of_getElem? (i := 26) rfl)) (by decide) E_b24_cC50 (argsL := [(.ref b17), (.int (2 : Int32)), (.int w)]) (rest := []) rfl rfl pd3 rfl rfl 0 (Nat.le_of_eq rfl) (by decide) (by decide) (by decide) (by decide) rfl rfl ?_
            rintro _ h53 ⟨rfl, KC53, P53_0⟩
            refine Go.none' ?_
            have V_b17_cC53 := AV.keep V_b17_cC50 KC53 (ninS ne_b17_r25_fb0 nin0)
            have V_b20_cC53 := AV.keep V_b20_cC50 KC53 (ninS ne_b20_r25_fb0 nin0)
            have V_b22_cC53 := AV.keep V_b22_cC50 KC53 (ninS ne_b22_r25_fb0 nin0)
            have E_b24_cC53 := Exa.keep E_b24_cC50 KC53
            have F_words_b24_cC53 := Fld.keep F_words_b24_cC50 KC53 (ninS ne_b24_r25_fb0 nin0)
            have F_used_b24_cC53 := Fld.keep F_used_b24_cC50 KC53 (ninS ne_b24_r25_fb0 nin0)
            have F_lastWord_b24_cC53 := Fld.keep F_lastWord_b24_cC50 KC53 (ninS ne_b24_r25_fb0 nin0)
            have K53 := Keep.trans K50 KC53 (allS (Or.inr fr25_fb0) all0)
            have Z53 : n0 ≤ h53.size := Nat.le_trans Z50 KC53.1
            refine g_aload C iG_220 rfl rfl ?_
            refine g_aload C iG_222 rfl rfl ?_
            refine g_iconst C (2 : Int32) iG_224 rfl ?_
            refine g_callV C (rmF2 l Z aZ hw b24 b17 ((wl + (63 : Int32)) / (64 : Int32)) (vI_1 wl (0 : Int32) (0 : Int64)) r25_fb0 ((2 : Int32) * ((wl + (63 : Int32)) / (64 : Int32))).toNatClampNeg (vT_3 w 2 ((2 : Int32) * ((wl + (63 : Int32)) / (64 : Int32))).toNatClampNeg (vG_1 wl w x cnt) ((wl + (63 : Int32)) / (64 : Int32)) (vR1_1 w 2 ((2 : Int32) * ((wl + (63 : Int32)) / (64 : Int32))).toNatClampNeg (vG_1 wl w x cnt) ((wl + (63 : Int32)) / (64 : Int32)) (vT_3 (2 : Int32) 2 ((2 : Int32) * ((wl + (63 : Int32)) / (64 : Int32))).toNatClampNeg (vG_1 wl w x cnt) ((wl + (63 : Int32)) / (64 : Int32)) (vT_3 (1 : Int32) 2 ((2 : Int32) * ((wl + (63 : Int32)) / (64 : Int32))).toNatClampNeg (vG_1 wl w x cnt) ((wl + (63 : Int32)) / (64 : Int32)) (vT_3 (0 : Int32) 2 ((2 : Int32) * ((wl + (63 : Int32)) / (64 : Int32))).toNatClampNeg (vG_1 wl w x cnt) ((wl + (63 : Int32)) / (64 : Int32)) (fun _ => (0 : Int64))))))) 2 (vG_1 wl w x cnt) h53 n0 Z53 F_words_b24_cC53 F_used_b24_cC53 F_lastWord_b24_cC53 P53_0 V_b17_cC53 (own_wo hwl) (by decide) (own_hF2 hwl _ hx (own_l1 hx))) (a := b24) iG_225 (hw _ (List.mem_of_getElem? (i := 33) rfl)) (hw _ (List.mem_of_getElem? (i := 34) rfl)) (fun s hZ => notFace_of_selects (args := #[]) (mvT hZ (hw _ (List.mem_of_getElem? (i := 36) rfl)))) (hw _ (List.mem_of_getElem? (i := 36) rfl)) (hw _ (List.mem_of_getElem? (i := 35) rfl)) (hw _ (List.mem_of_getElem? (i := 8) rfl)) (hw _ (List.mem_of_getElem? (i := 37) rfl)) (by decide) E_b24_cC53 (argsL := [(.ref b17), (.int (2 : Int32))]) (rest := []) rfl rfl pd4 rfl rfl 0 (Nat.le_of_eq rfl) (by decide) (by decide) (by decide) (by decide) rfl rfl ?_
            rintro _ _ ⟨rfl, he54⟩
            refine Go.heap he54.symm ?_
            refine Go.some' ?_
            refine g_istore C (Ls' := #[.val (.int p0), .val (.int p1), .val (.int p2), .val (.int wl), .val (.int mm), .val (.int w), .val (.int x), .val (.int (1 : Int32)), .val (.ref b17), .val (.ref b20), .val (.ref b22), .val (.ref b24), .val (.int (vG_3 wl w x cnt)), .val (.int (vG_28 wl w x cnt)), .val (.int (vG_29 wl w x cnt)), .val (.int w), .val (.int (vG_3 wl w x cnt)), .val (.int (vG_30 wl w x cnt))]) iG_228 rfl ?_
            refine g_iload C iG_230 rfl ?_
            refine g_iload C iG_232 rfl ?_
            refine Go.join (mkF m 256 #[.val (.int p0), .val (.int p1), .val (.int p2), .val (.int wl), .val (.int mm), .val (.int w), .val (.int x), .val (.int (1 : Int32)), .val (.ref b17), .val (.ref b20), .val (.ref b22), .val (.ref b24), .val (.int (vG_3 wl w x cnt)), .val (.int (vG_28 wl w x cnt)), .val (.int (vG_29 wl w x cnt)), .val (.int w), .val (.int (vG_3 wl w x cnt)), .val (.int (vG_30 wl w x cnt))] [(.int (vG_33 wl w x cnt))]) ?_ (fun J => ?_)
            · exact g_retNar C (t := .boolean) iG_256 rfl (by simp) (by decide) (by decide) (show _ = _ from congrArg (fun z => some (Value.int z)) (leafG_4 wl w x cnt hwl hw4 hwm hx hc97_1 hc111_1 hc125_1 hq1))
            · refine g_icmp_ne C iG_234 (fun hc234_1 => ?_) (fun hc234_1 => ?_)
              · refine g_iload C iG_237 rfl ?_
                refine g_iload C iG_239 rfl ?_
                refine g_icmp_ne C iG_241 (fun hc241_1 => ?_) (fun hc241_1 => ?_)
                · refine g_iload C iG_244 rfl ?_
                  refine g_iload C iG_246 rfl ?_
                  refine g_icmp_ne C iG_248 (fun hc248_1 => ?_) (fun hc248_1 => ?_)
                  · refine g_iconst C (1 : Int32) iG_251 rfl ?_
                    refine g_goto C iG_252 ?_
                    have e0 : (vG_33 wl w x cnt) = (1 : Int32) := by simp only [vG_33, if_pos hc234_1, if_pos hc241_1, if_pos hc248_1]
                    exact Go.cast J (by rw [e0])
                  · refine g_iconst C (0 : Int32) iG_255 rfl ?_
                    have e0 : (vG_33 wl w x cnt) = (0 : Int32) := by simp only [vG_33, if_pos hc234_1, if_pos hc241_1, if_neg hc248_1]
                    exact Go.cast J (by rw [e0])
                · refine g_iconst C (0 : Int32) iG_255 rfl ?_
                  have e0 : (vG_33 wl w x cnt) = (0 : Int32) := by simp only [vG_33, if_pos hc234_1, if_neg hc241_1]
                  exact Go.cast J (by rw [e0])
              · refine g_iconst C (0 : Int32) iG_255 rfl ?_
                have e0 : (vG_33 wl w x cnt) = (0 : Int32) := by simp only [vG_33, if_neg hc234_1]
                exact Go.cast J (by rw [e0])
          · refine g_icmp_gt C iG_150 (fun hc150_1 => ?_) (fun hc150_1 => ?_)
            · refine g_iconst C (4 : Int32) iG_157 rfl ?_
              have e0 : (vG_3 wl w x cnt) = (4 : Int32) := by simp only [vG_3, if_pos hc150_1]
              exact Go.cast J (by rw [e0])
            · refine g_iconst C (-1 : Int32) iG_153 rfl ?_
              refine g_goto C iG_154 ?_
              have e0 : (vG_3 wl w x cnt) = (-1 : Int32) := by simp only [vG_3, if_neg hc150_1]
              exact Go.cast J (by rw [e0])
        · refine Go.cast (g' := mkF m 137 #[.val (.int p0), .val (.int p1), .val (.int p2), .val (.int wl), .val (.int mm), .val (.int w), .val (.int x), .val (.int (2 : Int32)), .val (.ref b17), .val (.ref b20), .val (.ref b22), .val (.ref b24), .unset, .unset, .unset, .unset, .unset, .unset] []) ?_ (by rw [hq2])
          refine g_aload C iG_137 rfl rfl ?_
          refine g_aload C iG_139 rfl rfl ?_
          refine g_iload C iG_141 rfl ?_
          refine g_iload C iG_143 rfl ?_
          refine g_callV C (rmR2 l Z aZ hw b24 b17 w 2 ((2 : Int32) * ((wl + (63 : Int32)) / (64 : Int32))).toNatClampNeg (vG_1 wl w x cnt) ((wl + (63 : Int32)) / (64 : Int32)) r25_fb0 (vT_3 (2 : Int32) 2 ((2 : Int32) * ((wl + (63 : Int32)) / (64 : Int32))).toNatClampNeg (vG_1 wl w x cnt) ((wl + (63 : Int32)) / (64 : Int32)) (vT_3 (1 : Int32) 2 ((2 : Int32) * ((wl + (63 : Int32)) / (64 : Int32))).toNatClampNeg (vG_1 wl w x cnt) ((wl + (63 : Int32)) / (64 : Int32)) (vT_3 (0 : Int32) 2 ((2 : Int32) * ((wl + (63 : Int32)) / (64 : Int32))).toNatClampNeg (vG_1 wl w x cnt) ((wl + (63 : Int32)) / (64 : Int32)) (fun _ => (0 : Int64))))) h28 n0 Z28 rfl (own_hin hwl _ hx _ hw4) (own_hin hwl _ (own_l1 hx) _ hw4) F_used_b24_cC28 V_b17_cC28 F_words_b24_cC28 P28_0 ge25_fb0 ne_b24_r25_fb0 ne_b17_r25_fb0) (a := b24) iG_145 (hw _ (List.mem_of_getElem? (i := 27) rfl)) (hw _ (List.mem_of_getElem? (i := 28) rfl)) (fun s hZ => notFace_of_selects (args := #[]) (mvT hZ (hw _ (List.mem_of_getElem? (i := 30) rfl)))) (hw _ (List.mem_of_getElem? (i := 30) rfl)) (hw _ (List.mem_of_getElem? (i := 29) rfl)) (hw _ (List.mem_of_getElem? (i := 8) rfl)) (hw _ (List.mem_of_getElem? (i := 31) rfl)) (by decide) E_b24_cC28 (argsL := [(.ref b17), (.int (2 : Int32)), (.int w)]) (rest := []) rfl rfl pd3 rfl rfl 0 (Nat.le_of_eq rfl) (by decide) (by decide) (by decide) (by decide) rfl rfl ?_
          rintro _ h55 ⟨rfl, KC55, P55_0⟩
          refine Go.none' ?_
          have V_b17_cC55 := AV.keep V_b17_cC28 KC55 (ninS ne_b17_r25_fb0 nin0)
          have V_b20_cC55 := AV.keep V_b20_cC28 KC55 (ninS ne_b20_r25_fb0 nin0)
          have V_b22_cC55 := AV.keep V_b22_cC28 KC55 (ninS ne_b22_r25_fb0 nin0)
          have E_b24_cC55 := Exa.keep E_b24_cC28 KC55
          have F_words_b24_cC55 := Fld.keep F_words_b24_cC28 KC55 (ninS ne_b24_r25_fb0 nin0)
          have F_used_b24_cC55 := Fld.keep F_used_b24_cC28 KC55 (ninS ne_b24_r25_fb0 nin0)
          have F_lastWord_b24_cC55 := Fld.keep F_lastWord_b24_cC28 KC55 (ninS ne_b24_r25_fb0 nin0)
          have K55 := Keep.trans K28 KC55 (allS (Or.inr fr25_fb0) all0)
          have Z55 : n0 ≤ h55.size := Nat.le_trans Z28 KC55.1
          refine g_iloadN C iG_148 rfl ?_
          refine g_iconst C (4 : Int32) iG_149 rfl ?_
          refine Go.join (mkF m 158 #[.val (.int p0), .val (.int p1), .val (.int p2), .val (.int wl), .val (.int mm), .val (.int w), .val (.int x), .val (.int (2 : Int32)), .val (.ref b17), .val (.ref b20), .val (.ref b22), .val (.ref b24), .unset, .unset, .unset, .unset, .unset, .unset] [(.int (vG_3 wl w x cnt))]) ?_ (fun J => ?_)
          · refine g_istore C (Ls' := #[.val (.int p0), .val (.int p1), .val (.int p2), .val (.int wl), .val (.int mm), .val (.int w), .val (.int x), .val (.int (2 : Int32)), .val (.ref b17), .val (.ref b20), .val (.ref b22), .val (.ref b24), .val (.int (vG_3 wl w x cnt)), .unset, .unset, .unset, .unset, .unset]) iG_158 rfl ?_
            refine g_aload C iG_160 rfl rfl ?_
            refine g_aload C iG_162 rfl rfl ?_
            refine g_iconst C (1 : Int32) iG_164 rfl ?_
            refine g_callV C (rmF1 l Z aZ hw b24 b20 ((wl + (63 : Int32)) / (64 : Int32)) (vI_1 wl (0 : Int32) (0 : Int64)) r25_fb0 ((2 : Int32) * ((wl + (63 : Int32)) / (64 : Int32))).toNatClampNeg (vR2_3 w 2 ((2 : Int32) * ((wl + (63 : Int32)) / (64 : Int32))).toNatClampNeg (vG_1 wl w x cnt) ((wl + (63 : Int32)) / (64 : Int32)) (vT_3 (2 : Int32) 2 ((2 : Int32) * ((wl + (63 : Int32)) / (64 : Int32))).toNatClampNeg (vG_1 wl w x cnt) ((wl + (63 : Int32)) / (64 : Int32)) (vT_3 (1 : Int32) 2 ((2 : Int32) * ((wl + (63 : Int32)) / (64 : Int32))).toNatClampNeg (vG_1 wl w x cnt) ((wl + (63 : Int32)) / (64 : Int32)) (vT_3 (0 : Int32) 2 ((2 : Int32) * ((wl + (63 : Int32)) / (64 : Int32))).toNatClampNeg (vG_1 wl w x cnt) ((wl + (63 : Int32)) / (64 : Int32)) (fun _ => (0 : Int64)))))) 1 (vG_0 wl w x cnt) h55 n0 Z55 F_words_b24_cC55 F_used_b24_cC55 F_lastWord_b24_cC55 P55_0 V_b20_cC55 (own_wo hwl) (by decide) (own_hF1 hwl _ hx)) (a := b24) iG_165 (hw _ (List.mem_of_getElem? (i := 33) rfl)) (hw _ (List.mem_of_getElem? (i := 34) rfl)) (fun s hZ => notFace_of_selects (args := #[]) (mvT hZ (hw _ (List.mem_of_getElem? (i := 36) rfl)))) (hw _ (List.mem_of_getElem? (i := 36) rfl)) (hw _ (List.mem_of_getElem? (i := 35) rfl)) (hw _ (List.mem_of_getElem? (i := 8) rfl)) (hw _ (List.mem_of_getElem? (i := 37) rfl)) (by decide) E_b24_cC55 (argsL := [(.ref b20), (.int (1 : Int32))]) (rest := []) rfl rfl pd4 rfl rfl 0 (Nat.le_of_eq rfl) (by decide) (by decide) (by decide) (by decide) rfl rfl ?_
            rintro _ _ ⟨rfl, he56⟩
            refine Go.heap he56.symm ?_
            refine Go.some' ?_
            refine g_istore C (Ls' := #[.val (.int p0), .val (.int p1), .val (.int p2), .val (.int wl), .val (.int mm), .val (.int w), .val (.int x), .val (.int (2 : Int32)), .val (.ref b17), .val (.ref b20), .val (.ref b22), .val (.ref b24), .val (.int (vG_3 wl w x cnt)), .val (.int (vG_34 wl w x cnt)), .unset, .unset, .unset, .unset]) iG_168 rfl ?_
            refine g_aload C iG_170 rfl rfl ?_
            refine g_aload C iG_172 rfl rfl ?_
            refine g_iconst C (1 : Int32) iG_174 rfl ?_
            refine g_callV C (rmF1 l Z aZ hw b24 b22 ((wl + (63 : Int32)) / (64 : Int32)) (vI_1 wl (0 : Int32) (0 : Int64)) r25_fb0 ((2 : Int32) * ((wl + (63 : Int32)) / (64 : Int32))).toNatClampNeg (vR2_3 w 2 ((2 : Int32) * ((wl + (63 : Int32)) / (64 : Int32))).toNatClampNeg (vG_1 wl w x cnt) ((wl + (63 : Int32)) / (64 : Int32)) (vT_3 (2 : Int32) 2 ((2 : Int32) * ((wl + (63 : Int32)) / (64 : Int32))).toNatClampNeg (vG_1 wl w x cnt) ((wl + (63 : Int32)) / (64 : Int32)) (vT_3 (1 : Int32) 2 ((2 : Int32) * ((wl + (63 : Int32)) / (64 : Int32))).toNatClampNeg (vG_1 wl w x cnt) ((wl + (63 : Int32)) / (64 : Int32)) (vT_3 (0 : Int32) 2 ((2 : Int32) * ((wl + (63 : Int32)) / (64 : Int32))).toNatClampNeg (vG_1 wl w x cnt) ((wl + (63 : Int32)) / (64 : Int32)) (fun _ => (0 : Int64)))))) 1 (vG_2 wl w x cnt) h55 n0 Z55 F_words_b24_cC55 F_used_b24_cC55 F_lastWord_b24_cC55 P55_0 V_b22_cC55 (own_wo hwl) (by decide) (own_hF1 hwl _ (own_l1 hx))) (a := b24) iG_175 (hw _ (List.mem_of_getElem? (i := 33) rfl)) (hw _ (List.mem_of_getElem? (i := 34) rfl)) (fun s hZ => notFace_of_selects (args := #[]) (mvT hZ (hw _ (List.mem_of_getElem? (i := 36) rfl)))) (hw _ (List.mem_of_getElem? (i := 36) rfl)) (hw _ (List.mem_of_getElem? (i := 35) rfl)) (hw _ (List.mem_of_getElem? (i := 8) rfl)) (hw _ (List.mem_of_getElem? (i := 37) rfl)) (by decide) E_b24_cC55 (argsL := [(.ref b22), (.int (1 : Int32))]) (rest := []) rfl rfl pd4 rfl rfl 0 (Nat.le_of_eq rfl) (by decide) (by decide) (by decide) (by decide) rfl rfl ?_
            rintro _ _ ⟨rfl, he57⟩
            refine Go.heap he57.symm ?_
            refine Go.some' ?_
            refine g_istore C (Ls' := #[.val (.int p0), .val (.int p1), .val (.int p2), .val (.int wl), .val (.int mm), .val (.int w), .val (.int x), .val (.int (2 : Int32)), .val (.ref b17), .val (.ref b20), .val (.ref b22), .val (.ref b24), .val (.int (vG_3 wl w x cnt)), .val (.int (vG_34 wl w x cnt)), .val (.int (vG_35 wl w x cnt)), .unset, .unset, .unset]) iG_178 rfl ?_
            refine g_iload C iG_180 rfl ?_
            refine g_iconst C (1 : Int32) iG_182 rfl ?_
            refine g_icmp_lt C iG_183 (fun q => absurd q (by decide)) (fun _ => ?_)
            refine g_iload C iG_186 rfl ?_
            refine g_goto C iG_188 ?_
            refine g_istore C (Ls' := #[.val (.int p0), .val (.int p1), .val (.int p2), .val (.int wl), .val (.int mm), .val (.int w), .val (.int x), .val (.int (2 : Int32)), .val (.ref b17), .val (.ref b20), .val (.ref b22), .val (.ref b24), .val (.int (vG_3 wl w x cnt)), .val (.int (vG_34 wl w x cnt)), .val (.int (vG_35 wl w x cnt)), .val (.int w), .unset, .unset]) iG_193 rfl ?_
            refine g_iload C iG_195 rfl ?_
            refine g_iconst C (2 : Int32) iG_197 rfl ?_
            refine g_icmp_lt C iG_198 (fun q => absurd q (by decide)) (fun _ => ?_)
            refine g_iload C iG_201 rfl ?_
            refine g_goto C iG_203 ?_
            refine g_istore C (Ls' := #[.val (.int p0), .val (.int p1), .val (.int p2), .val (.int wl), .val (.int mm), .val (.int w), .val (.int x), .val (.int (2 : Int32)), .val (.ref b17), .val (.ref b20), .val (.ref b22), .val (.ref b24), .val (.int (vG_3 wl w x cnt)), .val (.int (vG_34 wl w x cnt)), .val (.int (vG_35 wl w x cnt)), .val (.int w), .val (.int w), .unset]) iG_208 rfl ?_
            refine g_aload C iG_210 rfl rfl ?_
            refine g_aload C iG_212 rfl rfl ?_
            refine g_iconst C (2 : Int32) iG_214 rfl ?_
            refine g_iload C iG_215 rfl ?_
            refine g_callV C (rmT l Z aZ hw b24 b17 w 2 ((2 : Int32) * ((wl + (63 : Int32)) / (64 : Int32))).toNatClampNeg (vG_1 wl w x cnt) ((wl + (63 : Int32)) / (64 : Int32)) r25_fb0 (vR2_3 w 2 ((2 : Int32) * ((wl + (63 : Int32)) / (64 : Int32))).toNatClampNeg (vG_1 wl w x cnt) ((wl + (63 : Int32)) / (64 : Int32)) (vT_3 (2 : Int32) 2 ((2 : Int32) * ((wl + (63 : Int32)) / (64 : Int32))).toNatClampNeg (vG_1 wl w x cnt) ((wl + (63 : Int32)) / (64 : Int32)) (vT_3 (1 : Int32) 2 ((2 : Int32) * ((wl + (63 : Int32)) / (64 : Int32))).toNatClampNeg (vG_1 wl w x cnt) ((wl + (63 : Int32)) / (64 : Int32)) (vT_3 (0 : Int32) 2 ((2 : Int32) * ((wl + (63 : Int32)) / (64 : Int32))).toNatClampNeg (vG_1 wl w x cnt) ((wl + (63 : Int32)) / (64 : Int32)) (fun _ => (0 : Int64)))))) h55 n0 Z55 rfl (own_hin hwl _ hx _ hw4) (own_hin hwl _ (own_l1 hx) _ hw4) F_used_b24_cC55 V_b17_cC55 F_words_b24_cC55 P55_0 ge25_fb0 ne_b24_r25_fb0 ne_b17_r25_fb0) (a := b24) iG_217 (hw _ (List.mem_of_getElem? (i := 22) rfl)) (hw _ (List.mem_of_getElem? (i := 23) rfl)) (fun s hZ => notFace_of_selects (args := #[]) (mvT hZ (hw _ (List.mem_of_getElem? (i := 25) rfl)))) (hw _ (List.mem_of_getElem? (i := 25) rfl)) (hw _ (List.mem_of_getElem? (i := 24) rfl)) (hw _ (List.mem_of_getElem? (i := 8) rfl)) (hw _ (List.mem_of_getElem? (i := 26) rfl)) (by decide) E_b24_cC55 (argsL := [(.ref b17), (.int (2 : Int32)), (.int w)]) (rest := []) rfl rfl pd3 rfl rfl 0 (Nat.le_of_eq rfl) (by decide) (by decide) (by decide) (by decide) rfl rfl ?_
            rintro _ h58 ⟨rfl, KC58, P58_0⟩
            refine Go.none' ?_
            have V_b17_cC58 := AV.keep V_b17_cC55 KC58 (ninS ne_b17_r25_fb0 nin0)
            have V_b20_cC58 := AV.keep V_b20_cC55 KC58 (ninS ne_b20_r25_fb0 nin0)
            have V_b22_cC58 := AV.keep V_b22_cC55 KC58 (ninS ne_b22_r25_fb0 nin0)
            have E_b24_cC58 := Exa.keep E_b24_cC55 KC58
            have F_words_b24_cC58 := Fld.keep F_words_b24_cC55 KC58 (ninS ne_b24_r25_fb0 nin0)
            have F_used_b24_cC58 := Fld.keep F_used_b24_cC55 KC58 (ninS ne_b24_r25_fb0 nin0)
            have F_lastWord_b24_cC58 := Fld.keep F_lastWord_b24_cC55 KC58 (ninS ne_b24_r25_fb0 nin0)
            have K58 := Keep.trans K55 KC58 (allS (Or.inr fr25_fb0) all0)
            have Z58 : n0 ≤ h58.size := Nat.le_trans Z55 KC58.1
            refine g_aload C iG_220 rfl rfl ?_
            refine g_aload C iG_222 rfl rfl ?_
            refine g_iconst C (2 : Int32) iG_224 rfl ?_
            refine g_callV C (rmF2 l Z aZ hw b24 b17 ((wl + (63 : Int32)) / (64 : Int32)) (vI_1 wl (0 : Int32) (0 : Int64)) r25_fb0 ((2 : Int32) * ((wl + (63 : Int32)) / (64 : Int32))).toNatClampNeg (vT_3 w 2 ((2 : Int32) * ((wl + (63 : Int32)) / (64 : Int32))).toNatClampNeg (vG_1 wl w x cnt) ((wl + (63 : Int32)) / (64 : Int32)) (vR2_3 w 2 ((2 : Int32) * ((wl + (63 : Int32)) / (64 : Int32))).toNatClampNeg (vG_1 wl w x cnt) ((wl + (63 : Int32)) / (64 : Int32)) (vT_3 (2 : Int32) 2 ((2 : Int32) * ((wl + (63 : Int32)) / (64 : Int32))).toNatClampNeg (vG_1 wl w x cnt) ((wl + (63 : Int32)) / (64 : Int32)) (vT_3 (1 : Int32) 2 ((2 : Int32) * ((wl + (63 : Int32)) / (64 : Int32))).toNatClampNeg (vG_1 wl w x cnt) ((wl + (63 : Int32)) / (64 : Int32)) (vT_3 (0 : Int32) 2 ((2 : Int32) * ((wl + (63 : Int32)) / (64 : Int32))).toNatClampNeg (vG_1 wl w x cnt) ((wl + (63 : Int32)) / (64 : Int32)) (fun _ => (0 : Int64))))))) 2 (vG_1 wl w x cnt) h58 n0 Z58 F_words_b24_cC58 F_used_b24_cC58 F_lastWord_b24_cC58 P58_0 V_b17_cC58 (own_wo hwl) (by decide) (own_hF2 hwl _ hx (own_l1 hx))) (a := b24) iG_225 (hw _ (List.mem_of_getElem? (i := 33) rfl)) (hw _ (List.mem_of_getElem? (i := 34) rfl)) (fun s hZ => notFace_of_selects (args := #[]) (mvT hZ (hw _ (List.mem_of_getElem? (i := 36) rfl)))) (hw _ (List.mem_of_getElem? (i := 36) rfl)) (hw _ (List.mem_of_getElem? (i := 35) rfl)) (hw _ (List.mem_of_getElem? (i := 8) rfl)) (hw _ (List.mem_of_getElem? (i := 37) rfl)) (by decide) E_b24_cC58 (argsL := [(.ref b17), (.int (2 : Int32))]) (rest := []) rfl rfl pd4 rfl rfl 0 (Nat.le_of_eq rfl) (by decide) (by decide) (by decide) (by decide) rfl rfl ?_
            rintro _ _ ⟨rfl, he59⟩
            refine Go.heap he59.symm ?_
            refine Go.some' ?_
            refine g_istore C (Ls' := #[.val (.int p0), .val (.int p1), .val (.int p2), .val (.int wl), .val (.int mm), .val (.int w), .val (.int x), .val (.int (2 : Int32)), .val (.ref b17), .val (.ref b20), .val (.ref b22), .val (.ref b24), .val (.int (vG_3 wl w x cnt)), .val (.int (vG_34 wl w x cnt)), .val (.int (vG_35 wl w x cnt)), .val (.int w), .val (.int w), .val (.int (vG_36 wl w x cnt))]) iG_228 rfl ?_
            refine g_iload C iG_230 rfl ?_
            refine g_iload C iG_232 rfl ?_
            refine Go.join (mkF m 256 #[.val (.int p0), .val (.int p1), .val (.int p2), .val (.int wl), .val (.int mm), .val (.int w), .val (.int x), .val (.int (2 : Int32)), .val (.ref b17), .val (.ref b20), .val (.ref b22), .val (.ref b24), .val (.int (vG_3 wl w x cnt)), .val (.int (vG_34 wl w x cnt)), .val (.int (vG_35 wl w x cnt)), .val (.int w), .val (.int w), .val (.int (vG_36 wl w x cnt))] [(.int (vG_39 wl w x cnt))]) ?_ (fun J => ?_)
            · exact g_retNar C (t := .boolean) iG_256 rfl (by simp) (by decide) (by decide) (show _ = _ from congrArg (fun z => some (Value.int z)) (leafG_5 wl w x cnt hwl hw4 hwm hx hc97_1 hc111_1 hc125_1 hq2))
            · refine g_icmp_ne C iG_234 (fun hc234_1 => ?_) (fun hc234_1 => ?_)
              · refine g_iload C iG_237 rfl ?_
                refine g_iload C iG_239 rfl ?_
                refine g_icmp_ne C iG_241 (fun hc241_1 => ?_) (fun hc241_1 => ?_)
                · refine g_iload C iG_244 rfl ?_
                  refine g_iload C iG_246 rfl ?_
                  refine g_icmp_ne C iG_248 (fun hc248_1 => ?_) (fun hc248_1 => ?_)
                  · refine g_iconst C (1 : Int32) iG_251 rfl ?_
                    refine g_goto C iG_252 ?_
                    have e0 : (vG_39 wl w x cnt) = (1 : Int32) := by simp only [vG_39, if_pos hc234_1, if_pos hc241_1, if_pos hc248_1]
                    exact Go.cast J (by rw [e0])
                  · refine g_iconst C (0 : Int32) iG_255 rfl ?_
                    have e0 : (vG_39 wl w x cnt) = (0 : Int32) := by simp only [vG_39, if_pos hc234_1, if_pos hc241_1, if_neg hc248_1]
                    exact Go.cast J (by rw [e0])
                · refine g_iconst C (0 : Int32) iG_255 rfl ?_
                  have e0 : (vG_39 wl w x cnt) = (0 : Int32) := by simp only [vG_39, if_pos hc234_1, if_neg hc241_1]
                  exact Go.cast J (by rw [e0])
              · refine g_iconst C (0 : Int32) iG_255 rfl ?_
                have e0 : (vG_39 wl w x cnt) = (0 : Int32) := by simp only [vG_39, if_neg hc234_1]
                exact Go.cast J (by rw [e0])
          · refine g_icmp_gt C iG_150 (fun hc150_1 => ?_) (fun hc150_1 => ?_)
            · refine g_iconst C (4 : Int32) iG_157 rfl ?_
              have e0 : (vG_3 wl w x cnt) = (4 : Int32) := by simp only [vG_3, if_pos hc150_1]
              exact Go.cast J (by rw [e0])
            · refine g_iconst C (-1 : Int32) iG_153 rfl ?_
              refine g_goto C iG_154 ?_
              have e0 : (vG_3 wl w x cnt) = (-1 : Int32) := by simp only [vG_3, if_neg hc150_1]
              exact Go.cast J (by rw [e0])
    · refine g_iloadN C iG_123 rfl ?_
      refine g_iconst C (3 : Int32) iG_124 rfl ?_
      refine g_icmp_le C iG_125 (fun q => absurd q (own_ltlt (a := 2) (b := 3) (by decide) hc111_1)) (fun _ => ?_)
      rcases hcnt with hq0 | hq1 | hq2
      · refine Go.cast (g' := mkF m 137 #[.val (.int p0), .val (.int p1), .val (.int p2), .val (.int wl), .val (.int mm), .val (.int w), .val (.int x), .val (.int (0 : Int32)), .val (.ref b17), .val (.ref b20), .val (.ref b22), .val (.ref b24), .unset, .unset, .unset, .unset, .unset, .unset] []) ?_ (by rw [hq0])
        refine g_aload C iG_137 rfl rfl ?_
        refine g_aload C iG_139 rfl rfl ?_
        refine g_iload C iG_141 rfl ?_
        refine g_iload C iG_143 rfl ?_
        refine g_callV C (rmR0 l Z aZ hw b24 b17 w h27 n0 Z27) (a := b24) iG_145 (hw _ (List.mem_of_getElem? (i := 27) rfl)) (hw _ (List.mem_of_getElem? (i := 28) rfl)) (fun s hZ => notFace_of_selects (args := #[]) (mvT hZ (hw _ (List.mem_of_getElem? (i := 30) rfl)))) (hw _ (List.mem_of_getElem? (i := 30) rfl)) (hw _ (List.mem_of_getElem? (i := 29) rfl)) (hw _ (List.mem_of_getElem? (i := 8) rfl)) (hw _ (List.mem_of_getElem? (i := 31) rfl)) (by decide) E_b24_cC27 (argsL := [(.ref b17), (.int (0 : Int32)), (.int w)]) (rest := []) rfl rfl pd3 rfl rfl 0 (Nat.le_of_eq rfl) (by decide) (by decide) (by decide) (by decide) rfl rfl ?_
        rintro _ _ ⟨rfl, he60⟩
        refine Go.heap he60.symm ?_
        refine Go.none' ?_
        refine g_iloadN C iG_148 rfl ?_
        refine g_iconst C (4 : Int32) iG_149 rfl ?_
        refine Go.join (mkF m 158 #[.val (.int p0), .val (.int p1), .val (.int p2), .val (.int wl), .val (.int mm), .val (.int w), .val (.int x), .val (.int (0 : Int32)), .val (.ref b17), .val (.ref b20), .val (.ref b22), .val (.ref b24), .unset, .unset, .unset, .unset, .unset, .unset] [(.int (vG_3 wl w x cnt))]) ?_ (fun J => ?_)
        · refine g_istore C (Ls' := #[.val (.int p0), .val (.int p1), .val (.int p2), .val (.int wl), .val (.int mm), .val (.int w), .val (.int x), .val (.int (0 : Int32)), .val (.ref b17), .val (.ref b20), .val (.ref b22), .val (.ref b24), .val (.int (vG_3 wl w x cnt)), .unset, .unset, .unset, .unset, .unset]) iG_158 rfl ?_
          refine g_aload C iG_160 rfl rfl ?_
          refine g_aload C iG_162 rfl rfl ?_
          refine g_iconst C (1 : Int32) iG_164 rfl ?_
          refine g_callV C (rmF1 l Z aZ hw b24 b20 ((wl + (63 : Int32)) / (64 : Int32)) (vI_1 wl (0 : Int32) (0 : Int64)) r25_fb0 ((2 : Int32) * ((wl + (63 : Int32)) / (64 : Int32))).toNatClampNeg (vT_3 (1 : Int32) 2 ((2 : Int32) * ((wl + (63 : Int32)) / (64 : Int32))).toNatClampNeg (vG_1 wl w x cnt) ((wl + (63 : Int32)) / (64 : Int32)) (vT_3 (0 : Int32) 2 ((2 : Int32) * ((wl + (63 : Int32)) / (64 : Int32))).toNatClampNeg (vG_1 wl w x cnt) ((wl + (63 : Int32)) / (64 : Int32)) (fun _ => (0 : Int64)))) 1 (vG_0 wl w x cnt) h27 n0 Z27 F_words_b24_cC27 F_used_b24_cC27 F_lastWord_b24_cC27 P27_0 V_b20_cC27 (own_wo hwl) (by decide) (own_hF1 hwl _ hx)) (a := b24) iG_165 (hw _ (List.mem_of_getElem? (i := 33) rfl)) (hw _ (List.mem_of_getElem? (i := 34) rfl)) (fun s hZ => notFace_of_selects (args := #[]) (mvT hZ (hw _ (List.mem_of_getElem? (i := 36) rfl)))) (hw _ (List.mem_of_getElem? (i := 36) rfl)) (hw _ (List.mem_of_getElem? (i := 35) rfl)) (hw _ (List.mem_of_getElem? (i := 8) rfl)) (hw _ (List.mem_of_getElem? (i := 37) rfl)) (by decide) E_b24_cC27 (argsL := [(.ref b20), (.int (1 : Int32))]) (rest := []) rfl rfl pd4 rfl rfl 0 (Nat.le_of_eq rfl) (by decide) (by decide) (by decide) (by decide) rfl rfl ?_
          rintro _ _ ⟨rfl, he61⟩
          refine Go.heap he61.symm ?_
          refine Go.some' ?_
          refine g_istore C (Ls' := #[.val (.int p0), .val (.int p1), .val (.int p2), .val (.int wl), .val (.int mm), .val (.int w), .val (.int x), .val (.int (0 : Int32)), .val (.ref b17), .val (.ref b20), .val (.ref b22), .val (.ref b24), .val (.int (vG_3 wl w x cnt)), .val (.int (vG_40 wl w x cnt)), .unset, .unset, .unset, .unset]) iG_168 rfl ?_
          refine g_aload C iG_170 rfl rfl ?_
          refine g_aload C iG_172 rfl rfl ?_
          refine g_iconst C (1 : Int32) iG_174 rfl ?_
          refine g_callV C (rmF1 l Z aZ hw b24 b22 ((wl + (63 : Int32)) / (64 : Int32)) (vI_1 wl (0 : Int32) (0 : Int64)) r25_fb0 ((2 : Int32) * ((wl + (63 : Int32)) / (64 : Int32))).toNatClampNeg (vT_3 (1 : Int32) 2 ((2 : Int32) * ((wl + (63 : Int32)) / (64 : Int32))).toNatClampNeg (vG_1 wl w x cnt) ((wl + (63 : Int32)) / (64 : Int32)) (vT_3 (0 : Int32) 2 ((2 : Int32) * ((wl + (63 : Int32)) / (64 : Int32))).toNatClampNeg (vG_1 wl w x cnt) ((wl + (63 : Int32)) / (64 : Int32)) (fun _ => (0 : Int64)))) 1 (vG_2 wl w x cnt) h27 n0 Z27 F_words_b24_cC27 F_used_b24_cC27 F_lastWord_b24_cC27 P27_0 V_b22_cC27 (own_wo hwl) (by decide) (own_hF1 hwl _ (own_l1 hx))) (a := b24) iG_175 (hw _ (List.mem_of_getElem? (i := 33) rfl)) (hw _ (List.mem_of_getElem? (i := 34) rfl)) (fun s hZ => notFace_of_selects (args := #[]) (mvT hZ (hw _ (List.mem_of_getElem? (i := 36) rfl)))) (hw _ (List.mem_of_getElem? (i := 36) rfl)) (hw _ (List.mem_of_getElem? (i := 35) rfl)) (hw _ (List.mem_of_getElem? (i := 8) rfl)) (hw _ (List.mem_of_getElem? (i := 37) rfl)) (by decide) E_b24_cC27 (argsL := [(.ref b22), (.int (1 : Int32))]) (rest := []) rfl rfl pd4 rfl rfl 0 (Nat.le_of_eq rfl) (by decide) (by decide) (by decide) (by decide) rfl rfl ?_
          rintro _ _ ⟨rfl, he62⟩
          refine Go.heap he62.symm ?_
          refine Go.some' ?_
          refine g_istore C (Ls' := #[.val (.int p0), .val (.int p1), .val (.int p2), .val (.int wl), .val (.int mm), .val (.int w), .val (.int x), .val (.int (0 : Int32)), .val (.ref b17), .val (.ref b20), .val (.ref b22), .val (.ref b24), .val (.int (vG_3 wl w x cnt)), .val (.int (vG_40 wl w x cnt)), .val (.int (vG_41 wl w x cnt)), .unset, .unset, .unset]) iG_178 rfl ?_
          refine g_iload C iG_180 rfl ?_
          refine g_iconst C (1 : Int32) iG_182 rfl ?_
          refine g_icmp_lt C iG_183 (fun _ => ?_) (fun q => absurd (by decide) q)
          refine g_iload C iG_191 rfl ?_
          refine g_istore C (Ls' := #[.val (.int p0), .val (.int p1), .val (.int p2), .val (.int wl), .val (.int mm), .val (.int w), .val (.int x), .val (.int (0 : Int32)), .val (.ref b17), .val (.ref b20), .val (.ref b22), .val (.ref b24), .val (.int (vG_3 wl w x cnt)), .val (.int (vG_40 wl w x cnt)), .val (.int (vG_41 wl w x cnt)), .val (.int (vG_3 wl w x cnt)), .unset, .unset]) iG_193 rfl ?_
          refine g_iload C iG_195 rfl ?_
          refine g_iconst C (2 : Int32) iG_197 rfl ?_
          refine g_icmp_lt C iG_198 (fun _ => ?_) (fun q => absurd (by decide) q)
          refine g_iload C iG_206 rfl ?_
          refine g_istore C (Ls' := #[.val (.int p0), .val (.int p1), .val (.int p2), .val (.int wl), .val (.int mm), .val (.int w), .val (.int x), .val (.int (0 : Int32)), .val (.ref b17), .val (.ref b20), .val (.ref b22), .val (.ref b24), .val (.int (vG_3 wl w x cnt)), .val (.int (vG_40 wl w x cnt)), .val (.int (vG_41 wl w x cnt)), .val (.int (vG_3 wl w x cnt)), .val (.int (vG_3 wl w x cnt)), .unset]) iG_208 rfl ?_
          refine g_aload C iG_210 rfl rfl ?_
          refine g_aload C iG_212 rfl rfl ?_
          refine g_iconst C (2 : Int32) iG_214 rfl ?_
          refine g_iload C iG_215 rfl ?_
          refine g_callV C (rmT l Z aZ hw b24 b17 w 2 ((2 : Int32) * ((wl + (63 : Int32)) / (64 : Int32))).toNatClampNeg (vG_1 wl w x cnt) ((wl + (63 : Int32)) / (64 : Int32)) r25_fb0 (vT_3 (1 : Int32) 2 ((2 : Int32) * ((wl + (63 : Int32)) / (64 : Int32))).toNatClampNeg (vG_1 wl w x cnt) ((wl + (63 : Int32)) / (64 : Int32)) (vT_3 (0 : Int32) 2 ((2 : Int32) * ((wl + (63 : Int32)) / (64 : Int32))).toNatClampNeg (vG_1 wl w x cnt) ((wl + (63 : Int32)) / (64 : Int32)) (fun _ => (0 : Int64)))) h27 n0 Z27 rfl (own_hin hwl _ hx _ hw4) (own_hin hwl _ (own_l1 hx) _ hw4) F_used_b24_cC27 V_b17_cC27 F_words_b24_cC27 P27_0 ge25_fb0 ne_b24_r25_fb0 ne_b17_r25_fb0) (a := b24) iG_217 (hw _ (List.mem_of_getElem? (i := 22) rfl)) (hw _ (List.mem_of_getElem? (i := 23) rfl)) (fun s hZ => notFace_of_selects (args := #[]) (mvT hZ (hw _ (List.mem_of_getElem? (i := 25) rfl)))) (hw _ (List.mem_of_getElem? (i := 25) rfl)) (hw _ (List.mem_of_getElem? (i := 24) rfl)) (hw _ (List.mem_of_getElem? (i := 8) rfl)) (hw _ (List.mem_of_getElem? (i := 26) rfl)) (by decide) E_b24_cC27 (argsL := [(.ref b17), (.int (2 : Int32)), (.int w)]) (rest := []) rfl rfl pd3 rfl rfl 0 (Nat.le_of_eq rfl) (by decide) (by decide) (by decide) (by decide) rfl rfl ?_
          rintro _ h63 ⟨rfl, KC63, P63_0⟩
          refine Go.none' ?_
          have V_b17_cC63 := AV.keep V_b17_cC27 KC63 (ninS ne_b17_r25_fb0 nin0)
          have V_b20_cC63 := AV.keep V_b20_cC27 KC63 (ninS ne_b20_r25_fb0 nin0)
          have V_b22_cC63 := AV.keep V_b22_cC27 KC63 (ninS ne_b22_r25_fb0 nin0)
          have E_b24_cC63 := Exa.keep E_b24_cC27 KC63
          have F_words_b24_cC63 := Fld.keep F_words_b24_cC27 KC63 (ninS ne_b24_r25_fb0 nin0)
          have F_used_b24_cC63 := Fld.keep F_used_b24_cC27 KC63 (ninS ne_b24_r25_fb0 nin0)
          have F_lastWord_b24_cC63 := Fld.keep F_lastWord_b24_cC27 KC63 (ninS ne_b24_r25_fb0 nin0)
          have K63 := Keep.trans K27 KC63 (allS (Or.inr fr25_fb0) all0)
          have Z63 : n0 ≤ h63.size := Nat.le_trans Z27 KC63.1
          refine g_aload C iG_220 rfl rfl ?_
          refine g_aload C iG_222 rfl rfl ?_
          refine g_iconst C (2 : Int32) iG_224 rfl ?_
          refine g_callV C (rmF2 l Z aZ hw b24 b17 ((wl + (63 : Int32)) / (64 : Int32)) (vI_1 wl (0 : Int32) (0 : Int64)) r25_fb0 ((2 : Int32) * ((wl + (63 : Int32)) / (64 : Int32))).toNatClampNeg (vT_3 w 2 ((2 : Int32) * ((wl + (63 : Int32)) / (64 : Int32))).toNatClampNeg (vG_1 wl w x cnt) ((wl + (63 : Int32)) / (64 : Int32)) (vT_3 (1 : Int32) 2 ((2 : Int32) * ((wl + (63 : Int32)) / (64 : Int32))).toNatClampNeg (vG_1 wl w x cnt) ((wl + (63 : Int32)) / (64 : Int32)) (vT_3 (0 : Int32) 2 ((2 : Int32) * ((wl + (63 : Int32)) / (64 : Int32))).toNatClampNeg (vG_1 wl w x cnt) ((wl + (63 : Int32)) / (64 : Int32)) (fun _ => (0 : Int64))))) 2 (vG_1 wl w x cnt) h63 n0 Z63 F_words_b24_cC63 F_used_b24_cC63 F_lastWord_b24_cC63 P63_0 V_b17_cC63 (own_wo hwl) (by decide) (own_hF2 hwl _ hx (own_l1 hx))) (a := b24) iG_225 (hw _ (List.mem_of_getElem? (i := 33) rfl)) (hw _ (List.mem_of_getElem? (i := 34) rfl)) (fun s hZ => notFace_of_selects (args := #[]) (mvT hZ (hw _ (List.mem_of_getElem? (i := 36) rfl)))) (hw _ (List.mem_of_getElem? (i := 36) rfl)) (hw _ (List.mem_of_getElem? (i := 35) rfl)) (hw _ (List.mem_of_getElem? (i := 8) rfl)) (hw _ (List.mem_of_getElem? (i := 37) rfl)) (by decide) E_b24_cC63 (argsL := [(.ref b17), (.int (2 : Int32))]) (rest := []) rfl rfl pd4 rfl rfl 0 (Nat.le_of_eq rfl) (by decide) (by decide) (by decide) (by decide) rfl rfl ?_
          rintro _ _ ⟨rfl, he64⟩
          refine Go.heap he64.symm ?_
          refine Go.some' ?_
          refine g_istore C (Ls' := #[.val (.int p0), .val (.int p1), .val (.int p2), .val (.int wl), .val (.int mm), .val (.int w), .val (.int x), .val (.int (0 : Int32)), .val (.ref b17), .val (.ref b20), .val (.ref b22), .val (.ref b24), .val (.int (vG_3 wl w x cnt)), .val (.int (vG_40 wl w x cnt)), .val (.int (vG_41 wl w x cnt)), .val (.int (vG_3 wl w x cnt)), .val (.int (vG_3 wl w x cnt)), .val (.int (vG_42 wl w x cnt))]) iG_228 rfl ?_
          refine g_iload C iG_230 rfl ?_
          refine g_iload C iG_232 rfl ?_
          refine Go.join (mkF m 256 #[.val (.int p0), .val (.int p1), .val (.int p2), .val (.int wl), .val (.int mm), .val (.int w), .val (.int x), .val (.int (0 : Int32)), .val (.ref b17), .val (.ref b20), .val (.ref b22), .val (.ref b24), .val (.int (vG_3 wl w x cnt)), .val (.int (vG_40 wl w x cnt)), .val (.int (vG_41 wl w x cnt)), .val (.int (vG_3 wl w x cnt)), .val (.int (vG_3 wl w x cnt)), .val (.int (vG_42 wl w x cnt))] [(.int (vG_45 wl w x cnt))]) ?_ (fun J => ?_)
          · exact g_retNar C (t := .boolean) iG_256 rfl (by simp) (by decide) (by decide) (show _ = _ from congrArg (fun z => some (Value.int z)) (leafG_6 wl w x cnt hwl hw4 hwm hx hc97_1 hc111_1 hq0))
          · refine g_icmp_ne C iG_234 (fun hc234_1 => ?_) (fun hc234_1 => ?_)
            · refine g_iload C iG_237 rfl ?_
              refine g_iload C iG_239 rfl ?_
              refine g_icmp_ne C iG_241 (fun hc241_1 => ?_) (fun hc241_1 => ?_)
              · refine g_iload C iG_244 rfl ?_
                refine g_iload C iG_246 rfl ?_
                refine g_icmp_ne C iG_248 (fun hc248_1 => ?_) (fun hc248_1 => ?_)
                · refine g_iconst C (1 : Int32) iG_251 rfl ?_
                  refine g_goto C iG_252 ?_
                  have e0 : (vG_45 wl w x cnt) = (1 : Int32) := by simp only [vG_45, if_pos hc234_1, if_pos hc241_1, if_pos hc248_1]
                  exact Go.cast J (by rw [e0])
                · refine g_iconst C (0 : Int32) iG_255 rfl ?_
                  have e0 : (vG_45 wl w x cnt) = (0 : Int32) := by simp only [vG_45, if_pos hc234_1, if_pos hc241_1, if_neg hc248_1]
                  exact Go.cast J (by rw [e0])
              · refine g_iconst C (0 : Int32) iG_255 rfl ?_
                have e0 : (vG_45 wl w x cnt) = (0 : Int32) := by simp only [vG_45, if_pos hc234_1, if_neg hc241_1]
                exact Go.cast J (by rw [e0])
            · refine g_iconst C (0 : Int32) iG_255 rfl ?_
              have e0 : (vG_45 wl w x cnt) = (0 : Int32) := by simp only [vG_45, if_neg hc234_1]
              exact Go.cast J (by rw [e0])
        · refine g_icmp_gt C iG_150 (fun hc150_1 => ?_) (fun hc150_1 => ?_)
          · refine g_iconst C (4 : Int32) iG_157 rfl ?_
            have e0 : (vG_3 wl w x cnt) = (4 : Int32) := by simp only [vG_3, if_pos hc150_1]
            exact Go.cast J (by rw [e0])
          · refine g_iconst C (-1 : Int32) iG_153 rfl ?_
            refine g_goto C iG_154 ?_
            have e0 : (vG_3 wl w x cnt) = (-1 : Int32) := by simp only [vG_3, if_neg hc150_1]
            exact Go.cast J (by rw [e0])
      · refine Go.cast (g' := mkF m 137 #[.val (.int p0), .val (.int p1), .val (.int p2), .val (.int wl), .val (.int mm), .val (.int w), .val (.int x), .val (.int (1 : Int32)), .val (.ref b17), .val (.ref b20), .val (.ref b22), .val (.ref b24), .unset, .unset, .unset, .unset, .unset, .unset] []) ?_ (by rw [hq1])
        refine g_aload C iG_137 rfl rfl ?_
        refine g_aload C iG_139 rfl rfl ?_
        refine g_iload C iG_141 rfl ?_
        refine g_iload C iG_143 rfl ?_
        refine g_callV C (rmR1 l Z aZ hw b24 b17 w 2 ((2 : Int32) * ((wl + (63 : Int32)) / (64 : Int32))).toNatClampNeg (vG_1 wl w x cnt) ((wl + (63 : Int32)) / (64 : Int32)) r25_fb0 (vT_3 (1 : Int32) 2 ((2 : Int32) * ((wl + (63 : Int32)) / (64 : Int32))).toNatClampNeg (vG_1 wl w x cnt) ((wl + (63 : Int32)) / (64 : Int32)) (vT_3 (0 : Int32) 2 ((2 : Int32) * ((wl + (63 : Int32)) / (64 : Int32))).toNatClampNeg (vG_1 wl w x cnt) ((wl + (63 : Int32)) / (64 : Int32)) (fun _ => (0 : Int64)))) h27 n0 Z27 rfl (own_hin hwl _ hx _ hw4) F_used_b24_cC27 V_b17_cC27 F_words_b24_cC27 P27_0 ge25_fb0 ne_b24_r25_fb0 ne_b17_r25_fb0) (a := b24) iG_145 (hw _ (List.mem_of_getElem? (i := 27) rfl)) (hw _ (List.mem_of_getElem? (i := 28) rfl)) (fun s hZ => notFace_of_selects (args := #[]) (mvT hZ (hw _ (List.mem_of_getElem? (i := 30) rfl)))) (hw _ (List.mem_of_getElem? (i := 30) rfl)) (hw _ (List.mem_of_getElem? (i := 29) rfl)) (hw _ (List.mem_of_getElem? (i := 8) rfl)) (hw _ (List.mem_of_getElem? (i := 31) rfl)) (by decide) E_b24_cC27 (argsL := [(.ref b17), (.int (1 : Int32)), (.int w)]) (rest := []) rfl rfl pd3 rfl rfl 0 (Nat.le_of_eq rfl) (by decide) (by decide) (by decide) (by decide) rfl rfl ?_
        rintro _ h65 ⟨rfl, KC65, P65_0⟩
        refine Go.none' ?_
        have V_b17_cC65 := AV.keep V_b17_cC27 KC65 (ninS ne_b17_r25_fb0 nin0)
        have V_b20_cC65 := AV.keep V_b20_cC27 KC65 (ninS ne_b20_r25_fb0 nin0)
        have V_b22_cC65 := AV.keep V_b22_cC27 KC65 (ninS ne_b22_r25_fb0 nin0)
        have E_b24_cC65 := Exa.keep E_b24_cC27 KC65
        have F_words_b24_cC65 := Fld.keep F_words_b24_cC27 KC65 (ninS ne_b24_r25_fb0 nin0)
        have F_used_b24_cC65 := Fld.keep F_used_b24_cC27 KC65 (ninS ne_b24_r25_fb0 nin0)
        have F_lastWord_b24_cC65 := Fld.keep F_lastWord_b24_cC27 KC65 (ninS ne_b24_r25_fb0 nin0)
        have K65 := Keep.trans K27 KC65 (allS (Or.inr fr25_fb0) all0)
        have Z65 : n0 ≤ h65.size := Nat.le_trans Z27 KC65.1
        refine g_iloadN C iG_148 rfl ?_
        refine g_iconst C (4 : Int32) iG_149 rfl ?_
        refine Go.join (mkF m 158 #[.val (.int p0), .val (.int p1), .val (.int p2), .val (.int wl), .val (.int mm), .val (.int w), .val (.int x), .val (.int (1 : Int32)), .val (.ref b17), .val (.ref b20), .val (.ref b22), .val (.ref b24), .unset, .unset, .unset, .unset, .unset, .unset] [(.int (vG_3 wl w x cnt))]) ?_ (fun J => ?_)
        · refine g_istore C (Ls' := #[.val (.int p0), .val (.int p1), .val (.int p2), .val (.int wl), .val (.int mm), .val (.int w), .val (.int x), .val (.int (1 : Int32)), .val (.ref b17), .val (.ref b20), .val (.ref b22), .val (.ref b24), .val (.int (vG_3 wl w x cnt)), .unset, .unset, .unset, .unset, .unset]) iG_158 rfl ?_
          refine g_aload C iG_160 rfl rfl ?_
          refine g_aload C iG_162 rfl rfl ?_
          refine g_iconst C (1 : Int32) iG_164 rfl ?_
          refine g_callV C (rmF1 l Z aZ hw b24 b20 ((wl + (63 : Int32)) / (64 : Int32)) (vI_1 wl (0 : Int32) (0 : Int64)) r25_fb0 ((2 : Int32) * ((wl + (63 : Int32)) / (64 : Int32))).toNatClampNeg (vR1_1 w 2 ((2 : Int32) * ((wl + (63 : Int32)) / (64 : Int32))).toNatClampNeg (vG_1 wl w x cnt) ((wl + (63 : Int32)) / (64 : Int32)) (vT_3 (1 : Int32) 2 ((2 : Int32) * ((wl + (63 : Int32)) / (64 : Int32))).toNatClampNeg (vG_1 wl w x cnt) ((wl + (63 : Int32)) / (64 : Int32)) (vT_3 (0 : Int32) 2 ((2 : Int32) * ((wl + (63 : Int32)) / (64 : Int32))).toNatClampNeg (vG_1 wl w x cnt) ((wl + (63 : Int32)) / (64 : Int32)) (fun _ => (0 : Int64))))) 1 (vG_0 wl w x cnt) h65 n0 Z65 F_words_b24_cC65 F_used_b24_cC65 F_lastWord_b24_cC65 P65_0 V_b20_cC65 (own_wo hwl) (by decide) (own_hF1 hwl _ hx)) (a := b24) iG_165 (hw _ (List.mem_of_getElem? (i := 33) rfl)) (hw _ (List.mem_of_getElem? (i := 34) rfl)) (fun s hZ => notFace_of_selects (args := #[]) (mvT hZ (hw _ (List.mem_of_getElem? (i := 36) rfl)))) (hw _ (List.mem_of_getElem? (i := 36) rfl)) (hw _ (List.mem_of_getElem? (i := 35) rfl)) (hw _ (List.mem_of_getElem? (i := 8) rfl)) (hw _ (List.mem_of_getElem? (i := 37) rfl)) (by decide) E_b24_cC65 (argsL := [(.ref b20), (.int (1 : Int32))]) (rest := []) rfl rfl pd4 rfl rfl 0 (Nat.le_of_eq rfl) (by decide) (by decide) (by decide) (by decide) rfl rfl ?_
          rintro _ _ ⟨rfl, he66⟩
          refine Go.heap he66.symm ?_
          refine Go.some' ?_
          refine g_istore C (Ls' := #[.val (.int p0), .val (.int p1), .val (.int p2), .val (.int wl), .val (.int mm), .val (.int w), .val (.int x), .val (.int (1 : Int32)), .val (.ref b17), .val (.ref b20), .val (.ref b22), .val (.ref b24), .val (.int (vG_3 wl w x cnt)), .val (.int (vG_46 wl w x cnt)), .unset, .unset, .unset, .unset]) iG_168 rfl ?_
          refine g_aload C iG_170 rfl rfl ?_
          refine g_aload C iG_172 rfl rfl ?_
          refine g_iconst C (1 : Int32) iG_174 rfl ?_
          refine g_callV C (rmF1 l Z aZ hw b24 b22 ((wl + (63 : Int32)) / (64 : Int32)) (vI_1 wl (0 : Int32) (0 : Int64)) r25_fb0 ((2 : Int32) * ((wl + (63 : Int32)) / (64 : Int32))).toNatClampNeg (vR1_1 w 2 ((2 : Int32) * ((wl + (63 : Int32)) / (64 : Int32))).toNatClampNeg (vG_1 wl w x cnt) ((wl + (63 : Int32)) / (64 : Int32)) (vT_3 (1 : Int32) 2 ((2 : Int32) * ((wl + (63 : Int32)) / (64 : Int32))).toNatClampNeg (vG_1 wl w x cnt) ((wl + (63 : Int32)) / (64 : Int32)) (vT_3 (0 : Int32) 2 ((2 : Int32) * ((wl + (63 : Int32)) / (64 : Int32))).toNatClampNeg (vG_1 wl w x cnt) ((wl + (63 : Int32)) / (64 : Int32)) (fun _ => (0 : Int64))))) 1 (vG_2 wl w x cnt) h65 n0 Z65 F_words_b24_cC65 F_used_b24_cC65 F_lastWord_b24_cC65 P65_0 V_b22_cC65 (own_wo hwl) (by decide) (own_hF1 hwl _ (own_l1 hx))) (a := b24) iG_175 (hw _ (List.mem_of_getElem? (i := 33) rfl)) (hw _ (List.mem_of_getElem? (i := 34) rfl)) (fun s hZ => notFace_of_selects (args := #[]) (mvT hZ (hw _ (List.mem_of_getElem? (i := 36) rfl)))) (hw _ (List.mem_of_getElem? (i := 36) rfl)) (hw _ (List.mem_of_getElem? (i := 35) rfl)) (hw _ (List.mem_of_getElem? (i := 8) rfl)) (hw _ (List.mem_of_getElem? (i := 37) rfl)) (by decide) E_b24_cC65 (argsL := [(.ref b22), (.int (1 : Int32))]) (rest := []) rfl rfl pd4 rfl rfl 0 (Nat.le_of_eq rfl) (by decide) (by decide) (by decide) (by decide) rfl rfl ?_
          rintro _ _ ⟨rfl, he67⟩
          refine Go.heap he67.symm ?_
          refine Go.some' ?_
          refine g_istore C (Ls' := #[.val (.int p0), .val (.int p1), .val (.int p2), .val (.int wl), .val (.int mm), .val (.int w), .val (.int x), .val (.int (1 : Int32)), .val (.ref b17), .val (.ref b20), .val (.ref b22), .val (.ref b24), .val (.int (vG_3 wl w x cnt)), .val (.int (vG_46 wl w x cnt)), .val (.int (vG_47 wl w x cnt)), .unset, .unset, .unset]) iG_178 rfl ?_
          refine g_iload C iG_180 rfl ?_
          refine g_iconst C (1 : Int32) iG_182 rfl ?_
          refine g_icmp_lt C iG_183 (fun q => absurd q (by decide)) (fun _ => ?_)
          refine g_iload C iG_186 rfl ?_
          refine g_goto C iG_188 ?_
          refine g_istore C (Ls' := #[.val (.int p0), .val (.int p1), .val (.int p2), .val (.int wl), .val (.int mm), .val (.int w), .val (.int x), .val (.int (1 : Int32)), .val (.ref b17), .val (.ref b20), .val (.ref b22), .val (.ref b24), .val (.int (vG_3 wl w x cnt)), .val (.int (vG_46 wl w x cnt)), .val (.int (vG_47 wl w x cnt)), .val (.int w), .unset, .unset]) iG_193 rfl ?_
          refine g_iload C iG_195 rfl ?_
          refine g_iconst C (2 : Int32) iG_197 rfl ?_
          refine g_icmp_lt C iG_198 (fun _ => ?_) (fun q => absurd (by decide) q)
          refine g_iload C iG_206 rfl ?_
          refine g_istore C (Ls' := #[.val (.int p0), .val (.int p1), .val (.int p2), .val (.int wl), .val (.int mm), .val (.int w), .val (.int x), .val (.int (1 : Int32)), .val (.ref b17), .val (.ref b20), .val (.ref b22), .val (.ref b24), .val (.int (vG_3 wl w x cnt)), .val (.int (vG_46 wl w x cnt)), .val (.int (vG_47 wl w x cnt)), .val (.int w), .val (.int (vG_3 wl w x cnt)), .unset]) iG_208 rfl ?_
          refine g_aload C iG_210 rfl rfl ?_
          refine g_aload C iG_212 rfl rfl ?_
          refine g_iconst C (2 : Int32) iG_214 rfl ?_
          refine g_iload C iG_215 rfl ?_
          refine g_callV C (rmT l Z aZ hw b24 b17 w 2 ((2 : Int32) * ((wl + (63 : Int32)) / (64 : Int32))).toNatClampNeg (vG_1 wl w x cnt) ((wl + (63 : Int32)) / (64 : Int32)) r25_fb0 (vR1_1 w 2 ((2 : Int32) * ((wl + (63 : Int32)) / (64 : Int32))).toNatClampNeg (vG_1 wl w x cnt) ((wl + (63 : Int32)) / (64 : Int32)) (vT_3 (1 : Int32) 2 ((2 : Int32) * ((wl + (63 : Int32)) / (64 : Int32))).toNatClampNeg (vG_1 wl w x cnt) ((wl + (63 : Int32)) / (64 : Int32)) (vT_3 (0 : Int32) 2 ((2 : Int32) * ((wl + (63 : Int32)) / (64 : Int32))).toNatClampNeg (vG_1 wl w x cnt) ((wl + (63 : Int32)) / (64 : Int32)) (fun _ => (0 : Int64))))) h65 n0 Z65 rfl (own_hin hwl _ hx _ hw4) (own_hin hwl _ (own_l1 hx) _ hw4) F_used_b24_cC65 V_b17_cC65 F_words_b24_cC65 P65_0 ge25_fb0 ne_b24_r25_fb0 ne_b17_r25_fb0) (a := b24) iG_217 (hw _ (List.mem_of_getElem? (i := 22) rfl)) (hw _ (List.mem_of_getElem? (i := 23) rfl)) (fun s hZ => notFace_of_selects (args := #[]) (mvT hZ (hw _ (List.mem_of_getElem? (i := 25) rfl)))) (hw _ (List.mem_of_getElem? (i := 25) rfl)) (hw _ (List.mem_of_getElem? (i := 24) rfl)) (hw _ (List.mem_of_getElem? (i := 8) rfl)) (hw _ (List.mem_of_getElem? (i := 26) rfl)) (by decide) E_b24_cC65 (argsL := [(.ref b17), (.int (2 : Int32)), (.int w)]) (rest := []) rfl rfl pd3 rfl rfl 0 (Nat.le_of_eq rfl) (by decide) (by decide) (by decide) (by decide) rfl rfl ?_
          rintro _ h68 ⟨rfl, KC68, P68_0⟩
          refine Go.none' ?_
          have V_b17_cC68 := AV.keep V_b17_cC65 KC68 (ninS ne_b17_r25_fb0 nin0)
          have V_b20_cC68 := AV.keep V_b20_cC65 KC68 (ninS ne_b20_r25_fb0 nin0)
          have V_b22_cC68 := AV.keep V_b22_cC65 KC68 (ninS ne_b22_r25_fb0 nin0)
          have E_b24_cC68 := Exa.keep E_b24_cC65 KC68
          have F_words_b24_cC68 := Fld.keep F_words_b24_cC65 KC68 (ninS ne_b24_r25_fb0 nin0)
          have F_used_b24_cC68 := Fld.keep F_used_b24_cC65 KC68 (ninS ne_b24_r25_fb0 nin0)
          have F_lastWord_b24_cC68 := Fld.keep F_lastWord_b24_cC65 KC68 (ninS ne_b24_r25_fb0 nin0)
          have K68 := Keep.trans K65 KC68 (allS (Or.inr fr25_fb0) all0)
          have Z68 : n0 ≤ h68.size := Nat.le_trans Z65 KC68.1
          refine g_aload C iG_220 rfl rfl ?_
          refine g_aload C iG_222 rfl rfl ?_
          refine g_iconst C (2 : Int32) iG_224 rfl ?_
          refine g_callV C (rmF2 l Z aZ hw b24 b17 ((wl + (63 : Int32)) / (64 : Int32)) (vI_1 wl (0 : Int32) (0 : Int64)) r25_fb0 ((2 : Int32) * ((wl + (63 : Int32)) / (64 : Int32))).toNatClampNeg (vT_3 w 2 ((2 : Int32) * ((wl + (63 : Int32)) / (64 : Int32))).toNatClampNeg (vG_1 wl w x cnt) ((wl + (63 : Int32)) / (64 : Int32)) (vR1_1 w 2 ((2 : Int32) * ((wl + (63 : Int32)) / (64 : Int32))).toNatClampNeg (vG_1 wl w x cnt) ((wl + (63 : Int32)) / (64 : Int32)) (vT_3 (1 : Int32) 2 ((2 : Int32) * ((wl + (63 : Int32)) / (64 : Int32))).toNatClampNeg (vG_1 wl w x cnt) ((wl + (63 : Int32)) / (64 : Int32)) (vT_3 (0 : Int32) 2 ((2 : Int32) * ((wl + (63 : Int32)) / (64 : Int32))).toNatClampNeg (vG_1 wl w x cnt) ((wl + (63 : Int32)) / (64 : Int32)) (fun _ => (0 : Int64)))))) 2 (vG_1 wl w x cnt) h68 n0 Z68 F_words_b24_cC68 F_used_b24_cC68 F_lastWord_b24_cC68 P68_0 V_b17_cC68 (own_wo hwl) (by decide) (own_hF2 hwl _ hx (own_l1 hx))) (a := b24) iG_225 (hw _ (List.mem_of_getElem? (i := 33) rfl)) (hw _ (List.mem_of_getElem? (i := 34) rfl)) (fun s hZ => notFace_of_selects (args := #[]) (mvT hZ (hw _ (List.mem_of_getElem? (i := 36) rfl)))) (hw _ (List.mem_of_getElem? (i := 36) rfl)) (hw _ (List.mem_of_getElem? (i := 35) rfl)) (hw _ (List.mem_of_getElem? (i := 8) rfl)) (hw _ (List.mem_of_getElem? (i := 37) rfl)) (by decide) E_b24_cC68 (argsL := [(.ref b17), (.int (2 : Int32))]) (rest := []) rfl rfl pd4 rfl rfl 0 (Nat.le_of_eq rfl) (by decide) (by decide) (by decide) (by decide) rfl rfl ?_
          rintro _ _ ⟨rfl, he69⟩
          refine Go.heap he69.symm ?_
          refine Go.some' ?_
          refine g_istore C (Ls' := #[.val (.int p0), .val (.int p1), .val (.int p2), .val (.int wl), .val (.int mm), .val (.int w), .val (.int x), .val (.int (1 : Int32)), .val (.ref b17), .val (.ref b20), .val (.ref b22), .val (.ref b24), .val (.int (vG_3 wl w x cnt)), .val (.int (vG_46 wl w x cnt)), .val (.int (vG_47 wl w x cnt)), .val (.int w), .val (.int (vG_3 wl w x cnt)), .val (.int (vG_48 wl w x cnt))]) iG_228 rfl ?_
          refine g_iload C iG_230 rfl ?_
          refine g_iload C iG_232 rfl ?_
          refine Go.join (mkF m 256 #[.val (.int p0), .val (.int p1), .val (.int p2), .val (.int wl), .val (.int mm), .val (.int w), .val (.int x), .val (.int (1 : Int32)), .val (.ref b17), .val (.ref b20), .val (.ref b22), .val (.ref b24), .val (.int (vG_3 wl w x cnt)), .val (.int (vG_46 wl w x cnt)), .val (.int (vG_47 wl w x cnt)), .val (.int w), .val (.int (vG_3 wl w x cnt)), .val (.int (vG_48 wl w x cnt))] [(.int (vG_51 wl w x cnt))]) ?_ (fun J => ?_)
          · exact g_retNar C (t := .boolean) iG_256 rfl (by simp) (by decide) (by decide) (show _ = _ from congrArg (fun z => some (Value.int z)) (leafG_7 wl w x cnt hwl hw4 hwm hx hc97_1 hc111_1 hq1))
          · refine g_icmp_ne C iG_234 (fun hc234_1 => ?_) (fun hc234_1 => ?_)
            · refine g_iload C iG_237 rfl ?_
              refine g_iload C iG_239 rfl ?_
              refine g_icmp_ne C iG_241 (fun hc241_1 => ?_) (fun hc241_1 => ?_)
              · refine g_iload C iG_244 rfl ?_
                refine g_iload C iG_246 rfl ?_
                refine g_icmp_ne C iG_248 (fun hc248_1 => ?_) (fun hc248_1 => ?_)
                · refine g_iconst C (1 : Int32) iG_251 rfl ?_
                  refine g_goto C iG_252 ?_
                  have e0 : (vG_51 wl w x cnt) = (1 : Int32) := by simp only [vG_51, if_pos hc234_1, if_pos hc241_1, if_pos hc248_1]
                  exact Go.cast J (by rw [e0])
                · refine g_iconst C (0 : Int32) iG_255 rfl ?_
                  have e0 : (vG_51 wl w x cnt) = (0 : Int32) := by simp only [vG_51, if_pos hc234_1, if_pos hc241_1, if_neg hc248_1]
                  exact Go.cast J (by rw [e0])
              · refine g_iconst C (0 : Int32) iG_255 rfl ?_
                have e0 : (vG_51 wl w x cnt) = (0 : Int32) := by simp only [vG_51, if_pos hc234_1, if_neg hc241_1]
                exact Go.cast J (by rw [e0])
            · refine g_iconst C (0 : Int32) iG_255 rfl ?_
              have e0 : (vG_51 wl w x cnt) = (0 : Int32) := by simp only [vG_51, if_neg hc234_1]
              exact Go.cast J (by rw [e0])
        · refine g_icmp_gt C iG_150 (fun hc150_1 => ?_) (fun hc150_1 => ?_)
          · refine g_iconst C (4 : Int32) iG_157 rfl ?_
            have e0 : (vG_3 wl w x cnt) = (4 : Int32) := by simp only [vG_3, if_pos hc150_1]
            exact Go.cast J (by rw [e0])
          · refine g_iconst C (-1 : Int32) iG_153 rfl ?_
            refine g_goto C iG_154 ?_
            have e0 : (vG_3 wl w x cnt) = (-1 : Int32) := by simp only [vG_3, if_neg hc150_1]
            exact Go.cast J (by rw [e0])
      · refine Go.cast (g' := mkF m 137 #[.val (.int p0), .val (.int p1), .val (.int p2), .val (.int wl), .val (.int mm), .val (.int w), .val (.int x), .val (.int (2 : Int32)), .val (.ref b17), .val (.ref b20), .val (.ref b22), .val (.ref b24), .unset, .unset, .unset, .unset, .unset, .unset] []) ?_ (by rw [hq2])
        refine g_aload C iG_137 rfl rfl ?_
        refine g_aload C iG_139 rfl rfl ?_
        refine g_iload C iG_141 rfl ?_
        refine g_iload C iG_143 rfl ?_
        refine g_callV C (rmR2 l Z aZ hw b24 b17 w 2 ((2 : Int32) * ((wl + (63 : Int32)) / (64 : Int32))).toNatClampNeg (vG_1 wl w x cnt) ((wl + (63 : Int32)) / (64 : Int32)) r25_fb0 (vT_3 (1 : Int32) 2 ((2 : Int32) * ((wl + (63 : Int32)) / (64 : Int32))).toNatClampNeg (vG_1 wl w x cnt) ((wl + (63 : Int32)) / (64 : Int32)) (vT_3 (0 : Int32) 2 ((2 : Int32) * ((wl + (63 : Int32)) / (64 : Int32))).toNatClampNeg (vG_1 wl w x cnt) ((wl + (63 : Int32)) / (64 : Int32)) (fun _ => (0 : Int64)))) h27 n0 Z27 rfl (own_hin hwl _ hx _ hw4) (own_hin hwl _ (own_l1 hx) _ hw4) F_used_b24_cC27 V_b17_cC27 F_words_b24_cC27 P27_0 ge25_fb0 ne_b24_r25_fb0 ne_b17_r25_fb0) (a := b24) iG_145 (hw _ (List.mem_of_getElem? (i := 27) rfl)) (hw _ (List.mem_of_getElem? (i := 28) rfl)) (fun s hZ => notFace_of_selects (args := #[]) (mvT hZ (hw _ (List.mem_of_getElem? (i := 30) rfl)))) (hw _ (List.mem_of_getElem? (i := 30) rfl)) (hw _ (List.mem_of_getElem? (i := 29) rfl)) (hw _ (List.mem_of_getElem? (i := 8) rfl)) (hw _ (List.mem_of_getElem? (i := 31) rfl)) (by decide) E_b24_cC27 (argsL := [(.ref b17), (.int (2 : Int32)), (.int w)]) (rest := []) rfl rfl pd3 rfl rfl 0 (Nat.le_of_eq rfl) (by decide) (by decide) (by decide) (by decide) rfl rfl ?_
        rintro _ h70 ⟨rfl, KC70, P70_0⟩
        refine Go.none' ?_
        have V_b17_cC70 := AV.keep V_b17_cC27 KC70 (ninS ne_b17_r25_fb0 nin0)
        have V_b20_cC70 := AV.keep V_b20_cC27 KC70 (ninS ne_b20_r25_fb0 nin0)
        have V_b22_cC70 := AV.keep V_b22_cC27 KC70 (ninS ne_b22_r25_fb0 nin0)
        have E_b24_cC70 := Exa.keep E_b24_cC27 KC70
        have F_words_b24_cC70 := Fld.keep F_words_b24_cC27 KC70 (ninS ne_b24_r25_fb0 nin0)
        have F_used_b24_cC70 := Fld.keep F_used_b24_cC27 KC70 (ninS ne_b24_r25_fb0 nin0)
        have F_lastWord_b24_cC70 := Fld.keep F_lastWord_b24_cC27 KC70 (ninS ne_b24_r25_fb0 nin0)
        have K70 := Keep.trans K27 KC70 (allS (Or.inr fr25_fb0) all0)
        have Z70 : n0 ≤ h70.size := Nat.le_trans Z27 KC70.1
        refine g_iloadN C iG_148 rfl ?_
        refine g_iconst C (4 : Int32) iG_149 rfl ?_
        refine Go.join (mkF m 158 #[.val (.int p0), .val (.int p1), .val (.int p2), .val (.int wl), .val (.int mm), .val (.int w), .val (.int x), .val (.int (2 : Int32)), .val (.ref b17), .val (.ref b20), .val (.ref b22), .val (.ref b24), .unset, .unset, .unset, .unset, .unset, .unset] [(.int (vG_3 wl w x cnt))]) ?_ (fun J => ?_)
        · refine g_istore C (Ls' := #[.val (.int p0), .val (.int p1), .val (.int p2), .val (.int wl), .val (.int mm), .val (.int w), .val (.int x), .val (.int (2 : Int32)), .val (.ref b17), .val (.ref b20), .val (.ref b22), .val (.ref b24), .val (.int (vG_3 wl w x cnt)), .unset, .unset, .unset, .unset, .unset]) iG_158 rfl ?_
          refine g_aload C iG_160 rfl rfl ?_
          refine g_aload C iG_162 rfl rfl ?_
          refine g_iconst C (1 : Int32) iG_164 rfl ?_
          refine g_callV C (rmF1 l Z aZ hw b24 b20 ((wl + (63 : Int32)) / (64 : Int32)) (vI_1 wl (0 : Int32) (0 : Int64)) r25_fb0 ((2 : Int32) * ((wl + (63 : Int32)) / (64 : Int32))).toNatClampNeg (vR2_3 w 2 ((2 : Int32) * ((wl + (63 : Int32)) / (64 : Int32))).toNatClampNeg (vG_1 wl w x cnt) ((wl + (63 : Int32)) / (64 : Int32)) (vT_3 (1 : Int32) 2 ((2 : Int32) * ((wl + (63 : Int32)) / (64 : Int32))).toNatClampNeg (vG_1 wl w x cnt) ((wl + (63 : Int32)) / (64 : Int32)) (vT_3 (0 : Int32) 2 ((2 : Int32) * ((wl + (63 : Int32)) / (64 : Int32))).toNatClampNeg (vG_1 wl w x cnt) ((wl + (63 : Int32)) / (64 : Int32)) (fun _ => (0 : Int64))))) 1 (vG_0 wl w x cnt) h70 n0 Z70 F_words_b24_cC70 F_used_b24_cC70 F_lastWord_b24_cC70 P70_0 V_b20_cC70 (own_wo hwl) (by decide) (own_hF1 hwl _ hx)) (a := b24) iG_165 (hw _ (List.mem_of_getElem? (i := 33) rfl)) (hw _ (List.mem_of_getElem? (i := 34) rfl)) (fun s hZ => notFace_of_selects (args := #[]) (mvT hZ (hw _ (List.mem_of_getElem? (i := 36) rfl)))) (hw _ (List.mem_of_getElem? (i := 36) rfl)) (hw _ (List.mem_of_getElem? (i := 35) rfl)) (hw _ (List.mem_of_getElem? (i := 8) rfl)) (hw _ (List.mem_of_getElem? (i := 37) rfl)) (by decide) E_b24_cC70 (argsL := [(.ref b20), (.int (1 : Int32))]) (rest := []) rfl rfl pd4 rfl rfl 0 (Nat.le_of_eq rfl) (by decide) (by decide) (by decide) (by decide) rfl rfl ?_
          rintro _ _ ⟨rfl, he71⟩
          refine Go.heap he71.symm ?_
          refine Go.some' ?_
          refine g_istore C (Ls' := #[.val (.int p0), .val (.int p1), .val (.int p2), .val (.int wl), .val (.int mm), .val (.int w), .val (.int x), .val (.int (2 : Int32)), .val (.ref b17), .val (.ref b20), .val (.ref b22), .val (.ref b24), .val (.int (vG_3 wl w x cnt)), .val (.int (vG_52 wl w x cnt)), .unset, .unset, .unset, .unset]) iG_168 rfl ?_
          refine g_aload C iG_170 rfl rfl ?_
          refine g_aload C iG_172 rfl rfl ?_
          refine g_iconst C (1 : Int32) iG_174 rfl ?_
          refine g_callV C (rmF1 l Z aZ hw b24 b22 ((wl + (63 : Int32)) / (64 : Int32)) (vI_1 wl (0 : Int32) (0 : Int64)) r25_fb0 ((2 : Int32) * ((wl + (63 : Int32)) / (64 : Int32))).toNatClampNeg (vR2_3 w 2 ((2 : Int32) * ((wl + (63 : Int32)) / (64 : Int32))).toNatClampNeg (vG_1 wl w x cnt) ((wl + (63 : Int32)) / (64 : Int32)) (vT_3 (1 : Int32) 2 ((2 : Int32) * ((wl + (63 : Int32)) / (64 : Int32))).toNatClampNeg (vG_1 wl w x cnt) ((wl + (63 : Int32)) / (64 : Int32)) (vT_3 (0 : Int32) 2 ((2 : Int32) * ((wl + (63 : Int32)) / (64 : Int32))).toNatClampNeg (vG_1 wl w x cnt) ((wl + (63 : Int32)) / (64 : Int32)) (fun _ => (0 : Int64))))) 1 (vG_2 wl w x cnt) h70 n0 Z70 F_words_b24_cC70 F_used_b24_cC70 F_lastWord_b24_cC70 P70_0 V_b22_cC70 (own_wo hwl) (by decide) (own_hF1 hwl _ (own_l1 hx))) (a := b24) iG_175 (hw _ (List.mem_of_getElem? (i := 33) rfl)) (hw _ (List.mem_of_getElem? (i := 34) rfl)) (fun s hZ => notFace_of_selects (args := #[]) (mvT hZ (hw _ (List.mem_of_getElem? (i := 36) rfl)))) (hw _ (List.mem_of_getElem? (i := 36) rfl)) (hw _ (List.mem_of_getElem? (i := 35) rfl)) (hw _ (List.mem_of_getElem? (i := 8) rfl)) (hw _ (List.mem_of_getElem? (i := 37) rfl)) (by decide) E_b24_cC70 (argsL := [(.ref b22), (.int (1 : Int32))]) (rest := []) rfl rfl pd4 rfl rfl 0 (Nat.le_of_eq rfl) (by decide) (by decide) (by decide) (by decide) rfl rfl ?_
          rintro _ _ ⟨rfl, he72⟩
          refine Go.heap he72.symm ?_
          refine Go.some' ?_
          refine g_istore C (Ls' := #[.val (.int p0), .val (.int p1), .val (.int p2), .val (.int wl), .val (.int mm), .val (.int w), .val (.int x), .val (.int (2 : Int32)), .val (.ref b17), .val (.ref b20), .val (.ref b22), .val (.ref b24), .val (.int (vG_3 wl w x cnt)), .val (.int (vG_52 wl w x cnt)), .val (.int (vG_53 wl w x cnt)), .unset, .unset, .unset]) iG_178 rfl ?_
          refine g_iload C iG_180 rfl ?_
          refine g_iconst C (1 : Int32) iG_182 rfl ?_
          refine g_icmp_lt C iG_183 (fun q => absurd q (by decide)) (fun _ => ?_)
          refine g_iload C iG_186 rfl ?_
          refine g_goto C iG_188 ?_
          refine g_istore C (Ls' := #[.val (.int p0), .val (.int p1), .val (.int p2), .val (.int wl), .val (.int mm), .val (.int w), .val (.int x), .val (.int (2 : Int32)), .val (.ref b17), .val (.ref b20), .val (.ref b22), .val (.ref b24), .val (.int (vG_3 wl w x cnt)), .val (.int (vG_52 wl w x cnt)), .val (.int (vG_53 wl w x cnt)), .val (.int w), .unset, .unset]) iG_193 rfl ?_
          refine g_iload C iG_195 rfl ?_
          refine g_iconst C (2 : Int32) iG_197 rfl ?_
          refine g_icmp_lt C iG_198 (fun q => absurd q (by decide)) (fun _ => ?_)
          refine g_iload C iG_201 rfl ?_
          refine g_goto C iG_203 ?_
          refine g_istore C (Ls' := #[.val (.int p0), .val (.int p1), .val (.int p2), .val (.int wl), .val (.int mm), .val (.int w), .val (.int x), .val (.int (2 : Int32)), .val (.ref b17), .val (.ref b20), .val (.ref b22), .val (.ref b24), .val (.int (vG_3 wl w x cnt)), .val (.int (vG_52 wl w x cnt)), .val (.int (vG_53 wl w x cnt)), .val (.int w), .val (.int w), .unset]) iG_208 rfl ?_
          refine g_aload C iG_210 rfl rfl ?_
          refine g_aload C iG_212 rfl rfl ?_
          refine g_iconst C (2 : Int32) iG_214 rfl ?_
          refine g_iload C iG_215 rfl ?_
          refine g_callV C (rmT l Z aZ hw b24 b17 w 2 ((2 : Int32) * ((wl + (63 : Int32)) / (64 : Int32))).toNatClampNeg (vG_1 wl w x cnt) ((wl + (63 : Int32)) / (64 : Int32)) r25_fb0 (vR2_3 w 2 ((2 : Int32) * ((wl + (63 : Int32)) / (64 : Int32))).toNatClampNeg (vG_1 wl w x cnt) ((wl + (63 : Int32)) / (64 : Int32)) (vT_3 (1 : Int32) 2 ((2 : Int32) * ((wl + (63 : Int32)) / (64 : Int32))).toNatClampNeg (vG_1 wl w x cnt) ((wl + (63 : Int32)) / (64 : Int32)) (vT_3 (0 : Int32) 2 ((2 : Int32) * ((wl + (63 : Int32)) / (64 : Int32))).toNatClampNeg (vG_1 wl w x cnt) ((wl + (63 : Int32)) / (64 : Int32)) (fun _ => (0 : Int64))))) h70 n0 Z70 rfl (own_hin hwl _ hx _ hw4) (own_hin hwl _ (own_l1 hx) _ hw4) F_used_b24_cC70 V_b17_cC70 F_words_b24_cC70 P70_0 ge25_fb0 ne_b24_r25_fb0 ne_b17_r25_fb0) (a := b24) iG_217 (hw _ (List.mem_of_getElem? (i := 22) rfl)) (hw _ (List.mem_of_getElem? (i := 23) rfl)) (fun s hZ => notFace_of_selects (args := #[]) (mvT hZ (hw _ (List.mem_of_getElem? (i := 25) rfl)))) (hw _ (List.mem_of_getElem? (i := 25) rfl)) (hw _ (List.mem_of_getElem? (i := 24) rfl)) (hw _ (List.mem_of_getElem? (i := 8) rfl)) (hw _ (List.mem_of_getElem? (i := 26) rfl)) (by decide) E_b24_cC70 (argsL := [(.ref b17), (.int (2 : Int32)), (.int w)]) (rest := []) rfl rfl pd3 rfl rfl 0 (Nat.le_of_eq rfl) (by decide) (by decide) (by decide) (by decide) rfl rfl ?_
          rintro _ h73 ⟨rfl, KC73, P73_0⟩
          refine Go.none' ?_
          have V_b17_cC73 := AV.keep V_b17_cC70 KC73 (ninS ne_b17_r25_fb0 nin0)
          have V_b20_cC73 := AV.keep V_b20_cC70 KC73 (ninS ne_b20_r25_fb0 nin0)
          have V_b22_cC73 := AV.keep V_b22_cC70 KC73 (ninS ne_b22_r25_fb0 nin0)
          have E_b24_cC73 := Exa.keep E_b24_cC70 KC73
          have F_words_b24_cC73 := Fld.keep F_words_b24_cC70 KC73 (ninS ne_b24_r25_fb0 nin0)
          have F_used_b24_cC73 := Fld.keep F_used_b24_cC70 KC73 (ninS ne_b24_r25_fb0 nin0)
          have F_lastWord_b24_cC73 := Fld.keep F_lastWord_b24_cC70 KC73 (ninS ne_b24_r25_fb0 nin0)
          have K73 := Keep.trans K70 KC73 (allS (Or.inr fr25_fb0) all0)
          have Z73 : n0 ≤ h73.size := Nat.le_trans Z70 KC73.1
          refine g_aload C iG_220 rfl rfl ?_
          refine g_aload C iG_222 rfl rfl ?_
          refine g_iconst C (2 : Int32) iG_224 rfl ?_
          refine g_callV C (rmF2 l Z aZ hw b24 b17 ((wl + (63 : Int32)) / (64 : Int32)) (vI_1 wl (0 : Int32) (0 : Int64)) r25_fb0 ((2 : Int32) * ((wl + (63 : Int32)) / (64 : Int32))).toNatClampNeg (vT_3 w 2 ((2 : Int32) * ((wl + (63 : Int32)) / (64 : Int32))).toNatClampNeg (vG_1 wl w x cnt) ((wl + (63 : Int32)) / (64 : Int32)) (vR2_3 w 2 ((2 : Int32) * ((wl + (63 : Int32)) / (64 : Int32))).toNatClampNeg (vG_1 wl w x cnt) ((wl + (63 : Int32)) / (64 : Int32)) (vT_3 (1 : Int32) 2 ((2 : Int32) * ((wl + (63 : Int32)) / (64 : Int32))).toNatClampNeg (vG_1 wl w x cnt) ((wl + (63 : Int32)) / (64 : Int32)) (vT_3 (0 : Int32) 2 ((2 : Int32) * ((wl + (63 : Int32)) / (64 : Int32))).toNatClampNeg (vG_1 wl w x cnt) ((wl + (63 : Int32)) / (64 : Int32)) (fun _ => (0 : Int64)))))) 2 (vG_1 wl w x cnt) h73 n0 Z73 F_words_b24_cC73 F_used_b24_cC73 F_lastWord_b24_cC73 P73_0 V_b17_cC73 (own_wo hwl) (by decide) (own_hF2 hwl _ hx (own_l1 hx))) (a := b24) iG_225 (hw _ (List.mem_of_getElem? (i := 33) rfl)) (hw _ (List.mem_of_getElem? (i := 34) rfl)) (fun s hZ => notFace_of_selects (args := #[]) (mvT hZ (hw _ (List.mem_of_getElem? (i := 36) rfl)))) (hw _ (List.mem_of_getElem? (i := 36) rfl)) (hw _ (List.mem_of_getElem? (i := 35) rfl)) (hw _ (List.mem_of_getElem? (i := 8) rfl)) (hw _ (List.mem_of_getElem? (i := 37) rfl)) (by decide) E_b24_cC73 (argsL := [(.ref b17), (.int (2 : Int32))]) (rest := []) rfl rfl pd4 rfl rfl 0 (Nat.le_of_eq rfl) (by decide) (by decide) (by decide) (by decide) rfl rfl ?_
          rintro _ _ ⟨rfl, he74⟩
          refine Go.heap he74.symm ?_
          refine Go.some' ?_
          refine g_istore C (Ls' := #[.val (.int p0), .val (.int p1), .val (.int p2), .val (.int wl), .val (.int mm), .val (.int w), .val (.int x), .val (.int (2 : Int32)), .val (.ref b17), .val (.ref b20), .val (.ref b22), .val (.ref b24), .val (.int (vG_3 wl w x cnt)), .val (.int (vG_52 wl w x cnt)), .val (.int (vG_53 wl w x cnt)), .val (.int w), .val (.int w), .val (.int (vG_54 wl w x cnt))]) iG_228 rfl ?_
          refine g_iload C iG_230 rfl ?_
          refine g_iload C iG_232 rfl ?_
          refine Go.join (mkF m 256 #[.val (.int p0), .val (.int p1), .val (.int p2), .val (.int wl), .val (.int mm), .val (.int w), .val (.int x), .val (.int (2 : Int32)), .val (.ref b17), .val (.ref b20), .val (.ref b22), .val (.ref b24), .val (.int (vG_3 wl w x cnt)), .val (.int (vG_52 wl w x cnt)), .val (.int (vG_53 wl w x cnt)), .val (.int w), .val (.int w), .val (.int (vG_54 wl w x cnt))] [(.int (vG_57 wl w x cnt))]) ?_ (fun J => ?_)
          · exact g_retNar C (t := .boolean) iG_256 rfl (by simp) (by decide) (by decide) (show _ = _ from congrArg (fun z => some (Value.int z)) (leafG_8 wl w x cnt hwl hw4 hwm hx hc97_1 hc111_1 hq2))
          · refine g_icmp_ne C iG_234 (fun hc234_1 => ?_) (fun hc234_1 => ?_)
            · refine g_iload C iG_237 rfl ?_
              refine g_iload C iG_239 rfl ?_
              refine g_icmp_ne C iG_241 (fun hc241_1 => ?_) (fun hc241_1 => ?_)
              · refine g_iload C iG_244 rfl ?_
                refine g_iload C iG_246 rfl ?_
                refine g_icmp_ne C iG_248 (fun hc248_1 => ?_) (fun hc248_1 => ?_)
                · refine g_iconst C (1 : Int32) iG_251 rfl ?_
                  refine g_goto C iG_252 ?_
                  have e0 : (vG_57 wl w x cnt) = (1 : Int32) := by simp only [vG_57, if_pos hc234_1, if_pos hc241_1, if_pos hc248_1]
                  exact Go.cast J (by rw [e0])
                · refine g_iconst C (0 : Int32) iG_255 rfl ?_
                  have e0 : (vG_57 wl w x cnt) = (0 : Int32) := by simp only [vG_57, if_pos hc234_1, if_pos hc241_1, if_neg hc248_1]
                  exact Go.cast J (by rw [e0])
              · refine g_iconst C (0 : Int32) iG_255 rfl ?_
                have e0 : (vG_57 wl w x cnt) = (0 : Int32) := by simp only [vG_57, if_pos hc234_1, if_neg hc241_1]
                exact Go.cast J (by rw [e0])
            · refine g_iconst C (0 : Int32) iG_255 rfl ?_
              have e0 : (vG_57 wl w x cnt) = (0 : Int32) := by simp only [vG_57, if_neg hc234_1]
              exact Go.cast J (by rw [e0])
        · refine g_icmp_gt C iG_150 (fun hc150_1 => ?_) (fun hc150_1 => ?_)
          · refine g_iconst C (4 : Int32) iG_157 rfl ?_
            have e0 : (vG_3 wl w x cnt) = (4 : Int32) := by simp only [vG_3, if_pos hc150_1]
            exact Go.cast J (by rw [e0])
          · refine g_iconst C (-1 : Int32) iG_153 rfl ?_
            refine g_goto C iG_154 ?_
            have e0 : (vG_3 wl w x cnt) = (-1 : Int32) := by simp only [vG_3, if_neg hc150_1]
            exact Go.cast J (by rw [e0])
  · refine g_iloadN C iG_109 rfl ?_
    refine g_iconst C (2 : Int32) iG_110 rfl ?_
    refine g_icmp_le C iG_111 (fun q => absurd q (own_ltlt (a := 1) (b := 2) (by decide) hc97_1)) (fun _ => ?_)
    refine g_iloadN C iG_123 rfl ?_
    refine g_iconst C (3 : Int32) iG_124 rfl ?_
    refine g_icmp_le C iG_125 (fun hc125_1 => ?_) (fun hc125_1 => ?_)
    · refine g_aload C iG_128 rfl rfl ?_
      refine g_aload C iG_130 rfl rfl ?_
      refine g_iconst C (2 : Int32) iG_132 rfl ?_
      refine g_iconst C (3 : Int32) iG_133 rfl ?_
      refine g_callV C (rmT l Z aZ hw b24 b17 (3 : Int32) 2 ((2 : Int32) * ((wl + (63 : Int32)) / (64 : Int32))).toNatClampNeg (vG_1 wl w x cnt) ((wl + (63 : Int32)) / (64 : Int32)) r25_fb0 (vT_3 (0 : Int32) 2 ((2 : Int32) * ((wl + (63 : Int32)) / (64 : Int32))).toNatClampNeg (vG_1 wl w x cnt) ((wl + (63 : Int32)) / (64 : Int32)) (fun _ => (0 : Int64))) h26 n0 Z26 rfl (own_hin hwl _ hx _ (by decide)) (own_hin hwl _ (own_l1 hx) _ (by decide)) F_used_b24_cC26 V_b17_cC26 F_words_b24_cC26 P26_0 ge25_fb0 ne_b24_r25_fb0 ne_b17_r25_fb0) (a := b24) iG_134 (hw _ (List.mem_of_getElem? (i := 22) rfl)) (hw _ (List.mem_of_getElem? (i := 23) rfl)) (fun s hZ => notFace_of_selects (args := #[]) (mvT hZ (hw _ (List.mem_of_getElem? (i := 25) rfl)))) (hw _ (List.mem_of_getElem? (i := 25) rfl)) (hw _ (List.mem_of_getElem? (i := 24) rfl)) (hw _ (List.mem_of_getElem? (i := 8) rfl)) (hw _ (List.mem_of_getElem? (i := 26) rfl)) (by decide) E_b24_cC26 (argsL := [(.ref b17), (.int (2 : Int32)), (.int (3 : Int32))]) (rest := []) rfl rfl pd3 rfl rfl 0 (Nat.le_of_eq rfl) (by decide) (by decide) (by decide) (by decide) rfl rfl ?_
      rintro _ h75 ⟨rfl, KC75, P75_0⟩
      refine Go.none' ?_
      have V_b17_cC75 := AV.keep V_b17_cC26 KC75 (ninS ne_b17_r25_fb0 nin0)
      have V_b20_cC75 := AV.keep V_b20_cC26 KC75 (ninS ne_b20_r25_fb0 nin0)
      have V_b22_cC75 := AV.keep V_b22_cC26 KC75 (ninS ne_b22_r25_fb0 nin0)
      have E_b24_cC75 := Exa.keep E_b24_cC26 KC75
      have F_words_b24_cC75 := Fld.keep F_words_b24_cC26 KC75 (ninS ne_b24_r25_fb0 nin0)
      have F_used_b24_cC75 := Fld.keep F_used_b24_cC26 KC75 (ninS ne_b24_r25_fb0 nin0)
      have F_lastWord_b24_cC75 := Fld.keep F_lastWord_b24_cC26 KC75 (ninS ne_b24_r25_fb0 nin0)
      have K75 := Keep.trans K26 KC75 (allS (Or.inr fr25_fb0) all0)
      have Z75 : n0 ≤ h75.size := Nat.le_trans Z26 KC75.1
      rcases hcnt with hq0 | hq1 | hq2
      · refine Go.cast (g' := mkF m 137 #[.val (.int p0), .val (.int p1), .val (.int p2), .val (.int wl), .val (.int mm), .val (.int w), .val (.int x), .val (.int (0 : Int32)), .val (.ref b17), .val (.ref b20), .val (.ref b22), .val (.ref b24), .unset, .unset, .unset, .unset, .unset, .unset] []) ?_ (by rw [hq0])
        refine g_aload C iG_137 rfl rfl ?_
        refine g_aload C iG_139 rfl rfl ?_
        refine g_iload C iG_141 rfl ?_
        refine g_iload C iG_143 rfl ?_
        refine g_callV C (rmR0 l Z aZ hw b24 b17 w h75 n0 Z75) (a := b24) iG_145 (hw _ (List.mem_of_getElem? (i := 27) rfl)) (hw _ (List.mem_of_getElem? (i := 28) rfl)) (fun s hZ => notFace_of_selects (args := #[]) (mvT hZ (hw _ (List.mem_of_getElem? (i := 30) rfl)))) (hw _ (List.mem_of_getElem? (i := 30) rfl)) (hw _ (List.mem_of_getElem? (i := 29) rfl)) (hw _ (List.mem_of_getElem? (i := 8) rfl)) (hw _ (List.mem_of_getElem? (i := 31) rfl)) (by decide) E_b24_cC75 (argsL := [(.ref b17), (.int (0 : Int32)), (.int w)]) (rest := []) rfl rfl pd3 rfl rfl 0 (Nat.le_of_eq rfl) (by decide) (by decide) (by decide) (by decide) rfl rfl ?_
        rintro _ _ ⟨rfl, he76⟩
        refine Go.heap he76.symm ?_
        refine Go.none' ?_
        refine g_iloadN C iG_148 rfl ?_
        refine g_iconst C (4 : Int32) iG_149 rfl ?_
        refine Go.join (mkF m 158 #[.val (.int p0), .val (.int p1), .val (.int p2), .val (.int wl), .val (.int mm), .val (.int w), .val (.int x), .val (.int (0 : Int32)), .val (.ref b17), .val (.ref b20), .val (.ref b22), .val (.ref b24), .unset, .unset, .unset, .unset, .unset, .unset] [(.int (vG_3 wl w x cnt))]) ?_ (fun J => ?_)
        · refine g_istore C (Ls' := #[.val (.int p0), .val (.int p1), .val (.int p2), .val (.int wl), .val (.int mm), .val (.int w), .val (.int x), .val (.int (0 : Int32)), .val (.ref b17), .val (.ref b20), .val (.ref b22), .val (.ref b24), .val (.int (vG_3 wl w x cnt)), .unset, .unset, .unset, .unset, .unset]) iG_158 rfl ?_
          refine g_aload C iG_160 rfl rfl ?_
          refine g_aload C iG_162 rfl rfl ?_
          refine g_iconst C (1 : Int32) iG_164 rfl ?_
          refine g_callV C (rmF1 l Z aZ hw b24 b20 ((wl + (63 : Int32)) / (64 : Int32)) (vI_1 wl (0 : Int32) (0 : Int64)) r25_fb0 ((2 : Int32) * ((wl + (63 : Int32)) / (64 : Int32))).toNatClampNeg (vT_3 (3 : Int32) 2 ((2 : Int32) * ((wl + (63 : Int32)) / (64 : Int32))).toNatClampNeg (vG_1 wl w x cnt) ((wl + (63 : Int32)) / (64 : Int32)) (vT_3 (0 : Int32) 2 ((2 : Int32) * ((wl + (63 : Int32)) / (64 : Int32))).toNatClampNeg (vG_1 wl w x cnt) ((wl + (63 : Int32)) / (64 : Int32)) (fun _ => (0 : Int64)))) 1 (vG_0 wl w x cnt) h75 n0 Z75 F_words_b24_cC75 F_used_b24_cC75 F_lastWord_b24_cC75 P75_0 V_b20_cC75 (own_wo hwl) (by decide) (own_hF1 hwl _ hx)) (a := b24) iG_165 (hw _ (List.mem_of_getElem? (i := 33) rfl)) (hw _ (List.mem_of_getElem? (i := 34) rfl)) (fun s hZ => notFace_of_selects (args := #[]) (mvT hZ (hw _ (List.mem_of_getElem? (i := 36) rfl)))) (hw _ (List.mem_of_getElem? (i := 36) rfl)) (hw _ (List.mem_of_getElem? (i := 35) rfl)) (hw _ (List.mem_of_getElem? (i := 8) rfl)) (hw _ (List.mem_of_getElem? (i := 37) rfl)) (by decide) E_b24_cC75 (argsL := [(.ref b20), (.int (1 : Int32))]) (rest := []) rfl rfl pd4 rfl rfl 0 (Nat.le_of_eq rfl) (by decide) (by decide) (by decide) (by decide) rfl rfl ?_
          rintro _ _ ⟨rfl, he77⟩
          refine Go.heap he77.symm ?_
          refine Go.some' ?_
          refine g_istore C (Ls' := #[.val (.int p0), .val (.int p1), .val (.int p2), .val (.int wl), .val (.int mm), .val (.int w), .val (.int x), .val (.int (0 : Int32)), .val (.ref b17), .val (.ref b20), .val (.ref b22), .val (.ref b24), .val (.int (vG_3 wl w x cnt)), .val (.int (vG_58 wl w x cnt)), .unset, .unset, .unset, .unset]) iG_168 rfl ?_
          refine g_aload C iG_170 rfl rfl ?_
          refine g_aload C iG_172 rfl rfl ?_
          refine g_iconst C (1 : Int32) iG_174 rfl ?_
          refine g_callV C (rmF1 l Z aZ hw b24 b22 ((wl + (63 : Int32)) / (64 : Int32)) (vI_1 wl (0 : Int32) (0 : Int64)) r25_fb0 ((2 : Int32) * ((wl + (63 : Int32)) / (64 : Int32))).toNatClampNeg (vT_3 (3 : Int32) 2 ((2 : Int32) * ((wl + (63 : Int32)) / (64 : Int32))).toNatClampNeg (vG_1 wl w x cnt) ((wl + (63 : Int32)) / (64 : Int32)) (vT_3 (0 : Int32) 2 ((2 : Int32) * ((wl + (63 : Int32)) / (64 : Int32))).toNatClampNeg (vG_1 wl w x cnt) ((wl + (63 : Int32)) / (64 : Int32)) (fun _ => (0 : Int64)))) 1 (vG_2 wl w x cnt) h75 n0 Z75 F_words_b24_cC75 F_used_b24_cC75 F_lastWord_b24_cC75 P75_0 V_b22_cC75 (own_wo hwl) (by decide) (own_hF1 hwl _ (own_l1 hx))) (a := b24) iG_175 (hw _ (List.mem_of_getElem? (i := 33) rfl)) (hw _ (List.mem_of_getElem? (i := 34) rfl)) (fun s hZ => notFace_of_selects (args := #[]) (mvT hZ (hw _ (List.mem_of_getElem? (i := 36) rfl)))) (hw _ (List.mem_of_getElem? (i := 36) rfl)) (hw _ (List.mem_of_getElem? (i := 35) rfl)) (hw _ (List.mem_of_getElem? (i := 8) rfl)) (hw _ (List.mem_of_getElem? (i := 37) rfl)) (by decide) E_b24_cC75 (argsL := [(.ref b22), (.int (1 : Int32))]) (rest := []) rfl rfl pd4 rfl rfl 0 (Nat.le_of_eq rfl) (by decide) (by decide) (by decide) (by decide) rfl rfl ?_
          rintro _ _ ⟨rfl, he78⟩
          refine Go.heap he78.symm ?_
          refine Go.some' ?_
          refine g_istore C (Ls' := #[.val (.int p0), .val (.int p1), .val (.int p2), .val (.int wl), .val (.int mm), .val (.int w), .val (.int x), .val (.int (0 : Int32)), .val (.ref b17), .val (.ref b20), .val (.ref b22), .val (.ref b24), .val (.int (vG_3 wl w x cnt)), .val (.int (vG_58 wl w x cnt)), .val (.int (vG_59 wl w x cnt)), .unset, .unset, .unset]) iG_178 rfl ?_
          refine g_iload C iG_180 rfl ?_
          refine g_iconst C (1 : Int32) iG_182 rfl ?_
          refine g_icmp_lt C iG_183 (fun _ => ?_) (fun q => absurd (by decide) q)
          refine g_iload C iG_191 rfl ?_
          refine g_istore C (Ls' := #[.val (.int p0), .val (.int p1), .val (.int p2), .val (.int wl), .val (.int mm), .val (.int w), .val (.int x), .val (.int (0 : Int32)), .val (.ref b17), .val (.ref b20), .val (.ref b22), .val (.ref b24), .val (.int (vG_3 wl w x cnt)), .val (.int (vG_58 wl w x cnt)), .val (.int (vG_59 wl w x cnt)), .val (.int (vG_3 wl w x cnt)), .unset, .unset]) iG_193 rfl ?_
          refine g_iload C iG_195 rfl ?_
          refine g_iconst C (2 : Int32) iG_197 rfl ?_
          refine g_icmp_lt C iG_198 (fun _ => ?_) (fun q => absurd (by decide) q)
          refine g_iload C iG_206 rfl ?_
          refine g_istore C (Ls' := #[.val (.int p0), .val (.int p1), .val (.int p2), .val (.int wl), .val (.int mm), .val (.int w), .val (.int x), .val (.int (0 : Int32)), .val (.ref b17), .val (.ref b20), .val (.ref b22), .val (.ref b24), .val (.int (vG_3 wl w x cnt)), .val (.int (vG_58 wl w x cnt)), .val (.int (vG_59 wl w x cnt)), .val (.int (vG_3 wl w x cnt)), .val (.int (vG_3 wl w x cnt)), .unset]) iG_208 rfl ?_
          refine g_aload C iG_210 rfl rfl ?_
          refine g_aload C iG_212 rfl rfl ?_
          refine g_iconst C (2 : Int32) iG_214 rfl ?_
          refine g_iload C iG_215 rfl ?_
          refine g_callV C (rmT l Z aZ hw b24 b17 w 2 ((2 : Int32) * ((wl + (63 : Int32)) / (64 : Int32))).toNatClampNeg (vG_1 wl w x cnt) ((wl + (63 : Int32)) / (64 : Int32)) r25_fb0 (vT_3 (3 : Int32) 2 ((2 : Int32) * ((wl + (63 : Int32)) / (64 : Int32))).toNatClampNeg (vG_1 wl w x cnt) ((wl + (63 : Int32)) / (64 : Int32)) (vT_3 (0 : Int32) 2 ((2 : Int32) * ((wl + (63 : Int32)) / (64 : Int32))).toNatClampNeg (vG_1 wl w x cnt) ((wl + (63 : Int32)) / (64 : Int32)) (fun _ => (0 : Int64)))) h75 n0 Z75 rfl (own_hin hwl _ hx _ hw4) (own_hin hwl _ (own_l1 hx) _ hw4) F_used_b24_cC75 V_b17_cC75 F_words_b24_cC75 P75_0 ge25_fb0 ne_b24_r25_fb0 ne_b17_r25_fb0) (a := b24) iG_217 (hw _ (List.mem_of_getElem? (i := 22) rfl)) (hw _ (List.mem_of_getElem? (i := 23) rfl)) (fun s hZ => notFace_of_selects (args := #[]) (mvT hZ (hw _ (List.mem_of_getElem? (i := 25) rfl)))) (hw _ (List.mem_of_getElem? (i := 25) rfl)) (hw _ (List.mem_of_getElem? (i := 24) rfl)) (hw _ (List.mem_of_getElem? (i := 8) rfl)) (hw _ (List.mem_of_getElem? (i := 26) rfl)) (by decide) E_b24_cC75 (argsL := [(.ref b17), (.int (2 : Int32)), (.int w)]) (rest := []) rfl rfl pd3 rfl rfl 0 (Nat.le_of_eq rfl) (by decide) (by decide) (by decide) (by decide) rfl rfl ?_
          rintro _ h79 ⟨rfl, KC79, P79_0⟩
          refine Go.none' ?_
          have V_b17_cC79 := AV.keep V_b17_cC75 KC79 (ninS ne_b17_r25_fb0 nin0)
          have V_b20_cC79 := AV.keep V_b20_cC75 KC79 (ninS ne_b20_r25_fb0 nin0)
          have V_b22_cC79 := AV.keep V_b22_cC75 KC79 (ninS ne_b22_r25_fb0 nin0)
          have E_b24_cC79 := Exa.keep E_b24_cC75 KC79
          have F_words_b24_cC79 := Fld.keep F_words_b24_cC75 KC79 (ninS ne_b24_r25_fb0 nin0)
          have F_used_b24_cC79 := Fld.keep F_used_b24_cC75 KC79 (ninS ne_b24_r25_fb0 nin0)
          have F_lastWord_b24_cC79 := Fld.keep F_lastWord_b24_cC75 KC79 (ninS ne_b24_r25_fb0 nin0)
          have K79 := Keep.trans K75 KC79 (allS (Or.inr fr25_fb0) all0)
          have Z79 : n0 ≤ h79.size := Nat.le_trans Z75 KC79.1
          refine g_aload C iG_220 rfl rfl ?_
          refine g_aload C iG_222 rfl rfl ?_
          refine g_iconst C (2 : Int32) iG_224 rfl ?_
          refine g_callV C (rmF2 l Z aZ hw b24 b17 ((wl + (63 : Int32)) / (64 : Int32)) (vI_1 wl (0 : Int32) (0 : Int64)) r25_fb0 ((2 : Int32) * ((wl + (63 : Int32)) / (64 : Int32))).toNatClampNeg (vT_3 w 2 ((2 : Int32) * ((wl + (63 : Int32)) / (64 : Int32))).toNatClampNeg (vG_1 wl w x cnt) ((wl + (63 : Int32)) / (64 : Int32)) (vT_3 (3 : Int32) 2 ((2 : Int32) * ((wl + (63 : Int32)) / (64 : Int32))).toNatClampNeg (vG_1 wl w x cnt) ((wl + (63 : Int32)) / (64 : Int32)) (vT_3 (0 : Int32) 2 ((2 : Int32) * ((wl + (63 : Int32)) / (64 : Int32))).toNatClampNeg (vG_1 wl w x cnt) ((wl + (63 : Int32)) / (64 : Int32)) (fun _ => (0 : Int64))))) 2 (vG_1 wl w x cnt) h79 n0 Z79 F_words_b24_cC79 F_used_b24_cC79 F_lastWord_b24_cC79 P79_0 V_b17_cC79 (own_wo hwl) (by decide) (own_hF2 hwl _ hx (own_l1 hx))) (a := b24) iG_225 (hw _ (List.mem_of_getElem? (i := 33) rfl)) (hw _ (List.mem_of_getElem? (i := 34) rfl)) (fun s hZ => notFace_of_selects (args := #[]) (mvT hZ (hw _ (List.mem_of_getElem? (i := 36) rfl)))) (hw _ (List.mem_of_getElem? (i := 36) rfl)) (hw _ (List.mem_of_getElem? (i := 35) rfl)) (hw _ (List.mem_of_getElem? (i := 8) rfl)) (hw _ (List.mem_of_getElem? (i := 37) rfl)) (by decide) E_b24_cC79 (argsL := [(.ref b17), (.int (2 : Int32))]) (rest := []) rfl rfl pd4 rfl rfl 0 (Nat.le_of_eq rfl) (by decide) (by decide) (by decide) (by decide) rfl rfl ?_
          rintro _ _ ⟨rfl, he80⟩
          refine Go.heap he80.symm ?_
          refine Go.some' ?_
          refine g_istore C (Ls' := #[.val (.int p0), .val (.int p1), .val (.int p2), .val (.int wl), .val (.int mm), .val (.int w), .val (.int x), .val (.int (0 : Int32)), .val (.ref b17), .val (.ref b20), .val (.ref b22), .val (.ref b24), .val (.int (vG_3 wl w x cnt)), .val (.int (vG_58 wl w x cnt)), .val (.int (vG_59 wl w x cnt)), .val (.int (vG_3 wl w x cnt)), .val (.int (vG_3 wl w x cnt)), .val (.int (vG_60 wl w x cnt))]) iG_228 rfl ?_
          refine g_iload C iG_230 rfl ?_
          refine g_iload C iG_232 rfl ?_
          refine Go.join (mkF m 256 #[.val (.int p0), .val (.int p1), .val (.int p2), .val (.int wl), .val (.int mm), .val (.int w), .val (.int x), .val (.int (0 : Int32)), .val (.ref b17), .val (.ref b20), .val (.ref b22), .val (.ref b24), .val (.int (vG_3 wl w x cnt)), .val (.int (vG_58 wl w x cnt)), .val (.int (vG_59 wl w x cnt)), .val (.int (vG_3 wl w x cnt)), .val (.int (vG_3 wl w x cnt)), .val (.int (vG_60 wl w x cnt))] [(.int (vG_63 wl w x cnt))]) ?_ (fun J => ?_)
          · exact g_retNar C (t := .boolean) iG_256 rfl (by simp) (by decide) (by decide) (show _ = _ from congrArg (fun z => some (Value.int z)) (leafG_9 wl w x cnt hwl hw4 hwm hx hc97_1 hc125_1 hq0))
          · refine g_icmp_ne C iG_234 (fun hc234_1 => ?_) (fun hc234_1 => ?_)
            · refine g_iload C iG_237 rfl ?_
              refine g_iload C iG_239 rfl ?_
              refine g_icmp_ne C iG_241 (fun hc241_1 => ?_) (fun hc241_1 => ?_)
              · refine g_iload C iG_244 rfl ?_
                refine g_iload C iG_246 rfl ?_
                refine g_icmp_ne C iG_248 (fun hc248_1 => ?_) (fun hc248_1 => ?_)
                · refine g_iconst C (1 : Int32) iG_251 rfl ?_
                  refine g_goto C iG_252 ?_
                  have e0 : (vG_63 wl w x cnt) = (1 : Int32) := by simp only [vG_63, if_pos hc234_1, if_pos hc241_1, if_pos hc248_1]
                  exact Go.cast J (by rw [e0])
                · refine g_iconst C (0 : Int32) iG_255 rfl ?_
                  have e0 : (vG_63 wl w x cnt) = (0 : Int32) := by simp only [vG_63, if_pos hc234_1, if_pos hc241_1, if_neg hc248_1]
                  exact Go.cast J (by rw [e0])
              · refine g_iconst C (0 : Int32) iG_255 rfl ?_
                have e0 : (vG_63 wl w x cnt) = (0 : Int32) := by simp only [vG_63, if_pos hc234_1, if_neg hc241_1]
                exact Go.cast J (by rw [e0])
            · refine g_iconst C (0 : Int32) iG_255 rfl ?_
              have e0 : (vG_63 wl w x cnt) = (0 : Int32) := by simp only [vG_63, if_neg hc234_1]
              exact Go.cast J (by rw [e0])
        · refine g_icmp_gt C iG_150 (fun hc150_1 => ?_) (fun hc150_1 => ?_)
          · refine g_iconst C (4 : Int32) iG_157 rfl ?_
            have e0 : (vG_3 wl w x cnt) = (4 : Int32) := by simp only [vG_3, if_pos hc150_1]
            exact Go.cast J (by rw [e0])
          · refine g_iconst C (-1 : Int32) iG_153 rfl ?_
            refine g_goto C iG_154 ?_
            have e0 : (vG_3 wl w x cnt) = (-1 : Int32) := by simp only [vG_3, if_neg hc150_1]
            exact Go.cast J (by rw [e0])
      · refine Go.cast (g' := mkF m 137 #[.val (.int p0), .val (.int p1), .val (.int p2), .val (.int wl), .val (.int mm), .val (.int w), .val (.int x), .val (.int (1 : Int32)), .val (.ref b17), .val (.ref b20), .val (.ref b22), .val (.ref b24), .unset, .unset, .unset, .unset, .unset, .unset] []) ?_ (by rw [hq1])
        refine g_aload C iG_137 rfl rfl ?_
        refine g_aload C iG_139 rfl rfl ?_
        refine g_iload C iG_141 rfl ?_
        refine g_iload C iG_143 rfl ?_
        refine g_callV C (rmR1 l Z aZ hw b24 b17 w 2 ((2 : Int32) * ((wl + (63 : Int32)) / (64 : Int32))).toNatClampNeg (vG_1 wl w x cnt) ((wl + (63 : Int32)) / (64 : Int32)) r25_fb0 (vT_3 (3 : Int32) 2 ((2 : Int32) * ((wl + (63 : Int32)) / (64 : Int32))).toNatClampNeg (vG_1 wl w x cnt) ((wl + (63 : Int32)) / (64 : Int32)) (vT_3 (0 : Int32) 2 ((2 : Int32) * ((wl + (63 : Int32)) / (64 : Int32))).toNatClampNeg (vG_1 wl w x cnt) ((wl + (63 : Int32)) / (64 : Int32)) (fun _ => (0 : Int64)))) h75 n0 Z75 rfl (own_hin hwl _ hx _ hw4) F_used_b24_cC75 V_b17_cC75 F_words_b24_cC75 P75_0 ge25_fb0 ne_b24_r25_fb0 ne_b17_r25_fb0) (a := b24) iG_145 (hw _ (List.mem_of_getElem? (i := 27) rfl)) (hw _ (List.mem_of_getElem? (i := 28) rfl)) (fun s hZ => notFace_of_selects (args := #[]) (mvT hZ (hw _ (List.mem_of_getElem? (i := 30) rfl)))) (hw _ (List.mem_of_getElem? (i := 30) rfl)) (hw _ (List.mem_of_getElem? (i := 29) rfl)) (hw _ (List.mem_of_getElem? (i := 8) rfl)) (hw _ (List.mem_of_getElem? (i := 31) rfl)) (by decide) E_b24_cC75 (argsL := [(.ref b17), (.int (1 : Int32)), (.int w)]) (rest := []) rfl rfl pd3 rfl rfl 0 (Nat.le_of_eq rfl) (by decide) (by decide) (by decide) (by decide) rfl rfl ?_
        rintro _ h81 ⟨rfl, KC81, P81_0⟩
        refine Go.none' ?_
        have V_b17_cC81 := AV.keep V_b17_cC75 KC81 (ninS ne_b17_r25_fb0 nin0)
        have V_b20_cC81 := AV.keep V_b20_cC75 KC81 (ninS ne_b20_r25_fb0 nin0)
        have V_b22_cC81 := AV.keep V_b22_cC75 KC81 (ninS ne_b22_r25_fb0 nin0)
        have E_b24_cC81 := Exa.keep E_b24_cC75 KC81
        have F_words_b24_cC81 := Fld.keep F_words_b24_cC75 KC81 (ninS ne_b24_r25_fb0 nin0)
        have F_used_b24_cC81 := Fld.keep F_used_b24_cC75 KC81 (ninS ne_b24_r25_fb0 nin0)
        have F_lastWord_b24_cC81 := Fld.keep F_lastWord_b24_cC75 KC81 (ninS ne_b24_r25_fb0 nin0)
        have K81 := Keep.trans K75 KC81 (allS (Or.inr fr25_fb0) all0)
        have Z81 : n0 ≤ h81.size := Nat.le_trans Z75 KC81.1
        refine g_iloadN C iG_148 rfl ?_
        refine g_iconst C (4 : Int32) iG_149 rfl ?_
        refine Go.join (mkF m 158 #[.val (.int p0), .val (.int p1), .val (.int p2), .val (.int wl), .val (.int mm), .val (.int w), .val (.int x), .val (.int (1 : Int32)), .val (.ref b17), .val (.ref b20), .val (.ref b22), .val (.ref b24), .unset, .unset, .unset, .unset, .unset, .unset] [(.int (vG_3 wl w x cnt))]) ?_ (fun J => ?_)
        · refine g_istore C (Ls' := #[.val (.int p0), .val (.int p1), .val (.int p2), .val (.int wl), .val (.int mm), .val (.int w), .val (.int x), .val (.int (1 : Int32)), .val (.ref b17), .val (.ref b20), .val (.ref b22), .val (.ref b24), .val (.int (vG_3 wl w x cnt)), .unset, .unset, .unset, .unset, .unset]) iG_158 rfl ?_
          refine g_aload C iG_160 rfl rfl ?_
          refine g_aload C iG_162 rfl rfl ?_
          refine g_iconst C (1 : Int32) iG_164 rfl ?_
          refine g_callV C (rmF1 l Z aZ hw b24 b20 ((wl + (63 : Int32)) / (64 : Int32)) (vI_1 wl (0 : Int32) (0 : Int64)) r25_fb0 ((2 : Int32) * ((wl + (63 : Int32)) / (64 : Int32))).toNatClampNeg (vR1_1 w 2 ((2 : Int32) * ((wl + (63 : Int32)) / (64 : Int32))).toNatClampNeg (vG_1 wl w x cnt) ((wl + (63 : Int32)) / (64 : Int32)) (vT_3 (3 : Int32) 2 ((2 : Int32) * ((wl + (63 : Int32)) / (64 : Int32))).toNatClampNeg (vG_1 wl w x cnt) ((wl + (63 : Int32)) / (64 : Int32)) (vT_3 (0 : Int32) 2 ((2 : Int32) * ((wl + (63 : Int32)) / (64 : Int32))).toNatClampNeg (vG_1 wl w x cnt) ((wl + (63 : Int32)) / (64 : Int32)) (fun _ => (0 : Int64))))) 1 (vG_0 wl w x cnt) h81 n0 Z81 F_words_b24_cC81 F_used_b24_cC81 F_lastWord_b24_cC81 P81_0 V_b20_cC81 (own_wo hwl) (by decide) (own_hF1 hwl _ hx)) (a := b24) iG_165 (hw _ (List.mem_of_getElem? (i := 33) rfl)) (hw _ (List.mem_of_getElem? (i := 34) rfl)) (fun s hZ => notFace_of_selects (args := #[]) (mvT hZ (hw _ (List.mem_of_getElem? (i := 36) rfl)))) (hw _ (List.mem_of_getElem? (i := 36) rfl)) (hw _ (List.mem_of_getElem? (i := 35) rfl)) (hw _ (List.mem_of_getElem? (i := 8) rfl)) (hw _ (List.mem_of_getElem? (i := 37) rfl)) (by decide) E_b24_cC81 (argsL := [(.ref b20), (.int (1 : Int32))]) (rest := []) rfl rfl pd4 rfl rfl 0 (Nat.le_of_eq rfl) (by decide) (by decide) (by decide) (by decide) rfl rfl ?_
          rintro _ _ ⟨rfl, he82⟩
          refine Go.heap he82.symm ?_
          refine Go.some' ?_
          refine g_istore C (Ls' := #[.val (.int p0), .val (.int p1), .val (.int p2), .val (.int wl), .val (.int mm), .val (.int w), .val (.int x), .val (.int (1 : Int32)), .val (.ref b17), .val (.ref b20), .val (.ref b22), .val (.ref b24), .val (.int (vG_3 wl w x cnt)), .val (.int (vG_64 wl w x cnt)), .unset, .unset, .unset, .unset]) iG_168 rfl ?_
          refine g_aload C iG_170 rfl rfl ?_
          refine g_aload C iG_172 rfl rfl ?_
          refine g_iconst C (1 : Int32) iG_174 rfl ?_
          refine g_callV C (rmF1 l Z aZ hw b24 b22 ((wl + (63 : Int32)) / (64 : Int32)) (vI_1 wl (0 : Int32) (0 : Int64)) r25_fb0 ((2 : Int32) * ((wl + (63 : Int32)) / (64 : Int32))).toNatClampNeg (vR1_1 w 2 ((2 : Int32) * ((wl + (63 : Int32)) / (64 : Int32))).toNatClampNeg (vG_1 wl w x cnt) ((wl + (63 : Int32)) / (64 : Int32)) (vT_3 (3 : Int32) 2 ((2 : Int32) * ((wl + (63 : Int32)) / (64 : Int32))).toNatClampNeg (vG_1 wl w x cnt) ((wl + (63 : Int32)) / (64 : Int32)) (vT_3 (0 : Int32) 2 ((2 : Int32) * ((wl + (63 : Int32)) / (64 : Int32))).toNatClampNeg (vG_1 wl w x cnt) ((wl + (63 : Int32)) / (64 : Int32)) (fun _ => (0 : Int64))))) 1 (vG_2 wl w x cnt) h81 n0 Z81 F_words_b24_cC81 F_used_b24_cC81 F_lastWord_b24_cC81 P81_0 V_b22_cC81 (own_wo hwl) (by decide) (own_hF1 hwl _ (own_l1 hx))) (a := b24) iG_175 (hw _ (List.mem_of_getElem? (i := 33) rfl)) (hw _ (List.mem_of_getElem? (i := 34) rfl)) (fun s hZ => notFace_of_selects (args := #[]) (mvT hZ (hw _ (List.mem_of_getElem? (i := 36) rfl)))) (hw _ (List.mem_of_getElem? (i := 36) rfl)) (hw _ (List.mem_of_getElem? (i := 35) rfl)) (hw _ (List.mem_of_getElem? (i := 8) rfl)) (hw _ (List.mem_of_getElem? (i := 37) rfl)) (by decide) E_b24_cC81 (argsL := [(.ref b22), (.int (1 : Int32))]) (rest := []) rfl rfl pd4 rfl rfl 0 (Nat.le_of_eq rfl) (by decide) (by decide) (by decide) (by decide) rfl rfl ?_
          rintro _ _ ⟨rfl, he83⟩
          refine Go.heap he83.symm ?_
          refine Go.some' ?_
          refine g_istore C (Ls' := #[.val (.int p0), .val (.int p1), .val (.int p2), .val (.int wl), .val (.int mm), .val (.int w), .val (.int x), .val (.int (1 : Int32)), .val (.ref b17), .val (.ref b20), .val (.ref b22), .val (.ref b24), .val (.int (vG_3 wl w x cnt)), .val (.int (vG_64 wl w x cnt)), .val (.int (vG_65 wl w x cnt)), .unset, .unset, .unset]) iG_178 rfl ?_
          refine g_iload C iG_180 rfl ?_
          refine g_iconst C (1 : Int32) iG_182 rfl ?_
          refine g_icmp_lt C iG_183 (fun q => absurd q (by decide)) (fun _ => ?_)
          refine g_iload C iG_186 rfl ?_
          refine g_goto C iG_188 ?_
          refine g_istore C (Ls' := #[.val (.int p0), .val (.int p1), .val (.int p2), .val (.int wl), .val (.int mm), .val (.int w), .val (.int x), .val (.int (1 : Int32)), .val (.ref b17), .val (.ref b20), .val (.ref b22), .val (.ref b24), .val (.int (vG_3 wl w x cnt)), .val (.int (vG_64 wl w x cnt)), .val (.int (vG_65 wl w x cnt)), .val (.int w), .unset, .unset]) iG_193 rfl ?_
          refine g_iload C iG_195 rfl ?_
          refine g_iconst C (2 : Int32) iG_197 rfl ?_
          refine g_icmp_lt C iG_198 (fun _ => ?_) (fun q => absurd (by decide) q)
          refine g_iload C iG_206 rfl ?_
          refine g_istore C (Ls' := #[.val (.int p0), .val (.int p1), .val (.int p2), .val (.int wl), .val (.int mm), .val (.int w), .val (.int x), .val (.int (1 : Int32)), .val (.ref b17), .val (.ref b20), .val (.ref b22), .val (.ref b24), .val (.int (vG_3 wl w x cnt)), .val (.int (vG_64 wl w x cnt)), .val (.int (vG_65 wl w x cnt)), .val (.int w), .val (.int (vG_3 wl w x cnt)), .unset]) iG_208 rfl ?_
          refine g_aload C iG_210 rfl rfl ?_
          refine g_aload C iG_212 rfl rfl ?_
          refine g_iconst C (2 : Int32) iG_214 rfl ?_
          refine g_iload C iG_215 rfl ?_
          refine g_callV C (rmT l Z aZ hw b24 b17 w 2 ((2 : Int32) * ((wl + (63 : Int32)) / (64 : Int32))).toNatClampNeg (vG_1 wl w x cnt) ((wl + (63 : Int32)) / (64 : Int32)) r25_fb0 (vR1_1 w 2 ((2 : Int32) * ((wl + (63 : Int32)) / (64 : Int32))).toNatClampNeg (vG_1 wl w x cnt) ((wl + (63 : Int32)) / (64 : Int32)) (vT_3 (3 : Int32) 2 ((2 : Int32) * ((wl + (63 : Int32)) / (64 : Int32))).toNatClampNeg (vG_1 wl w x cnt) ((wl + (63 : Int32)) / (64 : Int32)) (vT_3 (0 : Int32) 2 ((2 : Int32) * ((wl + (63 : Int32)) / (64 : Int32))).toNatClampNeg (vG_1 wl w x cnt) ((wl + (63 : Int32)) / (64 : Int32)) (fun _ => (0 : Int64))))) h81 n0 Z81 rfl (own_hin hwl _ hx _ hw4) (own_hin hwl _ (own_l1 hx) _ hw4) F_used_b24_cC81 V_b17_cC81 F_words_b24_cC81 P81_0 ge25_fb0 ne_b24_r25_fb0 ne_b17_r25_fb0) (a := b24) iG_217 (hw _ (List.mem_of_getElem? (i := 22) rfl)) (hw _ (List.mem_of_getElem? (i := 23) rfl)) (fun s hZ => notFace_of_selects (args := #[]) (mvT hZ (hw _ (List.mem_of_getElem? (i := 25) rfl)))) (hw _ (List.mem_of_getElem? (i := 25) rfl)) (hw _ (List.mem_of_getElem? (i := 24) rfl)) (hw _ (List.mem_of_getElem? (i := 8) rfl)) (hw _ (List.mem_of_getElem? (i := 26) rfl)) (by decide) E_b24_cC81 (argsL := [(.ref b17), (.int (2 : Int32)), (.int w)]) (rest := []) rfl rfl pd3 rfl rfl 0 (Nat.le_of_eq rfl) (by decide) (by decide) (by decide) (by decide) rfl rfl ?_
          rintro _ h84 ⟨rfl, KC84, P84_0⟩
          refine Go.none' ?_
          have V_b17_cC84 := AV.keep V_b17_cC81 KC84 (ninS ne_b17_r25_fb0 nin0)
          have V_b20_cC84 := AV.keep V_b20_cC81 KC84 (ninS ne_b20_r25_fb0 nin0)
          have V_b22_cC84 := AV.keep V_b22_cC81 KC84 (ninS ne_b22_r25_fb0 nin0)
          have E_b24_cC84 := Exa.keep E_b24_cC81 KC84
          have F_words_b24_cC84 := Fld.keep F_words_b24_cC81 KC84 (ninS ne_b24_r25_fb0 nin0)
          have F_used_b24_cC84 := Fld.keep F_used_b24_cC81 KC84 (ninS ne_b24_r25_fb0 nin0)
          have F_lastWord_b24_cC84 := Fld.keep F_lastWord_b24_cC81 KC84 (ninS ne_b24_r25_fb0 nin0)
          have K84 := Keep.trans K81 KC84 (allS (Or.inr fr25_fb0) all0)
          have Z84 : n0 ≤ h84.size := Nat.le_trans Z81 KC84.1
          refine g_aload C iG_220 rfl rfl ?_
          refine g_aload C iG_222 rfl rfl ?_
          refine g_iconst C (2 : Int32) iG_224 rfl ?_
          refine g_callV C (rmF2 l Z aZ hw b24 b17 ((wl + (63 : Int32)) / (64 : Int32)) (vI_1 wl (0 : Int32) (0 : Int64)) r25_fb0 ((2 : Int32) * ((wl + (63 : Int32)) / (64 : Int32))).toNatClampNeg (vT_3 w 2 ((2 : Int32) * ((wl + (63 : Int32)) / (64 : Int32))).toNatClampNeg (vG_1 wl w x cnt) ((wl + (63 : Int32)) / (64 : Int32)) (vR1_1 w 2 ((2 : Int32) * ((wl + (63 : Int32)) / (64 : Int32))).toNatClampNeg (vG_1 wl w x cnt) ((wl + (63 : Int32)) / (64 : Int32)) (vT_3 (3 : Int32) 2 ((2 : Int32) * ((wl + (63 : Int32)) / (64 : Int32))).toNatClampNeg (vG_1 wl w x cnt) ((wl + (63 : Int32)) / (64 : Int32)) (vT_3 (0 : Int32) 2 ((2 : Int32) * ((wl + (63 : Int32)) / (64 : Int32))).toNatClampNeg (vG_1 wl w x cnt) ((wl + (63 : Int32)) / (64 : Int32)) (fun _ => (0 : Int64)))))) 2 (vG_1 wl w x cnt) h84 n0 Z84 F_words_b24_cC84 F_used_b24_cC84 F_lastWord_b24_cC84 P84_0 V_b17_cC84 (own_wo hwl) (by decide) (own_hF2 hwl _ hx (own_l1 hx))) (a := b24) iG_225 (hw _ (List.mem_of_getElem? (i := 33) rfl)) (hw _ (List.mem_of_getElem? (i := 34) rfl)) (fun s hZ => notFace_of_selects (args := #[]) (mvT hZ (hw _ (List.mem_of_getElem? (i := 36) rfl)))) (hw _ (List.mem_of_getElem? (i := 36) rfl)) (hw _ (List.mem_of_getElem? (i := 35) rfl)) (hw _ (List.mem_of_getElem? (i := 8) rfl)) (hw _ (List.mem_of_getElem? (i := 37) rfl)) (by decide) E_b24_cC84 (argsL := [(.ref b17), (.int (2 : Int32))]) (rest := []) rfl rfl pd4 rfl rfl 0 (Nat.le_of_eq rfl) (by decide) (by decide) (by decide) (by decide) rfl rfl ?_
          rintro _ _ ⟨rfl, he85⟩
          refine Go.heap he85.symm ?_
          refine Go.some' ?_
          refine g_istore C (Ls' := #[.val (.int p0), .val (.int p1), .val (.int p2), .val (.int wl), .val (.int mm), .val (.int w), .val (.int x), .val (.int (1 : Int32)), .val (.ref b17), .val (.ref b20), .val (.ref b22), .val (.ref b24), .val (.int (vG_3 wl w x cnt)), .val (.int (vG_64 wl w x cnt)), .val (.int (vG_65 wl w x cnt)), .val (.int w), .val (.int (vG_3 wl w x cnt)), .val (.int (vG_66 wl w x cnt))]) iG_228 rfl ?_
          refine g_iload C iG_230 rfl ?_
          refine g_iload C iG_232 rfl ?_
          refine Go.join (mkF m 256 #[.val (.int p0), .val (.int p1), .val (.int p2), .val (.int wl), .val (.int mm), .val (.int w), .val (.int x), .val (.int (1 : Int32)), .val (.ref b17), .val (.ref b20), .val (.ref b22), .val (.ref b24), .val (.int (vG_3 wl w x cnt)), .val (.int (vG_64 wl w x cnt)), .val (.int (vG_65 wl w x cnt)), .val (.int w), .val (.int (vG_3 wl w x cnt)), .val (.int (vG_66 wl w x cnt))] [(.int (vG_69 wl w x cnt))]) ?_ (fun J => ?_)
          · exact g_retNar C (t := .boolean) iG_256 rfl (by simp) (by decide) (by decide) (show _ = _ from congrArg (fun z => some (Value.int z)) (leafG_10 wl w x cnt hwl hw4 hwm hx hc97_1 hc125_1 hq1))
          · refine g_icmp_ne C iG_234 (fun hc234_1 => ?_) (fun hc234_1 => ?_)
            · refine g_iload C iG_237 rfl ?_
              refine g_iload C iG_239 rfl ?_
              refine g_icmp_ne C iG_241 (fun hc241_1 => ?_) (fun hc241_1 => ?_)
              · refine g_iload C iG_244 rfl ?_
                refine g_iload C iG_246 rfl ?_
                refine g_icmp_ne C iG_248 (fun hc248_1 => ?_) (fun hc248_1 => ?_)
                · refine g_iconst C (1 : Int32) iG_251 rfl ?_
                  refine g_goto C iG_252 ?_
                  have e0 : (vG_69 wl w x cnt) = (1 : Int32) := by simp only [vG_69, if_pos hc234_1, if_pos hc241_1, if_pos hc248_1]
                  exact Go.cast J (by rw [e0])
                · refine g_iconst C (0 : Int32) iG_255 rfl ?_
                  have e0 : (vG_69 wl w x cnt) = (0 : Int32) := by simp only [vG_69, if_pos hc234_1, if_pos hc241_1, if_neg hc248_1]
                  exact Go.cast J (by rw [e0])
              · refine g_iconst C (0 : Int32) iG_255 rfl ?_
                have e0 : (vG_69 wl w x cnt) = (0 : Int32) := by simp only [vG_69, if_pos hc234_1, if_neg hc241_1]
                exact Go.cast J (by rw [e0])
            · refine g_iconst C (0 : Int32) iG_255 rfl ?_
              have e0 : (vG_69 wl w x cnt) = (0 : Int32) := by simp only [vG_69, if_neg hc234_1]
              exact Go.cast J (by rw [e0])
        · refine g_icmp_gt C iG_150 (fun hc150_1 => ?_) (fun hc150_1 => ?_)
          · refine g_iconst C (4 : Int32) iG_157 rfl ?_
            have e0 : (vG_3 wl w x cnt) = (4 : Int32) := by simp only [vG_3, if_pos hc150_1]
            exact Go.cast J (by rw [e0])
          · refine g_iconst C (-1 : Int32) iG_153 rfl ?_
            refine g_goto C iG_154 ?_
            have e0 : (vG_3 wl w x cnt) = (-1 : Int32) := by simp only [vG_3, if_neg hc150_1]
            exact Go.cast J (by rw [e0])
      · refine Go.cast (g' := mkF m 137 #[.val (.int p0), .val (.int p1), .val (.int p2), .val (.int wl), .val (.int mm), .val (.int w), .val (.int x), .val (.int (2 : Int32)), .val (.ref b17), .val (.ref b20), .val (.ref b22), .val (.ref b24), .unset, .unset, .unset, .unset, .unset, .unset] []) ?_ (by rw [hq2])
        refine g_aload C iG_137 rfl rfl ?_
        refine g_aload C iG_139 rfl rfl ?_
        refine g_iload C iG_141 rfl ?_
        refine g_iload C iG_143 rfl ?_
        refine g_callV C (rmR2 l Z aZ hw b24 b17 w 2 ((2 : Int32) * ((wl + (63 : Int32)) / (64 : Int32))).toNatClampNeg (vG_1 wl w x cnt) ((wl + (63 : Int32)) / (64 : Int32)) r25_fb0 (vT_3 (3 : Int32) 2 ((2 : Int32) * ((wl + (63 : Int32)) / (64 : Int32))).toNatClampNeg (vG_1 wl w x cnt) ((wl + (63 : Int32)) / (64 : Int32)) (vT_3 (0 : Int32) 2 ((2 : Int32) * ((wl + (63 : Int32)) / (64 : Int32))).toNatClampNeg (vG_1 wl w x cnt) ((wl + (63 : Int32)) / (64 : Int32)) (fun _ => (0 : Int64)))) h75 n0 Z75 rfl (own_hin hwl _ hx _ hw4) (own_hin hwl _ (own_l1 hx) _ hw4) F_used_b24_cC75 V_b17_cC75 F_words_b24_cC75 P75_0 ge25_fb0 ne_b24_r25_fb0 ne_b17_r25_fb0) (a := b24) iG_145 (hw _ (List.mem_of_getElem? (i := 27) rfl)) (hw _ (List.mem_of_getElem? (i := 28) rfl)) (fun s hZ => notFace_of_selects (args := #[]) (mvT hZ (hw _ (List.mem_of_getElem? (i := 30) rfl)))) (hw _ (List.mem_of_getElem? (i := 30) rfl)) (hw _ (List.mem_of_getElem? (i := 29) rfl)) (hw _ (List.mem_of_getElem? (i := 8) rfl)) (hw _ (List.mem_of_getElem? (i := 31) rfl)) (by decide) E_b24_cC75 (argsL := [(.ref b17), (.int (2 : Int32)), (.int w)]) (rest := []) rfl rfl pd3 rfl rfl 0 (Nat.le_of_eq rfl) (by decide) (by decide) (by decide) (by decide) rfl rfl ?_
        rintro _ h86 ⟨rfl, KC86, P86_0⟩
        refine Go.none' ?_
        have V_b17_cC86 := AV.keep V_b17_cC75 KC86 (ninS ne_b17_r25_fb0 nin0)
        have V_b20_cC86 := AV.keep V_b20_cC75 KC86 (ninS ne_b20_r25_fb0 nin0)
        have V_b22_cC86 := AV.keep V_b22_cC75 KC86 (ninS ne_b22_r25_fb0 nin0)
        have E_b24_cC86 := Exa.keep E_b24_cC75 KC86
        have F_words_b24_cC86 := Fld.keep F_words_b24_cC75 KC86 (ninS ne_b24_r25_fb0 nin0)
        have F_used_b24_cC86 := Fld.keep F_used_b24_cC75 KC86 (ninS ne_b24_r25_fb0 nin0)
        have F_lastWord_b24_cC86 := Fld.keep F_lastWord_b24_cC75 KC86 (ninS ne_b24_r25_fb0 nin0)
        have K86 := Keep.trans K75 KC86 (allS (Or.inr fr25_fb0) all0)
        have Z86 : n0 ≤ h86.size := Nat.le_trans Z75 KC86.1
        refine g_iloadN C iG_148 rfl ?_
        refine g_iconst C (4 : Int32) iG_149 rfl ?_
        refine Go.join (mkF m 158 #[.val (.int p0), .val (.int p1), .val (.int p2), .val (.int wl), .val (.int mm), .val (.int w), .val (.int x), .val (.int (2 : Int32)), .val (.ref b17), .val (.ref b20), .val (.ref b22), .val (.ref b24), .unset, .unset, .unset, .unset, .unset, .unset] [(.int (vG_3 wl w x cnt))]) ?_ (fun J => ?_)
        · refine g_istore C (Ls' := #[.val (.int p0), .val (.int p1), .val (.int p2), .val (.int wl), .val (.int mm), .val (.int w), .val (.int x), .val (.int (2 : Int32)), .val (.ref b17), .val (.ref b20), .val (.ref b22), .val (.ref b24), .val (.int (vG_3 wl w x cnt)), .unset, .unset, .unset, .unset, .unset]) iG_158 rfl ?_
          refine g_aload C iG_160 rfl rfl ?_
          refine g_aload C iG_162 rfl rfl ?_
          refine g_iconst C (1 : Int32) iG_164 rfl ?_
          refine g_callV C (rmF1 l Z aZ hw b24 b20 ((wl + (63 : Int32)) / (64 : Int32)) (vI_1 wl (0 : Int32) (0 : Int64)) r25_fb0 ((2 : Int32) * ((wl + (63 : Int32)) / (64 : Int32))).toNatClampNeg (vR2_3 w 2 ((2 : Int32) * ((wl + (63 : Int32)) / (64 : Int32))).toNatClampNeg (vG_1 wl w x cnt) ((wl + (63 : Int32)) / (64 : Int32)) (vT_3 (3 : Int32) 2 ((2 : Int32) * ((wl + (63 : Int32)) / (64 : Int32))).toNatClampNeg (vG_1 wl w x cnt) ((wl + (63 : Int32)) / (64 : Int32)) (vT_3 (0 : Int32) 2 ((2 : Int32) * ((wl + (63 : Int32)) / (64 : Int32))).toNatClampNeg (vG_1 wl w x cnt) ((wl + (63 : Int32)) / (64 : Int32)) (fun _ => (0 : Int64))))) 1 (vG_0 wl w x cnt) h86 n0 Z86 F_words_b24_cC86 F_used_b24_cC86 F_lastWord_b24_cC86 P86_0 V_b20_cC86 (own_wo hwl) (by decide) (own_hF1 hwl _ hx)) (a := b24) iG_165 (hw _ (List.mem_of_getElem? (i := 33) rfl)) (hw _ (List.mem_of_getElem? (i := 34) rfl)) (fun s hZ => notFace_of_selects (args := #[]) (mvT hZ (hw _ (List.mem_of_getElem? (i := 36) rfl)))) (hw _ (List.mem_of_getElem? (i := 36) rfl)) (hw _ (List.mem_of_getElem? (i := 35) rfl)) (hw _ (List.mem_of_getElem? (i := 8) rfl)) (hw _ (List.mem_of_getElem? (i := 37) rfl)) (by decide) E_b24_cC86 (argsL := [(.ref b20), (.int (1 : Int32))]) (rest := []) rfl rfl pd4 rfl rfl 0 (Nat.le_of_eq rfl) (by decide) (by decide) (by decide) (by decide) rfl rfl ?_
          rintro _ _ ⟨rfl, he87⟩
          refine Go.heap he87.symm ?_
          refine Go.some' ?_
          refine g_istore C (Ls' := #[.val (.int p0), .val (.int p1), .val (.int p2), .val (.int wl), .val (.int mm), .val (.int w), .val (.int x), .val (.int (2 : Int32)), .val (.ref b17), .val (.ref b20), .val (.ref b22), .val (.ref b24), .val (.int (vG_3 wl w x cnt)), .val (.int (vG_70 wl w x cnt)), .unset, .unset, .unset, .unset]) iG_168 rfl ?_
          refine g_aload C iG_170 rfl rfl ?_
          refine g_aload C iG_172 rfl rfl ?_
          refine g_iconst C (1 : Int32) iG_174 rfl ?_
          refine g_callV C (rmF1 l Z aZ hw b24 b22 ((wl + (63 : Int32)) / (64 : Int32)) (vI_1 wl (0 : Int32) (0 : Int64)) r25_fb0 ((2 : Int32) * ((wl + (63 : Int32)) / (64 : Int32))).toNatClampNeg (vR2_3 w 2 ((2 : Int32) * ((wl + (63 : Int32)) / (64 : Int32))).toNatClampNeg (vG_1 wl w x cnt) ((wl + (63 : Int32)) / (64 : Int32)) (vT_3 (3 : Int32) 2 ((2 : Int32) * ((wl + (63 : Int32)) / (64 : Int32))).toNatClampNeg (vG_1 wl w x cnt) ((wl + (63 : Int32)) / (64 : Int32)) (vT_3 (0 : Int32) 2 ((2 : Int32) * ((wl + (63 : Int32)) / (64 : Int32))).toNatClampNeg (vG_1 wl w x cnt) ((wl + (63 : Int32)) / (64 : Int32)) (fun _ => (0 : Int64))))) 1 (vG_2 wl w x cnt) h86 n0 Z86 F_words_b24_cC86 F_used_b24_cC86 F_lastWord_b24_cC86 P86_0 V_b22_cC86 (own_wo hwl) (by decide) (own_hF1 hwl _ (own_l1 hx))) (a := b24) iG_175 (hw _ (List.mem_of_getElem? (i := 33) rfl)) (hw _ (List.mem_of_getElem? (i := 34) rfl)) (fun s hZ => notFace_of_selects (args := #[]) (mvT hZ (hw _ (List.mem_of_getElem? (i := 36) rfl)))) (hw _ (List.mem_of_getElem? (i := 36) rfl)) (hw _ (List.mem_of_getElem? (i := 35) rfl)) (hw _ (List.mem_of_getElem? (i := 8) rfl)) (hw _ (List.mem_of_getElem? (i := 37) rfl)) (by decide) E_b24_cC86 (argsL := [(.ref b22), (.int (1 : Int32))]) (rest := []) rfl rfl pd4 rfl rfl 0 (Nat.le_of_eq rfl) (by decide) (by decide) (by decide) (by decide) rfl rfl ?_
          rintro _ _ ⟨rfl, he88⟩
          refine Go.heap he88.symm ?_
          refine Go.some' ?_
          refine g_istore C (Ls' := #[.val (.int p0), .val (.int p1), .val (.int p2), .val (.int wl), .val (.int mm), .val (.int w), .val (.int x), .val (.int (2 : Int32)), .val (.ref b17), .val (.ref b20), .val (.ref b22), .val (.ref b24), .val (.int (vG_3 wl w x cnt)), .val (.int (vG_70 wl w x cnt)), .val (.int (vG_71 wl w x cnt)), .unset, .unset, .unset]) iG_178 rfl ?_
          refine g_iload C iG_180 rfl ?_
          refine g_iconst C (1 : Int32) iG_182 rfl ?_
          refine g_icmp_lt C iG_183 (fun q => absurd q (by decide)) (fun _ => ?_)
          refine g_iload C iG_186 rfl ?_
          refine g_goto C iG_188 ?_
          refine g_istore C (Ls' := #[.val (.int p0), .val (.int p1), .val (.int p2), .val (.int wl), .val (.int mm), .val (.int w), .val (.int x), .val (.int (2 : Int32)), .val (.ref b17), .val (.ref b20), .val (.ref b22), .val (.ref b24), .val (.int (vG_3 wl w x cnt)), .val (.int (vG_70 wl w x cnt)), .val (.int (vG_71 wl w x cnt)), .val (.int w), .unset, .unset]) iG_193 rfl ?_
          refine g_iload C iG_195 rfl ?_
          refine g_iconst C (2 : Int32) iG_197 rfl ?_
          refine g_icmp_lt C iG_198 (fun q => absurd q (by decide)) (fun _ => ?_)
          refine g_iload C iG_201 rfl ?_
          refine g_goto C iG_203 ?_
          refine g_istore C (Ls' := #[.val (.int p0), .val (.int p1), .val (.int p2), .val (.int wl), .val (.int mm), .val (.int w), .val (.int x), .val (.int (2 : Int32)), .val (.ref b17), .val (.ref b20), .val (.ref b22), .val (.ref b24), .val (.int (vG_3 wl w x cnt)), .val (.int (vG_70 wl w x cnt)), .val (.int (vG_71 wl w x cnt)), .val (.int w), .val (.int w), .unset]) iG_208 rfl ?_
          refine g_aload C iG_210 rfl rfl ?_
          refine g_aload C iG_212 rfl rfl ?_
          refine g_iconst C (2 : Int32) iG_214 rfl ?_
          refine g_iload C iG_215 rfl ?_
          refine g_callV C (rmT l Z aZ hw b24 b17 w 2 ((2 : Int32) * ((wl + (63 : Int32)) / (64 : Int32))).toNatClampNeg (vG_1 wl w x cnt) ((wl + (63 : Int32)) / (64 : Int32)) r25_fb0 (vR2_3 w 2 ((2 : Int32) * ((wl + (63 : Int32)) / (64 : Int32))).toNatClampNeg (vG_1 wl w x cnt) ((wl + (63 : Int32)) / (64 : Int32)) (vT_3 (3 : Int32) 2 ((2 : Int32) * ((wl + (63 : Int32)) / (64 : Int32))).toNatClampNeg (vG_1 wl w x cnt) ((wl + (63 : Int32)) / (64 : Int32)) (vT_3 (0 : Int32) 2 ((2 : Int32) * ((wl + (63 : Int32)) / (64 : Int32))).toNatClampNeg (vG_1 wl w x cnt) ((wl + (63 : Int32)) / (64 : Int32)) (fun _ => (0 : Int64))))) h86 n0 Z86 rfl (own_hin hwl _ hx _ hw4) (own_hin hwl _ (own_l1 hx) _ hw4) F_used_b24_cC86 V_b17_cC86 F_words_b24_cC86 P86_0 ge25_fb0 ne_b24_r25_fb0 ne_b17_r25_fb0) (a := b24) iG_217 (hw _ (List.mem_of_getElem? (i := 22) rfl)) (hw _ (List.mem_of_getElem? (i := 23) rfl)) (fun s hZ => notFace_of_selects (args := #[]) (mvT hZ (hw _ (List.mem_of_getElem? (i := 25) rfl)))) (hw _ (List.mem_of_getElem? (i := 25) rfl)) (hw _ (List.mem_of_getElem? (i := 24) rfl)) (hw _ (List.mem_of_getElem? (i := 8) rfl)) (hw _ (List.mem_of_getElem? (i := 26) rfl)) (by decide) E_b24_cC86 (argsL := [(.ref b17), (.int (2 : Int32)), (.int w)]) (rest := []) rfl rfl pd3 rfl rfl 0 (Nat.le_of_eq rfl) (by decide) (by decide) (by decide) (by decide) rfl rfl ?_
          rintro _ h89 ⟨rfl, KC89, P89_0⟩
          refine Go.none' ?_
          have V_b17_cC89 := AV.keep V_b17_cC86 KC89 (ninS ne_b17_r25_fb0 nin0)
          have V_b20_cC89 := AV.keep V_b20_cC86 KC89 (ninS ne_b20_r25_fb0 nin0)
          have V_b22_cC89 := AV.keep V_b22_cC86 KC89 (ninS ne_b22_r25_fb0 nin0)
          have E_b24_cC89 := Exa.keep E_b24_cC86 KC89
          have F_words_b24_cC89 := Fld.keep F_words_b24_cC86 KC89 (ninS ne_b24_r25_fb0 nin0)
          have F_used_b24_cC89 := Fld.keep F_used_b24_cC86 KC89 (ninS ne_b24_r25_fb0 nin0)
          have F_lastWord_b24_cC89 := Fld.keep F_lastWord_b24_cC86 KC89 (ninS ne_b24_r25_fb0 nin0)
          have K89 := Keep.trans K86 KC89 (allS (Or.inr fr25_fb0) all0)
          have Z89 : n0 ≤ h89.size := Nat.le_trans Z86 KC89.1
          refine g_aload C iG_220 rfl rfl ?_
          refine g_aload C iG_222 rfl rfl ?_
          refine g_iconst C (2 : Int32) iG_224 rfl ?_
          refine g_callV C (rmF2 l Z aZ hw b24 b17 ((wl + (63 : Int32)) / (64 : Int32)) (vI_1 wl (0 : Int32) (0 : Int64)) r25_fb0 ((2 : Int32) * ((wl + (63 : Int32)) / (64 : Int32))).toNatClampNeg (vT_3 w 2 ((2 : Int32) * ((wl + (63 : Int32)) / (64 : Int32))).toNatClampNeg (vG_1 wl w x cnt) ((wl + (63 : Int32)) / (64 : Int32)) (vR2_3 w 2 ((2 : Int32) * ((wl + (63 : Int32)) / (64 : Int32))).toNatClampNeg (vG_1 wl w x cnt) ((wl + (63 : Int32)) / (64 : Int32)) (vT_3 (3 : Int32) 2 ((2 : Int32) * ((wl + (63 : Int32)) / (64 : Int32))).toNatClampNeg (vG_1 wl w x cnt) ((wl + (63 : Int32)) / (64 : Int32)) (vT_3 (0 : Int32) 2 ((2 : Int32) * ((wl + (63 : Int32)) / (64 : Int32))).toNatClampNeg (vG_1 wl w x cnt) ((wl + (63 : Int32)) / (64 : Int32)) (fun _ => (0 : Int64)))))) 2 (vG_1 wl w x cnt) h89 n0 Z89 F_words_b24_cC89 F_used_b24_cC89 F_lastWord_b24_cC89 P89_0 V_b17_cC89 (own_wo hwl) (by decide) (own_hF2 hwl _ hx (own_l1 hx))) (a := b24) iG_225 (hw _ (List.mem_of_getElem? (i := 33) rfl)) (hw _ (List.mem_of_getElem? (i := 34) rfl)) (fun s hZ => notFace_of_selects (args := #[]) (mvT hZ (hw _ (List.mem_of_getElem? (i := 36) rfl)))) (hw _ (List.mem_of_getElem? (i := 36) rfl)) (hw _ (List.mem_of_getElem? (i := 35) rfl)) (hw _ (List.mem_of_getElem? (i := 8) rfl)) (hw _ (List.mem_of_getElem? (i := 37) rfl)) (by decide) E_b24_cC89 (argsL := [(.ref b17), (.int (2 : Int32))]) (rest := []) rfl rfl pd4 rfl rfl 0 (Nat.le_of_eq rfl) (by decide) (by decide) (by decide) (by decide) rfl rfl ?_
          rintro _ _ ⟨rfl, he90⟩
          refine Go.heap he90.symm ?_
          refine Go.some' ?_
          refine g_istore C (Ls' := #[.val (.int p0), .val (.int p1), .val (.int p2), .val (.int wl), .val (.int mm), .val (.int w), .val (.int x), .val (.int (2 : Int32)), .val (.ref b17), .val (.ref b20), .val (.ref b22), .val (.ref b24), .val (.int (vG_3 wl w x cnt)), .val (.int (vG_70 wl w x cnt)), .val (.int (vG_71 wl w x cnt)), .val (.int w), .val (.int w), .val (.int (vG_72 wl w x cnt))]) iG_228 rfl ?_
          refine g_iload C iG_230 rfl ?_
          refine g_iload C iG_232 rfl ?_
          refine Go.join (mkF m 256 #[.val (.int p0), .val (.int p1), .val (.int p2), .val (.int wl), .val (.int mm), .val (.int w), .val (.int x), .val (.int (2 : Int32)), .val (.ref b17), .val (.ref b20), .val (.ref b22), .val (.ref b24), .val (.int (vG_3 wl w x cnt)), .val (.int (vG_70 wl w x cnt)), .val (.int (vG_71 wl w x cnt)), .val (.int w), .val (.int w), .val (.int (vG_72 wl w x cnt))] [(.int (vG_75 wl w x cnt))]) ?_ (fun J => ?_)
          · exact g_retNar C (t := .boolean) iG_256 rfl (by simp) (by decide) (by decide) (show _ = _ from congrArg (fun z => some (Value.int z)) (leafG_11 wl w x cnt hwl hw4 hwm hx hc97_1 hc125_1 hq2))
          · refine g_icmp_ne C iG_234 (fun hc234_1 => ?_) (fun hc234_1 => ?_)
            · refine g_iload C iG_237 rfl ?_
              refine g_iload C iG_239 rfl ?_
              refine g_icmp_ne C iG_241 (fun hc241_1 => ?_) (fun hc241_1 => ?_)
              · refine g_iload C iG_244 rfl ?_
                refine g_iload C iG_246 rfl ?_
                refine g_icmp_ne C iG_248 (fun hc248_1 => ?_) (fun hc248_1 => ?_)
                · refine g_iconst C (1 : Int32) iG_251 rfl ?_
                  refine g_goto C iG_252 ?_
                  have e0 : (vG_75 wl w x cnt) = (1 : Int32) := by simp only [vG_75, if_pos hc234_1, if_pos hc241_1, if_pos hc248_1]
                  exact Go.cast J (by rw [e0])
                · refine g_iconst C (0 : Int32) iG_255 rfl ?_
                  have e0 : (vG_75 wl w x cnt) = (0 : Int32) := by simp only [vG_75, if_pos hc234_1, if_pos hc241_1, if_neg hc248_1]
                  exact Go.cast J (by rw [e0])
              · refine g_iconst C (0 : Int32) iG_255 rfl ?_
                have e0 : (vG_75 wl w x cnt) = (0 : Int32) := by simp only [vG_75, if_pos hc234_1, if_neg hc241_1]
                exact Go.cast J (by rw [e0])
            · refine g_iconst C (0 : Int32) iG_255 rfl ?_
              have e0 : (vG_75 wl w x cnt) = (0 : Int32) := by simp only [vG_75, if_neg hc234_1]
              exact Go.cast J (by rw [e0])
        · refine g_icmp_gt C iG_150 (fun hc150_1 => ?_) (fun hc150_1 => ?_)
          · refine g_iconst C (4 : Int32) iG_157 rfl ?_
            have e0 : (vG_3 wl w x cnt) = (4 : Int32) := by simp only [vG_3, if_pos hc150_1]
            exact Go.cast J (by rw [e0])
          · refine g_iconst C (-1 : Int32) iG_153 rfl ?_
            refine g_goto C iG_154 ?_
            have e0 : (vG_3 wl w x cnt) = (-1 : Int32) := by simp only [vG_3, if_neg hc150_1]
            exact Go.cast J (by rw [e0])
    · rcases hcnt with hq0 | hq1 | hq2
      · refine Go.cast (g' := mkF m 137 #[.val (.int p0), .val (.int p1), .val (.int p2), .val (.int wl), .val (.int mm), .val (.int w), .val (.int x), .val (.int (0 : Int32)), .val (.ref b17), .val (.ref b20), .val (.ref b22), .val (.ref b24), .unset, .unset, .unset, .unset, .unset, .unset] []) ?_ (by rw [hq0])
        refine g_aload C iG_137 rfl rfl ?_
        refine g_aload C iG_139 rfl rfl ?_
        refine g_iload C iG_141 rfl ?_
        refine g_iload C iG_143 rfl ?_
        refine g_callV C (rmR0 l Z aZ hw b24 b17 w h26 n0 Z26) (a := b24) iG_145 (hw _ (List.mem_of_getElem? (i := 27) rfl)) (hw _ (List.mem_of_getElem? (i := 28) rfl)) (fun s hZ => notFace_of_selects (args := #[]) (mvT hZ (hw _ (List.mem_of_getElem? (i := 30) rfl)))) (hw _ (List.mem_of_getElem? (i := 30) rfl)) (hw _ (List.mem_of_getElem? (i := 29) rfl)) (hw _ (List.mem_of_getElem? (i := 8) rfl)) (hw _ (List.mem_of_getElem? (i := 31) rfl)) (by decide) E_b24_cC26 (argsL := [(.ref b17), (.int (0 : Int32)), (.int w)]) (rest := []) rfl rfl pd3 rfl rfl 0 (Nat.le_of_eq rfl) (by decide) (by decide) (by decide) (by decide) rfl rfl ?_
        rintro _ _ ⟨rfl, he91⟩
        refine Go.heap he91.symm ?_
        refine Go.none' ?_
        refine g_iloadN C iG_148 rfl ?_
        refine g_iconst C (4 : Int32) iG_149 rfl ?_
        refine Go.join (mkF m 158 #[.val (.int p0), .val (.int p1), .val (.int p2), .val (.int wl), .val (.int mm), .val (.int w), .val (.int x), .val (.int (0 : Int32)), .val (.ref b17), .val (.ref b20), .val (.ref b22), .val (.ref b24), .unset, .unset, .unset, .unset, .unset, .unset] [(.int (vG_3 wl w x cnt))]) ?_ (fun J => ?_)
        · refine g_istore C (Ls' := #[.val (.int p0), .val (.int p1), .val (.int p2), .val (.int wl), .val (.int mm), .val (.int w), .val (.int x), .val (.int (0 : Int32)), .val (.ref b17), .val (.ref b20), .val (.ref b22), .val (.ref b24), .val (.int (vG_3 wl w x cnt)), .unset, .unset, .unset, .unset, .unset]) iG_158 rfl ?_
          refine g_aload C iG_160 rfl rfl ?_
          refine g_aload C iG_162 rfl rfl ?_
          refine g_iconst C (1 : Int32) iG_164 rfl ?_
          refine g_callV C (rmF1 l Z aZ hw b24 b20 ((wl + (63 : Int32)) / (64 : Int32)) (vI_1 wl (0 : Int32) (0 : Int64)) r25_fb0 ((2 : Int32) * ((wl + (63 : Int32)) / (64 : Int32))).toNatClampNeg (vT_3 (0 : Int32) 2 ((2 : Int32) * ((wl + (63 : Int32)) / (64 : Int32))).toNatClampNeg (vG_1 wl w x cnt) ((wl + (63 : Int32)) / (64 : Int32)) (fun _ => (0 : Int64))) 1 (vG_0 wl w x cnt) h26 n0 Z26 F_words_b24_cC26 F_used_b24_cC26 F_lastWord_b24_cC26 P26_0 V_b20_cC26 (own_wo hwl) (by decide) (own_hF1 hwl _ hx)) (a := b24) iG_165 (hw _ (List.mem_of_getElem? (i := 33) rfl)) (hw _ (List.mem_of_getElem? (i := 34) rfl)) (fun s hZ => notFace_of_selects (args := #[]) (mvT hZ (hw _ (List.mem_of_getElem? (i := 36) rfl)))) (hw _ (List.mem_of_getElem? (i := 36) rfl)) (hw _ (List.mem_of_getElem? (i := 35) rfl)) (hw _ (List.mem_of_getElem? (i := 8) rfl)) (hw _ (List.mem_of_getElem? (i := 37) rfl)) (by decide) E_b24_cC26 (argsL := [(.ref b20), (.int (1 : Int32))]) (rest := []) rfl rfl pd4 rfl rfl 0 (Nat.le_of_eq rfl) (by decide) (by decide) (by decide) (by decide) rfl rfl ?_
          rintro _ _ ⟨rfl, he92⟩
          refine Go.heap he92.symm ?_
          refine Go.some' ?_
          refine g_istore C (Ls' := #[.val (.int p0), .val (.int p1), .val (.int p2), .val (.int wl), .val (.int mm), .val (.int w), .val (.int x), .val (.int (0 : Int32)), .val (.ref b17), .val (.ref b20), .val (.ref b22), .val (.ref b24), .val (.int (vG_3 wl w x cnt)), .val (.int (vG_76 wl w x cnt)), .unset, .unset, .unset, .unset]) iG_168 rfl ?_
          refine g_aload C iG_170 rfl rfl ?_
          refine g_aload C iG_172 rfl rfl ?_
          refine g_iconst C (1 : Int32) iG_174 rfl ?_
          refine g_callV C (rmF1 l Z aZ hw b24 b22 ((wl + (63 : Int32)) / (64 : Int32)) (vI_1 wl (0 : Int32) (0 : Int64)) r25_fb0 ((2 : Int32) * ((wl + (63 : Int32)) / (64 : Int32))).toNatClampNeg (vT_3 (0 : Int32) 2 ((2 : Int32) * ((wl + (63 : Int32)) / (64 : Int32))).toNatClampNeg (vG_1 wl w x cnt) ((wl + (63 : Int32)) / (64 : Int32)) (fun _ => (0 : Int64))) 1 (vG_2 wl w x cnt) h26 n0 Z26 F_words_b24_cC26 F_used_b24_cC26 F_lastWord_b24_cC26 P26_0 V_b22_cC26 (own_wo hwl) (by decide) (own_hF1 hwl _ (own_l1 hx))) (a := b24) iG_175 (hw _ (List.mem_of_getElem? (i := 33) rfl)) (hw _ (List.mem_of_getElem? (i := 34) rfl)) (fun s hZ => notFace_of_selects (args := #[]) (mvT hZ (hw _ (List.mem_of_getElem? (i := 36) rfl)))) (hw _ (List.mem_of_getElem? (i := 36) rfl)) (hw _ (List.mem_of_getElem? (i := 35) rfl)) (hw _ (List.mem_of_getElem? (i := 8) rfl)) (hw _ (List.mem_of_getElem? (i := 37) rfl)) (by decide) E_b24_cC26 (argsL := [(.ref b22), (.int (1 : Int32))]) (rest := []) rfl rfl pd4 rfl rfl 0 (Nat.le_of_eq rfl) (by decide) (by decide) (by decide) (by decide) rfl rfl ?_
          rintro _ _ ⟨rfl, he93⟩
          refine Go.heap he93.symm ?_
          refine Go.some' ?_
          refine g_istore C (Ls' := #[.val (.int p0), .val (.int p1), .val (.int p2), .val (.int wl), .val (.int mm), .val (.int w), .val (.int x), .val (.int (0 : Int32)), .val (.ref b17), .val (.ref b20), .val (.ref b22), .val (.ref b24), .val (.int (vG_3 wl w x cnt)), .val (.int (vG_76 wl w x cnt)), .val (.int (vG_77 wl w x cnt)), .unset, .unset, .unset]) iG_178 rfl ?_
          refine g_iload C iG_180 rfl ?_
          refine g_iconst C (1 : Int32) iG_182 rfl ?_
          refine g_icmp_lt C iG_183 (fun _ => ?_) (fun q => absurd (by decide) q)
          refine g_iload C iG_191 rfl ?_
          refine g_istore C (Ls' := #[.val (.int p0), .val (.int p1), .val (.int p2), .val (.int wl), .val (.int mm), .val (.int w), .val (.int x), .val (.int (0 : Int32)), .val (.ref b17), .val (.ref b20), .val (.ref b22), .val (.ref b24), .val (.int (vG_3 wl w x cnt)), .val (.int (vG_76 wl w x cnt)), .val (.int (vG_77 wl w x cnt)), .val (.int (vG_3 wl w x cnt)), .unset, .unset]) iG_193 rfl ?_
          refine g_iload C iG_195 rfl ?_
          refine g_iconst C (2 : Int32) iG_197 rfl ?_
          refine g_icmp_lt C iG_198 (fun _ => ?_) (fun q => absurd (by decide) q)
          refine g_iload C iG_206 rfl ?_
          refine g_istore C (Ls' := #[.val (.int p0), .val (.int p1), .val (.int p2), .val (.int wl), .val (.int mm), .val (.int w), .val (.int x), .val (.int (0 : Int32)), .val (.ref b17), .val (.ref b20), .val (.ref b22), .val (.ref b24), .val (.int (vG_3 wl w x cnt)), .val (.int (vG_76 wl w x cnt)), .val (.int (vG_77 wl w x cnt)), .val (.int (vG_3 wl w x cnt)), .val (.int (vG_3 wl w x cnt)), .unset]) iG_208 rfl ?_
          refine g_aload C iG_210 rfl rfl ?_
          refine g_aload C iG_212 rfl rfl ?_
          refine g_iconst C (2 : Int32) iG_214 rfl ?_
          refine g_iload C iG_215 rfl ?_
          refine g_callV C (rmT l Z aZ hw b24 b17 w 2 ((2 : Int32) * ((wl + (63 : Int32)) / (64 : Int32))).toNatClampNeg (vG_1 wl w x cnt) ((wl + (63 : Int32)) / (64 : Int32)) r25_fb0 (vT_3 (0 : Int32) 2 ((2 : Int32) * ((wl + (63 : Int32)) / (64 : Int32))).toNatClampNeg (vG_1 wl w x cnt) ((wl + (63 : Int32)) / (64 : Int32)) (fun _ => (0 : Int64))) h26 n0 Z26 rfl (own_hin hwl _ hx _ hw4) (own_hin hwl _ (own_l1 hx) _ hw4) F_used_b24_cC26 V_b17_cC26 F_words_b24_cC26 P26_0 ge25_fb0 ne_b24_r25_fb0 ne_b17_r25_fb0) (a := b24) iG_217 (hw _ (List.mem_of_getElem? (i := 22) rfl)) (hw _ (List.mem_of_getElem? (i := 23) rfl)) (fun s hZ => notFace_of_selects (args := #[]) (mvT hZ (hw _ (List.mem_of_getElem? (i := 25) rfl)))) (hw _ (List.mem_of_getElem? (i := 25) rfl)) (hw _ (List.mem_of_getElem? (i := 24) rfl)) (hw _ (List.mem_of_getElem? (i := 8) rfl)) (hw _ (List.mem_of_getElem? (i := 26) rfl)) (by decide) E_b24_cC26 (argsL := [(.ref b17), (.int (2 : Int32)), (.int w)]) (rest := []) rfl rfl pd3 rfl rfl 0 (Nat.le_of_eq rfl) (by decide) (by decide) (by decide) (by decide) rfl rfl ?_
          rintro _ h94 ⟨rfl, KC94, P94_0⟩
          refine Go.none' ?_
          have V_b17_cC94 := AV.keep V_b17_cC26 KC94 (ninS ne_b17_r25_fb0 nin0)
          have V_b20_cC94 := AV.keep V_b20_cC26 KC94 (ninS ne_b20_r25_fb0 nin0)
          have V_b22_cC94 := AV.keep V_b22_cC26 KC94 (ninS ne_b22_r25_fb0 nin0)
          have E_b24_cC94 := Exa.keep E_b24_cC26 KC94
          have F_words_b24_cC94 := Fld.keep F_words_b24_cC26 KC94 (ninS ne_b24_r25_fb0 nin0)
          have F_used_b24_cC94 := Fld.keep F_used_b24_cC26 KC94 (ninS ne_b24_r25_fb0 nin0)
          have F_lastWord_b24_cC94 := Fld.keep F_lastWord_b24_cC26 KC94 (ninS ne_b24_r25_fb0 nin0)
          have K94 := Keep.trans K26 KC94 (allS (Or.inr fr25_fb0) all0)
          have Z94 : n0 ≤ h94.size := Nat.le_trans Z26 KC94.1
          refine g_aload C iG_220 rfl rfl ?_
          refine g_aload C iG_222 rfl rfl ?_
          refine g_iconst C (2 : Int32) iG_224 rfl ?_
          refine g_callV C (rmF2 l Z aZ hw b24 b17 ((wl + (63 : Int32)) / (64 : Int32)) (vI_1 wl (0 : Int32) (0 : Int64)) r25_fb0 ((2 : Int32) * ((wl + (63 : Int32)) / (64 : Int32))).toNatClampNeg (vT_3 w 2 ((2 : Int32) * ((wl + (63 : Int32)) / (64 : Int32))).toNatClampNeg (vG_1 wl w x cnt) ((wl + (63 : Int32)) / (64 : Int32)) (vT_3 (0 : Int32) 2 ((2 : Int32) * ((wl + (63 : Int32)) / (64 : Int32))).toNatClampNeg (vG_1 wl w x cnt) ((wl + (63 : Int32)) / (64 : Int32)) (fun _ => (0 : Int64)))) 2 (vG_1 wl w x cnt) h94 n0 Z94 F_words_b24_cC94 F_used_b24_cC94 F_lastWord_b24_cC94 P94_0 V_b17_cC94 (own_wo hwl) (by decide) (own_hF2 hwl _ hx (own_l1 hx))) (a := b24) iG_225 (hw _ (List.mem_of_getElem? (i := 33) rfl)) (hw _ (List.mem_of_getElem? (i := 34) rfl)) (fun s hZ => notFace_of_selects (args := #[]) (mvT hZ (hw _ (List.mem_of_getElem? (i := 36) rfl)))) (hw _ (List.mem_of_getElem? (i := 36) rfl)) (hw _ (List.mem_of_getElem? (i := 35) rfl)) (hw _ (List.mem_of_getElem? (i := 8) rfl)) (hw _ (List.mem_of_getElem? (i := 37) rfl)) (by decide) E_b24_cC94 (argsL := [(.ref b17), (.int (2 : Int32))]) (rest := []) rfl rfl pd4 rfl rfl 0 (Nat.le_of_eq rfl) (by decide) (by decide) (by decide) (by decide) rfl rfl ?_
          rintro _ _ ⟨rfl, he95⟩
          refine Go.heap he95.symm ?_
          refine Go.some' ?_
          refine g_istore C (Ls' := #[.val (.int p0), .val (.int p1), .val (.int p2), .val (.int wl), .val (.int mm), .val (.int w), .val (.int x), .val (.int (0 : Int32)), .val (.ref b17), .val (.ref b20), .val (.ref b22), .val (.ref b24), .val (.int (vG_3 wl w x cnt)), .val (.int (vG_76 wl w x cnt)), .val (.int (vG_77 wl w x cnt)), .val (.int (vG_3 wl w x cnt)), .val (.int (vG_3 wl w x cnt)), .val (.int (vG_78 wl w x cnt))]) iG_228 rfl ?_
          refine g_iload C iG_230 rfl ?_
          refine g_iload C iG_232 rfl ?_
          refine Go.join (mkF m 256 #[.val (.int p0), .val (.int p1), .val (.int p2), .val (.int wl), .val (.int mm), .val (.int w), .val (.int x), .val (.int (0 : Int32)), .val (.ref b17), .val (.ref b20), .val (.ref b22), .val (.ref b24), .val (.int (vG_3 wl w x cnt)), .val (.int (vG_76 wl w x cnt)), .val (.int (vG_77 wl w x cnt)), .val (.int (vG_3 wl w x cnt)), .val (.int (vG_3 wl w x cnt)), .val (.int (vG_78 wl w x cnt))] [(.int (vG_81 wl w x cnt))]) ?_ (fun J => ?_)
          · exact g_retNar C (t := .boolean) iG_256 rfl (by simp) (by decide) (by decide) (show _ = _ from congrArg (fun z => some (Value.int z)) (leafG_12 wl w x cnt hwl hw4 hwm hx hc97_1 hc125_1 hq0))
          · refine g_icmp_ne C iG_234 (fun hc234_1 => ?_) (fun hc234_1 => ?_)
            · refine g_iload C iG_237 rfl ?_
              refine g_iload C iG_239 rfl ?_
              refine g_icmp_ne C iG_241 (fun hc241_1 => ?_) (fun hc241_1 => ?_)
              · refine g_iload C iG_244 rfl ?_
                refine g_iload C iG_246 rfl ?_
                refine g_icmp_ne C iG_248 (fun hc248_1 => ?_) (fun hc248_1 => ?_)
                · refine g_iconst C (1 : Int32) iG_251 rfl ?_
                  refine g_goto C iG_252 ?_
                  have e0 : (vG_81 wl w x cnt) = (1 : Int32) := by simp only [vG_81, if_pos hc234_1, if_pos hc241_1, if_pos hc248_1]
                  exact Go.cast J (by rw [e0])
                · refine g_iconst C (0 : Int32) iG_255 rfl ?_
                  have e0 : (vG_81 wl w x cnt) = (0 : Int32) := by simp only [vG_81, if_pos hc234_1, if_pos hc241_1, if_neg hc248_1]
                  exact Go.cast J (by rw [e0])
              · refine g_iconst C (0 : Int32) iG_255 rfl ?_
                have e0 : (vG_81 wl w x cnt) = (0 : Int32) := by simp only [vG_81, if_pos hc234_1, if_neg hc241_1]
                exact Go.cast J (by rw [e0])
            · refine g_iconst C (0 : Int32) iG_255 rfl ?_
              have e0 : (vG_81 wl w x cnt) = (0 : Int32) := by simp only [vG_81, if_neg hc234_1]
              exact Go.cast J (by rw [e0])
        · refine g_icmp_gt C iG_150 (fun hc150_1 => ?_) (fun hc150_1 => ?_)
          · refine g_iconst C (4 : Int32) iG_157 rfl ?_
            have e0 : (vG_3 wl w x cnt) = (4 : Int32) := by simp only [vG_3, if_pos hc150_1]
            exact Go.cast J (by rw [e0])
          · refine g_iconst C (-1 : Int32) iG_153 rfl ?_
            refine g_goto C iG_154 ?_
            have e0 : (vG_3 wl w x cnt) = (-1 : Int32) := by simp only [vG_3, if_neg hc150_1]
            exact Go.cast J (by rw [e0])
      · refine Go.cast (g' := mkF m 137 #[.val (.int p0), .val (.int p1), .val (.int p2), .val (.int wl), .val (.int mm), .val (.int w), .val (.int x), .val (.int (1 : Int32)), .val (.ref b17), .val (.ref b20), .val (.ref b22), .val (.ref b24), .unset, .unset, .unset, .unset, .unset, .unset] []) ?_ (by rw [hq1])
        refine g_aload C iG_137 rfl rfl ?_
        refine g_aload C iG_139 rfl rfl ?_
        refine g_iload C iG_141 rfl ?_
        refine g_iload C iG_143 rfl ?_
        refine g_callV C (rmR1 l Z aZ hw b24 b17 w 2 ((2 : Int32) * ((wl + (63 : Int32)) / (64 : Int32))).toNatClampNeg (vG_1 wl w x cnt) ((wl + (63 : Int32)) / (64 : Int32)) r25_fb0 (vT_3 (0 : Int32) 2 ((2 : Int32) * ((wl + (63 : Int32)) / (64 : Int32))).toNatClampNeg (vG_1 wl w x cnt) ((wl + (63 : Int32)) / (64 : Int32)) (fun _ => (0 : Int64))) h26 n0 Z26 rfl (own_hin hwl _ hx _ hw4) F_used_b24_cC26 V_b17_cC26 F_words_b24_cC26 P26_0 ge25_fb0 ne_b24_r25_fb0 ne_b17_r25_fb0) (a := b24) iG_145 (hw _ (List.mem_of_getElem? (i := 27) rfl)) (hw _ (List.mem_of_getElem? (i := 28) rfl)) (fun s hZ => notFace_of_selects (args := #[]) (mvT hZ (hw _ (List.mem_of_getElem? (i := 30) rfl)))) (hw _ (List.mem_of_getElem? (i := 30) rfl)) (hw _ (List.mem_of_getElem? (i := 29) rfl)) (hw _ (List.mem_of_getElem? (i := 8) rfl)) (hw _ (List.mem_of_getElem? (i := 31) rfl)) (by decide) E_b24_cC26 (argsL := [(.ref b17), (.int (1 : Int32)), (.int w)]) (rest := []) rfl rfl pd3 rfl rfl 0 (Nat.le_of_eq rfl) (by decide) (by decide) (by decide) (by decide) rfl rfl ?_
        rintro _ h96 ⟨rfl, KC96, P96_0⟩
        refine Go.none' ?_
        have V_b17_cC96 := AV.keep V_b17_cC26 KC96 (ninS ne_b17_r25_fb0 nin0)
        have V_b20_cC96 := AV.keep V_b20_cC26 KC96 (ninS ne_b20_r25_fb0 nin0)
        have V_b22_cC96 := AV.keep V_b22_cC26 KC96 (ninS ne_b22_r25_fb0 nin0)
        have E_b24_cC96 := Exa.keep E_b24_cC26 KC96
        have F_words_b24_cC96 := Fld.keep F_words_b24_cC26 KC96 (ninS ne_b24_r25_fb0 nin0)
        have F_used_b24_cC96 := Fld.keep F_used_b24_cC26 KC96 (ninS ne_b24_r25_fb0 nin0)
        have F_lastWord_b24_cC96 := Fld.keep F_lastWord_b24_cC26 KC96 (ninS ne_b24_r25_fb0 nin0)
        have K96 := Keep.trans K26 KC96 (allS (Or.inr fr25_fb0) all0)
        have Z96 : n0 ≤ h96.size := Nat.le_trans Z26 KC96.1
        refine g_iloadN C iG_148 rfl ?_
        refine g_iconst C (4 : Int32) iG_149 rfl ?_
        refine Go.join (mkF m 158 #[.val (.int p0), .val (.int p1), .val (.int p2), .val (.int wl), .val (.int mm), .val (.int w), .val (.int x), .val (.int (1 : Int32)), .val (.ref b17), .val (.ref b20), .val (.ref b22), .val (.ref b24), .unset, .unset, .unset, .unset, .unset, .unset] [(.int (vG_3 wl w x cnt))]) ?_ (fun J => ?_)
        · refine g_istore C (Ls' := #[.val (.int p0), .val (.int p1), .val (.int p2), .val (.int wl), .val (.int mm), .val (.int w), .val (.int x), .val (.int (1 : Int32)), .val (.ref b17), .val (.ref b20), .val (.ref b22), .val (.ref b24), .val (.int (vG_3 wl w x cnt)), .unset, .unset, .unset, .unset, .unset]) iG_158 rfl ?_
          refine g_aload C iG_160 rfl rfl ?_
          refine g_aload C iG_162 rfl rfl ?_
          refine g_iconst C (1 : Int32) iG_164 rfl ?_
          refine g_callV C (rmF1 l Z aZ hw b24 b20 ((wl + (63 : Int32)) / (64 : Int32)) (vI_1 wl (0 : Int32) (0 : Int64)) r25_fb0 ((2 : Int32) * ((wl + (63 : Int32)) / (64 : Int32))).toNatClampNeg (vR1_1 w 2 ((2 : Int32) * ((wl + (63 : Int32)) / (64 : Int32))).toNatClampNeg (vG_1 wl w x cnt) ((wl + (63 : Int32)) / (64 : Int32)) (vT_3 (0 : Int32) 2 ((2 : Int32) * ((wl + (63 : Int32)) / (64 : Int32))).toNatClampNeg (vG_1 wl w x cnt) ((wl + (63 : Int32)) / (64 : Int32)) (fun _ => (0 : Int64)))) 1 (vG_0 wl w x cnt) h96 n0 Z96 F_words_b24_cC96 F_used_b24_cC96 F_lastWord_b24_cC96 P96_0 V_b20_cC96 (own_wo hwl) (by decide) (own_hF1 hwl _ hx)) (a := b24) iG_165 (hw _ (List.mem_of_getElem? (i := 33) rfl)) (hw _ (List.mem_of_getElem? (i := 34) rfl)) (fun s hZ => notFace_of_selects (args := #[]) (mvT hZ (hw _ (List.mem_of_getElem? (i := 36) rfl)))) (hw _ (List.mem_of_getElem? (i := 36) rfl)) (hw _ (List.mem_of_getElem? (i := 35) rfl)) (hw _ (List.mem_of_getElem? (i := 8) rfl)) (hw _ (List.mem_of_getElem? (i := 37) rfl)) (by decide) E_b24_cC96 (argsL := [(.ref b20), (.int (1 : Int32))]) (rest := []) rfl rfl pd4 rfl rfl 0 (Nat.le_of_eq rfl) (by decide) (by decide) (by decide) (by decide) rfl rfl ?_
          rintro _ _ ⟨rfl, he97⟩
          refine Go.heap he97.symm ?_
          refine Go.some' ?_
          refine g_istore C (Ls' := #[.val (.int p0), .val (.int p1), .val (.int p2), .val (.int wl), .val (.int mm), .val (.int w), .val (.int x), .val (.int (1 : Int32)), .val (.ref b17), .val (.ref b20), .val (.ref b22), .val (.ref b24), .val (.int (vG_3 wl w x cnt)), .val (.int (vG_82 wl w x cnt)), .unset, .unset, .unset, .unset]) iG_168 rfl ?_
          refine g_aload C iG_170 rfl rfl ?_
          refine g_aload C iG_172 rfl rfl ?_
          refine g_iconst C (1 : Int32) iG_174 rfl ?_
          refine g_callV C (rmF1 l Z aZ hw b24 b22 ((wl + (63 : Int32)) / (64 : Int32)) (vI_1 wl (0 : Int32) (0 : Int64)) r25_fb0 ((2 : Int32) * ((wl + (63 : Int32)) / (64 : Int32))).toNatClampNeg (vR1_1 w 2 ((2 : Int32) * ((wl + (63 : Int32)) / (64 : Int32))).toNatClampNeg (vG_1 wl w x cnt) ((wl + (63 : Int32)) / (64 : Int32)) (vT_3 (0 : Int32) 2 ((2 : Int32) * ((wl + (63 : Int32)) / (64 : Int32))).toNatClampNeg (vG_1 wl w x cnt) ((wl + (63 : Int32)) / (64 : Int32)) (fun _ => (0 : Int64)))) 1 (vG_2 wl w x cnt) h96 n0 Z96 F_words_b24_cC96 F_used_b24_cC96 F_lastWord_b24_cC96 P96_0 V_b22_cC96 (own_wo hwl) (by decide) (own_hF1 hwl _ (own_l1 hx))) (a := b24) iG_175 (hw _ (List.mem_of_getElem? (i := 33) rfl)) (hw _ (List.mem_of_getElem? (i := 34) rfl)) (fun s hZ => notFace_of_selects (args := #[]) (mvT hZ (hw _ (List.mem_of_getElem? (i := 36) rfl)))) (hw _ (List.mem_of_getElem? (i := 36) rfl)) (hw _ (List.mem_of_getElem? (i := 35) rfl)) (hw _ (List.mem_of_getElem? (i := 8) rfl)) (hw _ (List.mem_of_getElem? (i := 37) rfl)) (by decide) E_b24_cC96 (argsL := [(.ref b22), (.int (1 : Int32))]) (rest := []) rfl rfl pd4 rfl rfl 0 (Nat.le_of_eq rfl) (by decide) (by decide) (by decide) (by decide) rfl rfl ?_
          rintro _ _ ⟨rfl, he98⟩
          refine Go.heap he98.symm ?_
          refine Go.some' ?_
          refine g_istore C (Ls' := #[.val (.int p0), .val (.int p1), .val (.int p2), .val (.int wl), .val (.int mm), .val (.int w), .val (.int x), .val (.int (1 : Int32)), .val (.ref b17), .val (.ref b20), .val (.ref b22), .val (.ref b24), .val (.int (vG_3 wl w x cnt)), .val (.int (vG_82 wl w x cnt)), .val (.int (vG_83 wl w x cnt)), .unset, .unset, .unset]) iG_178 rfl ?_
          refine g_iload C iG_180 rfl ?_
          refine g_iconst C (1 : Int32) iG_182 rfl ?_
          refine g_icmp_lt C iG_183 (fun q => absurd q (by decide)) (fun _ => ?_)
          refine g_iload C iG_186 rfl ?_
          refine g_goto C iG_188 ?_
          refine g_istore C (Ls' := #[.val (.int p0), .val (.int p1), .val (.int p2), .val (.int wl), .val (.int mm), .val (.int w), .val (.int x), .val (.int (1 : Int32)), .val (.ref b17), .val (.ref b20), .val (.ref b22), .val (.ref b24), .val (.int (vG_3 wl w x cnt)), .val (.int (vG_82 wl w x cnt)), .val (.int (vG_83 wl w x cnt)), .val (.int w), .unset, .unset]) iG_193 rfl ?_
          refine g_iload C iG_195 rfl ?_
          refine g_iconst C (2 : Int32) iG_197 rfl ?_
          refine g_icmp_lt C iG_198 (fun _ => ?_) (fun q => absurd (by decide) q)
          refine g_iload C iG_206 rfl ?_
          refine g_istore C (Ls' := #[.val (.int p0), .val (.int p1), .val (.int p2), .val (.int wl), .val (.int mm), .val (.int w), .val (.int x), .val (.int (1 : Int32)), .val (.ref b17), .val (.ref b20), .val (.ref b22), .val (.ref b24), .val (.int (vG_3 wl w x cnt)), .val (.int (vG_82 wl w x cnt)), .val (.int (vG_83 wl w x cnt)), .val (.int w), .val (.int (vG_3 wl w x cnt)), .unset]) iG_208 rfl ?_
          refine g_aload C iG_210 rfl rfl ?_
          refine g_aload C iG_212 rfl rfl ?_
          refine g_iconst C (2 : Int32) iG_214 rfl ?_
          refine g_iload C iG_215 rfl ?_
          refine g_callV C (rmT l Z aZ hw b24 b17 w 2 ((2 : Int32) * ((wl + (63 : Int32)) / (64 : Int32))).toNatClampNeg (vG_1 wl w x cnt) ((wl + (63 : Int32)) / (64 : Int32)) r25_fb0 (vR1_1 w 2 ((2 : Int32) * ((wl + (63 : Int32)) / (64 : Int32))).toNatClampNeg (vG_1 wl w x cnt) ((wl + (63 : Int32)) / (64 : Int32)) (vT_3 (0 : Int32) 2 ((2 : Int32) * ((wl + (63 : Int32)) / (64 : Int32))).toNatClampNeg (vG_1 wl w x cnt) ((wl + (63 : Int32)) / (64 : Int32)) (fun _ => (0 : Int64)))) h96 n0 Z96 rfl (own_hin hwl _ hx _ hw4) (own_hin hwl _ (own_l1 hx) _ hw4) F_used_b24_cC96 V_b17_cC96 F_words_b24_cC96 P96_0 ge25_fb0 ne_b24_r25_fb0 ne_b17_r25_fb0) (a := b24) iG_217 (hw _ (List.mem_of_getElem? (i := 22) rfl)) (hw _ (List.mem_of_getElem? (i := 23) rfl)) (fun s hZ => notFace_of_selects (args := #[]) (mvT hZ (hw _ (List.mem_of_getElem? (i := 25) rfl)))) (hw _ (List.mem_of_getElem? (i := 25) rfl)) (hw _ (List.mem_of_getElem? (i := 24) rfl)) (hw _ (List.mem_of_getElem? (i := 8) rfl)) (hw _ (List.mem_of_getElem? (i := 26) rfl)) (by decide) E_b24_cC96 (argsL := [(.ref b17), (.int (2 : Int32)), (.int w)]) (rest := []) rfl rfl pd3 rfl rfl 0 (Nat.le_of_eq rfl) (by decide) (by decide) (by decide) (by decide) rfl rfl ?_
          rintro _ h99 ⟨rfl, KC99, P99_0⟩
          refine Go.none' ?_
          have V_b17_cC99 := AV.keep V_b17_cC96 KC99 (ninS ne_b17_r25_fb0 nin0)
          have V_b20_cC99 := AV.keep V_b20_cC96 KC99 (ninS ne_b20_r25_fb0 nin0)
          have V_b22_cC99 := AV.keep V_b22_cC96 KC99 (ninS ne_b22_r25_fb0 nin0)
          have E_b24_cC99 := Exa.keep E_b24_cC96 KC99
          have F_words_b24_cC99 := Fld.keep F_words_b24_cC96 KC99 (ninS ne_b24_r25_fb0 nin0)
          have F_used_b24_cC99 := Fld.keep F_used_b24_cC96 KC99 (ninS ne_b24_r25_fb0 nin0)
          have F_lastWord_b24_cC99 := Fld.keep F_lastWord_b24_cC96 KC99 (ninS ne_b24_r25_fb0 nin0)
          have K99 := Keep.trans K96 KC99 (allS (Or.inr fr25_fb0) all0)
          have Z99 : n0 ≤ h99.size := Nat.le_trans Z96 KC99.1
          refine g_aload C iG_220 rfl rfl ?_
          refine g_aload C iG_222 rfl rfl ?_
          refine g_iconst C (2 : Int32) iG_224 rfl ?_
          refine g_callV C (rmF2 l Z aZ hw b24 b17 ((wl + (63 : Int32)) / (64 : Int32)) (vI_1 wl (0 : Int32) (0 : Int64)) r25_fb0 ((2 : Int32) * ((wl + (63 : Int32)) / (64 : Int32))).toNatClampNeg (vT_3 w 2 ((2 : Int32) * ((wl + (63 : Int32)) / (64 : Int32))).toNatClampNeg (vG_1 wl w x cnt) ((wl + (63 : Int32)) / (64 : Int32)) (vR1_1 w 2 ((2 : Int32) * ((wl + (63 : Int32)) / (64 : Int32))).toNatClampNeg (vG_1 wl w x cnt) ((wl + (63 : Int32)) / (64 : Int32)) (vT_3 (0 : Int32) 2 ((2 : Int32) * ((wl + (63 : Int32)) / (64 : Int32))).toNatClampNeg (vG_1 wl w x cnt) ((wl + (63 : Int32)) / (64 : Int32)) (fun _ => (0 : Int64))))) 2 (vG_1 wl w x cnt) h99 n0 Z99 F_words_b24_cC99 F_used_b24_cC99 F_lastWord_b24_cC99 P99_0 V_b17_cC99 (own_wo hwl) (by decide) (own_hF2 hwl _ hx (own_l1 hx))) (a := b24) iG_225 (hw _ (List.mem_of_getElem? (i := 33) rfl)) (hw _ (List.mem_of_getElem? (i := 34) rfl)) (fun s hZ => notFace_of_selects (args := #[]) (mvT hZ (hw _ (List.mem_of_getElem? (i := 36) rfl)))) (hw _ (List.mem_of_getElem? (i := 36) rfl)) (hw _ (List.mem_of_getElem? (i := 35) rfl)) (hw _ (List.mem_of_getElem? (i := 8) rfl)) (hw _ (List.mem_of_getElem? (i := 37) rfl)) (by decide) E_b24_cC99 (argsL := [(.ref b17), (.int (2 : Int32))]) (rest := []) rfl rfl pd4 rfl rfl 0 (Nat.le_of_eq rfl) (by decide) (by decide) (by decide) (by decide) rfl rfl ?_
          rintro _ _ ⟨rfl, he100⟩
          refine Go.heap he100.symm ?_
          refine Go.some' ?_
          refine g_istore C (Ls' := #[.val (.int p0), .val (.int p1), .val (.int p2), .val (.int wl), .val (.int mm), .val (.int w), .val (.int x), .val (.int (1 : Int32)), .val (.ref b17), .val (.ref b20), .val (.ref b22), .val (.ref b24), .val (.int (vG_3 wl w x cnt)), .val (.int (vG_82 wl w x cnt)), .val (.int (vG_83 wl w x cnt)), .val (.int w), .val (.int (vG_3 wl w x cnt)), .val (.int (vG_84 wl w x cnt))]) iG_228 rfl ?_
          refine g_iload C iG_230 rfl ?_
          refine g_iload C iG_232 rfl ?_
          refine Go.join (mkF m 256 #[.val (.int p0), .val (.int p1), .val (.int p2), .val (.int wl), .val (.int mm), .val (.int w), .val (.int x), .val (.int (1 : Int32)), .val (.ref b17), .val (.ref b20), .val (.ref b22), .val (.ref b24), .val (.int (vG_3 wl w x cnt)), .val (.int (vG_82 wl w x cnt)), .val (.int (vG_83 wl w x cnt)), .val (.int w), .val (.int (vG_3 wl w x cnt)), .val (.int (vG_84 wl w x cnt))] [(.int (vG_87 wl w x cnt))]) ?_ (fun J => ?_)
          · exact g_retNar C (t := .boolean) iG_256 rfl (by simp) (by decide) (by decide) (show _ = _ from congrArg (fun z => some (Value.int z)) (leafG_13 wl w x cnt hwl hw4 hwm hx hc97_1 hc125_1 hq1))
          · refine g_icmp_ne C iG_234 (fun hc234_1 => ?_) (fun hc234_1 => ?_)
            · refine g_iload C iG_237 rfl ?_
              refine g_iload C iG_239 rfl ?_
              refine g_icmp_ne C iG_241 (fun hc241_1 => ?_) (fun hc241_1 => ?_)
              · refine g_iload C iG_244 rfl ?_
                refine g_iload C iG_246 rfl ?_
                refine g_icmp_ne C iG_248 (fun hc248_1 => ?_) (fun hc248_1 => ?_)
                · refine g_iconst C (1 : Int32) iG_251 rfl ?_
                  refine g_goto C iG_252 ?_
                  have e0 : (vG_87 wl w x cnt) = (1 : Int32) := by simp only [vG_87, if_pos hc234_1, if_pos hc241_1, if_pos hc248_1]
                  exact Go.cast J (by rw [e0])
                · refine g_iconst C (0 : Int32) iG_255 rfl ?_
                  have e0 : (vG_87 wl w x cnt) = (0 : Int32) := by simp only [vG_87, if_pos hc234_1, if_pos hc241_1, if_neg hc248_1]
                  exact Go.cast J (by rw [e0])
              · refine g_iconst C (0 : Int32) iG_255 rfl ?_
                have e0 : (vG_87 wl w x cnt) = (0 : Int32) := by simp only [vG_87, if_pos hc234_1, if_neg hc241_1]
                exact Go.cast J (by rw [e0])
            · refine g_iconst C (0 : Int32) iG_255 rfl ?_
              have e0 : (vG_87 wl w x cnt) = (0 : Int32) := by simp only [vG_87, if_neg hc234_1]
              exact Go.cast J (by rw [e0])
        · refine g_icmp_gt C iG_150 (fun hc150_1 => ?_) (fun hc150_1 => ?_)
          · refine g_iconst C (4 : Int32) iG_157 rfl ?_
            have e0 : (vG_3 wl w x cnt) = (4 : Int32) := by simp only [vG_3, if_pos hc150_1]
            exact Go.cast J (by rw [e0])
          · refine g_iconst C (-1 : Int32) iG_153 rfl ?_
            refine g_goto C iG_154 ?_
            have e0 : (vG_3 wl w x cnt) = (-1 : Int32) := by simp only [vG_3, if_neg hc150_1]
            exact Go.cast J (by rw [e0])
      · refine Go.cast (g' := mkF m 137 #[.val (.int p0), .val (.int p1), .val (.int p2), .val (.int wl), .val (.int mm), .val (.int w), .val (.int x), .val (.int (2 : Int32)), .val (.ref b17), .val (.ref b20), .val (.ref b22), .val (.ref b24), .unset, .unset, .unset, .unset, .unset, .unset] []) ?_ (by rw [hq2])
        refine g_aload C iG_137 rfl rfl ?_
        refine g_aload C iG_139 rfl rfl ?_
        refine g_iload C iG_141 rfl ?_
        refine g_iload C iG_143 rfl ?_
        refine g_callV C (rmR2 l Z aZ hw b24 b17 w 2 ((2 : Int32) * ((wl + (63 : Int32)) / (64 : Int32))).toNatClampNeg (vG_1 wl w x cnt) ((wl + (63 : Int32)) / (64 : Int32)) r25_fb0 (vT_3 (0 : Int32) 2 ((2 : Int32) * ((wl + (63 : Int32)) / (64 : Int32))).toNatClampNeg (vG_1 wl w x cnt) ((wl + (63 : Int32)) / (64 : Int32)) (fun _ => (0 : Int64))) h26 n0 Z26 rfl (own_hin hwl _ hx _ hw4) (own_hin hwl _ (own_l1 hx) _ hw4) F_used_b24_cC26 V_b17_cC26 F_words_b24_cC26 P26_0 ge25_fb0 ne_b24_r25_fb0 ne_b17_r25_fb0) (a := b24) iG_145 (hw _ (List.mem_of_getElem? (i := 27) rfl)) (hw _ (List.mem_of_getElem? (i := 28) rfl)) (fun s hZ => notFace_of_selects (args := #[]) (mvT hZ (hw _ (List.mem_of_getElem? (i := 30) rfl)))) (hw _ (List.mem_of_getElem? (i := 30) rfl)) (hw _ (List.mem_of_getElem? (i := 29) rfl)) (hw _ (List.mem_of_getElem? (i := 8) rfl)) (hw _ (List.mem_of_getElem? (i := 31) rfl)) (by decide) E_b24_cC26 (argsL := [(.ref b17), (.int (2 : Int32)), (.int w)]) (rest := []) rfl rfl pd3 rfl rfl 0 (Nat.le_of_eq rfl) (by decide) (by decide) (by decide) (by decide) rfl rfl ?_
        rintro _ h101 ⟨rfl, KC101, P101_0⟩
        refine Go.none' ?_
        have V_b17_cC101 := AV.keep V_b17_cC26 KC101 (ninS ne_b17_r25_fb0 nin0)
        have V_b20_cC101 := AV.keep V_b20_cC26 KC101 (ninS ne_b20_r25_fb0 nin0)
        have V_b22_cC101 := AV.keep V_b22_cC26 KC101 (ninS ne_b22_r25_fb0 nin0)
        have E_b24_cC101 := Exa.keep E_b24_cC26 KC101
        have F_words_b24_cC101 := Fld.keep F_words_b24_cC26 KC101 (ninS ne_b24_r25_fb0 nin0)
        have F_used_b24_cC101 := Fld.keep F_used_b24_cC26 KC101 (ninS ne_b24_r25_fb0 nin0)
        have F_lastWord_b24_cC101 := Fld.keep F_lastWord_b24_cC26 KC101 (ninS ne_b24_r25_fb0 nin0)
        have K101 := Keep.trans K26 KC101 (allS (Or.inr fr25_fb0) all0)
        have Z101 : n0 ≤ h101.size := Nat.le_trans Z26 KC101.1
        refine g_iloadN C iG_148 rfl ?_
        refine g_iconst C (4 : Int32) iG_149 rfl ?_
        refine Go.join (mkF m 158 #[.val (.int p0), .val (.int p1), .val (.int p2), .val (.int wl), .val (.int mm), .val (.int w), .val (.int x), .val (.int (2 : Int32)), .val (.ref b17), .val (.ref b20), .val (.ref b22), .val (.ref b24), .unset, .unset, .unset, .unset, .unset, .unset] [(.int (vG_3 wl w x cnt))]) ?_ (fun J => ?_)
        · refine g_istore C (Ls' := #[.val (.int p0), .val (.int p1), .val (.int p2), .val (.int wl), .val (.int mm), .val (.int w), .val (.int x), .val (.int (2 : Int32)), .val (.ref b17), .val (.ref b20), .val (.ref b22), .val (.ref b24), .val (.int (vG_3 wl w x cnt)), .unset, .unset, .unset, .unset, .unset]) iG_158 rfl ?_
          refine g_aload C iG_160 rfl rfl ?_
          refine g_aload C iG_162 rfl rfl ?_
          refine g_iconst C (1 : Int32) iG_164 rfl ?_
          refine g_callV C (rmF1 l Z aZ hw b24 b20 ((wl + (63 : Int32)) / (64 : Int32)) (vI_1 wl (0 : Int32) (0 : Int64)) r25_fb0 ((2 : Int32) * ((wl + (63 : Int32)) / (64 : Int32))).toNatClampNeg (vR2_3 w 2 ((2 : Int32) * ((wl + (63 : Int32)) / (64 : Int32))).toNatClampNeg (vG_1 wl w x cnt) ((wl + (63 : Int32)) / (64 : Int32)) (vT_3 (0 : Int32) 2 ((2 : Int32) * ((wl + (63 : Int32)) / (64 : Int32))).toNatClampNeg (vG_1 wl w x cnt) ((wl + (63 : Int32)) / (64 : Int32)) (fun _ => (0 : Int64)))) 1 (vG_0 wl w x cnt) h101 n0 Z101 F_words_b24_cC101 F_used_b24_cC101 F_lastWord_b24_cC101 P101_0 V_b20_cC101 (own_wo hwl) (by decide) (own_hF1 hwl _ hx)) (a := b24) iG_165 (hw _ (List.mem_of_getElem? (i := 33) rfl)) (hw _ (List.mem_of_getElem? (i := 34) rfl)) (fun s hZ => notFace_of_selects (args := #[]) (mvT hZ (hw _ (List.mem_of_getElem? (i := 36) rfl)))) (hw _ (List.mem_of_getElem? (i := 36) rfl)) (hw _ (List.mem_of_getElem? (i := 35) rfl)) (hw _ (List.mem_of_getElem? (i := 8) rfl)) (hw _ (List.mem_of_getElem? (i := 37) rfl)) (by decide) E_b24_cC101 (argsL := [(.ref b20), (.int (1 : Int32))]) (rest := []) rfl rfl pd4 rfl rfl 0 (Nat.le_of_eq rfl) (by decide) (by decide) (by decide) (by decide) rfl rfl ?_
          rintro _ _ ⟨rfl, he102⟩
          refine Go.heap he102.symm ?_
          refine Go.some' ?_
          refine g_istore C (Ls' := #[.val (.int p0), .val (.int p1), .val (.int p2), .val (.int wl), .val (.int mm), .val (.int w), .val (.int x), .val (.int (2 : Int32)), .val (.ref b17), .val (.ref b20), .val (.ref b22), .val (.ref b24), .val (.int (vG_3 wl w x cnt)), .val (.int (vG_88 wl w x cnt)), .unset, .unset, .unset, .unset]) iG_168 rfl ?_
          refine g_aload C iG_170 rfl rfl ?_
          refine g_aload C iG_172 rfl rfl ?_
          refine g_iconst C (1 : Int32) iG_174 rfl ?_
          refine g_callV C (rmF1 l Z aZ hw b24 b22 ((wl + (63 : Int32)) / (64 : Int32)) (vI_1 wl (0 : Int32) (0 : Int64)) r25_fb0 ((2 : Int32) * ((wl + (63 : Int32)) / (64 : Int32))).toNatClampNeg (vR2_3 w 2 ((2 : Int32) * ((wl + (63 : Int32)) / (64 : Int32))).toNatClampNeg (vG_1 wl w x cnt) ((wl + (63 : Int32)) / (64 : Int32)) (vT_3 (0 : Int32) 2 ((2 : Int32) * ((wl + (63 : Int32)) / (64 : Int32))).toNatClampNeg (vG_1 wl w x cnt) ((wl + (63 : Int32)) / (64 : Int32)) (fun _ => (0 : Int64)))) 1 (vG_2 wl w x cnt) h101 n0 Z101 F_words_b24_cC101 F_used_b24_cC101 F_lastWord_b24_cC101 P101_0 V_b22_cC101 (own_wo hwl) (by decide) (own_hF1 hwl _ (own_l1 hx))) (a := b24) iG_175 (hw _ (List.mem_of_getElem? (i := 33) rfl)) (hw _ (List.mem_of_getElem? (i := 34) rfl)) (fun s hZ => notFace_of_selects (args := #[]) (mvT hZ (hw _ (List.mem_of_getElem? (i := 36) rfl)))) (hw _ (List.mem_of_getElem? (i := 36) rfl)) (hw _ (List.mem_of_getElem? (i := 35) rfl)) (hw _ (List.mem_of_getElem? (i := 8) rfl)) (hw _ (List.mem_of_getElem? (i := 37) rfl)) (by decide) E_b24_cC101 (argsL := [(.ref b22), (.int (1 : Int32))]) (rest := []) rfl rfl pd4 rfl rfl 0 (Nat.le_of_eq rfl) (by decide) (by decide) (by decide) (by decide) rfl rfl ?_
          rintro _ _ ⟨rfl, he103⟩
          refine Go.heap he103.symm ?_
          refine Go.some' ?_
          refine g_istore C (Ls' := #[.val (.int p0), .val (.int p1), .val (.int p2), .val (.int wl), .val (.int mm), .val (.int w), .val (.int x), .val (.int (2 : Int32)), .val (.ref b17), .val (.ref b20), .val (.ref b22), .val (.ref b24), .val (.int (vG_3 wl w x cnt)), .val (.int (vG_88 wl w x cnt)), .val (.int (vG_89 wl w x cnt)), .unset, .unset, .unset]) iG_178 rfl ?_
          refine g_iload C iG_180 rfl ?_
          refine g_iconst C (1 : Int32) iG_182 rfl ?_
          refine g_icmp_lt C iG_183 (fun q => absurd q (by decide)) (fun _ => ?_)
          refine g_iload C iG_186 rfl ?_
          refine g_goto C iG_188 ?_
          refine g_istore C (Ls' := #[.val (.int p0), .val (.int p1), .val (.int p2), .val (.int wl), .val (.int mm), .val (.int w), .val (.int x), .val (.int (2 : Int32)), .val (.ref b17), .val (.ref b20), .val (.ref b22), .val (.ref b24), .val (.int (vG_3 wl w x cnt)), .val (.int (vG_88 wl w x cnt)), .val (.int (vG_89 wl w x cnt)), .val (.int w), .unset, .unset]) iG_193 rfl ?_
          refine g_iload C iG_195 rfl ?_
          refine g_iconst C (2 : Int32) iG_197 rfl ?_
          refine g_icmp_lt C iG_198 (fun q => absurd q (by decide)) (fun _ => ?_)
          refine g_iload C iG_201 rfl ?_
          refine g_goto C iG_203 ?_
          refine g_istore C (Ls' := #[.val (.int p0), .val (.int p1), .val (.int p2), .val (.int wl), .val (.int mm), .val (.int w), .val (.int x), .val (.int (2 : Int32)), .val (.ref b17), .val (.ref b20), .val (.ref b22), .val (.ref b24), .val (.int (vG_3 wl w x cnt)), .val (.int (vG_88 wl w x cnt)), .val (.int (vG_89 wl w x cnt)), .val (.int w), .val (.int w), .unset]) iG_208 rfl ?_
          refine g_aload C iG_210 rfl rfl ?_
          refine g_aload C iG_212 rfl rfl ?_
          refine g_iconst C (2 : Int32) iG_214 rfl ?_
          refine g_iload C iG_215 rfl ?_
          refine g_callV C (rmT l Z aZ hw b24 b17 w 2 ((2 : Int32) * ((wl + (63 : Int32)) / (64 : Int32))).toNatClampNeg (vG_1 wl w x cnt) ((wl + (63 : Int32)) / (64 : Int32)) r25_fb0 (vR2_3 w 2 ((2 : Int32) * ((wl + (63 : Int32)) / (64 : Int32))).toNatClampNeg (vG_1 wl w x cnt) ((wl + (63 : Int32)) / (64 : Int32)) (vT_3 (0 : Int32) 2 ((2 : Int32) * ((wl + (63 : Int32)) / (64 : Int32))).toNatClampNeg (vG_1 wl w x cnt) ((wl + (63 : Int32)) / (64 : Int32)) (fun _ => (0 : Int64)))) h101 n0 Z101 rfl (own_hin hwl _ hx _ hw4) (own_hin hwl _ (own_l1 hx) _ hw4) F_used_b24_cC101 V_b17_cC101 F_words_b24_cC101 P101_0 ge25_fb0 ne_b24_r25_fb0 ne_b17_r25_fb0) (a := b24) iG_217 (hw _ (List.mem_of_getElem? (i := 22) rfl)) (hw _ (List.mem_of_getElem? (i := 23) rfl)) (fun s hZ => notFace_of_selects (args := #[]) (mvT hZ (hw _ (List.mem_of_getElem? (i := 25) rfl)))) (hw _ (List.mem_of_getElem? (i := 25) rfl)) (hw _ (List.mem_of_getElem? (i := 24) rfl)) (hw _ (List.mem_of_getElem? (i := 8) rfl)) (hw _ (List.mem_of_getElem? (i := 26) rfl)) (by decide) E_b24_cC101 (argsL := [(.ref b17), (.int (2 : Int32)), (.int w)]) (rest := []) rfl rfl pd3 rfl rfl 0 (Nat.le_of_eq rfl) (by decide) (by decide) (by decide) (by decide) rfl rfl ?_
          rintro _ h104 ⟨rfl, KC104, P104_0⟩
          refine Go.none' ?_
          have V_b17_cC104 := AV.keep V_b17_cC101 KC104 (ninS ne_b17_r25_fb0 nin0)
          have V_b20_cC104 := AV.keep V_b20_cC101 KC104 (ninS ne_b20_r25_fb0 nin0)
          have V_b22_cC104 := AV.keep V_b22_cC101 KC104 (ninS ne_b22_r25_fb0 nin0)
          have E_b24_cC104 := Exa.keep E_b24_cC101 KC104
          have F_words_b24_cC104 := Fld.keep F_words_b24_cC101 KC104 (ninS ne_b24_r25_fb0 nin0)
          have F_used_b24_cC104 := Fld.keep F_used_b24_cC101 KC104 (ninS ne_b24_r25_fb0 nin0)
          have F_lastWord_b24_cC104 := Fld.keep F_lastWord_b24_cC101 KC104 (ninS ne_b24_r25_fb0 nin0)
          have K104 := Keep.trans K101 KC104 (allS (Or.inr fr25_fb0) all0)
          have Z104 : n0 ≤ h104.size := Nat.le_trans Z101 KC104.1
          refine g_aload C iG_220 rfl rfl ?_
          refine g_aload C iG_222 rfl rfl ?_
          refine g_iconst C (2 : Int32) iG_224 rfl ?_
          refine g_callV C (rmF2 l Z aZ hw b24 b17 ((wl + (63 : Int32)) / (64 : Int32)) (vI_1 wl (0 : Int32) (0 : Int64)) r25_fb0 ((2 : Int32) * ((wl + (63 : Int32)) / (64 : Int32))).toNatClampNeg (vT_3 w 2 ((2 : Int32) * ((wl + (63 : Int32)) / (64 : Int32))).toNatClampNeg (vG_1 wl w x cnt) ((wl + (63 : Int32)) / (64 : Int32)) (vR2_3 w 2 ((2 : Int32) * ((wl + (63 : Int32)) / (64 : Int32))).toNatClampNeg (vG_1 wl w x cnt) ((wl + (63 : Int32)) / (64 : Int32)) (vT_3 (0 : Int32) 2 ((2 : Int32) * ((wl + (63 : Int32)) / (64 : Int32))).toNatClampNeg (vG_1 wl w x cnt) ((wl + (63 : Int32)) / (64 : Int32)) (fun _ => (0 : Int64))))) 2 (vG_1 wl w x cnt) h104 n0 Z104 F_words_b24_cC104 F_used_b24_cC104 F_lastWord_b24_cC104 P104_0 V_b17_cC104 (own_wo hwl) (by decide) (own_hF2 hwl _ hx (own_l1 hx))) (a := b24) iG_225 (hw _ (List.mem_of_getElem? (i := 33) rfl)) (hw _ (List.mem_of_getElem? (i := 34) rfl)) (fun s hZ => notFace_of_selects (args := #[]) (mvT hZ (hw _ (List.mem_of_getElem? (i := 36) rfl)))) (hw _ (List.mem_of_getElem? (i := 36) rfl)) (hw _ (List.mem_of_getElem? (i := 35) rfl)) (hw _ (List.mem_of_getElem? (i := 8) rfl)) (hw _ (List.mem_of_getElem? (i := 37) rfl)) (by decide) E_b24_cC104 (argsL := [(.ref b17), (.int (2 : Int32))]) (rest := []) rfl rfl pd4 rfl rfl 0 (Nat.le_of_eq rfl) (by decide) (by decide) (by decide) (by decide) rfl rfl ?_
          rintro _ _ ⟨rfl, he105⟩
          refine Go.heap he105.symm ?_
          refine Go.some' ?_
          refine g_istore C (Ls' := #[.val (.int p0), .val (.int p1), .val (.int p2), .val (.int wl), .val (.int mm), .val (.int w), .val (.int x), .val (.int (2 : Int32)), .val (.ref b17), .val (.ref b20), .val (.ref b22), .val (.ref b24), .val (.int (vG_3 wl w x cnt)), .val (.int (vG_88 wl w x cnt)), .val (.int (vG_89 wl w x cnt)), .val (.int w), .val (.int w), .val (.int (vG_90 wl w x cnt))]) iG_228 rfl ?_
          refine g_iload C iG_230 rfl ?_
          refine g_iload C iG_232 rfl ?_
          refine Go.join (mkF m 256 #[.val (.int p0), .val (.int p1), .val (.int p2), .val (.int wl), .val (.int mm), .val (.int w), .val (.int x), .val (.int (2 : Int32)), .val (.ref b17), .val (.ref b20), .val (.ref b22), .val (.ref b24), .val (.int (vG_3 wl w x cnt)), .val (.int (vG_88 wl w x cnt)), .val (.int (vG_89 wl w x cnt)), .val (.int w), .val (.int w), .val (.int (vG_90 wl w x cnt))] [(.int (vG_93 wl w x cnt))]) ?_ (fun J => ?_)
          · exact g_retNar C (t := .boolean) iG_256 rfl (by simp) (by decide) (by decide) (show _ = _ from congrArg (fun z => some (Value.int z)) (leafG_14 wl w x cnt hwl hw4 hwm hx hc97_1 hc125_1 hq2))
          · refine g_icmp_ne C iG_234 (fun hc234_1 => ?_) (fun hc234_1 => ?_)
            · refine g_iload C iG_237 rfl ?_
              refine g_iload C iG_239 rfl ?_
              refine g_icmp_ne C iG_241 (fun hc241_1 => ?_) (fun hc241_1 => ?_)
              · refine g_iload C iG_244 rfl ?_
                refine g_iload C iG_246 rfl ?_
                refine g_icmp_ne C iG_248 (fun hc248_1 => ?_) (fun hc248_1 => ?_)
                · refine g_iconst C (1 : Int32) iG_251 rfl ?_
                  refine g_goto C iG_252 ?_
                  have e0 : (vG_93 wl w x cnt) = (1 : Int32) := by simp only [vG_93, if_pos hc234_1, if_pos hc241_1, if_pos hc248_1]
                  exact Go.cast J (by rw [e0])
                · refine g_iconst C (0 : Int32) iG_255 rfl ?_
                  have e0 : (vG_93 wl w x cnt) = (0 : Int32) := by simp only [vG_93, if_pos hc234_1, if_pos hc241_1, if_neg hc248_1]
                  exact Go.cast J (by rw [e0])
              · refine g_iconst C (0 : Int32) iG_255 rfl ?_
                have e0 : (vG_93 wl w x cnt) = (0 : Int32) := by simp only [vG_93, if_pos hc234_1, if_neg hc241_1]
                exact Go.cast J (by rw [e0])
            · refine g_iconst C (0 : Int32) iG_255 rfl ?_
              have e0 : (vG_93 wl w x cnt) = (0 : Int32) := by simp only [vG_93, if_neg hc234_1]
              exact Go.cast J (by rw [e0])
        · refine g_icmp_gt C iG_150 (fun hc150_1 => ?_) (fun hc150_1 => ?_)
          · refine g_iconst C (4 : Int32) iG_157 rfl ?_
            have e0 : (vG_3 wl w x cnt) = (4 : Int32) := by simp only [vG_3, if_pos hc150_1]
            exact Go.cast J (by rw [e0])
          · refine g_iconst C (-1 : Int32) iG_153 rfl ?_
            refine g_goto C iG_154 ?_
            have e0 : (vG_3 wl w x cnt) = (-1 : Int32) := by simp only [vG_3, if_neg hc150_1]
            exact Go.cast J (by rw [e0])
theorem own_wl (x : Int32) : 1 ≤ ((1 : Int32) + (x &&& (255 : Int32))).toInt ∧ ((1 : Int32) + (x &&& (255 : Int32))).toInt ≤ 256 := by
  have h := c_and x 255 (by decide)
  have g1 := c_iadd 1 (x &&& 255)
  have g2 := rng32 (1 + (x &&& 255))
  have g3 : (1 : Int32).toInt = 1 := rfl
  have g4 : (255 : Int32).toInt = 255 := rfl
  omega
theorem own_min (wl : Int32) (h : 1 ≤ wl.toInt) : 1 ≤ (vY_0 wl (4 : Int32)).toInt ∧ (vY_0 wl (4 : Int32)).toInt ≤ 4 ∧ (vY_0 wl (4 : Int32)).toInt ≤ wl.toInt := by
  have g4 : (4 : Int32).toInt = 4 := rfl
  simp only [vY_0, Int32.lt_iff_toInt_lt]; split <;> omega
theorem own_w (q wl : Int32) (h : 1 ≤ wl.toInt) : 0 ≤ ((q &&& (2147483647 : Int32)) % (vY_0 wl (4 : Int32))).toInt ∧ ((q &&& (2147483647 : Int32)) % (vY_0 wl (4 : Int32))).toInt < (vY_0 wl (4 : Int32)).toInt := by
  have h1 := own_min wl h
  have h2 := (c_and q 2147483647 (by decide)).1
  have h3 := (c_iremV (q &&& 2147483647) (vY_0 wl (4 : Int32))).1 h2 (by omega)
  exact ⟨h3.1, h3.2.1⟩
theorem own_mnz (wl : Int32) (h : 1 ≤ wl.toInt) : vY_0 wl (4 : Int32) ≠ 0 := fun q => by
  have h1 := own_min wl h
  rw [q] at h1
  have e0 : (0 : Int32).toInt = 0 := rfl
  omega
theorem own_xx (r : Int32) : (r &&& (1 : Int32)).toInt = 0 ∨ (r &&& (1 : Int32)).toInt = 1 := by
  have h := c_and r 1 (by decide)
  have g3 : (1 : Int32).toInt = 1 := rfl
  omega
theorem own_cnt (r : Int32) : (((r.toUInt32 >>> ((1 : Int32) &&& 31).toUInt32).toInt32) % (3 : Int32)) = 0 ∨ (((r.toUInt32 >>> ((1 : Int32) &&& 31).toUInt32).toInt32) % (3 : Int32)) = 1 ∨ (((r.toUInt32 >>> ((1 : Int32) &&& 31).toUInt32).toInt32) % (3 : Int32)) = 2 := by
  have h1 := c_iushr r 1 1 (by decide) (by decide)
  have h2 := (c_irem ((r.toUInt32 >>> ((1 : Int32) &&& 31).toUInt32).toInt32) 3 3 rfl).1 (by rw [h1]; omega)
  rcases (by omega : (((r.toUInt32 >>> ((1 : Int32) &&& 31).toUInt32).toInt32) % (3 : Int32)).toInt = 0 ∨ (((r.toUInt32 >>> ((1 : Int32) &&& 31).toUInt32).toInt32) % (3 : Int32)).toInt = 1 ∨ (((r.toUInt32 >>> ((1 : Int32) &&& 31).toUInt32).toInt32) % (3 : Int32)).toInt = 2) with q | q | q
  · exact Or.inl (Int32.toInt_inj.mp q)
  · exact Or.inr (Or.inl (Int32.toInt_inj.mp q))
  · exact Or.inr (Or.inr (Int32.toInt_inj.mp q))
theorem pd5 : parseMethodDescriptor "(II)I" = some ⟨[.int, .int], some .int⟩ := by decide +kernel
theorem pn6 : plainFor (⟨"com/example/bandweave/bandweave/simulate/FibresReleasePinLaw", "law", "(III)Z"⟩ : MethodName) = true := by decide +kernel
theorem iM_0 : I1 code 0 (.iconst 1) 1 1 := ⟨at_0, rfl⟩
theorem iM_1 : I1 code 1 (.iload_n 0) 1 2 := ⟨at_1, rfl⟩
theorem iM_2 : I1 code 2 (.sipush 255) 3 5 := ⟨at_2, rfl⟩
theorem iM_5 : I1 code 5 (.iand) 1 6 := ⟨at_5, rfl⟩
theorem iM_6 : I1 code 6 (.iadd) 1 7 := ⟨at_6, rfl⟩
theorem iM_7 : I1 code 7 (.istore_n 3) 1 8 := ⟨at_7, rfl⟩
theorem iM_8 : I1 code 8 (.iload_n 3) 1 9 := ⟨at_8, rfl⟩
theorem iM_9 : I1 code 9 (.iconst 4) 1 10 := ⟨at_9, rfl⟩
theorem iM_10 : I1 code 10 (.invokestatic 7) 3 13 := ⟨at_10, rfl⟩
theorem iM_13 : I1 code 13 (.istore 4) 2 15 := ⟨at_13, rfl⟩
theorem iM_15 : I1 code 15 (.iload_n 1) 1 16 := ⟨at_15, rfl⟩
theorem iM_16 : I1 code 16 (.ldc 13) 2 18 := ⟨at_16, rfl⟩
theorem iM_18 : I1 code 18 (.iand) 1 19 := ⟨at_18, rfl⟩
theorem iM_19 : I1 code 19 (.iload 4) 2 21 := ⟨at_19, rfl⟩
theorem iM_21 : I1 code 21 (.irem) 1 22 := ⟨at_21, rfl⟩
theorem iM_22 : I1 code 22 (.istore 5) 2 24 := ⟨at_22, rfl⟩
theorem iM_24 : I1 code 24 (.iload_n 2) 1 25 := ⟨at_24, rfl⟩
theorem iM_25 : I1 code 25 (.iconst 1) 1 26 := ⟨at_25, rfl⟩
theorem iM_26 : I1 code 26 (.iand) 1 27 := ⟨at_26, rfl⟩
theorem iM_27 : I1 code 27 (.istore 6) 2 29 := ⟨at_27, rfl⟩
theorem iM_29 : I1 code 29 (.iload_n 2) 1 30 := ⟨at_29, rfl⟩
theorem iM_30 : I1 code 30 (.iconst 1) 1 31 := ⟨at_30, rfl⟩
theorem iM_31 : I1 code 31 (.iushr) 1 32 := ⟨at_31, rfl⟩
theorem iM_32 : I1 code 32 (.iconst 3) 1 33 := ⟨at_32, rfl⟩
theorem iM_33 : I1 code 33 (.irem) 1 34 := ⟨at_33, rfl⟩
theorem iM_34 : I1 code 34 (.istore 7) 2 36 := ⟨at_34, rfl⟩
theorem efM (m : MethodId) (p0 : Int32) (p1 : Int32) (p2 : Int32) : entryFrame m #[(.int p0), (.int p1), (.int p2)] maxLocals = mkF m 0 #[.val (.int p0), .val (.int p1), .val (.int p2), .unset, .unset, .unset, .unset, .unset, .unset, .unset, .unset, .unset, .unset, .unset, .unset, .unset, .unset, .unset] [] := by first | (simp [entryFrame, mkF, argsToLocals, Value.category, maxLocals]; done) | rfl
def QM (Z : State) (p0 : Int32) (p1 : Int32) (p2 : Int32) (h0 : Heap) (n0 : Nat) (v : Option Value) (h : Heap) : Prop := v = some (.int 1)
set_option maxRecDepth 65536 in
set_option maxHeartbeats 40000000 in
theorem rmM (l : Launch) (Z : State) (aZ : Array Value) (hw : ∀ d ∈ tables_1, d.before aZ Z = true) (p0 : Int32) (p1 : Int32) (p2 : Int32) (h0 : Heap) (n0 : Nat) (Z0 : n0 ≤ h0.size) :
    Ctr l Z x code maxLocals ret room_1 #[(.int p0), (.int p1), (.int p2)] h0 n0 (QM Z p0 p1 p2 h0 n0) := by
  refine Ctr.of_go pn6 (fun m => efM m p0 p1 p2) ?_
  intro p e s m below meth c hnm C
  refine g_iconst C (1 : Int32) iM_0 rfl ?_
  refine g_iloadN C iM_1 rfl ?_
  refine g_sipush C (255 : Int32) iM_2 rfl ?_
  refine g_iand C iM_5 ?_
  refine g_iadd C iM_6 ?_
  refine g_istoreN C (Ls' := #[.val (.int p0), .val (.int p1), .val (.int p2), .val (.int ((1 : Int32) + (p0 &&& (255 : Int32)))), .unset, .unset, .unset, .unset, .unset, .unset, .unset, .unset, .unset, .unset, .unset, .unset, .unset, .unset]) iM_7 rfl ?_
  refine g_iloadN C iM_8 rfl ?_
  refine g_iconst C (4 : Int32) iM_9 rfl ?_
  refine g_callS C (rmY l Z aZ hw ((1 : Int32) + (p0 &&& (255 : Int32))) (4 : Int32) h0 n0 Z0) iM_10 (hw _ (List.mem_of_getElem? (i := 0) rfl)) (hw _ (List.mem_of_getElem? (i := 1) rfl)) (hw _ (List.mem_of_getElem? (i := 2) rfl)) (hw _ (List.mem_of_getElem? (i := 3) rfl)) (by decide) (argsL := [(.int ((1 : Int32) + (p0 &&& (255 : Int32)))), (.int (4 : Int32))]) (rest := []) rfl rfl pd5 rfl rfl 0 (Nat.le_of_eq rfl) (by decide) (by decide) (by decide) (by decide) rfl rfl ?_
  rintro _ _ ⟨rfl, he106⟩
  refine Go.heap he106.symm ?_
  refine Go.some' ?_
  refine g_istore C (Ls' := #[.val (.int p0), .val (.int p1), .val (.int p2), .val (.int ((1 : Int32) + (p0 &&& (255 : Int32)))), .val (.int (vY_0 ((1 : Int32) + (p0 &&& (255 : Int32))) (4 : Int32))), .unset, .unset, .unset, .unset, .unset, .unset, .unset, .unset, .unset, .unset, .unset, .unset, .unset]) iM_13 rfl ?_
  refine g_iloadN C iM_15 rfl ?_
  refine g_ldcInt C iM_16 (hw _ (List.mem_of_getElem? (i := 4) rfl)) ?_
  refine g_iand C iM_18 ?_
  refine g_iload C iM_19 rfl ?_
  refine g_irem C iM_21 (own_mnz _ (own_wl p0).1) ?_
  refine g_istore C (Ls' := #[.val (.int p0), .val (.int p1), .val (.int p2), .val (.int ((1 : Int32) + (p0 &&& (255 : Int32)))), .val (.int (vY_0 ((1 : Int32) + (p0 &&& (255 : Int32))) (4 : Int32))), .val (.int ((p1 &&& (2147483647 : Int32)) % (vY_0 ((1 : Int32) + (p0 &&& (255 : Int32))) (4 : Int32)))), .unset, .unset, .unset, .unset, .unset, .unset, .unset, .unset, .unset, .unset, .unset, .unset]) iM_22 rfl ?_
  refine g_iloadN C iM_24 rfl ?_
  refine g_iconst C (1 : Int32) iM_25 rfl ?_
  refine g_iand C iM_26 ?_
  refine g_istore C (Ls' := #[.val (.int p0), .val (.int p1), .val (.int p2), .val (.int ((1 : Int32) + (p0 &&& (255 : Int32)))), .val (.int (vY_0 ((1 : Int32) + (p0 &&& (255 : Int32))) (4 : Int32))), .val (.int ((p1 &&& (2147483647 : Int32)) % (vY_0 ((1 : Int32) + (p0 &&& (255 : Int32))) (4 : Int32)))), .val (.int (p2 &&& (1 : Int32))), .unset, .unset, .unset, .unset, .unset, .unset, .unset, .unset, .unset, .unset, .unset]) iM_27 rfl ?_
  refine g_iloadN C iM_29 rfl ?_
  refine g_iconst C (1 : Int32) iM_30 rfl ?_
  refine g_iushr C iM_31 ?_
  refine g_iconst C (3 : Int32) iM_32 rfl ?_
  refine g_irem C iM_33 (by decide) ?_
  refine g_istore C (Ls' := #[.val (.int p0), .val (.int p1), .val (.int p2), .val (.int ((1 : Int32) + (p0 &&& (255 : Int32)))), .val (.int (vY_0 ((1 : Int32) + (p0 &&& (255 : Int32))) (4 : Int32))), .val (.int ((p1 &&& (2147483647 : Int32)) % (vY_0 ((1 : Int32) + (p0 &&& (255 : Int32))) (4 : Int32)))), .val (.int (p2 &&& (1 : Int32))), .val (.int (((p2.toUInt32 >>> ((1 : Int32) &&& 31).toUInt32).toInt32) % (3 : Int32))), .unset, .unset, .unset, .unset, .unset, .unset, .unset, .unset, .unset, .unset]) iM_34 rfl ?_
  have hwl := own_wl p0
  have hm := own_min ((1 : Int32) + (p0 &&& (255 : Int32))) hwl.1
  have hw1 := own_w p1 ((1 : Int32) + (p0 &&& (255 : Int32))) hwl.1
  exact segG l Z aZ hw p0 p1 p2 ((1 : Int32) + (p0 &&& (255 : Int32))) (vY_0 ((1 : Int32) + (p0 &&& (255 : Int32))) (4 : Int32)) ((p1 &&& (2147483647 : Int32)) % (vY_0 ((1 : Int32) + (p0 &&& (255 : Int32))) (4 : Int32))) (p2 &&& (1 : Int32)) (((p2.toUInt32 >>> ((1 : Int32) &&& 31).toUInt32).toInt32) % (3 : Int32)) h0 n0 Z0 hwl ⟨hw1.1, Int.le_of_lt_add_one (Int.lt_of_lt_of_le hw1.2 hm.2.1)⟩ (Int.lt_of_lt_of_le hw1.2 hm.2.2) (own_xx p2) (own_cnt p2) C
set_option maxRecDepth 65536 in
set_option maxHeartbeats 40000000 in
theorem comes_1 {Post : Tables → Env → Array Value → State → Outcome → State → Prop} (hpost : ∀ tb e args s v u, (limb_1_1.after args s (.returned v) u = true ∧ limb_1_2.after args s (.returned v) u = true ∧ True) → FrameEnd s (.returned v) u (Jvm.fieldLocs frame_1_writes args s ++ Jvm.arrayLocs frame_1_arrays args s ++ Jvm.staticLocs frame_1_statics s) 24 128 → Post tb e args s (.returned v) u) :
    ArmFor flags0 classFile x code maxLocals ret World_1 tables_1 room_1 Calls_1 rest_1 Pre_1 Post := by
  intro l hfl _ _ p e ha hc hk s m args below hf hA hF happ hP
  obtain ⟨hcalls, hrest, hpre⟩ := hP
  obtain ⟨-, -, -, hnamed, -, -, -, hat⟩ := (Spec.applies_iff hf).mp happ
  obtain ⟨hg, hn⟩ := and_e (Cond.before_iff.mp (show (Jvm.Cond.and given_1 narrow_1).before args s = true from hpre))
  obtain ⟨gg1, gg2⟩ := and_e hg
  obtain ⟨gg3, gg4⟩ := and_e gg2
  obtain ⟨gg5, gg6⟩ := and_e gg4
  obtain ⟨w0, w1, w2, rfl⟩ : ∃ w0 w1 w2 : Value, args = #[w0, w1, w2] := by
    have hs : args.size = 3 := by simpa [Cond.value, given_1] using gg1
    obtain ⟨L⟩ := args
    match L, hs with
    | [w0, w1, w2], _ => exact ⟨w0, w1, w2, rfl⟩
  have hw := fun d (hd : d ∈ tables_1) => atoms_spec (ws := Jvm.Cond.code x code maxLocals ret :: tables_1) hat d (List.mem_cons_of_mem _ hd)
  have hfit : Fit s := fun {y c} hc i hi => by
    obtain ⟨ha, rfl⟩ := Array.getElem?_eq_some_iff.mp hc
    have q := List.all_eq_true.mp ((Array.all_eq_true_iff_forall_mem.mp hF) _ (Array.getElem_mem ha)) i (List.mem_range.mpr hi)
    simpa [Array.getElem?_eq_getElem hi] using q
  obtain ⟨i0, ei0⟩ := is_v gg3
  obtain rfl : w0 = (.int i0) := Option.some.inj ei0
  obtain ⟨i1, ei1⟩ := is_v gg5
  obtain rfl : w1 = (.int i1) := Option.some.inj ei1
  obtain ⟨i2, ei2⟩ := is_v gg6
  obtain rfl : w2 = (.int i2) := Option.some.inj ei2
  obtain ⟨n, o, h1, h2, h3, _, L, rfl, ⟨rfl, N⟩, hq⟩ := rmM l s _ hw i0 i1 i2 s.heap s.heap.size (Nat.le_refl _) tables_1 p e ha hc hk s m _ below hf ((Spec.applies_iff_loose hf).mp happ).1 ⟨rfl, State.Warmed39.refl s, rfl⟩ trivial
  refine ⟨n, _, h1, h2, h3, hpost _ _ _ _ _ _ ⟨Cond.after_iff.mpr rfl, Cond.after_iff.mpr (eq_i res_at (Term.int_eval (1)) rfl), trivial⟩ ⟨hq.1, hq.2.1, (hq.2.2.sift fun y hy => Or.inr (N y hy)).mono (by decide) (by decide)⟩⟩
theorem main_1_1 : Claimed_1_1 := comes_1 fun _ _ _ _ _ _ h hF => ⟨h.1, hF⟩
theorem main_1_2 : Claimed_1_2 := comes_1 fun _ _ _ _ _ _ h hF => ⟨h.2.1, hF⟩
end Jvm.Pilot.@@N@@
namespace Jvm.Pilot.@@N@@
open Jvm Jvm.ClassFile Sem Op Lib Jvm.Free Jvm.Stand Jvm.Pilot.@@N@@.Jvm.D
/-! MADE BY PROGRAM (witnessworld.py) out of the Statement's table words and the real class files: 18 classes; the members and pool entries that the words name. The judged class is class 1, her method 1. -/
namespace start1
open Jvm.ClassFile
def u (s : String) : CpInfo := .utf8 (stringToUtf16 s)
/-- a pool by its gaps: so many unusable entries, then the entry; so many at the end -/
def gap : Nat → List CpInfo → List CpInfo
  | 0, r => r
  | n + 1, r => .unusable :: gap n r
def poolList (es : List (Nat × CpInfo)) (last : Nat) : List CpInfo := es.foldr (fun e r => gap e.1 (e.2 :: r)) (gap last [])
def pool (es : List (Nat × CpInfo)) (last : Nat) : Array CpInfo := ⟨poolList es last⟩
def fileOf (pool : Array CpInfo) (this : Nat) (attrs : Array Attribute := #[]) (ms : Array MethodInfo := #[]) (fl : Nat := 33) (sup : Nat := 0) (ifs : Array Nat := #[]) (fds : Array FieldInfo := #[]) : ClassFile where
  minorVersion := 0
  majorVersion := 65
  constantPool := pool
  accessFlags := fl
  thisClass := this
  superClass := sup
  interfaces := ifs
  fields := fds
  methods := ms
  attributes := attrs
def plain (name : String) (sup : Option ClassId) : Class where
  name := name
  kind := .ordinary
  loader := none
  accessFlags := 33
  super := sup
  interfaces := #[]
  cf := none
  fields := #[]
  methods := #[]
  instanceTypes := #[]
  staticTypes := #[]
  resolved := #[]
  callSites := []
  init := .initialized
  statics := none
  mirror := none

def pool0 : Array CpInfo := pool [(5, u "<init>"), (0, u "()V"), (1, .class_ 10), (1, u "java/lang/Object")] 113

def k0c0 : Code := { maxStack := 0, maxLocals := 1, code := object_method_1_code, exceptionTable := #[], attributes := #[] }
def k0m0 : Method := { name := "<init>", desc := "()V", sig := { parameters := [], returnType := none }, accessFlags := 1, code := some k0c0 }
/-- java/lang/Object -/
def k0 : Class := { plain "java/lang/Object" none with
  accessFlags := 33
  interfaces := #[]
  cf := some (fileOf pool0 8 #[] #[{ accessFlags := 1, nameIndex := 5, descriptorIndex := 6, attributes := #[] }] 33 0 #[] #[])
  fields := #[]
  methods := #[k0m0]
  instanceTypes := #[]
  staticTypes := #[]
  resolved := Array.replicate 124 none
  statics := none }

def pool1 : Array CpInfo := pool [(2, .class_ 4), (1, u "java/lang/Object"), (0, u "<init>"), (0, u "()V"), (0, .methodref 8 9), (0, .class_ 10), (0, .nameAndType 11 12), (0, u "java/lang/Math"), (0, u "min"), (0, u "(II)I"), (0, .integer 2147483647), (0, .class_ 15), (0, u "com/example/bandweave/bandweave/simulate/Fibres"), (0, .methodref 14 17), (0, .nameAndType 5 18), (0, u "(II)V"), (0, .methodref 14 20), (0, .nameAndType 21 22), (0, u "take"), (0, u "([III)V"), (0, .methodref 14 24), (0, .nameAndType 25 22), (0, u "release"), (0, .methodref 14 27), (0, .nameAndType 28 29), (0, u "firstFree"), (0, u "([II)I"), (0, .class_ 31), (0, u "com/example/bandweave/bandweave/simulate/FibresReleasePinLaw"), (2, u "law"), (0, u "(III)Z")] 5

def k1m0 : Method := { name := "<init>", desc := "()V", sig := { parameters := [], returnType := none }, accessFlags := 1, code := none }
def k1c1 : Code := { maxStack := 5, maxLocals := 18, code := code, exceptionTable := #[], attributes := #[] }
def k1m1 : Method := { name := "law", desc := "(III)Z", sig := { parameters := [.int, .int, .int], returnType := some .boolean }, accessFlags := 9, code := some k1c1 }
/-- com/example/bandweave/bandweave/simulate/FibresReleasePinLaw -/
def k1 : Class := { plain "com/example/bandweave/bandweave/simulate/FibresReleasePinLaw" (some 0) with
  accessFlags := 49
  interfaces := #[]
  cf := some (fileOf pool1 30 #[] #[{ accessFlags := 1, nameIndex := 5, descriptorIndex := 6, attributes := #[] }, { accessFlags := 9, nameIndex := 34, descriptorIndex := 35, attributes := #[] }] 49 2 #[] #[])
  fields := #[]
  methods := #[k1m0, k1m1]
  instanceTypes := #[]
  staticTypes := #[]
  resolved := Array.replicate 41 none
  statics := none }

def pool2 : Array CpInfo := pool [(1, .class_ 2), (0, u "java/lang/Math"), (1, .class_ 6), (1, u "java/lang/Object"), (0, u "<init>"), (0, u "()V"), (89, .class_ 100), (1, u "java/lang/Math$RandomNumberGeneratorHolder"), (71, u "negativeZeroFloatBits"), (0, u "J"), (2, u "negativeZeroDoubleBits"), (24, u "min"), (43, u "$assertionsDisabled"), (0, u "Z"), (88, u "(II)I"), (2, u "twoToTheDoubleScaleDown"), (0, u "D"), (4, u "twoToTheDoubleScaleUp"), (9, u "E"), (3, u "PI"), (2, u "TAU"), (2, u "DEGREES_TO_RADIANS"), (0, u "RADIANS_TO_DEGREES")] 94

def k2m0 : Method := { name := "<init>", desc := "()V", sig := { parameters := [], returnType := none }, accessFlags := 2, code := none }
def k2c1 : Code := { maxStack := 2, maxLocals := 2, code := jdk_29_method_69_code, exceptionTable := #[], attributes := #[] }
def k2m1 : Method := { name := "min", desc := "(II)I", sig := { parameters := [.int, .int], returnType := some .int }, accessFlags := 9, code := some k2c1 }
/-- java/lang/Math -/
def k2 : Class := { plain "java/lang/Math" (some 0) with
  accessFlags := 49
  interfaces := #[]
  cf := some (fileOf pool2 1 #[.nestMembers #[98]] #[{ accessFlags := 2, nameIndex := 7, descriptorIndex := 8, attributes := #[] }, { accessFlags := 9, nameIndex := 201, descriptorIndex := 335, attributes := #[] }] 49 4 #[] #[{ accessFlags := 25, nameIndex := 354, descriptorIndex := 339, attributes := #[] }, { accessFlags := 25, nameIndex := 358, descriptorIndex := 339, attributes := #[] }, { accessFlags := 25, nameIndex := 361, descriptorIndex := 339, attributes := #[] }, { accessFlags := 26, nameIndex := 364, descriptorIndex := 339, attributes := #[] }, { accessFlags := 26, nameIndex := 365, descriptorIndex := 339, attributes := #[] }, { accessFlags := 26, nameIndex := 172, descriptorIndex := 173, attributes := #[] }, { accessFlags := 26, nameIndex := 176, descriptorIndex := 173, attributes := #[] }, { accessFlags := 8, nameIndex := 344, descriptorIndex := 339, attributes := #[] }, { accessFlags := 8, nameIndex := 338, descriptorIndex := 339, attributes := #[] }, { accessFlags := 4120, nameIndex := 245, descriptorIndex := 246, attributes := #[] }])
  fields := #[{ name := "E", type := .double, accessFlags := 25, slot := 0, constantValue := 0 }, { name := "PI", type := .double, accessFlags := 25, slot := 1, constantValue := 0 }, { name := "TAU", type := .double, accessFlags := 25, slot := 2, constantValue := 0 }, { name := "DEGREES_TO_RADIANS", type := .double, accessFlags := 26, slot := 3, constantValue := 0 }, { name := "RADIANS_TO_DEGREES", type := .double, accessFlags := 26, slot := 4, constantValue := 0 }, { name := "negativeZeroFloatBits", type := .long, accessFlags := 26, slot := 5, constantValue := 0 }, { name := "negativeZeroDoubleBits", type := .long, accessFlags := 26, slot := 6, constantValue := 0 }, { name := "twoToTheDoubleScaleUp", type := .double, accessFlags := 8, slot := 7, constantValue := 0 }, { name := "twoToTheDoubleScaleDown", type := .double, accessFlags := 8, slot := 8, constantValue := 0 }, { name := "$assertionsDisabled", type := .boolean, accessFlags := 4120, slot := 9, constantValue := 0 }]
  methods := #[k2m0, k2m1]
  instanceTypes := #[]
  staticTypes := #[.double, .double, .double, .double, .double, .long, .long, .double, .double, .boolean]
  resolved := Array.replicate 460 none
  statics := none }

def pool3 : Array CpInfo := pool [(1, .methodref 2 3), (0, .class_ 4), (0, .nameAndType 5 6), (0, u "java/lang/Object"), (0, u "<init>"), (0, u "()V"), (0, .fieldref 8 9), (0, .class_ 10), (0, .nameAndType 11 12), (0, u "com/example/bandweave/bandweave/simulate/Fibres"), (0, u "words"), (0, u "I"), (0, .fieldref 8 14), (0, .nameAndType 15 16), (0, u "used"), (0, u "[J"), (0, .long 18446744073709551615), (1, .fieldref 8 20), (0, .nameAndType 21 22), (0, u "lastWord"), (0, u "J"), (0, .methodref 24 25), (0, .class_ 26), (0, .nameAndType 27 28), (0, u "java/lang/Long"), (0, u "numberOfTrailingZeros"), (0, u "(J)I"), (0, u "(II)V"), (3, u "firstFree"), (0, u "([II)I"), (2, u "take"), (0, u "([III)V"), (0, u "release")] 2

def k3c0 : Code := { maxStack := 5, maxLocals := 4, code := prog_24_method_1_code, exceptionTable := #[], attributes := #[] }
def k3m0 : Method := { name := "<init>", desc := "(II)V", sig := { parameters := [.int, .int], returnType := none }, accessFlags := 0, code := some k3c0 }
def k3c1 : Code := { maxStack := 5, maxLocals := 8, code := prog_24_method_2_code, exceptionTable := #[], attributes := #[] }
def k3m1 : Method := { name := "firstFree", desc := "([II)I", sig := { parameters := [(.array .int), .int], returnType := some .int }, accessFlags := 0, code := some k3c1 }
def k3c2 : Code := { maxStack := 6, maxLocals := 7, code := prog_24_method_3_code, exceptionTable := #[], attributes := #[] }
def k3m2 : Method := { name := "take", desc := "([III)V", sig := { parameters := [(.array .int), .int, .int], returnType := none }, accessFlags := 0, code := some k3c2 }
def k3c3 : Code := { maxStack := 8, maxLocals := 7, code := prog_24_method_4_code, exceptionTable := #[], attributes := #[] }
def k3m3 : Method := { name := "release", desc := "([III)V", sig := { parameters := [(.array .int), .int, .int], returnType := none }, accessFlags := 0, code := some k3c3 }
/-- com/example/bandweave/bandweave/simulate/Fibres -/
def k3 : Class := { plain "com/example/bandweave/bandweave/simulate/Fibres" (some 0) with
  accessFlags := 48
  interfaces := #[]
  cf := some (fileOf pool3 8 #[] #[{ accessFlags := 0, nameIndex := 5, descriptorIndex := 29, attributes := #[] }, { accessFlags := 0, nameIndex := 33, descriptorIndex := 34, attributes := #[] }, { accessFlags := 0, nameIndex := 37, descriptorIndex := 38, attributes := #[] }, { accessFlags := 0, nameIndex := 39, descriptorIndex := 38, attributes := #[] }] 48 2 #[] #[{ accessFlags := 18, nameIndex := 11, descriptorIndex := 12, attributes := #[] }, { accessFlags := 18, nameIndex := 15, descriptorIndex := 16, attributes := #[] }, { accessFlags := 18, nameIndex := 21, descriptorIndex := 22, attributes := #[] }])
  fields := #[{ name := "words", type := .int, accessFlags := 18, slot := 0, constantValue := 0 }, { name := "used", type := (.array .long), accessFlags := 18, slot := 1, constantValue := 0 }, { name := "lastWord", type := .long, accessFlags := 18, slot := 2, constantValue := 0 }]
  methods := #[k3m0, k3m1, k3m2, k3m3]
  instanceTypes := #[.int, (.array .long), .long]
  staticTypes := #[]
  resolved := Array.replicate 42 none
  statics := none }

def pool4 : Array CpInfo := pool [(1, .class_ 2), (0, u "java/io/Serializable"), (0, .class_ 4), (0, u "java/lang/Object")] 2

/-- java/io/Serializable -/
def k4 : Class := { plain "java/io/Serializable" (some 0) with
  accessFlags := 1537
  interfaces := #[]
  cf := some (fileOf pool4 1 #[] #[] 1537 3 #[] #[])
  fields := #[]
  methods := #[]
  instanceTypes := #[]
  staticTypes := #[]
  resolved := Array.replicate 7 none
  statics := none }

def pool5 : Array CpInfo := pool [(2, .class_ 4), (1, u "java/lang/Object"), (0, u "<init>"), (0, u "()V"), (1, .class_ 10), (1, u "java/lang/Number"), (2, .class_ 14), (0, u "java/io/Serializable"), (0, u "serialVersionUID"), (0, u "J")] 20

def k5m0 : Method := { name := "<init>", desc := "()V", sig := { parameters := [], returnType := none }, accessFlags := 1, code := none }
/-- java/lang/Number -/
def k5 : Class := { plain "java/lang/Number" (some 0) with
  accessFlags := 1057
  interfaces := #[4]
  cf := some (fileOf pool5 8 #[] #[{ accessFlags := 1, nameIndex := 5, descriptorIndex := 6, attributes := #[] }] 1057 2 #[13] #[{ accessFlags := 26, nameIndex := 15, descriptorIndex := 16, attributes := #[] }])
  fields := #[{ name := "serialVersionUID", type := .long, accessFlags := 26, slot := 0, constantValue := 0 }]
  methods := #[k5m0]
  instanceTypes := #[]
  staticTypes := #[.long]
  resolved := Array.replicate 37 none
  statics := none }

def pool6 : Array CpInfo := pool [(1, .class_ 2), (0, u "java/lang/Comparable"), (0, .class_ 4), (0, u "java/lang/Object")] 7

/-- java/lang/Comparable -/
def k6 : Class := { plain "java/lang/Comparable" (some 0) with
  accessFlags := 1537
  interfaces := #[]
  cf := some (fileOf pool6 1 #[] #[] 1537 3 #[] #[])
  fields := #[]
  methods := #[]
  instanceTypes := #[]
  staticTypes := #[]
  resolved := Array.replicate 12 none
  statics := none }

def pool7 : Array CpInfo := pool [(1, .class_ 2), (0, u "java/lang/constant/Constable"), (0, .class_ 4), (0, u "java/lang/Object")] 6

/-- java/lang/constant/Constable -/
def k7 : Class := { plain "java/lang/constant/Constable" (some 0) with
  accessFlags := 1537
  interfaces := #[]
  cf := some (fileOf pool7 1 #[] #[] 1537 3 #[] #[])
  fields := #[]
  methods := #[]
  instanceTypes := #[]
  staticTypes := #[]
  resolved := Array.replicate 11 none
  statics := none }

def pool8 : Array CpInfo := pool [(1, .class_ 2), (0, u "java/lang/constant/ConstantDesc"), (0, .class_ 4), (0, u "java/lang/Object")] 32

/-- java/lang/constant/ConstantDesc -/
def k8 : Class := { plain "java/lang/constant/ConstantDesc" (some 0) with
  accessFlags := 1537
  interfaces := #[]
  cf := some (fileOf pool8 1 #[] #[] 1537 3 #[] #[])
  fields := #[]
  methods := #[]
  instanceTypes := #[]
  staticTypes := #[]
  resolved := Array.replicate 37 none
  statics := none }

def pool9 : Array CpInfo := pool [(1, .class_ 2), (0, u "java/lang/Long"), (15, .class_ 20), (1, u "java/lang/Integer"), (80, u "(J)I"), (133, .class_ 237), (1, u "java/lang/Long$LongCache"), (33, .class_ 272), (0, u "java/lang/Number"), (2, u "value"), (0, u "J"), (33, u "(I)I"), (0, .methodref 18 312), (0, .nameAndType 313 310), (0, u "numberOfTrailingZeros"), (47, u "TYPE"), (0, u "Ljava/lang/Class;"), (0, .class_ 364), (0, u "java/lang/Comparable"), (0, .class_ 366), (0, u "java/lang/constant/Constable"), (0, .class_ 368), (0, u "java/lang/constant/ConstantDesc"), (0, u "MIN_VALUE"), (1, u "MAX_VALUE"), (4, u "SIZE"), (0, u "I"), (1, u "BYTES"), (1, u "serialVersionUID")] 142

def k9c0 : Code := { maxStack := 4, maxLocals := 3, code := jdk_35_method_49_code, exceptionTable := #[], attributes := #[] }
def k9m0 : Method := { name := "numberOfTrailingZeros", desc := "(J)I", sig := { parameters := [.long], returnType := some .int }, accessFlags := 9, code := some k9c0 }
/-- java/lang/Long -/
def k9 : Class := { plain "java/lang/Long" (some 5) with
  accessFlags := 49
  interfaces := #[6, 7, 8]
  cf := some (fileOf pool9 1 #[.nestMembers #[235]] #[{ accessFlags := 9, nameIndex := 313, descriptorIndex := 101, attributes := #[] }] 49 271 #[363, 365, 367] #[{ accessFlags := 25, nameIndex := 369, descriptorIndex := 276, attributes := #[] }, { accessFlags := 25, nameIndex := 371, descriptorIndex := 276, attributes := #[] }, { accessFlags := 25, nameIndex := 361, descriptorIndex := 362, attributes := #[] }, { accessFlags := 18, nameIndex := 275, descriptorIndex := 276, attributes := #[] }, { accessFlags := 25, nameIndex := 376, descriptorIndex := 377, attributes := #[] }, { accessFlags := 25, nameIndex := 379, descriptorIndex := 377, attributes := #[] }, { accessFlags := 26, nameIndex := 381, descriptorIndex := 276, attributes := #[] }])
  fields := #[{ name := "MIN_VALUE", type := .long, accessFlags := 25, slot := 0, constantValue := 0 }, { name := "MAX_VALUE", type := .long, accessFlags := 25, slot := 1, constantValue := 0 }, { name := "TYPE", type := (.object "java/lang/Class"), accessFlags := 25, slot := 2, constantValue := 0 }, { name := "value", type := .long, accessFlags := 18, slot := 0, constantValue := 0 }, { name := "SIZE", type := .int, accessFlags := 25, slot := 3, constantValue := 0 }, { name := "BYTES", type := .int, accessFlags := 25, slot := 4, constantValue := 0 }, { name := "serialVersionUID", type := .long, accessFlags := 26, slot := 5, constantValue := 0 }]
  methods := #[k9m0]
  instanceTypes := #[.long]
  staticTypes := #[.long, .long, (.object "java/lang/Class"), .int, .int, .long]
  resolved := Array.replicate 524 none
  statics := none }

def pool10 : Array CpInfo := pool [(1, .class_ 2), (0, u "java/lang/Integer"), (16, u "digits"), (0, u "[C"), (33, u "(I)I"), (30, u "DigitOnes"), (0, u "[B"), (2, u "DigitTens"), (99, .class_ 190), (0, u "java/lang/Integer$IntegerCache"), (3, u "I"), (8, .class_ 204), (0, u "java/lang/Number"), (2, u "value"), (56, .integer 65536), (37, u "TYPE"), (0, u "Ljava/lang/Class;"), (0, .class_ 305), (0, u "java/lang/Comparable"), (0, .class_ 307), (0, u "java/lang/constant/Constable"), (0, .class_ 309), (0, u "java/lang/constant/ConstantDesc"), (0, u "MIN_VALUE"), (1, u "MAX_VALUE"), (3, u "SIZE"), (1, u "BYTES"), (1, u "serialVersionUID"), (0, u "J"), (84, u "numberOfTrailingZeros")] 46

def k10c0 : Code := { maxStack := 3, maxLocals := 2, code := jdk_33_method_48_code, exceptionTable := #[], attributes := #[] }
def k10m0 : Method := { name := "numberOfTrailingZeros", desc := "(I)I", sig := { parameters := [.int], returnType := some .int }, accessFlags := 9, code := some k10c0 }
/-- java/lang/Integer -/
def k10 : Class := { plain "java/lang/Integer" (some 5) with
  accessFlags := 49
  interfaces := #[6, 7, 8]
  cf := some (fileOf pool10 1 #[.nestMembers #[189]] #[{ accessFlags := 9, nameIndex := 406, descriptorIndex := 54, attributes := #[] }] 49 203 #[304, 306, 308] #[{ accessFlags := 25, nameIndex := 310, descriptorIndex := 194, attributes := #[] }, { accessFlags := 25, nameIndex := 312, descriptorIndex := 194, attributes := #[] }, { accessFlags := 25, nameIndex := 302, descriptorIndex := 303, attributes := #[] }, { accessFlags := 24, nameIndex := 19, descriptorIndex := 20, attributes := #[] }, { accessFlags := 24, nameIndex := 89, descriptorIndex := 86, attributes := #[] }, { accessFlags := 24, nameIndex := 85, descriptorIndex := 86, attributes := #[] }, { accessFlags := 18, nameIndex := 207, descriptorIndex := 194, attributes := #[] }, { accessFlags := 25, nameIndex := 316, descriptorIndex := 194, attributes := #[] }, { accessFlags := 25, nameIndex := 318, descriptorIndex := 194, attributes := #[] }, { accessFlags := 26, nameIndex := 320, descriptorIndex := 321, attributes := #[] }])
  fields := #[{ name := "MIN_VALUE", type := .int, accessFlags := 25, slot := 0, constantValue := 0 }, { name := "MAX_VALUE", type := .int, accessFlags := 25, slot := 1, constantValue := 0 }, { name := "TYPE", type := (.object "java/lang/Class"), accessFlags := 25, slot := 2, constantValue := 0 }, { name := "digits", type := (.array .char), accessFlags := 24, slot := 3, constantValue := 0 }, { name := "DigitTens", type := (.array .byte), accessFlags := 24, slot := 4, constantValue := 0 }, { name := "DigitOnes", type := (.array .byte), accessFlags := 24, slot := 5, constantValue := 0 }, { name := "value", type := .int, accessFlags := 18, slot := 0, constantValue := 0 }, { name := "SIZE", type := .int, accessFlags := 25, slot := 6, constantValue := 0 }, { name := "BYTES", type := .int, accessFlags := 25, slot := 7, constantValue := 0 }, { name := "serialVersionUID", type := .long, accessFlags := 26, slot := 8, constantValue := 0 }]
  methods := #[k10m0]
  instanceTypes := #[.int]
  staticTypes := #[.int, .int, (.object "java/lang/Class"), (.array .char), (.array .byte), (.array .byte), .int, .int, .long]
  resolved := Array.replicate 453 none
  statics := none }

def pool11 : Array CpInfo := pool [(1, u "java/lang/Cloneable"), (0, .class_ 1), (0, u "java/lang/Object"), (0, .class_ 3)] 3

/-- java/lang/Cloneable -/
def k11 : Class := { plain "java/lang/Cloneable" (some 0) with
  accessFlags := 1537
  interfaces := #[]
  cf := some (fileOf pool11 2 #[] #[] 1537 4 #[] #[])
  fields := #[]
  methods := #[]
  instanceTypes := #[]
  staticTypes := #[]
  resolved := Array.replicate 8 none
  statics := none }

/-- the primitive byte -/
def k12 : Class := { plain "byte" none with kind := .primitive 'B', accessFlags := 0x411 }
/-- [B -/
def k13 : Class := { plain "[B" (some 0) with kind := .array 12 .byte, interfaces := #[11, 4], accessFlags := 1041 }

/-- the primitive int -/
def k14 : Class := { plain "int" none with kind := .primitive 'I', accessFlags := 0x411 }
/-- [I -/
def k15 : Class := { plain "[I" (some 0) with kind := .array 14 .int, interfaces := #[11, 4], accessFlags := 1041 }

/-- the primitive long -/
def k16 : Class := { plain "long" none with kind := .primitive 'J', accessFlags := 0x411 }
/-- [J -/
def k17 : Class := { plain "[J" (some 0) with kind := .array 16 .long, interfaces := #[11, 4], accessFlags := 1041 }

def heap : Heap := #[]
def classes : Array Class := #[k0, k1, k2, k3, k4, k5, k6, k7, k8, k9, k10, k11, k12, k13, k14, k15, k16, k17]
def interned : List (Array UInt16 × Addr) := []
def slotsUsed : Nat := 0
def theMethod : MethodId := ⟨1, 1⟩
def args0 : Array Value := #[.int 5, .int 6, .int 7]
def aboutOver (below : List Frame) : State where
  vm := { classes := classes, interned := interned.toArray }
  heap := heap
  slotsUsed := slotsUsed
  threads := #[{ frames := .invoking theMethod args0 :: below }]
def below0 : List Frame := [.native { method := ⟨0, 0⟩, args := #[] }]
def about1 : State := aboutOver below0
def p0 : Program := .bare "" "" ""
def e0 : Env := launch0.env 0 0 0
theorem w_frames : about1.frames = Frame.invoking theMethod args0 :: below0 := rfl
set_option maxRecDepth 65536 in
theorem w_args : argsFit about1.vm theMethod args0 = true := by decide +kernel
set_option maxRecDepth 65536 in
theorem w_heap : heapFits about1 = true := by decide +kernel
set_option maxRecDepth 65536 in
theorem w_runnable : about1.curStatus? = some .runnable := by decide +kernel
set_option maxRecDepth 65536 in
theorem w_alone : about1.alone = true := by decide +kernel
set_option maxRecDepth 65536 in
theorem w_named : about1.methodNamed? x = some theMethod := by decide +kernel
set_option maxRecDepth 65536 in
theorem w_hears : about1.hears theMethod below0 = true := by decide +kernel
set_option maxRecDepth 65536 in
theorem w_ripe : about1.ripe theMethod args0 below0 = true := by decide +kernel
theorem w_running : about1.status = .running := rfl
set_option maxRecDepth 65536 in
theorem w_room : about1.hasRoom e0.platform room_1 = true :=
  launch0.hasRoom_least _ room_1 (by decide +kernel) (by decide +kernel) (by decide +kernel) (by decide +kernel) (by decide +kernel) (by decide +kernel)
theorem allAtoms_all (ts : List Jvm.Cond) (a : Array Jvm.Value) (st : Jvm.State) : (allAtoms ts).before a st = ts.all (fun c => c.before a st) := by
  induction ts with
  | nil => rfl
  | cons c t ih =>
    show (Jvm.Cond.and c (allAtoms t)).before a st = _
    rw [Jvm.Cond.before_and, ih, List.all_cons]
def words1 : List Jvm.Cond := Jvm.Cond.code x code maxLocals ret :: tables_1
/-- a 'code' word, met by the world's own term for the bytes: nothing is compared byte by byte -/
theorem code_word {y : MethodName} {bytes : ByteArray} {mx : Nat} {rt : Option FieldType} {a : Array Value} {s : State} {m : MethodId} {meth : Method} {c : Code} (h1 : s.methodNamed? y = some m) (h2 : s.vm.method? m = some meth) (h3 : meth.code = some c) (h4 : c.code = bytes)
    (h5 : (c.maxLocals == mx && c.exceptionTable.isEmpty && decide (c.maxStack ≤ mostOperands) && decide (meth.sig.returnType = rt) && !meth.locks && decide (parseMethodDescriptor y.desc = some meth.sig)) = true) : (Jvm.Cond.code y bytes mx rt).before a s = true := by
  simp only [Bool.and_eq_true, beq_iff_eq, Bool.not_eq_true', decide_eq_true_eq] at h5
  obtain ⟨⟨⟨⟨⟨g1, g2⟩, g3⟩, g4⟩, g5⟩, g6⟩ := h5
  simp [Cond.before, Cond.holds, Cond.value, h1, h2, h3, h4, g1, g2, g3, g4, g5, g6]
def isCode : Jvm.Cond → Bool
  | .code _ _ _ _ => true
  | _ => false
theorem all_split {L : List Jvm.Cond} {P : Jvm.Cond → Bool} (h1 : L.all (fun c => isCode c || P c) = true) (h2 : ∀ c ∈ L.filter isCode, P c = true) : L.all P = true := by
  refine List.all_eq_true.mpr fun c hc => ?_
  have h := List.all_eq_true.mp h1 c hc
  rcases Bool.eq_false_or_eq_true (isCode c) with hi | hi
  · exact h2 c (List.mem_filter.mpr ⟨hc, hi⟩)
  · simpa [hi] using h
set_option maxRecDepth 65536 in
theorem w_c0 : (Jvm.Cond.code x code maxLocals ret).before args0 about1 = true := code_word (m := ⟨1, 1⟩) (meth := k1m1) (c := k1c1) (by decide +kernel) rfl rfl rfl (by decide +kernel)
set_option maxRecDepth 65536 in
theorem w_c1 : (Jvm.Cond.code ({ cls := "java/lang/Math", name := "min", desc := "(II)I" } : Jvm.MethodName) jdk_29_method_69_code (2 : Nat) (Option.some Jvm.ClassFile.FieldType.int)).before args0 about1 = true := code_word (m := ⟨2, 1⟩) (meth := k2m1) (c := k2c1) (by decide +kernel) rfl rfl rfl (by decide +kernel)
set_option maxRecDepth 65536 in
theorem w_c2 : (Jvm.Cond.code ({ cls := "com/example/bandweave/bandweave/simulate/Fibres", name := "<init>", desc := "(II)V" } : Jvm.MethodName) prog_24_method_1_code (4 : Nat) (Option.none : Option Jvm.ClassFile.FieldType)).before args0 about1 = true := code_word (m := ⟨3, 0⟩) (meth := k3m0) (c := k3c0) (by decide +kernel) rfl rfl rfl (by decide +kernel)
set_option maxRecDepth 65536 in
theorem w_c3 : (Jvm.Cond.code ({ cls := "java/lang/Object", name := "<init>", desc := "()V" } : Jvm.MethodName) object_method_1_code (1 : Nat) (Option.none : Option Jvm.ClassFile.FieldType)).before args0 about1 = true := code_word (m := ⟨0, 0⟩) (meth := k0m0) (c := k0c0) (by decide +kernel) rfl rfl rfl (by decide +kernel)
set_option maxRecDepth 65536 in
theorem w_c4 : (Jvm.Cond.code ({ cls := "com/example/bandweave/bandweave/simulate/Fibres", name := "take", desc := "([III)V" } : Jvm.MethodName) prog_24_method_3_code (7 : Nat) (Option.none : Option Jvm.ClassFile.FieldType)).before args0 about1 = true := code_word (m := ⟨3, 2⟩) (meth := k3m2) (c := k3c2) (by decide +kernel) rfl rfl rfl (by decide +kernel)
set_option maxRecDepth 65536 in
theorem w_c5 : (Jvm.Cond.code ({ cls := "com/example/bandweave/bandweave/simulate/Fibres", name := "release", desc := "([III)V" } : Jvm.MethodName) prog_24_method_4_code (7 : Nat) (Option.none : Option Jvm.ClassFile.FieldType)).before args0 about1 = true := code_word (m := ⟨3, 3⟩) (meth := k3m3) (c := k3c3) (by decide +kernel) rfl rfl rfl (by decide +kernel)
set_option maxRecDepth 65536 in
theorem w_c6 : (Jvm.Cond.code ({ cls := "com/example/bandweave/bandweave/simulate/Fibres", name := "firstFree", desc := "([II)I" } : Jvm.MethodName) prog_24_method_2_code (8 : Nat) (Option.some Jvm.ClassFile.FieldType.int)).before args0 about1 = true := code_word (m := ⟨3, 1⟩) (meth := k3m1) (c := k3c1) (by decide +kernel) rfl rfl rfl (by decide +kernel)
set_option maxRecDepth 65536 in
theorem w_c7 : (Jvm.Cond.code ({ cls := "java/lang/Long", name := "numberOfTrailingZeros", desc := "(J)I" } : Jvm.MethodName) jdk_35_method_49_code (3 : Nat) (Option.some Jvm.ClassFile.FieldType.int)).before args0 about1 = true := code_word (m := ⟨9, 0⟩) (meth := k9m0) (c := k9c0) (by decide +kernel) rfl rfl rfl (by decide +kernel)
set_option maxRecDepth 65536 in
theorem w_c8 : (Jvm.Cond.code ({ cls := "java/lang/Integer", name := "numberOfTrailingZeros", desc := "(I)I" } : Jvm.MethodName) jdk_33_method_48_code (2 : Nat) (Option.some Jvm.ClassFile.FieldType.int)).before args0 about1 = true := code_word (m := ⟨10, 0⟩) (meth := k10m0) (c := k10c0) (by decide +kernel) rfl rfl rfl (by decide +kernel)
def codes1 : List Jvm.Cond := [Jvm.Cond.code x code maxLocals ret, Jvm.Cond.code ({ cls := "java/lang/Math", name := "min", desc := "(II)I" } : Jvm.MethodName) jdk_29_method_69_code (2 : Nat) (Option.some Jvm.ClassFile.FieldType.int), Jvm.Cond.code ({ cls := "com/example/bandweave/bandweave/simulate/Fibres", name := "<init>", desc := "(II)V" } : Jvm.MethodName) prog_24_method_1_code (4 : Nat) (Option.none : Option Jvm.ClassFile.FieldType), Jvm.Cond.code ({ cls := "java/lang/Object", name := "<init>", desc := "()V" } : Jvm.MethodName) object_method_1_code (1 : Nat) (Option.none : Option Jvm.ClassFile.FieldType), Jvm.Cond.code ({ cls := "com/example/bandweave/bandweave/simulate/Fibres", name := "take", desc := "([III)V" } : Jvm.MethodName) prog_24_method_3_code (7 : Nat) (Option.none : Option Jvm.ClassFile.FieldType), Jvm.Cond.code ({ cls := "com/example/bandweave/bandweave/simulate/Fibres", name := "release", desc := "([III)V" } : Jvm.MethodName) prog_24_method_4_code (7 : Nat) (Option.none : Option Jvm.ClassFile.FieldType), Jvm.Cond.code ({ cls := "com/example/bandweave/bandweave/simulate/Fibres", name := "firstFree", desc := "([II)I" } : Jvm.MethodName) prog_24_method_2_code (8 : Nat) (Option.some Jvm.ClassFile.FieldType.int), Jvm.Cond.code ({ cls := "java/lang/Long", name := "numberOfTrailingZeros", desc := "(J)I" } : Jvm.MethodName) jdk_35_method_49_code (3 : Nat) (Option.some Jvm.ClassFile.FieldType.int), Jvm.Cond.code ({ cls := "java/lang/Integer", name := "numberOfTrailingZeros", desc := "(I)I" } : Jvm.MethodName) jdk_33_method_48_code (2 : Nat) (Option.some Jvm.ClassFile.FieldType.int)]
set_option maxRecDepth 65536 in
theorem codes_eq : words1.filter isCode = codes1 := rfl
theorem w_codes : ∀ c ∈ words1.filter isCode, c.before args0 about1 = true := by
  rw [codes_eq]
  intro c hc
  simp only [codes1, List.mem_cons, List.not_mem_nil, or_false] at hc
  rcases hc with rfl | rfl | rfl | rfl | rfl | rfl | rfl | rfl | rfl
  · exact w_c0
  · exact w_c1
  · exact w_c2
  · exact w_c3
  · exact w_c4
  · exact w_c5
  · exact w_c6
  · exact w_c7
  · exact w_c8
set_option maxRecDepth 65536 in
theorem w_t1 : (words1.take 24).all (fun c => isCode c || c.before args0 about1) = true := by decide +kernel
set_option maxRecDepth 65536 in
theorem w_t2 : (words1.drop 24).all (fun c => isCode c || c.before args0 about1) = true := by decide +kernel
theorem w_tables : (allAtoms (Jvm.Cond.code x code maxLocals ret :: tables_1)).before args0 about1 = true := by
  rw [allAtoms_all]
  show words1.all (fun c => c.before args0 about1) = true
  refine all_split ?_ w_codes
  rw [← List.take_append_drop 24 words1, List.all_append, w_t1, w_t2]
  rfl
set_option maxRecDepth 65536 in
theorem w_case : (Jvm.Cond.and given_1 narrow_1).before args0 about1 = true := by decide +kernel
theorem w_applies : (headSpec (Jvm.Cond.code x code maxLocals ret :: tables_1) room_1).applies x e0.platform about1 = true :=
  (Spec.applies_iff w_frames).mpr ⟨w_running, w_runnable, w_alone, w_named, w_hears, w_ripe, w_room, w_tables⟩
theorem atStart : AtStart classFile x code maxLocals ret World_1 tables_1 room_1 Calls_1 rest_1 Pre_1 launch0 p0 e0 about1 theMethod args0 below0 :=
  ⟨lists_1, trivial, launch0.admits_env _ _ _, launch0.least_env, fairChoices_fair.cas, fairChoices_fair.clock, w_frames, w_args, w_heap, w_applies, trivial, trivial, w_case⟩
end start1
theorem witness_1 : WitnessClaimed_1 := ⟨start1.p0, start1.e0, start1.about1, start1.theMethod, start1.args0, start1.below0, start1.atStart⟩
end Jvm.Pilot.@@N@@
