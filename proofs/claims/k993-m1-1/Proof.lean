import JvmDerived
import JvmDerived.Pilot.@@N@@Statement
import JvmDerived.Pilot.@@N@@Code
set_option linter.unusedVariables false
set_option linter.unusedSimpArgs false
namespace Jvm.OwnGo
open Sem ClassFile Op Lib Jvm.Stand Jvm.Free Jvm.LawKit Jvm.RoadKit
/-- one instruction: where it stands, what it is, its length, the next pc -/
def I1 (code : ByteArray) (pc : Nat) (i : Instr) (len pc' : Nat) : Prop := decode code pc = .ok (i, len) ∧ pc + len = pc'
/-- a branch: besides, where it leads -/
def B1 (code : ByteArray) (pc : Nat) (i : Instr) (o : Int) (pcT pcF : Nat) : Prop := decode code pc = .ok (i, 3) ∧ pc + 3 = pcF ∧ 0 ≤ (pc : Int) + o ∧ ((pc : Int) + o).toNat = pcT
/-- what is fixed while a body runs -/
def Cx (p : Program) (s : State) (m : MethodId) (meth : Method) (c : Code) (Z : State) (code : ByteArray) (maxL : Nat) (own : String) (ret : Option FieldType) : Prop :=
  p.tables.exec = Jvm.exec ∧ c.code = code ∧ c.maxLocals = maxL ∧ Z.Warmed39 s.vm ∧ s.vm.findClass own = some m.cls ∧ meth.sig.returnType = ret ∧ meth.locks = false
/-- from the frame g, over every state that stands there with the heap h, the body ends, and ends in Q -/
def Go (p : Program) (l : Launch) (e : Env) (R : Room) (s : State) (m : MethodId) (args : Array Value) (below : List Frame) (meth : Method) (c : Code) (n0 K N : Nat) (Q : Option Value → Heap → Prop) (h : Heap) (ck cn : Nat) (g : JFrame) : Prop :=
  ∀ (T : State) (locs : List Loc), Stand p l e R s m args below meth c T locs ck cn → T.heap = h → Fr n0 locs →
    ∃ s₂ o, Steps p.tables e below (T.setTop g) s₂ ∧ s₂.status = .running ∧ Ended s₂ below o ∧ ∃ v L, o = .returned v ∧ (Q v s₂.heap ∧ Fr n0 L) ∧ FrameEnd s o s₂ L K N
/-- a body's contract: from these arguments over this heap it returns as Q says, and writes nothing below n0 -/
def Ctr (l : Launch) (Z : State) (y : MethodName) (code : ByteArray) (maxL : Nat) (ret : Option FieldType) (rm : Room) (as' : Array Value) (h0 : Heap) (n0 : Nat) (Q : Option Value → Heap → Prop) : Prop :=
  ∀ ws : List Cond, MetFree l y (head1 (Cond.code y code maxL ret :: ws) rm) (fun a U => a = as' ∧ Z.Warmed39 U.vm ∧ U.heap = h0) (fun _ _ _ _ _ => True)
    (fun _ U o U' => ∃ v L, o = .returned v ∧ (Q v U'.heap ∧ Fr n0 L) ∧ FrameEnd U o U' L rm.cells rm.slots)
section
variable {p : Program} {l : Launch} {e : Env} {R : Room} {s : State} {m : MethodId} {args : Array Value} {below : List Frame} {meth : Method} {c : Code} {n0 K N : Nat} {Q : Option Value → Heap → Prop} {h : Heap} {ck cn : Nat} {Z : State} {a0 : Array Value} {code : ByteArray} {maxL : Nat} {own : String} {ret : Option FieldType}
theorem Ctr.of_go {y : MethodName} {rm : Room} {as' : Array Value} {h0 : Heap} {Ls : Array Slot} (hpl : plainFor y = true) (hef : ∀ m, entryFrame m as' maxL = mkF m 0 Ls [])
    (hgo : ∀ p e s m below meth c, meth.name = y.name → Cx p s m meth c Z code maxL y.cls ret → Go p l e rm s m as' below meth c n0 rm.cells rm.slots Q h0 0 0 (mkF m 0 Ls [])) : Ctr l Z y code maxL ret rm as' h0 n0 Q := fun ws => by
  refine MetFree.of_bodySF hpl hisR ?_
  intro p e s m args below meth c s₁ Bd hml0 hP hK
  obtain ⟨rfl, hZ, hh⟩ := hP
  have X0 : Stand p l e rm s m args below meth c s₁ [] 0 0 := Stand.of_body Bd
  have e0 : s₁.heap = h0 := by rw [← hh, Bd.state]; rfl
  obtain ⟨s₂, o, g1, g2, g3, v, L, g4, g5, g6⟩ := hgo p e s m below meth c (name_of_methodNamed Bd.named Bd.method).1 ⟨Bd.exec, Bd.bytes, hml0, hZ, findClass_of_methodNamed Bd.named, Bd.returns, Bd.notSynchronized⟩ s₁ [] X0 e0 (Fr.nil n0)
  exact ⟨s₂, o, castTop (hef m) g1, g2, g3, v, L, g4, g5, g6⟩
theorem Go.step {g g' : JFrame} (st : ∀ (T : State) (locs : List Loc), Stand p l e R s m args below meth c T locs ck cn → T.heap = h → ∀ target, Steps p.tables e below (T.setTop g') target → Steps p.tables e below (T.setTop g) target)
    (k : Go p l e R s m args below meth c n0 K N Q h ck cn g') : Go p l e R s m args below meth c n0 K N Q h ck cn g := fun T locs X eT hN => by
  obtain ⟨s₂, o, h1, r⟩ := k T locs X eT hN
  exact ⟨s₂, o, st T locs X eT _ h1, r⟩
/-- a step that moves the state: heap, counts -/
theorem Go.move {g g' : JFrame} {h' : Heap} {ck' cn' : Nat} {T : State} {locs : List Loc} (hN : Fr n0 locs) {T' : State} {locs' : List Loc} (X' : Stand p l e R s m args below meth c T' locs' ck' cn') (e' : T'.heap = h') (hN' : Fr n0 locs')
    (st : ∀ target, Steps p.tables e below (T'.setTop g') target → Steps p.tables e below (T.setTop g) target) (k : Go p l e R s m args below meth c n0 K N Q h' ck' cn' g') :
    ∃ s₂ o, Steps p.tables e below (T.setTop g) s₂ ∧ s₂.status = .running ∧ Ended s₂ below o ∧ ∃ v L, o = .returned v ∧ (Q v s₂.heap ∧ Fr n0 L) ∧ FrameEnd s o s₂ L K N := by
  obtain ⟨s₂, o, h1, r⟩ := k T' locs' X' e' hN'
  exact ⟨s₂, o, st _ h1, r⟩
theorem Go.join {g : JFrame} (g' : JFrame) (J : Go p l e R s m args below meth c n0 K N Q h ck cn g') (k : Go p l e R s m args below meth c n0 K N Q h ck cn g' → Go p l e R s m args below meth c n0 K N Q h ck cn g) : Go p l e R s m args below meth c n0 K N Q h ck cn g := k J
theorem Go.cast {g g' : JFrame} (k : Go p l e R s m args below meth c n0 K N Q h ck cn g') (q : g = g') : Go p l e R s m args below meth c n0 K N Q h ck cn g := q ▸ k
theorem Go.more {g : JFrame} {ck' cn' : Nat} (hc : ck ≤ ck') (hs : cn ≤ cn') (k : Go p l e R s m args below meth c n0 K N Q h ck' cn' g) : Go p l e R s m args below meth c n0 K N Q h ck cn g := fun T locs X eT hN => k T locs (X.more hc hs) eT hN
theorem Go.heap {g : JFrame} {h' : Heap} (q : h' = h) (k : Go p l e R s m args below meth c n0 K N Q h' ck cn g) : Go p l e R s m args below meth c n0 K N Q h ck cn g := q ▸ k
theorem Go.some' {v : Value} {pc : Nat} {Ls : Array Slot} {st : List Value} (k : Go p l e R s m args below meth c n0 K N Q h ck cn (mkF m pc Ls (v :: st))) : Go p l e R s m args below meth c n0 K N Q h ck cn (mkF m pc Ls ((some v).toList ++ st)) := k
theorem Go.none' {pc : Nat} {Ls : Array Slot} {st : List Value} (k : Go p l e R s m args below meth c n0 K N Q h ck cn (mkF m pc Ls st)) : Go p l e R s m args below meth c n0 K N Q h ck cn (mkF m pc Ls ((none : Option Value).toList ++ st)) := k
theorem g_iadd (C : Cx p s m meth c Z code maxL own ret) {pc pc' : Nat} {Ls : Array Slot} {st : List Value} {x y : Int32} (hd : I1 code pc (.iadd) 1 pc') (k : Go p l e R s m args below meth c n0 K N Q h ck cn (mkF m pc' Ls (.int (x + y) :: st))) : Go p l e R s m args below meth c n0 K N Q h ck cn (mkF m pc Ls (.int y :: .int x :: st)) := by
  obtain ⟨hd, rfl⟩ := hd
  exact Go.step (fun T locs X _ t k => XS.iadd X.here C.1 rfl (hb C.2.1 hd) rfl k) k
theorem g_isub (C : Cx p s m meth c Z code maxL own ret) {pc pc' : Nat} {Ls : Array Slot} {st : List Value} {x y : Int32} (hd : I1 code pc (.isub) 1 pc') (k : Go p l e R s m args below meth c n0 K N Q h ck cn (mkF m pc' Ls (.int (x - y) :: st))) : Go p l e R s m args below meth c n0 K N Q h ck cn (mkF m pc Ls (.int y :: .int x :: st)) := by
  obtain ⟨hd, rfl⟩ := hd
  exact Go.step (fun T locs X _ t k => XS.isub X.here C.1 rfl (hb C.2.1 hd) rfl k) k
theorem g_imul (C : Cx p s m meth c Z code maxL own ret) {pc pc' : Nat} {Ls : Array Slot} {st : List Value} {x y : Int32} (hd : I1 code pc (.imul) 1 pc') (k : Go p l e R s m args below meth c n0 K N Q h ck cn (mkF m pc' Ls (.int (x * y) :: st))) : Go p l e R s m args below meth c n0 K N Q h ck cn (mkF m pc Ls (.int y :: .int x :: st)) := by
  obtain ⟨hd, rfl⟩ := hd
  exact Go.step (fun T locs X _ t k => XS.imul X.here C.1 rfl (hb C.2.1 hd) rfl k) k
theorem g_iand (C : Cx p s m meth c Z code maxL own ret) {pc pc' : Nat} {Ls : Array Slot} {st : List Value} {x y : Int32} (hd : I1 code pc (.iand) 1 pc') (k : Go p l e R s m args below meth c n0 K N Q h ck cn (mkF m pc' Ls (.int (x &&& y) :: st))) : Go p l e R s m args below meth c n0 K N Q h ck cn (mkF m pc Ls (.int y :: .int x :: st)) := by
  obtain ⟨hd, rfl⟩ := hd
  exact Go.step (fun T locs X _ t k => XS.iand X.here C.1 rfl (hb C.2.1 hd) rfl k) k
theorem g_ior (C : Cx p s m meth c Z code maxL own ret) {pc pc' : Nat} {Ls : Array Slot} {st : List Value} {x y : Int32} (hd : I1 code pc (.ior) 1 pc') (k : Go p l e R s m args below meth c n0 K N Q h ck cn (mkF m pc' Ls (.int (x ||| y) :: st))) : Go p l e R s m args below meth c n0 K N Q h ck cn (mkF m pc Ls (.int y :: .int x :: st)) := by
  obtain ⟨hd, rfl⟩ := hd
  exact Go.step (fun T locs X _ t k => XS.ior X.here C.1 rfl (hb C.2.1 hd) rfl k) k
theorem g_ixor (C : Cx p s m meth c Z code maxL own ret) {pc pc' : Nat} {Ls : Array Slot} {st : List Value} {x y : Int32} (hd : I1 code pc (.ixor) 1 pc') (k : Go p l e R s m args below meth c n0 K N Q h ck cn (mkF m pc' Ls (.int (x ^^^ y) :: st))) : Go p l e R s m args below meth c n0 K N Q h ck cn (mkF m pc Ls (.int y :: .int x :: st)) := by
  obtain ⟨hd, rfl⟩ := hd
  exact Go.step (fun T locs X _ t k => XS.ixor X.here C.1 rfl (hb C.2.1 hd) rfl k) k
theorem g_ishl (C : Cx p s m meth c Z code maxL own ret) {pc pc' : Nat} {Ls : Array Slot} {st : List Value} {x y : Int32} (hd : I1 code pc (.ishl) 1 pc') (k : Go p l e R s m args below meth c n0 K N Q h ck cn (mkF m pc' Ls (.int (x <<< (y &&& 31)) :: st))) : Go p l e R s m args below meth c n0 K N Q h ck cn (mkF m pc Ls (.int y :: .int x :: st)) := by
  obtain ⟨hd, rfl⟩ := hd
  exact Go.step (fun T locs X _ t k => XS.ishl X.here C.1 rfl (hb C.2.1 hd) rfl k) k
theorem g_ishr (C : Cx p s m meth c Z code maxL own ret) {pc pc' : Nat} {Ls : Array Slot} {st : List Value} {x y : Int32} (hd : I1 code pc (.ishr) 1 pc') (k : Go p l e R s m args below meth c n0 K N Q h ck cn (mkF m pc' Ls (.int (x >>> (y &&& 31)) :: st))) : Go p l e R s m args below meth c n0 K N Q h ck cn (mkF m pc Ls (.int y :: .int x :: st)) := by
  obtain ⟨hd, rfl⟩ := hd
  exact Go.step (fun T locs X _ t k => XS.ishr X.here C.1 rfl (hb C.2.1 hd) rfl k) k
theorem g_iushr (C : Cx p s m meth c Z code maxL own ret) {pc pc' : Nat} {Ls : Array Slot} {st : List Value} {x y : Int32} (hd : I1 code pc (.iushr) 1 pc') (k : Go p l e R s m args below meth c n0 K N Q h ck cn (mkF m pc' Ls (.int ((x.toUInt32 >>> (y &&& 31).toUInt32).toInt32) :: st))) : Go p l e R s m args below meth c n0 K N Q h ck cn (mkF m pc Ls (.int y :: .int x :: st)) := by
  obtain ⟨hd, rfl⟩ := hd
  exact Go.step (fun T locs X _ t k => XS.iushr X.here C.1 rfl (hb C.2.1 hd) rfl k) k
theorem g_ladd (C : Cx p s m meth c Z code maxL own ret) {pc pc' : Nat} {Ls : Array Slot} {st : List Value} {x y : Int64} (hd : I1 code pc (.ladd) 1 pc') (k : Go p l e R s m args below meth c n0 K N Q h ck cn (mkF m pc' Ls (.long (x + y) :: st))) : Go p l e R s m args below meth c n0 K N Q h ck cn (mkF m pc Ls (.long y :: .long x :: st)) := by
  obtain ⟨hd, rfl⟩ := hd
  exact Go.step (fun T locs X _ t k => XS.ladd X.here C.1 rfl (hb C.2.1 hd) rfl k) k
theorem g_lsub (C : Cx p s m meth c Z code maxL own ret) {pc pc' : Nat} {Ls : Array Slot} {st : List Value} {x y : Int64} (hd : I1 code pc (.lsub) 1 pc') (k : Go p l e R s m args below meth c n0 K N Q h ck cn (mkF m pc' Ls (.long (x - y) :: st))) : Go p l e R s m args below meth c n0 K N Q h ck cn (mkF m pc Ls (.long y :: .long x :: st)) := by
  obtain ⟨hd, rfl⟩ := hd
  exact Go.step (fun T locs X _ t k => XS.lsub X.here C.1 rfl (hb C.2.1 hd) rfl k) k
theorem g_lmul (C : Cx p s m meth c Z code maxL own ret) {pc pc' : Nat} {Ls : Array Slot} {st : List Value} {x y : Int64} (hd : I1 code pc (.lmul) 1 pc') (k : Go p l e R s m args below meth c n0 K N Q h ck cn (mkF m pc' Ls (.long (x * y) :: st))) : Go p l e R s m args below meth c n0 K N Q h ck cn (mkF m pc Ls (.long y :: .long x :: st)) := by
  obtain ⟨hd, rfl⟩ := hd
  exact Go.step (fun T locs X _ t k => XS.lmul X.here C.1 rfl (hb C.2.1 hd) rfl k) k
theorem g_land (C : Cx p s m meth c Z code maxL own ret) {pc pc' : Nat} {Ls : Array Slot} {st : List Value} {x y : Int64} (hd : I1 code pc (.land) 1 pc') (k : Go p l e R s m args below meth c n0 K N Q h ck cn (mkF m pc' Ls (.long (x &&& y) :: st))) : Go p l e R s m args below meth c n0 K N Q h ck cn (mkF m pc Ls (.long y :: .long x :: st)) := by
  obtain ⟨hd, rfl⟩ := hd
  exact Go.step (fun T locs X _ t k => XS.land X.here C.1 rfl (hb C.2.1 hd) rfl k) k
theorem g_lor (C : Cx p s m meth c Z code maxL own ret) {pc pc' : Nat} {Ls : Array Slot} {st : List Value} {x y : Int64} (hd : I1 code pc (.lor) 1 pc') (k : Go p l e R s m args below meth c n0 K N Q h ck cn (mkF m pc' Ls (.long (x ||| y) :: st))) : Go p l e R s m args below meth c n0 K N Q h ck cn (mkF m pc Ls (.long y :: .long x :: st)) := by
  obtain ⟨hd, rfl⟩ := hd
  exact Go.step (fun T locs X _ t k => XS.lor X.here C.1 rfl (hb C.2.1 hd) rfl k) k
theorem g_lxor (C : Cx p s m meth c Z code maxL own ret) {pc pc' : Nat} {Ls : Array Slot} {st : List Value} {x y : Int64} (hd : I1 code pc (.lxor) 1 pc') (k : Go p l e R s m args below meth c n0 K N Q h ck cn (mkF m pc' Ls (.long (x ^^^ y) :: st))) : Go p l e R s m args below meth c n0 K N Q h ck cn (mkF m pc Ls (.long y :: .long x :: st)) := by
  obtain ⟨hd, rfl⟩ := hd
  exact Go.step (fun T locs X _ t k => XS.lxor X.here C.1 rfl (hb C.2.1 hd) rfl k) k
theorem g_lshl (C : Cx p s m meth c Z code maxL own ret) {pc pc' : Nat} {Ls : Array Slot} {st : List Value} {x : Int64} {y : Int32} (hd : I1 code pc (.lshl) 1 pc') (k : Go p l e R s m args below meth c n0 K N Q h ck cn (mkF m pc' Ls (.long (x <<< (y &&& 0x3f).toInt64) :: st))) : Go p l e R s m args below meth c n0 K N Q h ck cn (mkF m pc Ls (.int y :: .long x :: st)) := by
  obtain ⟨hd, rfl⟩ := hd
  exact Go.step (fun T locs X _ t k => XS.lshl X.here C.1 rfl (hb C.2.1 hd) rfl k) k
theorem g_lshr (C : Cx p s m meth c Z code maxL own ret) {pc pc' : Nat} {Ls : Array Slot} {st : List Value} {x : Int64} {y : Int32} (hd : I1 code pc (.lshr) 1 pc') (k : Go p l e R s m args below meth c n0 K N Q h ck cn (mkF m pc' Ls (.long (x >>> (y &&& 0x3f).toInt64) :: st))) : Go p l e R s m args below meth c n0 K N Q h ck cn (mkF m pc Ls (.int y :: .long x :: st)) := by
  obtain ⟨hd, rfl⟩ := hd
  exact Go.step (fun T locs X _ t k => XS.lshr X.here C.1 rfl (hb C.2.1 hd) rfl k) k
theorem g_lushr (C : Cx p s m meth c Z code maxL own ret) {pc pc' : Nat} {Ls : Array Slot} {st : List Value} {x : Int64} {y : Int32} (hd : I1 code pc (.lushr) 1 pc') (k : Go p l e R s m args below meth c n0 K N Q h ck cn (mkF m pc' Ls (.long ((x.toUInt64 >>> (y &&& 0x3f).toInt64.toUInt64).toInt64) :: st))) : Go p l e R s m args below meth c n0 K N Q h ck cn (mkF m pc Ls (.int y :: .long x :: st)) := by
  obtain ⟨hd, rfl⟩ := hd
  exact Go.step (fun T locs X _ t k => XS.lushr X.here C.1 rfl (hb C.2.1 hd) rfl k) k
theorem g_lcmp (C : Cx p s m meth c Z code maxL own ret) {pc pc' : Nat} {Ls : Array Slot} {st : List Value} {x y : Int64} (hd : I1 code pc (.lcmp) 1 pc') (k : Go p l e R s m args below meth c n0 K N Q h ck cn (mkF m pc' Ls (.int (lcmpW x y) :: st))) : Go p l e R s m args below meth c n0 K N Q h ck cn (mkF m pc Ls (.long y :: .long x :: st)) := by
  obtain ⟨hd, rfl⟩ := hd
  exact Go.step (fun T locs X _ t k => XS.lcmp X.here C.1 rfl (hb C.2.1 hd) rfl k) k
theorem g_ineg (C : Cx p s m meth c Z code maxL own ret) {pc pc' : Nat} {Ls : Array Slot} {st : List Value} {x : Int32} (hd : I1 code pc (.ineg) 1 pc') (k : Go p l e R s m args below meth c n0 K N Q h ck cn (mkF m pc' Ls (.int (-x) :: st))) : Go p l e R s m args below meth c n0 K N Q h ck cn (mkF m pc Ls (.int x :: st)) := by
  obtain ⟨hd, rfl⟩ := hd
  exact Go.step (fun T locs X _ t k => XS.ineg X.here C.1 rfl (hb C.2.1 hd) rfl k) k
theorem g_lneg (C : Cx p s m meth c Z code maxL own ret) {pc pc' : Nat} {Ls : Array Slot} {st : List Value} {x : Int64} (hd : I1 code pc (.lneg) 1 pc') (k : Go p l e R s m args below meth c n0 K N Q h ck cn (mkF m pc' Ls (.long (-x) :: st))) : Go p l e R s m args below meth c n0 K N Q h ck cn (mkF m pc Ls (.long x :: st)) := by
  obtain ⟨hd, rfl⟩ := hd
  exact Go.step (fun T locs X _ t k => XS.lneg X.here C.1 rfl (hb C.2.1 hd) rfl k) k
theorem g_i2l (C : Cx p s m meth c Z code maxL own ret) {pc pc' : Nat} {Ls : Array Slot} {st : List Value} {x : Int32} (hd : I1 code pc (.i2l) 1 pc') (k : Go p l e R s m args below meth c n0 K N Q h ck cn (mkF m pc' Ls (.long x.toInt64 :: st))) : Go p l e R s m args below meth c n0 K N Q h ck cn (mkF m pc Ls (.int x :: st)) := by
  obtain ⟨hd, rfl⟩ := hd
  exact Go.step (fun T locs X _ t k => XS.i2l X.here C.1 rfl (hb C.2.1 hd) rfl k) k
theorem g_l2i (C : Cx p s m meth c Z code maxL own ret) {pc pc' : Nat} {Ls : Array Slot} {st : List Value} {x : Int64} (hd : I1 code pc (.l2i) 1 pc') (k : Go p l e R s m args below meth c n0 K N Q h ck cn (mkF m pc' Ls (.int x.toInt32 :: st))) : Go p l e R s m args below meth c n0 K N Q h ck cn (mkF m pc Ls (.long x :: st)) := by
  obtain ⟨hd, rfl⟩ := hd
  exact Go.step (fun T locs X _ t k => XS.l2i X.here C.1 rfl (hb C.2.1 hd) rfl k) k
theorem g_i2b (C : Cx p s m meth c Z code maxL own ret) {pc pc' : Nat} {Ls : Array Slot} {st : List Value} {x : Int32} (hd : I1 code pc (.i2b) 1 pc') (k : Go p l e R s m args below meth c n0 K N Q h ck cn (mkF m pc' Ls (.int x.toInt8.toInt32 :: st))) : Go p l e R s m args below meth c n0 K N Q h ck cn (mkF m pc Ls (.int x :: st)) := by
  obtain ⟨hd, rfl⟩ := hd
  exact Go.step (fun T locs X _ t k => XS.i2b X.here C.1 rfl (hb C.2.1 hd) rfl k) k
theorem g_i2s (C : Cx p s m meth c Z code maxL own ret) {pc pc' : Nat} {Ls : Array Slot} {st : List Value} {x : Int32} (hd : I1 code pc (.i2s) 1 pc') (k : Go p l e R s m args below meth c n0 K N Q h ck cn (mkF m pc' Ls (.int x.toInt16.toInt32 :: st))) : Go p l e R s m args below meth c n0 K N Q h ck cn (mkF m pc Ls (.int x :: st)) := by
  obtain ⟨hd, rfl⟩ := hd
  exact Go.step (fun T locs X _ t k => XS.i2s X.here C.1 rfl (hb C.2.1 hd) rfl k) k
theorem g_i2c (C : Cx p s m meth c Z code maxL own ret) {pc pc' : Nat} {Ls : Array Slot} {st : List Value} {x : Int32} (hd : I1 code pc (.i2c) 1 pc') (k : Go p l e R s m args below meth c n0 K N Q h ck cn (mkF m pc' Ls (.int x.toUInt32.toUInt16.toUInt32.toInt32 :: st))) : Go p l e R s m args below meth c n0 K N Q h ck cn (mkF m pc Ls (.int x :: st)) := by
  obtain ⟨hd, rfl⟩ := hd
  exact Go.step (fun T locs X _ t k => XS.i2c X.here C.1 rfl (hb C.2.1 hd) rfl k) k
theorem g_idiv (C : Cx p s m meth c Z code maxL own ret) {pc pc' : Nat} {Ls : Array Slot} {st : List Value} {x y : Int32} (hd : I1 code pc (.idiv) 1 pc') (hy : y ≠ 0) (k : Go p l e R s m args below meth c n0 K N Q h ck cn (mkF m pc' Ls (.int (x / y) :: st))) : Go p l e R s m args below meth c n0 K N Q h ck cn (mkF m pc Ls (.int y :: .int x :: st)) := by
  obtain ⟨hd, rfl⟩ := hd
  exact Go.step (fun T locs X _ t k => XS.idiv X.here C.1 rfl (hb C.2.1 hd) rfl hy k) k
theorem g_ldiv (C : Cx p s m meth c Z code maxL own ret) {pc pc' : Nat} {Ls : Array Slot} {st : List Value} {x y : Int64} (hd : I1 code pc (.ldiv) 1 pc') (hy : y ≠ 0) (k : Go p l e R s m args below meth c n0 K N Q h ck cn (mkF m pc' Ls (.long (x / y) :: st))) : Go p l e R s m args below meth c n0 K N Q h ck cn (mkF m pc Ls (.long y :: .long x :: st)) := by
  obtain ⟨hd, rfl⟩ := hd
  exact Go.step (fun T locs X _ t k => XS.ldiv X.here C.1 rfl (hb C.2.1 hd) rfl hy k) k
theorem g_irem (C : Cx p s m meth c Z code maxL own ret) {pc pc' : Nat} {Ls : Array Slot} {st : List Value} {x y : Int32} (hd : I1 code pc .irem 1 pc') (hy : y ≠ 0) (k : Go p l e R s m args below meth c n0 K N Q h ck cn (mkF m pc' Ls (.int (x % y) :: st))) : Go p l e R s m args below meth c n0 K N Q h ck cn (mkF m pc Ls (.int y :: .int x :: st)) := by
  obtain ⟨hd, rfl⟩ := hd
  exact Go.step (fun T locs X _ t k => iremM X C.1 rfl (hb C.2.1 hd) rfl hy k) k
theorem g_lrem (C : Cx p s m meth c Z code maxL own ret) {pc pc' : Nat} {Ls : Array Slot} {st : List Value} {x y : Int64} (hd : I1 code pc .lrem 1 pc') (hy : y ≠ 0) (k : Go p l e R s m args below meth c n0 K N Q h ck cn (mkF m pc' Ls (.long (x % y) :: st))) : Go p l e R s m args below meth c n0 K N Q h ck cn (mkF m pc Ls (.long y :: .long x :: st)) := by
  obtain ⟨hd, rfl⟩ := hd
  exact Go.step (fun T locs X _ t k => XS.lrem X.here C.1 rfl (hb C.2.1 hd) rfl hy (by rw [lrem_mod]; exact k)) k
theorem g_iloadN (C : Cx p s m meth c Z code maxL own ret) {pc pc' : Nat} {Ls : Array Slot} {st : List Value} {k : Fin 4} {v : Int32} (hd : I1 code pc (.iload_n k) 1 pc') (hl : Ls[k.val]? = some (.val (.int v))) (k : Go p l e R s m args below meth c n0 K N Q h ck cn (mkF m pc' Ls (.int v :: st))) : Go p l e R s m args below meth c n0 K N Q h ck cn (mkF m pc Ls (st)) := by
  obtain ⟨hd, rfl⟩ := hd
  exact Go.step (fun T locs X _ t k => XS.iloadN X.here C.1 rfl (hb C.2.1 hd) hl k) k
theorem g_iload (C : Cx p s m meth c Z code maxL own ret) {pc pc' : Nat} {Ls : Array Slot} {st : List Value} {k : Nat} {v : Int32} (hd : I1 code pc (.iload k) 2 pc') (hl : Ls[k]? = some (.val (.int v))) (k : Go p l e R s m args below meth c n0 K N Q h ck cn (mkF m pc' Ls (.int v :: st))) : Go p l e R s m args below meth c n0 K N Q h ck cn (mkF m pc Ls (st)) := by
  obtain ⟨hd, rfl⟩ := hd
  exact Go.step (fun T locs X _ t k => XS.iload X.here C.1 rfl (hb C.2.1 hd) hl k) k
theorem g_istoreN (C : Cx p s m meth c Z code maxL own ret) {pc pc' : Nat} {Ls : Array Slot} {st : List Value} {k : Fin 4} {x : Int32} {Ls' : Array Slot} (hd : I1 code pc (.istore_n k) 1 pc') (hl : storeLocals Ls k.val (.int x) = some Ls') (k : Go p l e R s m args below meth c n0 K N Q h ck cn (mkF m pc' Ls' (st))) : Go p l e R s m args below meth c n0 K N Q h ck cn (mkF m pc Ls (.int x :: st)) := by
  obtain ⟨hd, rfl⟩ := hd
  exact Go.step (fun T locs X _ t k => XS.istoreN X.here C.1 rfl (hb C.2.1 hd) rfl hl k) k
theorem g_istore (C : Cx p s m meth c Z code maxL own ret) {pc pc' : Nat} {Ls : Array Slot} {st : List Value} {k : Nat} {x : Int32} {Ls' : Array Slot} (hd : I1 code pc (.istore k) 2 pc') (hl : storeLocals Ls k (.int x) = some Ls') (k : Go p l e R s m args below meth c n0 K N Q h ck cn (mkF m pc' Ls' (st))) : Go p l e R s m args below meth c n0 K N Q h ck cn (mkF m pc Ls (.int x :: st)) := by
  obtain ⟨hd, rfl⟩ := hd
  exact Go.step (fun T locs X _ t k => XS.istore X.here C.1 rfl (hb C.2.1 hd) rfl hl k) k
theorem g_lloadN (C : Cx p s m meth c Z code maxL own ret) {pc pc' : Nat} {Ls : Array Slot} {st : List Value} {k : Fin 4} {v : Int64} (hd : I1 code pc (.lload_n k) 1 pc') (hl : Ls[k.val]? = some (.val (.long v))) (k : Go p l e R s m args below meth c n0 K N Q h ck cn (mkF m pc' Ls (.long v :: st))) : Go p l e R s m args below meth c n0 K N Q h ck cn (mkF m pc Ls (st)) := by
  obtain ⟨hd, rfl⟩ := hd
  exact Go.step (fun T locs X _ t k => XS.lloadN X.here C.1 rfl (hb C.2.1 hd) hl k) k
theorem g_lload (C : Cx p s m meth c Z code maxL own ret) {pc pc' : Nat} {Ls : Array Slot} {st : List Value} {k : Nat} {v : Int64} (hd : I1 code pc (.lload k) 2 pc') (hl : Ls[k]? = some (.val (.long v))) (k : Go p l e R s m args below meth c n0 K N Q h ck cn (mkF m pc' Ls (.long v :: st))) : Go p l e R s m args below meth c n0 K N Q h ck cn (mkF m pc Ls (st)) := by
  obtain ⟨hd, rfl⟩ := hd
  exact Go.step (fun T locs X _ t k => XS.lload X.here C.1 rfl (hb C.2.1 hd) hl k) k
theorem g_lstoreN (C : Cx p s m meth c Z code maxL own ret) {pc pc' : Nat} {Ls : Array Slot} {st : List Value} {k : Fin 4} {x : Int64} {Ls' : Array Slot} (hd : I1 code pc (.lstore_n k) 1 pc') (hl : storeLocals Ls k.val (.long x) = some Ls') (k : Go p l e R s m args below meth c n0 K N Q h ck cn (mkF m pc' Ls' (st))) : Go p l e R s m args below meth c n0 K N Q h ck cn (mkF m pc Ls (.long x :: st)) := by
  obtain ⟨hd, rfl⟩ := hd
  exact Go.step (fun T locs X _ t k => XS.lstoreN X.here C.1 rfl (hb C.2.1 hd) rfl hl k) k
theorem g_lstore (C : Cx p s m meth c Z code maxL own ret) {pc pc' : Nat} {Ls : Array Slot} {st : List Value} {k : Nat} {x : Int64} {Ls' : Array Slot} (hd : I1 code pc (.lstore k) 2 pc') (hl : storeLocals Ls k (.long x) = some Ls') (k : Go p l e R s m args below meth c n0 K N Q h ck cn (mkF m pc' Ls' (st))) : Go p l e R s m args below meth c n0 K N Q h ck cn (mkF m pc Ls (.long x :: st)) := by
  obtain ⟨hd, rfl⟩ := hd
  exact Go.step (fun T locs X _ t k => XS.lstore X.here C.1 rfl (hb C.2.1 hd) rfl hl k) k
theorem g_aloadN (C : Cx p s m meth c Z code maxL own ret) {pc pc' : Nat} {Ls : Array Slot} {st : List Value} {k : Fin 4} {v : Value} (hd : I1 code pc (.aload_n k) 1 pc') (hl : Ls[k.val]? = some (.val v)) (hv : v.isRef = true) (k : Go p l e R s m args below meth c n0 K N Q h ck cn (mkF m pc' Ls (v :: st))) : Go p l e R s m args below meth c n0 K N Q h ck cn (mkF m pc Ls (st)) := by
  obtain ⟨hd, rfl⟩ := hd
  exact Go.step (fun T locs X _ t k => XS.aloadN X.here C.1 rfl (hb C.2.1 hd) hl hv k) k
theorem g_aload (C : Cx p s m meth c Z code maxL own ret) {pc pc' : Nat} {Ls : Array Slot} {st : List Value} {k : Nat} {v : Value} (hd : I1 code pc (.aload k) 2 pc') (hl : Ls[k]? = some (.val v)) (hv : v.isRef = true) (k : Go p l e R s m args below meth c n0 K N Q h ck cn (mkF m pc' Ls (v :: st))) : Go p l e R s m args below meth c n0 K N Q h ck cn (mkF m pc Ls (st)) := by
  obtain ⟨hd, rfl⟩ := hd
  exact Go.step (fun T locs X _ t k => XS.aload X.here C.1 rfl (hb C.2.1 hd) hl hv k) k
theorem g_astoreN (C : Cx p s m meth c Z code maxL own ret) {pc pc' : Nat} {Ls : Array Slot} {st : List Value} {k : Fin 4} {x : Value} {Ls' : Array Slot} (hd : I1 code pc (.astore_n k) 1 pc') (hv : x.isRef = true) (hl : storeLocals Ls k.val x = some Ls') (k : Go p l e R s m args below meth c n0 K N Q h ck cn (mkF m pc' Ls' (st))) : Go p l e R s m args below meth c n0 K N Q h ck cn (mkF m pc Ls (x :: st)) := by
  obtain ⟨hd, rfl⟩ := hd
  exact Go.step (fun T locs X _ t k => XS.astoreN X.here C.1 rfl (hb C.2.1 hd) rfl hv hl k) k
theorem g_astore (C : Cx p s m meth c Z code maxL own ret) {pc pc' : Nat} {Ls : Array Slot} {st : List Value} {k : Nat} {x : Value} {Ls' : Array Slot} (hd : I1 code pc (.astore k) 2 pc') (hv : x.isRef = true) (hl : storeLocals Ls k x = some Ls') (k : Go p l e R s m args below meth c n0 K N Q h ck cn (mkF m pc' Ls' (st))) : Go p l e R s m args below meth c n0 K N Q h ck cn (mkF m pc Ls (x :: st)) := by
  obtain ⟨hd, rfl⟩ := hd
  exact Go.step (fun T locs X _ t k => XS.astore X.here C.1 rfl (hb C.2.1 hd) rfl hv hl k) k
theorem g_iinc (C : Cx p s m meth c Z code maxL own ret) {pc pc' : Nat} {Ls : Array Slot} {st : List Value} {k : Nat} {cst : Int} {x : Int32} {Ls' : Array Slot} (hd : I1 code pc (.iinc k cst) 3 pc') (hl : Ls[k]? = some (.val (.int x))) (hl' : storeLocals Ls k (.int (x + Int32.ofInt cst)) = some Ls') (k : Go p l e R s m args below meth c n0 K N Q h ck cn (mkF m pc' Ls' (st))) : Go p l e R s m args below meth c n0 K N Q h ck cn (mkF m pc Ls (st)) := by
  obtain ⟨hd, rfl⟩ := hd
  exact Go.step (fun T locs X _ t k => XS.iinc X.here C.1 rfl (hb C.2.1 hd) hl hl' k) k
theorem g_iconst (C : Cx p s m meth c Z code maxL own ret) {pc pc' : Nat} {Ls : Array Slot} {st : List Value} {i : Int} (v : Int32) (hd : I1 code pc (.iconst i) 1 pc') (hv : Int32.ofInt i = v) (k : Go p l e R s m args below meth c n0 K N Q h ck cn (mkF m pc' Ls (.int v :: st))) : Go p l e R s m args below meth c n0 K N Q h ck cn (mkF m pc Ls st) := by
  obtain ⟨hd, rfl⟩ := hd
  subst hv
  exact Go.step (fun T locs X _ t k => XS.iconst X.here C.1 rfl (hb C.2.1 hd) k) k
theorem g_bipush (C : Cx p s m meth c Z code maxL own ret) {pc pc' : Nat} {Ls : Array Slot} {st : List Value} {i : Int} (v : Int32) (hd : I1 code pc (.bipush i) 2 pc') (hv : (Int8.ofInt i).toInt32 = v) (k : Go p l e R s m args below meth c n0 K N Q h ck cn (mkF m pc' Ls (.int v :: st))) : Go p l e R s m args below meth c n0 K N Q h ck cn (mkF m pc Ls st) := by
  obtain ⟨hd, rfl⟩ := hd
  subst hv
  exact Go.step (fun T locs X _ t k => XS.bipush X.here C.1 rfl (hb C.2.1 hd) k) k
theorem g_sipush (C : Cx p s m meth c Z code maxL own ret) {pc pc' : Nat} {Ls : Array Slot} {st : List Value} {i : Int} (v : Int32) (hd : I1 code pc (.sipush i) 3 pc') (hv : (Int16.ofInt i).toInt32 = v) (k : Go p l e R s m args below meth c n0 K N Q h ck cn (mkF m pc' Ls (.int v :: st))) : Go p l e R s m args below meth c n0 K N Q h ck cn (mkF m pc Ls st) := by
  obtain ⟨hd, rfl⟩ := hd
  subst hv
  exact Go.step (fun T locs X _ t k => XS.sipush X.here C.1 rfl (hb C.2.1 hd) k) k
theorem g_lconst (C : Cx p s m meth c Z code maxL own ret) {pc pc' : Nat} {Ls : Array Slot} {st : List Value} {i : Fin 2} (v : Int64) (hd : I1 code pc (.lconst i) 1 pc') (hv : Int64.ofNat i = v) (k : Go p l e R s m args below meth c n0 K N Q h ck cn (mkF m pc' Ls (.long v :: st))) : Go p l e R s m args below meth c n0 K N Q h ck cn (mkF m pc Ls st) := by
  obtain ⟨hd, rfl⟩ := hd
  subst hv
  exact Go.step (fun T locs X _ t k => XS.lconst X.here C.1 rfl (hb C.2.1 hd) k) k
theorem g_aconstNull (C : Cx p s m meth c Z code maxL own ret) {pc pc' : Nat} {Ls : Array Slot} {st : List Value}  (hd : I1 code pc (.aconst_null) 1 pc') (k : Go p l e R s m args below meth c n0 K N Q h ck cn (mkF m pc' Ls (.null :: st))) : Go p l e R s m args below meth c n0 K N Q h ck cn (mkF m pc Ls (st)) := by
  obtain ⟨hd, rfl⟩ := hd
  exact Go.step (fun T locs X _ t k => XS.aconstNull X.here C.1 rfl (hb C.2.1 hd)  k) k
theorem g_ldcInt (C : Cx p s m meth c Z code maxL own ret) {pc pc' : Nat} {Ls : Array Slot} {st : List Value} {i : Nat} {v : Int32} (hd : I1 code pc (.ldc i) 2 pc') (w : (Cond.constant own i v).before a0 Z = true) (k : Go p l e R s m args below meth c n0 K N Q h ck cn (mkF m pc' Ls (.int v :: st))) : Go p l e R s m args below meth c n0 K N Q h ck cn (mkF m pc Ls st) := by
  obtain ⟨hd, rfl⟩ := hd
  exact Go.step (fun T locs X _ t k => X.ldcInt C.1 C.2.2.2.2.1 (mvT C.2.2.2.1 w) (g := mkF m pc Ls st) rfl (hb C.2.1 hd) _ k) k
theorem g_ldcwInt (C : Cx p s m meth c Z code maxL own ret) {pc pc' : Nat} {Ls : Array Slot} {st : List Value} {i : Nat} {v : Int32} (hd : I1 code pc (.ldc_w i) 3 pc') (w : (Cond.constant own i v).before a0 Z = true) (k : Go p l e R s m args below meth c n0 K N Q h ck cn (mkF m pc' Ls (.int v :: st))) : Go p l e R s m args below meth c n0 K N Q h ck cn (mkF m pc Ls st) := by
  obtain ⟨hd, rfl⟩ := hd
  exact Go.step (fun T locs X _ t k => X.ldcwInt C.1 C.2.2.2.2.1 (mvT C.2.2.2.1 w) (g := mkF m pc Ls st) rfl (hb C.2.1 hd) _ k) k
theorem g_ldc2Long (C : Cx p s m meth c Z code maxL own ret) {pc pc' : Nat} {Ls : Array Slot} {st : List Value} {i : Nat} {v : Int64} (hd : I1 code pc (.ldc2_w i) 3 pc') (w : (Cond.constantLong own i v).before a0 Z = true) (k : Go p l e R s m args below meth c n0 K N Q h ck cn (mkF m pc' Ls (.long v :: st))) : Go p l e R s m args below meth c n0 K N Q h ck cn (mkF m pc Ls st) := by
  obtain ⟨hd, rfl⟩ := hd
  exact Go.step (fun T locs X _ t k => X.ldc2Long C.1 C.2.2.2.2.1 (mvT C.2.2.2.1 w) (g := mkF m pc Ls st) rfl (hb C.2.1 hd) _ k) k
theorem g_dup (C : Cx p s m meth c Z code maxL own ret) {pc pc' : Nat} {Ls : Array Slot} {st : List Value} {x : Value} (hd : I1 code pc (.dup) 1 pc') (hc : x.category = 1) (k : Go p l e R s m args below meth c n0 K N Q h ck cn (mkF m pc' Ls (x :: x :: st))) : Go p l e R s m args below meth c n0 K N Q h ck cn (mkF m pc Ls (x :: st)) := by
  obtain ⟨hd, rfl⟩ := hd
  exact Go.step (fun T locs X _ t k => XS.dup X.here C.1 rfl (hb C.2.1 hd) rfl hc k) k
theorem g_pop (C : Cx p s m meth c Z code maxL own ret) {pc pc' : Nat} {Ls : Array Slot} {st : List Value} {x : Value} (hd : I1 code pc (.pop) 1 pc') (hc : x.category = 1) (k : Go p l e R s m args below meth c n0 K N Q h ck cn (mkF m pc' Ls (st))) : Go p l e R s m args below meth c n0 K N Q h ck cn (mkF m pc Ls (x :: st)) := by
  obtain ⟨hd, rfl⟩ := hd
  exact Go.step (fun T locs X _ t k => XS.pop X.here C.1 rfl (hb C.2.1 hd) rfl hc k) k
theorem g_dupX1 (C : Cx p s m meth c Z code maxL own ret) {pc pc' : Nat} {Ls : Array Slot} {st : List Value} {x y : Value} (hd : I1 code pc (.dup_x1) 1 pc') (hc : x.category = 1) (hc' : y.category = 1) (k : Go p l e R s m args below meth c n0 K N Q h ck cn (mkF m pc' Ls (x :: y :: x :: st))) : Go p l e R s m args below meth c n0 K N Q h ck cn (mkF m pc Ls (x :: y :: st)) := by
  obtain ⟨hd, rfl⟩ := hd
  exact Go.step (fun T locs X _ t k => XS.dupX1 X.here C.1 rfl (hb C.2.1 hd) rfl hc hc' k) k
theorem g_dup2 (C : Cx p s m meth c Z code maxL own ret) {pc pc' : Nat} {Ls : Array Slot} {st : List Value} {x y : Value} (hd : I1 code pc (.dup2) 1 pc') (hc : x.category = 1) (hc' : y.category = 1) (k : Go p l e R s m args below meth c n0 K N Q h ck cn (mkF m pc' Ls (x :: y :: x :: y :: st))) : Go p l e R s m args below meth c n0 K N Q h ck cn (mkF m pc Ls (x :: y :: st)) := by
  obtain ⟨hd, rfl⟩ := hd
  exact Go.step (fun T locs X _ t k => Jvm.Free.XT.dup2 X.here C.1 rfl (hb C.2.1 hd) rfl hc hc' k) k
theorem g_dup2L (C : Cx p s m meth c Z code maxL own ret) {pc pc' : Nat} {Ls : Array Slot} {st : List Value} {x : Int64} (hd : I1 code pc (.dup2) 1 pc') (k : Go p l e R s m args below meth c n0 K N Q h ck cn (mkF m pc' Ls (.long x :: .long x :: st))) : Go p l e R s m args below meth c n0 K N Q h ck cn (mkF m pc Ls (.long x :: st)) := by
  obtain ⟨hd, rfl⟩ := hd
  exact Go.step (fun T locs X _ t k => Jvm.Free.XT.dup2L X.here C.1 rfl (hb C.2.1 hd) rfl k) k
theorem g_goto (C : Cx p s m meth c Z code maxL own ret) {pc pcT pcF : Nat} {Ls : Array Slot} {st : List Value} {o : Int} (hd : B1 code pc (.goto o) o pcT pcF) (k : Go p l e R s m args below meth c n0 K N Q h ck cn (mkF m pcT Ls st)) : Go p l e R s m args below meth c n0 K N Q h ck cn (mkF m pc Ls st) := by
  obtain ⟨hd, -, ho, hp⟩ := hd
  exact Go.step (fun T locs X _ t k => XS.goto X.here C.1 rfl (pc0 := pc) rfl (hb C.2.1 hd) ho hp k) k
theorem g_icmp_lt (C : Cx p s m meth c Z code maxL own ret) {pc pcT pcF : Nat} {Ls : Array Slot} {st : List Value} {o : Int} {x y : Int32} (hd : B1 code pc (.if_icmp .lt o) o pcT pcF) (kt : x < y → Go p l e R s m args below meth c n0 K N Q h ck cn (mkF m pcT Ls st)) (kf : ¬ (x < y) → Go p l e R s m args below meth c n0 K N Q h ck cn (mkF m pcF Ls st)) : Go p l e R s m args below meth c n0 K N Q h ck cn (mkF m pc Ls (.int y :: .int x :: st)) := by
  obtain ⟨hd, rfl, ho, hp⟩ := hd
  by_cases q : x < y
  · exact Go.step (fun T locs X _ t k => XS.icmpYes X.here C.1 rfl (pc0 := pc) rfl (hb C.2.1 hd) rfl ((tlt q).1) ho hp k) (kt q)
  · exact Go.step (fun T locs X _ t k => XS.icmpNo X.here C.1 rfl (hb C.2.1 hd) rfl ((flt q).1) k) (kf q)
theorem g_if_lt (C : Cx p s m meth c Z code maxL own ret) {pc pcT pcF : Nat} {Ls : Array Slot} {st : List Value} {o : Int} {x : Int32} (hd : B1 code pc (.ifCond .lt o) o pcT pcF) (kt : x < 0 → Go p l e R s m args below meth c n0 K N Q h ck cn (mkF m pcT Ls st)) (kf : ¬ (x < 0) → Go p l e R s m args below meth c n0 K N Q h ck cn (mkF m pcF Ls st)) : Go p l e R s m args below meth c n0 K N Q h ck cn (mkF m pc Ls (.int x :: st)) := by
  obtain ⟨hd, rfl, ho, hp⟩ := hd
  by_cases q : x < 0
  · exact Go.step (fun T locs X _ t k => XS.ifYes X.here C.1 rfl (pc0 := pc) rfl (hb C.2.1 hd) rfl ((if0 _ _).trans (tlt q).1) ho hp k) (kt q)
  · exact Go.step (fun T locs X _ t k => XS.ifNo X.here C.1 rfl (hb C.2.1 hd) rfl ((if0 _ _).trans (flt q).1) k) (kf q)
theorem g_ifl_lt (C : Cx p s m meth c Z code maxL own ret) {pc pcT pcF : Nat} {Ls : Array Slot} {st : List Value} {o : Int} {x y : Int64} (hd : B1 code pc (.ifCond .lt o) o pcT pcF) (kt : x < y → Go p l e R s m args below meth c n0 K N Q h ck cn (mkF m pcT Ls st)) (kf : ¬ (x < y) → Go p l e R s m args below meth c n0 K N Q h ck cn (mkF m pcF Ls st)) : Go p l e R s m args below meth c n0 K N Q h ck cn (mkF m pc Ls (.int (lcmpW x y) :: st)) := by
  obtain ⟨hd, rfl, ho, hp⟩ := hd
  by_cases q : x < y
  · exact Go.step (fun T locs X _ t k => XS.ifYes X.here C.1 rfl (pc0 := pc) rfl (hb C.2.1 hd) rfl ((if0 _ _).trans (tlt ((lw_lt x y).mpr q)).1) ho hp k) (kt q)
  · exact Go.step (fun T locs X _ t k => XS.ifNo X.here C.1 rfl (hb C.2.1 hd) rfl ((if0 _ _).trans (flt (fun z => q ((lw_lt x y).mp z))).1) k) (kf q)
theorem g_icmp_ge (C : Cx p s m meth c Z code maxL own ret) {pc pcT pcF : Nat} {Ls : Array Slot} {st : List Value} {o : Int} {x y : Int32} (hd : B1 code pc (.if_icmp .ge o) o pcT pcF) (kt : x < y → Go p l e R s m args below meth c n0 K N Q h ck cn (mkF m pcF Ls st)) (kf : ¬ (x < y) → Go p l e R s m args below meth c n0 K N Q h ck cn (mkF m pcT Ls st)) : Go p l e R s m args below meth c n0 K N Q h ck cn (mkF m pc Ls (.int y :: .int x :: st)) := by
  obtain ⟨hd, rfl, ho, hp⟩ := hd
  by_cases q : x < y
  · exact Go.step (fun T locs X _ t k => XS.icmpNo X.here C.1 rfl (hb C.2.1 hd) rfl ((tlt q).2.1) k) (kt q)
  · exact Go.step (fun T locs X _ t k => XS.icmpYes X.here C.1 rfl (pc0 := pc) rfl (hb C.2.1 hd) rfl ((flt q).2.1) ho hp k) (kf q)
theorem g_if_ge (C : Cx p s m meth c Z code maxL own ret) {pc pcT pcF : Nat} {Ls : Array Slot} {st : List Value} {o : Int} {x : Int32} (hd : B1 code pc (.ifCond .ge o) o pcT pcF) (kt : x < 0 → Go p l e R s m args below meth c n0 K N Q h ck cn (mkF m pcF Ls st)) (kf : ¬ (x < 0) → Go p l e R s m args below meth c n0 K N Q h ck cn (mkF m pcT Ls st)) : Go p l e R s m args below meth c n0 K N Q h ck cn (mkF m pc Ls (.int x :: st)) := by
  obtain ⟨hd, rfl, ho, hp⟩ := hd
  by_cases q : x < 0
  · exact Go.step (fun T locs X _ t k => XS.ifNo X.here C.1 rfl (hb C.2.1 hd) rfl ((if0 _ _).trans (tlt q).2.1) k) (kt q)
  · exact Go.step (fun T locs X _ t k => XS.ifYes X.here C.1 rfl (pc0 := pc) rfl (hb C.2.1 hd) rfl ((if0 _ _).trans (flt q).2.1) ho hp k) (kf q)
theorem g_ifl_ge (C : Cx p s m meth c Z code maxL own ret) {pc pcT pcF : Nat} {Ls : Array Slot} {st : List Value} {o : Int} {x y : Int64} (hd : B1 code pc (.ifCond .ge o) o pcT pcF) (kt : x < y → Go p l e R s m args below meth c n0 K N Q h ck cn (mkF m pcF Ls st)) (kf : ¬ (x < y) → Go p l e R s m args below meth c n0 K N Q h ck cn (mkF m pcT Ls st)) : Go p l e R s m args below meth c n0 K N Q h ck cn (mkF m pc Ls (.int (lcmpW x y) :: st)) := by
  obtain ⟨hd, rfl, ho, hp⟩ := hd
  by_cases q : x < y
  · exact Go.step (fun T locs X _ t k => XS.ifNo X.here C.1 rfl (hb C.2.1 hd) rfl ((if0 _ _).trans (tlt ((lw_lt x y).mpr q)).2.1) k) (kt q)
  · exact Go.step (fun T locs X _ t k => XS.ifYes X.here C.1 rfl (pc0 := pc) rfl (hb C.2.1 hd) rfl ((if0 _ _).trans (flt (fun z => q ((lw_lt x y).mp z))).2.1) ho hp k) (kf q)
theorem g_icmp_gt (C : Cx p s m meth c Z code maxL own ret) {pc pcT pcF : Nat} {Ls : Array Slot} {st : List Value} {o : Int} {x y : Int32} (hd : B1 code pc (.if_icmp .gt o) o pcT pcF) (kt : y < x → Go p l e R s m args below meth c n0 K N Q h ck cn (mkF m pcT Ls st)) (kf : ¬ (y < x) → Go p l e R s m args below meth c n0 K N Q h ck cn (mkF m pcF Ls st)) : Go p l e R s m args below meth c n0 K N Q h ck cn (mkF m pc Ls (.int y :: .int x :: st)) := by
  obtain ⟨hd, rfl, ho, hp⟩ := hd
  by_cases q : y < x
  · exact Go.step (fun T locs X _ t k => XS.icmpYes X.here C.1 rfl (pc0 := pc) rfl (hb C.2.1 hd) rfl ((tlt q).2.2.1) ho hp k) (kt q)
  · exact Go.step (fun T locs X _ t k => XS.icmpNo X.here C.1 rfl (hb C.2.1 hd) rfl ((flt q).2.2.1) k) (kf q)
theorem g_if_gt (C : Cx p s m meth c Z code maxL own ret) {pc pcT pcF : Nat} {Ls : Array Slot} {st : List Value} {o : Int} {x : Int32} (hd : B1 code pc (.ifCond .gt o) o pcT pcF) (kt : 0 < x → Go p l e R s m args below meth c n0 K N Q h ck cn (mkF m pcT Ls st)) (kf : ¬ (0 < x) → Go p l e R s m args below meth c n0 K N Q h ck cn (mkF m pcF Ls st)) : Go p l e R s m args below meth c n0 K N Q h ck cn (mkF m pc Ls (.int x :: st)) := by
  obtain ⟨hd, rfl, ho, hp⟩ := hd
  by_cases q : 0 < x
  · exact Go.step (fun T locs X _ t k => XS.ifYes X.here C.1 rfl (pc0 := pc) rfl (hb C.2.1 hd) rfl ((if0 _ _).trans (tlt q).2.2.1) ho hp k) (kt q)
  · exact Go.step (fun T locs X _ t k => XS.ifNo X.here C.1 rfl (hb C.2.1 hd) rfl ((if0 _ _).trans (flt q).2.2.1) k) (kf q)
theorem g_ifl_gt (C : Cx p s m meth c Z code maxL own ret) {pc pcT pcF : Nat} {Ls : Array Slot} {st : List Value} {o : Int} {x y : Int64} (hd : B1 code pc (.ifCond .gt o) o pcT pcF) (kt : y < x → Go p l e R s m args below meth c n0 K N Q h ck cn (mkF m pcT Ls st)) (kf : ¬ (y < x) → Go p l e R s m args below meth c n0 K N Q h ck cn (mkF m pcF Ls st)) : Go p l e R s m args below meth c n0 K N Q h ck cn (mkF m pc Ls (.int (lcmpW x y) :: st)) := by
  obtain ⟨hd, rfl, ho, hp⟩ := hd
  by_cases q : y < x
  · exact Go.step (fun T locs X _ t k => XS.ifYes X.here C.1 rfl (pc0 := pc) rfl (hb C.2.1 hd) rfl ((if0 _ _).trans (tlt ((lw_gt x y).mpr q)).2.2.1) ho hp k) (kt q)
  · exact Go.step (fun T locs X _ t k => XS.ifNo X.here C.1 rfl (hb C.2.1 hd) rfl ((if0 _ _).trans (flt (fun z => q ((lw_gt x y).mp z))).2.2.1) k) (kf q)
theorem g_icmp_le (C : Cx p s m meth c Z code maxL own ret) {pc pcT pcF : Nat} {Ls : Array Slot} {st : List Value} {o : Int} {x y : Int32} (hd : B1 code pc (.if_icmp .le o) o pcT pcF) (kt : y < x → Go p l e R s m args below meth c n0 K N Q h ck cn (mkF m pcF Ls st)) (kf : ¬ (y < x) → Go p l e R s m args below meth c n0 K N Q h ck cn (mkF m pcT Ls st)) : Go p l e R s m args below meth c n0 K N Q h ck cn (mkF m pc Ls (.int y :: .int x :: st)) := by
  obtain ⟨hd, rfl, ho, hp⟩ := hd
  by_cases q : y < x
  · exact Go.step (fun T locs X _ t k => XS.icmpNo X.here C.1 rfl (hb C.2.1 hd) rfl ((tlt q).2.2.2) k) (kt q)
  · exact Go.step (fun T locs X _ t k => XS.icmpYes X.here C.1 rfl (pc0 := pc) rfl (hb C.2.1 hd) rfl ((flt q).2.2.2) ho hp k) (kf q)
theorem g_if_le (C : Cx p s m meth c Z code maxL own ret) {pc pcT pcF : Nat} {Ls : Array Slot} {st : List Value} {o : Int} {x : Int32} (hd : B1 code pc (.ifCond .le o) o pcT pcF) (kt : 0 < x → Go p l e R s m args below meth c n0 K N Q h ck cn (mkF m pcF Ls st)) (kf : ¬ (0 < x) → Go p l e R s m args below meth c n0 K N Q h ck cn (mkF m pcT Ls st)) : Go p l e R s m args below meth c n0 K N Q h ck cn (mkF m pc Ls (.int x :: st)) := by
  obtain ⟨hd, rfl, ho, hp⟩ := hd
  by_cases q : 0 < x
  · exact Go.step (fun T locs X _ t k => XS.ifNo X.here C.1 rfl (hb C.2.1 hd) rfl ((if0 _ _).trans (tlt q).2.2.2) k) (kt q)
  · exact Go.step (fun T locs X _ t k => XS.ifYes X.here C.1 rfl (pc0 := pc) rfl (hb C.2.1 hd) rfl ((if0 _ _).trans (flt q).2.2.2) ho hp k) (kf q)
theorem g_ifl_le (C : Cx p s m meth c Z code maxL own ret) {pc pcT pcF : Nat} {Ls : Array Slot} {st : List Value} {o : Int} {x y : Int64} (hd : B1 code pc (.ifCond .le o) o pcT pcF) (kt : y < x → Go p l e R s m args below meth c n0 K N Q h ck cn (mkF m pcF Ls st)) (kf : ¬ (y < x) → Go p l e R s m args below meth c n0 K N Q h ck cn (mkF m pcT Ls st)) : Go p l e R s m args below meth c n0 K N Q h ck cn (mkF m pc Ls (.int (lcmpW x y) :: st)) := by
  obtain ⟨hd, rfl, ho, hp⟩ := hd
  by_cases q : y < x
  · exact Go.step (fun T locs X _ t k => XS.ifNo X.here C.1 rfl (hb C.2.1 hd) rfl ((if0 _ _).trans (tlt ((lw_gt x y).mpr q)).2.2.2) k) (kt q)
  · exact Go.step (fun T locs X _ t k => XS.ifYes X.here C.1 rfl (pc0 := pc) rfl (hb C.2.1 hd) rfl ((if0 _ _).trans (flt (fun z => q ((lw_gt x y).mp z))).2.2.2) ho hp k) (kf q)
theorem g_icmp_eq (C : Cx p s m meth c Z code maxL own ret) {pc pcT pcF : Nat} {Ls : Array Slot} {st : List Value} {o : Int} {x y : Int32} (hd : B1 code pc (.if_icmp .eq o) o pcT pcF) (kt : x = y → Go p l e R s m args below meth c n0 K N Q h ck cn (mkF m pcT Ls st)) (kf : ¬ (x = y) → Go p l e R s m args below meth c n0 K N Q h ck cn (mkF m pcF Ls st)) : Go p l e R s m args below meth c n0 K N Q h ck cn (mkF m pc Ls (.int y :: .int x :: st)) := by
  obtain ⟨hd, rfl, ho, hp⟩ := hd
  by_cases q : x = y
  · exact Go.step (fun T locs X _ t k => XS.icmpYes X.here C.1 rfl (pc0 := pc) rfl (hb C.2.1 hd) rfl ((teq q).1) ho hp k) (kt q)
  · exact Go.step (fun T locs X _ t k => XS.icmpNo X.here C.1 rfl (hb C.2.1 hd) rfl ((feq q).1) k) (kf q)
theorem g_if_eq (C : Cx p s m meth c Z code maxL own ret) {pc pcT pcF : Nat} {Ls : Array Slot} {st : List Value} {o : Int} {x : Int32} (hd : B1 code pc (.ifCond .eq o) o pcT pcF) (kt : x = 0 → Go p l e R s m args below meth c n0 K N Q h ck cn (mkF m pcT Ls st)) (kf : ¬ (x = 0) → Go p l e R s m args below meth c n0 K N Q h ck cn (mkF m pcF Ls st)) : Go p l e R s m args below meth c n0 K N Q h ck cn (mkF m pc Ls (.int x :: st)) := by
  obtain ⟨hd, rfl, ho, hp⟩ := hd
  by_cases q : x = 0
  · exact Go.step (fun T locs X _ t k => XS.ifYes X.here C.1 rfl (pc0 := pc) rfl (hb C.2.1 hd) rfl ((if0 _ _).trans (teq q).1) ho hp k) (kt q)
  · exact Go.step (fun T locs X _ t k => XS.ifNo X.here C.1 rfl (hb C.2.1 hd) rfl ((if0 _ _).trans (feq q).1) k) (kf q)
theorem g_ifl_eq (C : Cx p s m meth c Z code maxL own ret) {pc pcT pcF : Nat} {Ls : Array Slot} {st : List Value} {o : Int} {x y : Int64} (hd : B1 code pc (.ifCond .eq o) o pcT pcF) (kt : x = y → Go p l e R s m args below meth c n0 K N Q h ck cn (mkF m pcT Ls st)) (kf : ¬ (x = y) → Go p l e R s m args below meth c n0 K N Q h ck cn (mkF m pcF Ls st)) : Go p l e R s m args below meth c n0 K N Q h ck cn (mkF m pc Ls (.int (lcmpW x y) :: st)) := by
  obtain ⟨hd, rfl, ho, hp⟩ := hd
  by_cases q : x = y
  · exact Go.step (fun T locs X _ t k => XS.ifYes X.here C.1 rfl (pc0 := pc) rfl (hb C.2.1 hd) rfl ((if0 _ _).trans (teq ((lw_eq x y).mpr q)).1) ho hp k) (kt q)
  · exact Go.step (fun T locs X _ t k => XS.ifNo X.here C.1 rfl (hb C.2.1 hd) rfl ((if0 _ _).trans (feq (fun z => q ((lw_eq x y).mp z))).1) k) (kf q)
theorem g_icmp_ne (C : Cx p s m meth c Z code maxL own ret) {pc pcT pcF : Nat} {Ls : Array Slot} {st : List Value} {o : Int} {x y : Int32} (hd : B1 code pc (.if_icmp .ne o) o pcT pcF) (kt : x = y → Go p l e R s m args below meth c n0 K N Q h ck cn (mkF m pcF Ls st)) (kf : ¬ (x = y) → Go p l e R s m args below meth c n0 K N Q h ck cn (mkF m pcT Ls st)) : Go p l e R s m args below meth c n0 K N Q h ck cn (mkF m pc Ls (.int y :: .int x :: st)) := by
  obtain ⟨hd, rfl, ho, hp⟩ := hd
  by_cases q : x = y
  · exact Go.step (fun T locs X _ t k => XS.icmpNo X.here C.1 rfl (hb C.2.1 hd) rfl ((teq q).2) k) (kt q)
  · exact Go.step (fun T locs X _ t k => XS.icmpYes X.here C.1 rfl (pc0 := pc) rfl (hb C.2.1 hd) rfl ((feq q).2) ho hp k) (kf q)
theorem g_if_ne (C : Cx p s m meth c Z code maxL own ret) {pc pcT pcF : Nat} {Ls : Array Slot} {st : List Value} {o : Int} {x : Int32} (hd : B1 code pc (.ifCond .ne o) o pcT pcF) (kt : x = 0 → Go p l e R s m args below meth c n0 K N Q h ck cn (mkF m pcF Ls st)) (kf : ¬ (x = 0) → Go p l e R s m args below meth c n0 K N Q h ck cn (mkF m pcT Ls st)) : Go p l e R s m args below meth c n0 K N Q h ck cn (mkF m pc Ls (.int x :: st)) := by
  obtain ⟨hd, rfl, ho, hp⟩ := hd
  by_cases q : x = 0
  · exact Go.step (fun T locs X _ t k => XS.ifNo X.here C.1 rfl (hb C.2.1 hd) rfl ((if0 _ _).trans (teq q).2) k) (kt q)
  · exact Go.step (fun T locs X _ t k => XS.ifYes X.here C.1 rfl (pc0 := pc) rfl (hb C.2.1 hd) rfl ((if0 _ _).trans (feq q).2) ho hp k) (kf q)
theorem g_ifl_ne (C : Cx p s m meth c Z code maxL own ret) {pc pcT pcF : Nat} {Ls : Array Slot} {st : List Value} {o : Int} {x y : Int64} (hd : B1 code pc (.ifCond .ne o) o pcT pcF) (kt : x = y → Go p l e R s m args below meth c n0 K N Q h ck cn (mkF m pcF Ls st)) (kf : ¬ (x = y) → Go p l e R s m args below meth c n0 K N Q h ck cn (mkF m pcT Ls st)) : Go p l e R s m args below meth c n0 K N Q h ck cn (mkF m pc Ls (.int (lcmpW x y) :: st)) := by
  obtain ⟨hd, rfl, ho, hp⟩ := hd
  by_cases q : x = y
  · exact Go.step (fun T locs X _ t k => XS.ifNo X.here C.1 rfl (hb C.2.1 hd) rfl ((if0 _ _).trans (teq ((lw_eq x y).mpr q)).2) k) (kt q)
  · exact Go.step (fun T locs X _ t k => XS.ifYes X.here C.1 rfl (pc0 := pc) rfl (hb C.2.1 hd) rfl ((if0 _ _).trans (feq (fun z => q ((lw_eq x y).mp z))).2) ho hp k) (kf q)
theorem g_ifnullN (C : Cx p s m meth c Z code maxL own ret) {pc pcT pcF : Nat} {Ls : Array Slot} {st : List Value} {o : Int} {b : Addr} (hd : B1 code pc (.ifnull o) o pcT pcF) (k : Go p l e R s m args below meth c n0 K N Q h ck cn (mkF m pcF Ls st)) : Go p l e R s m args below meth c n0 K N Q h ck cn (mkF m pc Ls (.ref b :: st)) := by
  obtain ⟨hd, rfl, ho, hp⟩ := hd
  exact Go.step (fun T locs X _ t k => XS.ifnullNo X.here C.1 rfl (hb C.2.1 hd) rfl k) k
theorem g_ifnullY (C : Cx p s m meth c Z code maxL own ret) {pc pcT pcF : Nat} {Ls : Array Slot} {st : List Value} {o : Int} (hd : B1 code pc (.ifnull o) o pcT pcF) (k : Go p l e R s m args below meth c n0 K N Q h ck cn (mkF m pcT Ls st)) : Go p l e R s m args below meth c n0 K N Q h ck cn (mkF m pc Ls (.null :: st)) := by
  obtain ⟨hd, rfl, ho, hp⟩ := hd
  exact Go.step (fun T locs X _ t k => XS.ifnullYes X.here C.1 rfl (pc0 := pc) rfl (hb C.2.1 hd) rfl ho hp k) k
theorem g_ifnonnullY (C : Cx p s m meth c Z code maxL own ret) {pc pcT pcF : Nat} {Ls : Array Slot} {st : List Value} {o : Int} {b : Addr} (hd : B1 code pc (.ifnonnull o) o pcT pcF) (k : Go p l e R s m args below meth c n0 K N Q h ck cn (mkF m pcT Ls st)) : Go p l e R s m args below meth c n0 K N Q h ck cn (mkF m pc Ls (.ref b :: st)) := by
  obtain ⟨hd, rfl, ho, hp⟩ := hd
  exact Go.step (fun T locs X _ t k => XS.ifnonnullYes X.here C.1 rfl (pc0 := pc) rfl (hb C.2.1 hd) rfl ho hp k) k
theorem g_ifnonnullN (C : Cx p s m meth c Z code maxL own ret) {pc pcT pcF : Nat} {Ls : Array Slot} {st : List Value} {o : Int} (hd : B1 code pc (.ifnonnull o) o pcT pcF) (k : Go p l e R s m args below meth c n0 K N Q h ck cn (mkF m pcF Ls st)) : Go p l e R s m args below meth c n0 K N Q h ck cn (mkF m pc Ls (.null :: st)) := by
  obtain ⟨hd, rfl, ho, hp⟩ := hd
  exact Go.step (fun T locs X _ t k => XS.ifnonnullNo X.here C.1 rfl (hb C.2.1 hd) rfl k) k
theorem g_acmp_eq (C : Cx p s m meth c Z code maxL own ret) {pc pcT pcF : Nat} {Ls : Array Slot} {st : List Value} {o : Int} {x y : Value} (h1 : x.isRef = true) (h2 : y.isRef = true) (hd : B1 code pc (.if_acmp .eq o) o pcT pcF) (kt : x = y → Go p l e R s m args below meth c n0 K N Q h ck cn (mkF m pcT Ls st)) (kf : ¬ x = y → Go p l e R s m args below meth c n0 K N Q h ck cn (mkF m pcF Ls st)) : Go p l e R s m args below meth c n0 K N Q h ck cn (mkF m pc Ls (y :: x :: st)) := by
  obtain ⟨hd, rfl, ho, rfl⟩ := hd
  by_cases q : x = y
  · exact Go.step (fun T locs X _ t k => Jvm.RoadKit.acmp X C.1 rfl h1 h2 (pc0 := pc) (same := true) rfl (hb C.2.1 hd) rfl (by simp [q]) ho rfl k) (kt q)
  · exact Go.step (fun T locs X _ t k => Jvm.RoadKit.acmp X C.1 rfl h1 h2 (pc0 := pc) (same := false) rfl (hb C.2.1 hd) rfl (by simp [q]) ho rfl k) (kf q)
theorem g_acmp_ne (C : Cx p s m meth c Z code maxL own ret) {pc pcT pcF : Nat} {Ls : Array Slot} {st : List Value} {o : Int} {x y : Value} (h1 : x.isRef = true) (h2 : y.isRef = true) (hd : B1 code pc (.if_acmp .ne o) o pcT pcF) (kt : x = y → Go p l e R s m args below meth c n0 K N Q h ck cn (mkF m pcF Ls st)) (kf : ¬ x = y → Go p l e R s m args below meth c n0 K N Q h ck cn (mkF m pcT Ls st)) : Go p l e R s m args below meth c n0 K N Q h ck cn (mkF m pc Ls (y :: x :: st)) := by
  obtain ⟨hd, rfl, ho, rfl⟩ := hd
  by_cases q : x = y
  · exact Go.step (fun T locs X _ t k => Jvm.RoadKit.acmp X C.1 rfl h1 h2 (pc0 := pc) (same := true) rfl (hb C.2.1 hd) rfl (by simp [q]) ho rfl k) (kt q)
  · exact Go.step (fun T locs X _ t k => Jvm.RoadKit.acmp X C.1 rfl h1 h2 (pc0 := pc) (same := false) rfl (hb C.2.1 hd) rfl (by simp [q]) ho rfl k) (kf q)
theorem ret0 {v : Option Value} {g : JFrame} (hlk : meth.locks = false) (hret : meth.sig.returnType = none → v = none) (hck : ck ≤ K) (hcn : cn ≤ N) (hQ : Q v h)
    (st : ∀ (T : State) (locs : List Loc) (fs : List Frame), Stand p l e R s m args below meth c T locs ck cn → (∀ (f : JFrame) (acts : List Action), f.method = m → f.locked = none → f.entered = [] → (doReturn e (T.setTop f) acts v).1 = T.setFrames fs) → Steps p.tables e below (T.setTop g) (T.setFrames fs)) :
    Go p l e R s m args below meth c n0 K N Q h ck cn g := fun T locs X eT hN => by
  obtain ⟨fs, hr, hrun, hended, hW, hsame⟩ := X.leave (v := v) hret hlk
  exact ⟨_, _, st T locs fs X hr, hrun, hended, v, locs, rfl, ⟨by show Q v T.heap; rw [eT]; exact hQ, hN⟩, ⟨_, rfl⟩, hW, hsame.mono hck hcn⟩
theorem g_retV (C : Cx p s m meth c Z code maxL own ret) {pc : Nat} {Ls : Array Slot} {pc' : Nat} (hd : I1 code pc .return_ 1 pc') (hret : ret = none) (hck : ck ≤ K) (hcn : cn ≤ N) (hQ : Q none h) : Go p l e R s m args below meth c n0 K N Q h ck cn (mkF m pc Ls []) := by
  obtain ⟨hd, -⟩ := hd
  exact ret0 C.2.2.2.2.2.2 (fun _ => rfl) hck hcn hQ (fun T locs fs X hr => X.returnOut C.1 (C.2.2.2.2.2.1.trans hret) (hb C.2.1 hd) hr)
theorem g_retInt (C : Cx p s m meth c Z code maxL own ret) {pc : Nat} {Ls : Array Slot} {pc' : Nat} {st : List Value} {z : Int32} (hd : I1 code pc .ireturn 1 pc') (hret : ret = some .int) (hck : ck ≤ K) (hcn : cn ≤ N) (hQ : Q (some (.int z)) h) : Go p l e R s m args below meth c n0 K N Q h ck cn (mkF m pc Ls (.int z :: st)) := by
  obtain ⟨hd, -⟩ := hd
  have hr' := C.2.2.2.2.2.1.trans hret
  exact ret0 C.2.2.2.2.2.2 (fun q => by rw [hr'] at q; cases q) hck hcn hQ (fun T locs fs X hr => retOut X C.1 hr' rfl (Or.inl ⟨rfl, Or.inl rfl, z, rfl⟩) (hb C.2.1 hd) hr)
theorem g_retLong (C : Cx p s m meth c Z code maxL own ret) {pc : Nat} {Ls : Array Slot} {pc' : Nat} {st : List Value} {z : Int64} (hd : I1 code pc .lreturn 1 pc') (hret : ret = some .long) (hck : ck ≤ K) (hcn : cn ≤ N) (hQ : Q (some (.long z)) h) : Go p l e R s m args below meth c n0 K N Q h ck cn (mkF m pc Ls (.long z :: st)) := by
  obtain ⟨hd, -⟩ := hd
  have hr' := C.2.2.2.2.2.1.trans hret
  exact ret0 C.2.2.2.2.2.2 (fun q => by rw [hr'] at q; cases q) hck hcn hQ (fun T locs fs X hr => retOut X C.1 hr' rfl (Or.inr (Or.inl ⟨rfl, rfl, z, rfl⟩)) (hb C.2.1 hd) hr)
theorem nar_ref {t : FieldType} {v : Value} (hv : v.isRef = true) : narrow t v = v := by
  rcases ref_cases hv with rfl | ⟨a, rfl⟩ <;> cases t <;> rfl
theorem g_retRef (C : Cx p s m meth c Z code maxL own ret) {pc : Nat} {Ls : Array Slot} {pc' : Nat} {st : List Value} {v : Value} {t : FieldType} (hd : I1 code pc .areturn 1 pc') (hret : ret = some t) (ht : t.isReference = true) (hv : v.isRef = true) (hck : ck ≤ K) (hcn : cn ≤ N) (hQ : Q (some v) h) : Go p l e R s m args below meth c n0 K N Q h ck cn (mkF m pc Ls (v :: st)) := by
  obtain ⟨hd, -⟩ := hd
  have hr' := C.2.2.2.2.2.1.trans hret
  exact ret0 C.2.2.2.2.2.2 (fun q => by rw [hr'] at q; cases q) hck hcn hQ (fun T locs fs X hr => retOut X C.1 hr' (nar_ref hv) (Or.inr (Or.inr (Or.inr (Or.inr ⟨rfl, ht, hv⟩)))) (hb C.2.1 hd) hr)
theorem g_retNar (C : Cx p s m meth c Z code maxL own ret) {pc : Nat} {Ls : Array Slot} {pc' : Nat} {st : List Value} {z : Int32} {t : FieldType} (hd : I1 code pc .ireturn 1 pc') (hret : ret = some t) (ht : t = .boolean ∨ t = .byte ∨ t = .char ∨ t = .short) (hck : ck ≤ K) (hcn : cn ≤ N) (hQ : Q (some (.int (nar t z))) h) : Go p l e R s m args below meth c n0 K N Q h ck cn (mkF m pc Ls (.int z :: st)) := by
  obtain ⟨hd, -⟩ := hd
  have hr' := C.2.2.2.2.2.1.trans hret
  exact ret0 C.2.2.2.2.2.2 (fun q => by rw [hr'] at q; cases q) hck hcn hQ (fun T locs fs X hr => retN X C.1 hr' ht (hb C.2.1 hd) hr)
theorem g_getF (C : Cx p s m meth c Z code maxL own ret) {pc pc' : Nat} {Ls : Array Slot} {st : List Value} {R0 O n d host : String} {index : Nat} {a : Addr} {v : Value} (hd : I1 code pc (.getfield index) 3 pc') (w : (Cond.fieldLink own index R0 n d).before a0 Z = true ∨ (Cond.fieldLinkNest own index R0 n d host).before a0 Z = true) (via : Via Z R0 O n d) (F : Fld Z h a O n d v)
    (k : Go p l e R s m args below meth c n0 K N Q h ck cn (mkF m pc' Ls (v :: st))) : Go p l e R s m args below meth c n0 K N Q h ck cn (mkF m pc Ls (.ref a :: st)) := fun T locs X eT hN => by
  obtain ⟨hd, rfl⟩ := hd
  obtain ⟨T', X', e', st'⟩ := Jvm.RoadKit.getF X C.1 C.2.2.2.1 C.2.2.2.2.1 w via eT F (g := mkF m pc Ls (.ref a :: st)) rfl rfl (hb C.2.1 hd)
  exact Go.move hN X' e' hN st' k
theorem g_getS (C : Cx p s m meth c Z code maxL own ret) {pc pc' : Nat} {Ls : Array Slot} {st : List Value} {R0 O n d host : String} {index : Nat} {v : Value} (hd : I1 code pc (.getstatic index) 3 pc') (w : (Cond.fieldLink own index R0 n d).before a0 Z = true ∨ (Cond.fieldLinkNest own index R0 n d host).before a0 Z = true) (via : Via Z R0 O n d) (F : Sta Z h O n d v)
    (k : Go p l e R s m args below meth c n0 K N Q h ck cn (mkF m pc' Ls (v :: st))) : Go p l e R s m args below meth c n0 K N Q h ck cn (mkF m pc Ls st) := fun T locs X eT hN => by
  obtain ⟨hd, rfl⟩ := hd
  obtain ⟨T', X', e', st'⟩ := Jvm.RoadKit.getS2 X C.1 C.2.2.2.1 C.2.2.2.2.1 w via eT F (g := mkF m pc Ls st) rfl (hb C.2.1 hd)
  exact Go.move hN X' e' hN st' k
theorem g_putF (C : Cx p s m meth c Z code maxL own ret) {pc pc' : Nat} {Ls : Array Slot} {st : List Value} {R0 O n d host Cl : String} {index kk : Nat} {ty : FieldType} {a : Addr} {v old : Value} (hd : I1 code pc (.putfield index) 3 pc') (w : (Cond.fieldLink own index R0 n d).before a0 Z = true ∨ (Cond.fieldLinkNest own index R0 n d host).before a0 Z = true) (via : Via Z R0 O n d) (F : Fld Z h a O n d old) (E : Exa Z h a Cl)
    (L : (Cond.lays Cl O n d).before a0 Z = true ∨ ((Cond.laysFinal Cl O n d).before a0 Z = true ∧ own = O ∧ meth.name = "<init>")) (wi : (Cond.instantiable Cl kk).before a0 Z = true) (hty : parseFieldDescriptor d = some ty) (hn : narrow ty v = v) (hf : fits ty v = true) (ha : n0 ≤ a)
    (k : ∀ h', Wr h h' a (Jvm.RoadKit.slotOf Z O n d) v → Go p l e R s m args below meth c n0 K N Q h' ck cn (mkF m pc' Ls st)) : Go p l e R s m args below meth c n0 K N Q h ck cn (mkF m pc Ls (v :: .ref a :: st)) := fun T locs X eT hN => by
  obtain ⟨hd, rfl⟩ := hd
  obtain ⟨T', h', X', e', W, st'⟩ := Jvm.RoadKit.putF X C.1 C.2.2.2.1 C.2.2.2.2.1 w via eT F E L wi hty hn hf (g := mkF m pc Ls (v :: .ref a :: st)) rfl rfl (hb C.2.1 hd)
  exact Go.move hN X' e' (Fr.snoc X' hN ha) st' (k h' W)
theorem g_putFN (C : Cx p s m meth c Z code maxL own ret) {pc pc' : Nat} {Ls : Array Slot} {st : List Value} {R0 O n d Cl : String} {index kk : Nat} {ty : FieldType} {a : Addr} {v v' old : Value} (hd : I1 code pc (.putfield index) 3 pc') (w : (Cond.fieldLink own index R0 n d).before a0 Z = true) (via : Via Z R0 O n d) (F : Fld Z h a O n d old) (E : Exa Z h a Cl)
    (L : (Cond.lays Cl O n d).before a0 Z = true ∨ ((Cond.laysFinal Cl O n d).before a0 Z = true ∧ own = O ∧ meth.name = "<init>")) (wi : (Cond.instantiable Cl kk).before a0 Z = true) (hty : parseFieldDescriptor d = some ty) (hn : narrow ty v = v') (hf : fits ty v' = true) (ha : n0 ≤ a)
    (k : ∀ h', Wr h h' a (Jvm.RoadKit.slotOf Z O n d) v' → Go p l e R s m args below meth c n0 K N Q h' ck cn (mkF m pc' Ls st)) : Go p l e R s m args below meth c n0 K N Q h ck cn (mkF m pc Ls (v :: .ref a :: st)) := fun T locs X eT hN => by
  obtain ⟨hd, rfl⟩ := hd
  obtain ⟨T', h', X', e', W, st'⟩ := Jvm.RoadKit.putFN X C.1 C.2.2.2.1 C.2.2.2.2.1 w via eT F E L wi hty hn hf (g := mkF m pc Ls (v :: .ref a :: st)) rfl rfl (hb C.2.1 hd)
  exact Go.move hN X' e' (Fr.snoc X' hN ha) st' (k h' W)
theorem g_newO (C : Cx p s m meth c Z code maxL own ret) {pc pc' : Nat} {Ls : Array Slot} {st : List Value} {Cl : String} {index n : Nat} (hd : I1 code pc (.new index) 3 pc') (w : (Cond.classLink own index Cl).before a0 Z = true) (wi : (Cond.instantiable Cl n).before a0 Z = true) (wz : (Cond.initialized Cl).before a0 Z = true) (hc : ck + 1 ≤ R.cells) (hl : cn + n ≤ R.slots) {ck' cn' : Nat} (hck : ck + 1 = ck') (hcn : cn + n = cn')
    (k : ∀ (h' : Heap) (a : Addr), a = h.size → Ext h h' → Exa Z h' a Cl → (∀ {O nm d : String} {ty : FieldType}, Laid Z a0 Cl O nm d → parseFieldDescriptor d = some ty → Fld Z h' a O nm d (defaultValue ty)) → Go p l e R s m args below meth c n0 K N Q h' ck' cn' (mkF m pc' Ls (.ref a :: st))) : Go p l e R s m args below meth c n0 K N Q h ck cn (mkF m pc Ls st) := fun T locs X eT hN => by
  obtain ⟨hd, rfl⟩ := hd
  subst hck hcn
  obtain ⟨T', h', X', e', E, A, D, -, st'⟩ := Jvm.RoadKit.newO X C.1 C.2.2.2.1 C.2.2.2.2.1 w wi wz eT (g := mkF m pc Ls st) rfl (hb C.2.1 hd) hc hl
  exact Go.move hN X' e' hN st' (k h' _ rfl E A D)
theorem g_initO (C : Cx p s m meth c Z code maxL own ret) {pc pc' : Nat} {Ls : Array Slot} {st : List Value} {a : Addr} {idx : Nat} (hd : I1 code pc (.invokespecial idx) 3 pc') (w1 : (Cond.methodLink own idx Lib.objectInit).before a0 Z = true) (w2 : (Cond.instanceMethod Lib.objectInit).before a0 Z = true) (w3 : (Cond.code Lib.objectInit ⟨#[0xb1]⟩ 1 none).before a0 Z = true) (hsz : Ls.size = maxL)
    (hf : 1 ≤ R.frames) (W : Nat) (hW : 2 * 0 + (st.map fun v => v.category).sum ≤ W) (hl : W + 12 ≤ R.locals) (k : Go p l e R s m args below meth c n0 K N Q h ck cn (mkF m pc' Ls st)) : Go p l e R s m args below meth c n0 K N Q h ck cn (mkF m pc Ls (.ref a :: st)) := fun T locs X eT hN => by
  obtain ⟨hd, rfl⟩ := hd
  obtain ⟨T', X', e', st'⟩ := Jvm.RoadKit.initO X C.1 C.2.2.2.1 C.2.2.2.2.1 w1 w2 w3 eT (g := mkF m pc Ls (.ref a :: st)) rfl (hsz.trans C.2.2.1.symm) rfl (hb C.2.1 hd) hf (W := W) hW hl
  exact Go.move hN X' e' hN st' k
theorem g_castY (C : Cx p s m meth c Z code maxL own ret) {pc pc' : Nat} {Ls : Array Slot} {st : List Value} {Kl : String} {index : Nat} {a : Addr} (hd : I1 code pc (.checkcast index) 3 pc') (w : (Cond.classLink own index Kl).before a0 Z = true) (F : Ins Z h a Kl true) (k : Go p l e R s m args below meth c n0 K N Q h ck cn (mkF m pc' Ls (.ref a :: st))) : Go p l e R s m args below meth c n0 K N Q h ck cn (mkF m pc Ls (.ref a :: st)) := fun T locs X eT hN => by
  obtain ⟨hd, rfl⟩ := hd
  obtain ⟨T', X', e', st'⟩ := Jvm.RoadKit.castY X C.1 C.2.2.2.1 C.2.2.2.2.1 w eT F (g := mkF m pc Ls (.ref a :: st)) rfl rfl (hb C.2.1 hd)
  exact Go.move hN X' e' hN st' k
theorem g_castNull (C : Cx p s m meth c Z code maxL own ret) {pc pc' : Nat} {Ls : Array Slot} {st : List Value} {index : Nat} (hd : I1 code pc (.checkcast index) 3 pc') (k : Go p l e R s m args below meth c n0 K N Q h ck cn (mkF m pc' Ls (.null :: st))) : Go p l e R s m args below meth c n0 K N Q h ck cn (mkF m pc Ls (.null :: st)) := by
  obtain ⟨hd, rfl⟩ := hd
  exact Go.step (fun T locs X _ t k => X.checkcastNull C.1 (g := mkF m pc Ls (.null :: st)) rfl rfl (hb C.2.1 hd) _ k) k
theorem g_instY (C : Cx p s m meth c Z code maxL own ret) {pc pc' : Nat} {Ls : Array Slot} {st : List Value} {Kl : String} {index : Nat} {a : Addr} (hd : I1 code pc (.instanceof index) 3 pc') (w : (Cond.classLink own index Kl).before a0 Z = true) (F : Ins Z h a Kl true) (k : Go p l e R s m args below meth c n0 K N Q h ck cn (mkF m pc' Ls (.int 1 :: st))) : Go p l e R s m args below meth c n0 K N Q h ck cn (mkF m pc Ls (.ref a :: st)) := fun T locs X eT hN => by
  obtain ⟨hd, rfl⟩ := hd
  obtain ⟨T', X', e', st'⟩ := Jvm.RoadKit.instY X C.1 C.2.2.2.1 C.2.2.2.2.1 w eT F (g := mkF m pc Ls (.ref a :: st)) rfl rfl (hb C.2.1 hd)
  exact Go.move hN X' e' hN st' k
theorem g_instNull (C : Cx p s m meth c Z code maxL own ret) {pc pc' : Nat} {Ls : Array Slot} {st : List Value} {index : Nat} (hd : I1 code pc (.instanceof index) 3 pc') (k : Go p l e R s m args below meth c n0 K N Q h ck cn (mkF m pc' Ls (.int 0 :: st))) : Go p l e R s m args below meth c n0 K N Q h ck cn (mkF m pc Ls (.null :: st)) := by
  obtain ⟨hd, rfl⟩ := hd
  exact Go.step (fun T locs X _ t k => X.instanceofNull C.1 (g := mkF m pc Ls (.null :: st)) rfl rfl (hb C.2.1 hd) _ k) k
/-- an array of n places: what each holds -/
def AV (Z : State) (h : Heap) (a : Addr) (ty : FieldType) (n : Nat) (f : Nat → Value) : Prop := ∃ c : Cell, Arr Z h a c ty ∧ c.slots.size = n ∧ n < 2 ^ 31 ∧ ∀ i, i < n → c.slots[i]? = some (f i)
theorem AV.lt {a : Addr} {ty : FieldType} {n : Nat} {f : Nat → Value} (F : AV Z h a ty n f) : a < h.size := by obtain ⟨c, A, -⟩ := F; exact A.lt
theorem AV.ext {h' : Heap} {a : Addr} {ty : FieldType} {n : Nat} {f : Nat → Value} (F : AV Z h a ty n f) (E : Ext h h') : AV Z h' a ty n f := by obtain ⟨c, A, r⟩ := F; exact ⟨c, A.ext E, r⟩
theorem AV.other {h' : Heap} {a b : Addr} {sl : Nat} {v : Value} {ty : FieldType} {n : Nat} {f : Nat → Value} (F : AV Z h b ty n f) (W : Wr h h' a sl v) (q : b ≠ a) : AV Z h' b ty n f := by obtain ⟨c, A, r⟩ := F; exact ⟨c, A.other W q, r⟩
theorem AV.keep {h' : Heap} {ws : List Addr} {a : Addr} {ty : FieldType} {n : Nat} {f : Nat → Value} (F : AV Z h a ty n f) (K : Keep h h' ws) (q : a ∉ ws) : AV Z h' a ty n f := by obtain ⟨c, A, r⟩ := F; exact ⟨c, ⟨K.2.1 a c A.1 q, A.2⟩, r⟩
theorem AV.congr {a : Addr} {ty : FieldType} {n : Nat} {f g : Nat → Value} (F : AV Z h a ty n f) (q : ∀ i, i < n → f i = g i) : AV Z h a ty n g := by obtain ⟨c, A, r1, r2, r3⟩ := F; exact ⟨c, A, r1, r2, fun i hi => by rw [← q i hi]; exact r3 i hi⟩
theorem AV.ofNew {a : Addr} {ty : FieldType} {cA : ClassId} {z : Int32} (A : Arr Z h a (newA cA ty z) ty) (q : ¬ z < 0) : AV Z h a ty z.toNatClampNeg (fun _ => defaultValue ty) :=
  ⟨_, A, sz_new _ _ _, (back32 q).2, fun i hi => by simp [newA, hi]⟩
theorem AV.set {h' : Heap} {a : Addr} {ty : FieldType} {n : Nat} {f : Nat → Value} {j : Nat} {v : Value} (F : AV Z h a ty n f) (W : Wr h h' a j v) : AV Z h' a ty n (fun i => if i = j then v else f i) := by
  obtain ⟨c, A, r1, r2, r3⟩ := F
  obtain ⟨cell, w1, w2, w3, w4⟩ := W
  cases w1.symm.trans A.1
  refine ⟨c.setSlot j v, A.same ⟨c, w1, w2, w3, w4⟩, by rw [sz_set, r1], r2, fun i hi => ?_⟩
  by_cases q : i = j
  · subst q; simp [Cell.setSlot, w3]
  · simp only [q, if_false]; rw [← r3 i hi]; exact Array.getElem?_setIfInBounds_ne (Ne.symm q)
/-- the place lies inside -/
def Inb (j : Int32) (n : Nat) : Prop := ¬ j < 0 ∧ j.toNatClampNeg < n
theorem Inb.not {j : Int32} {n : Nat} (q : Inb j n) : ¬ (j < 0 ∨ n ≤ j.toNatClampNeg) := fun r => r.elim q.1 (fun z => Nat.not_lt.mpr z q.2)
theorem inb_int {j : Int32} {n : Nat} (h1 : 0 ≤ j.toInt) (h2 : j.toInt < n) : Inb j n := ⟨by simp only [Int32.lt_iff_toInt_lt, Int32.reduceToInt]; omega, by simp only [Int32.toNatClampNeg]; omega⟩
theorem g_newP (C : Cx p s m meth c Z code maxL own ret) {pc pc' : Nat} {Ls : Array Slot} {st : List Value} {aty : ArrayType} {n : Int32} (hd : I1 code pc (.newarray aty) 2 pc') (w : (Cond.arrayClass (newarray.typeOf aty)).before a0 Z = true) (hn : ¬ n < 0) (cap : Nat) (hcap : n.toNatClampNeg ≤ cap) (hb8 : cap * 8 ≤ 536870912) (hc : ck + 1 ≤ R.cells) (hl : cn + cap ≤ R.slots) {ck' cn' : Nat} (hck : ck + 1 = ck') (hcn : cn + cap = cn')
    (k : ∀ (h' : Heap) (a : Addr), a = h.size → Ext h h' → AV Z h' a (newarray.typeOf aty) n.toNatClampNeg (fun _ => defaultValue (newarray.typeOf aty)) → Go p l e R s m args below meth c n0 K N Q h' ck' cn' (mkF m pc' Ls (.ref a :: st))) : Go p l e R s m args below meth c n0 K N Q h ck cn (mkF m pc Ls (.int n :: st)) := fun T locs X eT hN => by
  obtain ⟨hd, rfl⟩ := hd
  subst hck hcn
  obtain ⟨T', h', cA, X', e', E, A, st'⟩ := Jvm.RoadKit.newP X C.1 C.2.2.2.1 w eT (g := mkF m pc Ls (.int n :: st)) rfl (hb C.2.1 hd) rfl hn hcap hb8 hc hl
  exact Go.move hN X' e' hN st' (k h' _ rfl E (AV.ofNew A hn))
theorem g_alen (C : Cx p s m meth c Z code maxL own ret) {pc pc' : Nat} {Ls : Array Slot} {st : List Value} {a : Addr} {ty : FieldType} {n : Nat} {f : Nat → Value} (z : Int32) (hd : I1 code pc .arraylength 1 pc') (F : AV Z h a ty n f) (hz : n.toInt32 = z) (k : Go p l e R s m args below meth c n0 K N Q h ck cn (mkF m pc' Ls (.int z :: st))) : Go p l e R s m args below meth c n0 K N Q h ck cn (mkF m pc Ls (.ref a :: st)) := by
  obtain ⟨hd, rfl⟩ := hd
  obtain ⟨cl, A, r1, r2, r3⟩ := F
  subst hz
  exact Go.step (fun T locs X eT t k => X.arraylength C.1 (by rw [eT]; exact A.1) (State.isArrayOf_alike C.2.2.2.1.alike A.2.1) (g := mkF m pc Ls (.ref a :: st)) rfl rfl (hb C.2.1 hd) _ (by rw [r1]; exact k)) k
theorem g_iald (C : Cx p s m meth c Z code maxL own ret) {pc pc' : Nat} {Ls : Array Slot} {st : List Value} {a : Addr} {j : Int32} {n : Nat} {f : Nat → Value} (v : Value) (hd : I1 code pc .iaload 1 pc') (F : AV Z h a .int n f) (hj : Inb j n) (hv : f j.toNatClampNeg = v) (k : Go p l e R s m args below meth c n0 K N Q h ck cn (mkF m pc' Ls (v :: st))) : Go p l e R s m args below meth c n0 K N Q h ck cn (mkF m pc Ls (.int j :: .ref a :: st)) := by
  obtain ⟨hd, rfl⟩ := hd
  obtain ⟨cl, A, r1, r2, r3⟩ := F
  subst hv
  exact Go.step (fun T locs X eT t k => X.iaload C.1 (by rw [eT]; exact A.1) (State.isArrayOf_alike C.2.2.2.1.alike A.2.1) A.2.2 (by rw [r1]; exact hj.not) (r3 _ hj.2) (g := mkF m pc Ls (.int j :: .ref a :: st)) rfl rfl (hb C.2.1 hd) _ k) k
theorem g_lald (C : Cx p s m meth c Z code maxL own ret) {pc pc' : Nat} {Ls : Array Slot} {st : List Value} {a : Addr} {j : Int32} {n : Nat} {f : Nat → Value} (v : Value) (hd : I1 code pc .laload 1 pc') (F : AV Z h a .long n f) (hj : Inb j n) (hv : f j.toNatClampNeg = v) (k : Go p l e R s m args below meth c n0 K N Q h ck cn (mkF m pc' Ls (v :: st))) : Go p l e R s m args below meth c n0 K N Q h ck cn (mkF m pc Ls (.int j :: .ref a :: st)) := by
  obtain ⟨hd, rfl⟩ := hd
  obtain ⟨cl, A, r1, r2, r3⟩ := F
  subst hv
  exact Go.step (fun T locs X eT t k => X.laload C.1 (by rw [eT]; exact A.1) (State.isArrayOf_alike C.2.2.2.1.alike A.2.1) A.2.2 (by rw [r1]; exact hj.not) (r3 _ hj.2) (g := mkF m pc Ls (.int j :: .ref a :: st)) rfl rfl (hb C.2.1 hd) _ k) k
theorem g_cald (C : Cx p s m meth c Z code maxL own ret) {pc pc' : Nat} {Ls : Array Slot} {st : List Value} {a : Addr} {j : Int32} {n : Nat} {f : Nat → Value} (v : Value) (hd : I1 code pc .caload 1 pc') (F : AV Z h a .char n f) (hj : Inb j n) (hv : f j.toNatClampNeg = v) (k : Go p l e R s m args below meth c n0 K N Q h ck cn (mkF m pc' Ls (v :: st))) : Go p l e R s m args below meth c n0 K N Q h ck cn (mkF m pc Ls (.int j :: .ref a :: st)) := by
  obtain ⟨hd, rfl⟩ := hd
  obtain ⟨cl, A, r1, r2, r3⟩ := F
  subst hv
  exact Go.step (fun T locs X eT t k => X.caload C.1 (by rw [eT]; exact A.1) (State.isArrayOf_alike C.2.2.2.1.alike A.2.1) A.2.2 (by rw [r1]; exact hj.not) (r3 _ hj.2) (g := mkF m pc Ls (.int j :: .ref a :: st)) rfl rfl (hb C.2.1 hd) _ k) k
theorem g_sald (C : Cx p s m meth c Z code maxL own ret) {pc pc' : Nat} {Ls : Array Slot} {st : List Value} {a : Addr} {j : Int32} {n : Nat} {f : Nat → Value} (v : Value) (hd : I1 code pc .saload 1 pc') (F : AV Z h a .short n f) (hj : Inb j n) (hv : f j.toNatClampNeg = v) (k : Go p l e R s m args below meth c n0 K N Q h ck cn (mkF m pc' Ls (v :: st))) : Go p l e R s m args below meth c n0 K N Q h ck cn (mkF m pc Ls (.int j :: .ref a :: st)) := by
  obtain ⟨hd, rfl⟩ := hd
  obtain ⟨cl, A, r1, r2, r3⟩ := F
  subst hv
  exact Go.step (fun T locs X eT t k => X.saload C.1 (by rw [eT]; exact A.1) (State.isArrayOf_alike C.2.2.2.1.alike A.2.1) A.2.2 (by rw [r1]; exact hj.not) (r3 _ hj.2) (g := mkF m pc Ls (.int j :: .ref a :: st)) rfl rfl (hb C.2.1 hd) _ k) k
theorem g_bald (C : Cx p s m meth c Z code maxL own ret) {pc pc' : Nat} {Ls : Array Slot} {st : List Value} {a : Addr} {j : Int32} {n : Nat} {f : Nat → Value} (v : Value) (hd : I1 code pc .baload 1 pc') (F : AV Z h a .byte n f) (hj : Inb j n) (hv : f j.toNatClampNeg = v) (k : Go p l e R s m args below meth c n0 K N Q h ck cn (mkF m pc' Ls (v :: st))) : Go p l e R s m args below meth c n0 K N Q h ck cn (mkF m pc Ls (.int j :: .ref a :: st)) := by
  obtain ⟨hd, rfl⟩ := hd
  obtain ⟨cl, A, r1, r2, r3⟩ := F
  subst hv
  exact Go.step (fun T locs X eT t k => X.baloadBytes C.1 (by rw [eT]; exact A.1) (State.isArrayOf_alike C.2.2.2.1.alike A.2.1) A.2.2 (by rw [r1]; exact hj.not) (r3 _ hj.2) (g := mkF m pc Ls (.int j :: .ref a :: st)) rfl rfl (hb C.2.1 hd) _ k) k
theorem g_zald (C : Cx p s m meth c Z code maxL own ret) {pc pc' : Nat} {Ls : Array Slot} {st : List Value} {a : Addr} {j : Int32} {n : Nat} {f : Nat → Value} (v : Value) (hd : I1 code pc .baload 1 pc') (F : AV Z h a .boolean n f) (hj : Inb j n) (hv : f j.toNatClampNeg = v) (k : Go p l e R s m args below meth c n0 K N Q h ck cn (mkF m pc' Ls (v :: st))) : Go p l e R s m args below meth c n0 K N Q h ck cn (mkF m pc Ls (.int j :: .ref a :: st)) := by
  obtain ⟨hd, rfl⟩ := hd
  obtain ⟨cl, A, r1, r2, r3⟩ := F
  subst hv
  exact Go.step (fun T locs X eT t k => X.baloadBooleans C.1 (by rw [eT]; exact A.1) (State.isArrayOf_alike C.2.2.2.1.alike A.2.1) A.2.2 (by rw [r1]; exact hj.not) (r3 _ hj.2) (g := mkF m pc Ls (.int j :: .ref a :: st)) rfl rfl (hb C.2.1 hd) _ k) k
theorem g_aald (C : Cx p s m meth c Z code maxL own ret) {pc pc' : Nat} {Ls : Array Slot} {st : List Value} {a : Addr} {j : Int32} {ty : FieldType} {n : Nat} {f : Nat → Value} (v : Value) (hd : I1 code pc .aaload 1 pc') (F : AV Z h a ty n f) (hj : Inb j n) (hv : f j.toNatClampNeg = v) (ht : ty.isReference = true) (k : Go p l e R s m args below meth c n0 K N Q h ck cn (mkF m pc' Ls (v :: st))) : Go p l e R s m args below meth c n0 K N Q h ck cn (mkF m pc Ls (.int j :: .ref a :: st)) := by
  obtain ⟨hd, rfl⟩ := hd
  obtain ⟨cl, A, r1, r2, r3⟩ := F
  subst hv
  exact Go.step (fun T locs X eT t k => X.aaload C.1 (by rw [eT]; exact A.1) (State.isArrayOf_alike C.2.2.2.1.alike A.2.1) ht A.2.2 (by rw [r1]; exact hj.not) (r3 _ hj.2) (g := mkF m pc Ls (.int j :: .ref a :: st)) rfl rfl (hb C.2.1 hd) _ k) k
theorem g_iast (C : Cx p s m meth c Z code maxL own ret) {pc pc' : Nat} {Ls : Array Slot} {st : List Value} {a : Addr} {j : Int32} {x : Int32} {n : Nat} {f : Nat → Value} (hd : I1 code pc .iastore 1 pc') (F : AV Z h a .int n f) (hj : Inb j n) (ha : n0 ≤ a)
    (k : ∀ h', Wr h h' a j.toNatClampNeg (.int x) → AV Z h' a .int n (fun i => if i = j.toNatClampNeg then .int x else f i) → Go p l e R s m args below meth c n0 K N Q h' ck cn (mkF m pc' Ls st)) : Go p l e R s m args below meth c n0 K N Q h ck cn (mkF m pc Ls (.int x :: .int j :: .ref a :: st)) := fun T locs X eT hN => by
  obtain ⟨hd, rfl⟩ := hd
  have F' := F
  obtain ⟨cl, A, r1, r2, r3⟩ := F
  obtain ⟨T', h', X', e', W, st'⟩ := Jvm.RoadKit.stI X C.1 C.2.2.2.1 eT A (by rw [r1]; exact hj.not) (g := mkF m pc Ls (.int x :: .int j :: .ref a :: st)) rfl rfl (hb C.2.1 hd)
  exact Go.move hN X' e' (Fr.snoc X' hN ha) st' (k h' W (F'.set W))
theorem g_last (C : Cx p s m meth c Z code maxL own ret) {pc pc' : Nat} {Ls : Array Slot} {st : List Value} {a : Addr} {j : Int32} {x : Int64} {n : Nat} {f : Nat → Value} (hd : I1 code pc .lastore 1 pc') (F : AV Z h a .long n f) (hj : Inb j n) (ha : n0 ≤ a)
    (k : ∀ h', Wr h h' a j.toNatClampNeg (.long x) → AV Z h' a .long n (fun i => if i = j.toNatClampNeg then .long x else f i) → Go p l e R s m args below meth c n0 K N Q h' ck cn (mkF m pc' Ls st)) : Go p l e R s m args below meth c n0 K N Q h ck cn (mkF m pc Ls (.long x :: .int j :: .ref a :: st)) := fun T locs X eT hN => by
  obtain ⟨hd, rfl⟩ := hd
  have F' := F
  obtain ⟨cl, A, r1, r2, r3⟩ := F
  obtain ⟨T', h', X', e', W, st'⟩ := Jvm.RoadKit.stJ X C.1 C.2.2.2.1 eT A (by rw [r1]; exact hj.not) (g := mkF m pc Ls (.long x :: .int j :: .ref a :: st)) rfl rfl (hb C.2.1 hd)
  exact Go.move hN X' e' (Fr.snoc X' hN ha) st' (k h' W (F'.set W))
theorem g_cast (C : Cx p s m meth c Z code maxL own ret) {pc pc' : Nat} {Ls : Array Slot} {st : List Value} {a : Addr} {j : Int32} {x : Int32} {n : Nat} {f : Nat → Value} (hd : I1 code pc .castore 1 pc') (F : AV Z h a .char n f) (hj : Inb j n) (ha : n0 ≤ a)
    (k : ∀ h', Wr h h' a j.toNatClampNeg (.int (nar .char x)) → AV Z h' a .char n (fun i => if i = j.toNatClampNeg then .int (nar .char x) else f i) → Go p l e R s m args below meth c n0 K N Q h' ck cn (mkF m pc' Ls st)) : Go p l e R s m args below meth c n0 K N Q h ck cn (mkF m pc Ls (.int x :: .int j :: .ref a :: st)) := fun T locs X eT hN => by
  obtain ⟨hd, rfl⟩ := hd
  have F' := F
  obtain ⟨cl, A, r1, r2, r3⟩ := F
  obtain ⟨T', h', X', e', W, st'⟩ := Jvm.RoadKit.stC X C.1 C.2.2.2.1 eT A (by rw [r1]; exact hj.not) (g := mkF m pc Ls (.int x :: .int j :: .ref a :: st)) rfl rfl (hb C.2.1 hd)
  exact Go.move hN X' e' (Fr.snoc X' hN ha) st' (k h' W (F'.set W))
theorem g_sast (C : Cx p s m meth c Z code maxL own ret) {pc pc' : Nat} {Ls : Array Slot} {st : List Value} {a : Addr} {j : Int32} {x : Int32} {n : Nat} {f : Nat → Value} (hd : I1 code pc .sastore 1 pc') (F : AV Z h a .short n f) (hj : Inb j n) (ha : n0 ≤ a)
    (k : ∀ h', Wr h h' a j.toNatClampNeg (.int (nar .short x)) → AV Z h' a .short n (fun i => if i = j.toNatClampNeg then .int (nar .short x) else f i) → Go p l e R s m args below meth c n0 K N Q h' ck cn (mkF m pc' Ls st)) : Go p l e R s m args below meth c n0 K N Q h ck cn (mkF m pc Ls (.int x :: .int j :: .ref a :: st)) := fun T locs X eT hN => by
  obtain ⟨hd, rfl⟩ := hd
  have F' := F
  obtain ⟨cl, A, r1, r2, r3⟩ := F
  obtain ⟨T', h', X', e', W, st'⟩ := Jvm.RoadKit.stS X C.1 C.2.2.2.1 eT A (by rw [r1]; exact hj.not) (g := mkF m pc Ls (.int x :: .int j :: .ref a :: st)) rfl rfl (hb C.2.1 hd)
  exact Go.move hN X' e' (Fr.snoc X' hN ha) st' (k h' W (F'.set W))
theorem g_bast (C : Cx p s m meth c Z code maxL own ret) {pc pc' : Nat} {Ls : Array Slot} {st : List Value} {a : Addr} {j : Int32} {x : Int32} {n : Nat} {f : Nat → Value} (hd : I1 code pc .bastore 1 pc') (F : AV Z h a .byte n f) (hj : Inb j n) (ha : n0 ≤ a)
    (k : ∀ h', Wr h h' a j.toNatClampNeg (.int (nar .byte x)) → AV Z h' a .byte n (fun i => if i = j.toNatClampNeg then .int (nar .byte x) else f i) → Go p l e R s m args below meth c n0 K N Q h' ck cn (mkF m pc' Ls st)) : Go p l e R s m args below meth c n0 K N Q h ck cn (mkF m pc Ls (.int x :: .int j :: .ref a :: st)) := fun T locs X eT hN => by
  obtain ⟨hd, rfl⟩ := hd
  have F' := F
  obtain ⟨cl, A, r1, r2, r3⟩ := F
  obtain ⟨T', h', X', e', W, st'⟩ := Jvm.RoadKit.stB X C.1 C.2.2.2.1 eT A (by rw [r1]; exact hj.not) (g := mkF m pc Ls (.int x :: .int j :: .ref a :: st)) rfl rfl (hb C.2.1 hd)
  exact Go.move hN X' e' (Fr.snoc X' hN ha) st' (k h' W (F'.set W))
theorem g_zast (C : Cx p s m meth c Z code maxL own ret) {pc pc' : Nat} {Ls : Array Slot} {st : List Value} {a : Addr} {j : Int32} {x : Int32} {n : Nat} {f : Nat → Value} (hd : I1 code pc .bastore 1 pc') (F : AV Z h a .boolean n f) (hj : Inb j n) (ha : n0 ≤ a)
    (k : ∀ h', Wr h h' a j.toNatClampNeg (.int (nar .boolean x)) → AV Z h' a .boolean n (fun i => if i = j.toNatClampNeg then .int (nar .boolean x) else f i) → Go p l e R s m args below meth c n0 K N Q h' ck cn (mkF m pc' Ls st)) : Go p l e R s m args below meth c n0 K N Q h ck cn (mkF m pc Ls (.int x :: .int j :: .ref a :: st)) := fun T locs X eT hN => by
  obtain ⟨hd, rfl⟩ := hd
  have F' := F
  obtain ⟨cl, A, r1, r2, r3⟩ := F
  obtain ⟨T', h', X', e', W, st'⟩ := Jvm.RoadKit.stZ X C.1 C.2.2.2.1 eT A (by rw [r1]; exact hj.not) (g := mkF m pc Ls (.int x :: .int j :: .ref a :: st)) rfl rfl (hb C.2.1 hd)
  exact Go.move hN X' e' (Fr.snoc X' hN ha) st' (k h' W (F'.set W))
theorem g_callS (C : Cx p s m meth c Z code maxL own ret) {pc pc' : Nat} {Ls : Array Slot} {y : MethodName} {ycode : ByteArray} {ymax : Nat} {yret : Option FieldType} {rm : Room} {as' : Array Value} {Q' : Option Value → Heap → Prop} {index : Nat} (hC : Ctr l Z y ycode ymax yret rm as' h n0 Q') (hd : I1 code pc (.invokestatic index) 3 pc') (w1 : (Cond.methodLink own index y).before a0 Z = true) (w2 : (Cond.static y).before a0 Z = true) (w3 : (Cond.initialized y.cls).before a0 Z = true) (w4 : (Cond.code y ycode ymax yret).before a0 Z = true) (hy : y.cls ≠ "java/lang/invoke/MethodHandle" ∧ y.cls ≠ "java/lang/invoke/VarHandle")
    {argsL st rest : List Value} (hst : st = argsL.reverse ++ rest) (has : argsL.toArray = as') {ps : List FieldType} {r : Option FieldType} (hpd : parseMethodDescriptor y.desc = some ⟨ps, r⟩) (hlen : argsL.length = ps.length) (hsz : Ls.size = maxL) (W : Nat) (hW : 2 * 0 + (rest.map fun v => v.category).sum ≤ W)
    (hf : rm.frames + 1 ≤ R.frames) (hl : W + (ymax + 11) + rm.locals ≤ R.locals) (hc : ck + rm.cells ≤ R.cells) (hs : cn + rm.slots ≤ R.slots) {ck' cn' : Nat} (hck : ck + rm.cells = ck') (hcn : cn + rm.slots = cn')
    (k : ∀ v h', Q' v h' → Go p l e R s m args below meth c n0 K N Q h' ck' cn' (mkF m pc' Ls (v.toList ++ rest))) : Go p l e R s m args below meth c n0 K N Q h ck cn (mkF m pc Ls st) := fun T locs X eT hN => by
  obtain ⟨hd, rfl⟩ := hd
  subst hck hcn hst
  obtain ⟨v, _, ⟨T', L', k', n'⟩, -, X', ⟨Lc, hQ, l1, l2, l3⟩, st'⟩ := Jvm.LawKit.callS X C.1 C.2.2.2.2.1 (mvT C.2.2.2.1 w1) (mvT C.2.2.2.1 w2) (mvT C.2.2.2.1 w3) (mvT C.2.2.2.1 w4) hy (backOf (W := W) (Q := fun v h L => Q' v h ∧ Fr n0 L) (hC []) C.2.2.2.1 w4 w3 hf hl) (g := mkF m pc Ls (argsL.reverse ++ rest)) rfl (hsz.trans C.2.2.1.symm) (argsL := argsL) (rest := rest) (lenOf hpd hlen) rfl hW (hb C.2.1 hd) (fun _ _ => ⟨has, eT, hc, hs⟩)
  dsimp only [Pt.U, Pt.locs, Pt.cells, Pt.slots] at X' l1 l2 l3 st' hQ
  subst l1 l2 l3
  exact Go.move hN X' rfl (Fr.app hN hQ.2) st' (k v _ hQ.1)
theorem g_callI (C : Cx p s m meth c Z code maxL own ret) {pc pc' : Nat} {Ls : Array Slot} {y : MethodName} {ycode : ByteArray} {ymax : Nat} {yret : Option FieldType} {rm : Room} {as' : Array Value} {Q' : Option Value → Heap → Prop} {index : Nat} (hC : Ctr l Z y ycode ymax yret rm as' h n0 Q') {a : Addr} (hd : I1 code pc (.invokespecial index) 3 pc') (hy1 : y.name = "<init>") (w1 : (Cond.methodLink own index y).before a0 Z = true) (w2 : (Cond.instanceMethod y).before a0 Z = true) (w3 : (Cond.initialized y.cls).before a0 Z = true) (w4 : (Cond.code y ycode ymax none).before a0 Z = true) (hyr : yret = none) (hy : y.cls ≠ "java/lang/invoke/MethodHandle" ∧ y.cls ≠ "java/lang/invoke/VarHandle")
    {argsL st rest : List Value} (hst : st = argsL.reverse ++ .ref a :: rest) (has : (.ref a :: argsL).toArray = as') {ps : List FieldType} {r : Option FieldType} (hpd : parseMethodDescriptor y.desc = some ⟨ps, r⟩) (hlen : argsL.length = ps.length) (hsz : Ls.size = maxL) (W : Nat) (hW : 2 * 0 + (rest.map fun v => v.category).sum ≤ W)
    (hf : rm.frames + 1 ≤ R.frames) (hl : W + (ymax + 11) + rm.locals ≤ R.locals) (hc : ck + rm.cells ≤ R.cells) (hs : cn + rm.slots ≤ R.slots) {ck' cn' : Nat} (hck : ck + rm.cells = ck') (hcn : cn + rm.slots = cn')
    (k : ∀ v h', Q' v h' → Go p l e R s m args below meth c n0 K N Q h' ck' cn' (mkF m pc' Ls (v.toList ++ rest))) : Go p l e R s m args below meth c n0 K N Q h ck cn (mkF m pc Ls st) := fun T locs X eT hN => by
  obtain ⟨hd, rfl⟩ := hd
  subst hck hcn hst
  subst hyr
  obtain ⟨v, _, ⟨T', L', k', n'⟩, -, X', ⟨Lc, hQ, l1, l2, l3⟩, st'⟩ := X.specialBack C.1 hy1 C.2.2.2.2.1 (mvT C.2.2.2.1 w1) (mvT C.2.2.2.1 w2) (mvT C.2.2.2.1 w4) hy (backOf (W := W) (Q := fun v h L => Q' v h ∧ Fr n0 L) (hC []) C.2.2.2.1 w4 w3 hf hl) (g := mkF m pc Ls (argsL.reverse ++ .ref a :: rest)) rfl (hsz.trans C.2.2.1.symm) (Steps.refl _) (a := a) (argsL := argsL) (rest := rest) (lenOf hpd hlen) rfl hW (hb C.2.1 hd) (fun _ _ => ⟨has, eT, hc, hs⟩)
  dsimp only [Pt.U, Pt.locs, Pt.cells, Pt.slots] at X' l1 l2 l3 st' hQ
  subst l1 l2 l3
  exact Go.move hN X' rfl (Fr.app hN hQ.2) (fun _ z => st'.trans z) (k v _ hQ.1)
theorem g_callV (C : Cx p s m meth c Z code maxL own ret) {pc pc' : Nat} {Ls : Array Slot} {y : MethodName} {ycode : ByteArray} {ymax : Nat} {yret : Option FieldType} {rm : Room} {as' : Array Value} {Q' : Option Value → Heap → Prop} {index : Nat} (hC : Ctr l Z y ycode ymax yret rm as' h n0 Q') {a : Addr} {x : MethodName} {Cl : String} (hd : I1 code pc (.invokevirtual index) 3 pc') (w1 : (Cond.methodLink own index x).before a0 Z = true) (w2 : (Cond.declares x).before a0 Z = true) (hnf : ∀ s : State, Z.Warmed39 s.vm → NotFace s x) (w5 : (Cond.selects Cl x y).before a0 Z = true) (w6 : (Cond.instanceMethod y).before a0 Z = true) (w3 : (Cond.initialized y.cls).before a0 Z = true) (w4 : (Cond.code y ycode ymax yret).before a0 Z = true) (hy : x.cls ≠ "java/lang/invoke/MethodHandle" ∧ x.cls ≠ "java/lang/invoke/VarHandle") (E : Exa Z h a Cl)
    {argsL st rest : List Value} (hst : st = argsL.reverse ++ .ref a :: rest) (has : (.ref a :: argsL).toArray = as') {ps : List FieldType} {r : Option FieldType} (hpd : parseMethodDescriptor x.desc = some ⟨ps, r⟩) (hlen : argsL.length = ps.length) (hsz : Ls.size = maxL) (W : Nat) (hW : 2 * 0 + (rest.map fun v => v.category).sum ≤ W)
    (hf : rm.frames + 1 ≤ R.frames) (hl : W + (ymax + 11) + rm.locals ≤ R.locals) (hc : ck + rm.cells ≤ R.cells) (hs : cn + rm.slots ≤ R.slots) {ck' cn' : Nat} (hck : ck + rm.cells = ck') (hcn : cn + rm.slots = cn')
    (k : ∀ v h', Q' v h' → Go p l e R s m args below meth c n0 K N Q h' ck' cn' (mkF m pc' Ls (v.toList ++ rest))) : Go p l e R s m args below meth c n0 K N Q h ck cn (mkF m pc Ls st) := fun T locs X eT hN => by
  obtain ⟨hd, rfl⟩ := hd
  subst hck hcn hst
  obtain ⟨cq, kq, q1, q2, q3⟩ := isOf C.2.2.2.1 eT E
  obtain ⟨v, _, ⟨T', L', k', n'⟩, -, X', ⟨Lc, hQ, l1, l2, l3⟩, st'⟩ := X.virtualBack C.1 (y := x) (z := y) C.2.2.2.2.1 (mvT C.2.2.2.1 w1) (mvT C.2.2.2.1 w2) (hnf s C.2.2.2.1) (mvT C.2.2.2.1 w5) (mvT C.2.2.2.1 w6) hy (backOf (W := W) (Q := fun v h L => Q' v h ∧ Fr n0 L) (hC []) C.2.2.2.1 w4 w3 hf hl) q1 q3 (g := mkF m pc Ls (argsL.reverse ++ .ref a :: rest)) rfl (hsz.trans C.2.2.1.symm) (Steps.refl _) (argsL := argsL) (rest := rest) (lenOf hpd hlen) rfl hW (hb C.2.1 hd) (fun _ _ => ⟨has, eT, hc, hs⟩)
  dsimp only [Pt.U, Pt.locs, Pt.cells, Pt.slots] at X' l1 l2 l3 st' hQ
  subst l1 l2 l3
  exact Go.move hN X' rfl (Fr.app hN hQ.2) (fun _ z => st'.trans z) (k v _ hQ.1)
theorem g_callP (C : Cx p s m meth c Z code maxL own ret) {pc pc' : Nat} {Ls : Array Slot} {y : MethodName} {ycode : ByteArray} {ymax : Nat} {yret : Option FieldType} {rm : Room} {as' : Array Value} {Q' : Option Value → Heap → Prop} {index : Nat} (hC : Ctr l Z y ycode ymax yret rm as' h n0 Q') {a : Addr} {Cl : String} (hd : I1 code pc (.invokevirtual index) 3 pc') (w1 : (Cond.methodLink own index y).before a0 Z = true) (w2 : (Cond.instanceMethod y).before a0 Z = true) (w5 : (Cond.selects y.cls y y).before a0 Z = true) (w6 : (Cond.privateMethod y).before a0 Z = true) (w3 : (Cond.initialized y.cls).before a0 Z = true) (w4 : (Cond.code y ycode ymax yret).before a0 Z = true) (hy : y.cls ≠ "java/lang/invoke/MethodHandle" ∧ y.cls ≠ "java/lang/invoke/VarHandle") (E : Exa Z h a Cl)
    {argsL st rest : List Value} (hst : st = argsL.reverse ++ .ref a :: rest) (has : (.ref a :: argsL).toArray = as') {ps : List FieldType} {r : Option FieldType} (hpd : parseMethodDescriptor y.desc = some ⟨ps, r⟩) (hlen : argsL.length = ps.length) (hsz : Ls.size = maxL) (W : Nat) (hW : 2 * 0 + (rest.map fun v => v.category).sum ≤ W)
    (hf : rm.frames + 1 ≤ R.frames) (hl : W + (ymax + 11) + rm.locals ≤ R.locals) (hc : ck + rm.cells ≤ R.cells) (hs : cn + rm.slots ≤ R.slots) {ck' cn' : Nat} (hck : ck + rm.cells = ck') (hcn : cn + rm.slots = cn')
    (k : ∀ v h', Q' v h' → Go p l e R s m args below meth c n0 K N Q h' ck' cn' (mkF m pc' Ls (v.toList ++ rest))) : Go p l e R s m args below meth c n0 K N Q h ck cn (mkF m pc Ls st) := fun T locs X eT hN => by
  obtain ⟨hd, rfl⟩ := hd
  subst hck hcn hst
  obtain ⟨cq, q1, q2⟩ := E.cell
  obtain ⟨v, _, ⟨T', L', k', n'⟩, -, X', ⟨Lc, hQ, l1, l2, l3⟩, st'⟩ := X.privateBack C.1 (y := y) C.2.2.2.2.1 (mvT C.2.2.2.1 w1) (mvT C.2.2.2.1 w2) (mvT C.2.2.2.1 w5) (Cond.privateMethod_at (mvP C.2.2.2.1 w6 (args := #[]))) (mvT C.2.2.2.1 w4) hy (backOf (W := W) (Q := fun v h L => Q' v h ∧ Fr n0 L) (hC []) C.2.2.2.1 w4 w3 hf hl) (g := mkF m pc Ls (argsL.reverse ++ .ref a :: rest)) rfl (hsz.trans C.2.2.1.symm) (Steps.refl _) (a := a) (by rw [eT]; exact q1) q2 (argsL := argsL) (rest := rest) (lenOf hpd hlen) rfl hW (hb C.2.1 hd) (fun _ _ => ⟨has, eT, hc, hs⟩)
  dsimp only [Pt.U, Pt.locs, Pt.cells, Pt.slots] at X' l1 l2 l3 st' hQ
  subst l1 l2 l3
  exact Go.move hN X' rfl (Fr.app hN hQ.2) (fun _ z => st'.trans z) (k v _ hQ.1)
end
end Jvm.OwnGo
namespace Jvm.OwnGo
open Jvm.RoadKit
theorem nar_b (x : Int32) : nar .boolean x = x &&& 1 := rfl
theorem nbT {P : Prop} [Decidable P] : nar .boolean (if P then (1 : Int32) else (0 : Int32)) = 1 ↔ P := by
  by_cases h : P
  · simp only [if_pos h]; exact ⟨fun _ => h, fun _ => rfl⟩
  · simp only [if_neg h]; exact ⟨fun q => absurd q (by decide), fun q => absurd q h⟩
theorem own_nat {i : Nat} (h : i < 2147483648) : i.toInt32.toInt = i := len_toInt h
theorem own_cl {i : Nat} (h : i < 2147483648) : i.toInt32.toNatClampNeg = i := by simp only [Int32.toNatClampNeg, own_nat h]; omega
theorem own_lt {i n : Nat} (hi : i < 2147483648) (hn : n < 2147483648) : i.toInt32 < n.toInt32 ↔ i < n := by
  rw [Int32.lt_iff_toInt_lt, own_nat hi, own_nat hn]; omega
theorem own_inN {i n : Nat} (hi : i < 2147483648) (h : i < n) : Inb i.toInt32 n := inb_int (by rw [own_nat hi]; omega) (by rw [own_nat hi]; omega)
theorem own_rd {α : Type} (F : Nat → α) {i : Nat} (h : i < 2147483648) : F i.toInt32.toNatClampNeg = F i := by rw [own_cl h]
theorem own_succ {i : Nat} (h : i < 2147483647) : i.toInt32 + (1 : Int32) = (i + 1).toInt32 := by
  rw [← Int32.toInt_inj]
  have h1 := c_iadd i.toInt32 1
  have h2 := rng32 (i.toInt32 + 1)
  have h3 : (1 : Int32).toInt = 1 := rfl
  rw [own_nat (by omega), h3] at h1
  rw [own_nat (by omega)]
  omega
theorem AV.small {Z : State} {h : Heap} {a : Addr} {ty : ClassFile.FieldType} {n : Nat} {f : Nat → Value} (V : AV Z h a ty n f) : n < 2147483648 := by
  obtain ⟨c, -, -, r, -⟩ := V; exact r
theorem own_inb {Z : State} {h : Heap} {a : Addr} {ty : ClassFile.FieldType} {n : Nat} {f : Nat → Value} (V : AV Z h a ty n f) {j : Int32} (h0 : ¬ (j < (0 : Int32))) (h1 : j < n.toInt32) : Inb j n := by
  have hn := V.small
  have e0 : (0 : Int32).toInt = 0 := rfl
  rw [Int32.lt_iff_toInt_lt] at h0 h1
  rw [own_nat hn] at h1
  exact inb_int (by omega) (by omega)
end Jvm.OwnGo
namespace Jvm.Pilot.@@N@@
open Jvm Jvm.ClassFile Sem Op Lib Jvm.Free Jvm.Stand Jvm.LawKit Jvm.RoadKit Bundle Jvm.Pilot.@@N@@.Jvm.D
open Jvm.OwnGo
theorem own_d (p1 K : Int32) (k : Int) (hK : K.toInt = k) (h1 : 0 ≤ p1.toInt ∧ p1.toInt ≤ 3) (hk : 1 ≤ k ∧ k ≤ 4) : ((p1 + (1 : Int32)) - K).toInt = p1.toInt + 1 - k := by
  have g1 := c_iadd p1 1
  have g2 := rng32 (p1 + 1)
  have g3 := c_isub (p1 + 1) K
  have g4 := rng32 (p1 + 1 - K)
  have g5 : (1 : Int32).toInt = 1 := rfl
  rw [g5] at g1; rw [hK] at g3
  omega
theorem own_dj (p1 K : Int32) (k : Int) (hK : K.toInt = k) (h1 : 0 ≤ p1.toInt ∧ p1.toInt ≤ 3) (hk : 1 ≤ k ∧ k ≤ 4) (J : Int32) (j : Int) (hJ : J.toInt = j) (hj : 0 ≤ j ∧ j ≤ 2) : (((p1 + (1 : Int32)) - K) + J).toInt = p1.toInt + 1 - k + j := by
  have g1 := own_d p1 K k hK h1 hk
  have g2 := c_iadd ((p1 + 1) - K) J
  have g3 := rng32 ((p1 + 1) - K + J)
  rw [g1, hJ] at g2
  omega
theorem own_pred {i : Nat} (h : 0 < i) (hb : i < 2147483648) : i.toInt32 - (1 : Int32) = (i - 1).toInt32 := by
  rw [← Int32.toInt_inj]
  have h1 := c_isub i.toInt32 1
  have h2 := rng32 (i.toInt32 - 1)
  have h3 : (1 : Int32).toInt = 1 := rfl
  rw [own_nat hb, h3] at h1
  rw [own_nat (by omega)]
  omega
theorem pn0 : plainFor (⟨"com/example/ends2/ends2/PrefixTableExtendPinLaw", "ends", "([IIII)Z"⟩ : MethodName) = true := by decide +kernel
theorem iE4_0 : I1 method_2_code 0 (.aload_n 0) 1 1 := ⟨(by decide +kernel), rfl⟩
theorem iE4_1 : I1 method_2_code 1 (.iload_n 3) 1 2 := ⟨(by decide +kernel), rfl⟩
theorem iE4_2 : I1 method_2_code 2 (.iconst 1) 1 3 := ⟨(by decide +kernel), rfl⟩
theorem iE4_3 : I1 method_2_code 3 (.isub) 1 4 := ⟨(by decide +kernel), rfl⟩
theorem iE4_4 : I1 method_2_code 4 (.iaload) 1 5 := ⟨(by decide +kernel), rfl⟩
theorem iE4_5 : I1 method_2_code 5 (.iload_n 2) 1 6 := ⟨(by decide +kernel), rfl⟩
theorem iE4_6 : B1 method_2_code 6 (.if_icmp .eq 5) 5 11 9 := ⟨(by decide +kernel), rfl, by decide, by decide⟩
theorem iE4_9 : I1 method_2_code 9 (.iconst 0) 1 10 := ⟨(by decide +kernel), rfl⟩
theorem iE4_10 : I1 method_2_code 10 (.ireturn) 1 11 := ⟨(by decide +kernel), rfl⟩
theorem iE4_11 : I1 method_2_code 11 (.iload_n 1) 1 12 := ⟨(by decide +kernel), rfl⟩
theorem iE4_12 : I1 method_2_code 12 (.iconst 1) 1 13 := ⟨(by decide +kernel), rfl⟩
theorem iE4_13 : I1 method_2_code 13 (.iadd) 1 14 := ⟨(by decide +kernel), rfl⟩
theorem iE4_14 : I1 method_2_code 14 (.iload_n 3) 1 15 := ⟨(by decide +kernel), rfl⟩
theorem iE4_15 : I1 method_2_code 15 (.isub) 1 16 := ⟨(by decide +kernel), rfl⟩
theorem iE4_16 : I1 method_2_code 16 (.istore 4) 2 18 := ⟨(by decide +kernel), rfl⟩
theorem iE4_18 : I1 method_2_code 18 (.iload_n 3) 1 19 := ⟨(by decide +kernel), rfl⟩
theorem iE4_19 : I1 method_2_code 19 (.iconst 1) 1 20 := ⟨(by decide +kernel), rfl⟩
theorem iE4_20 : B1 method_2_code 20 (.if_icmp .le 15) 15 35 23 := ⟨(by decide +kernel), rfl, by decide, by decide⟩
theorem iE4_23 : I1 method_2_code 23 (.aload_n 0) 1 24 := ⟨(by decide +kernel), rfl⟩
theorem iE4_24 : I1 method_2_code 24 (.iconst 0) 1 25 := ⟨(by decide +kernel), rfl⟩
theorem iE4_25 : I1 method_2_code 25 (.iaload) 1 26 := ⟨(by decide +kernel), rfl⟩
theorem iE4_26 : I1 method_2_code 26 (.aload_n 0) 1 27 := ⟨(by decide +kernel), rfl⟩
theorem iE4_27 : I1 method_2_code 27 (.iload 4) 2 29 := ⟨(by decide +kernel), rfl⟩
theorem iE4_29 : I1 method_2_code 29 (.iaload) 1 30 := ⟨(by decide +kernel), rfl⟩
theorem iE4_30 : B1 method_2_code 30 (.if_icmp .eq 5) 5 35 33 := ⟨(by decide +kernel), rfl, by decide, by decide⟩
theorem iE4_33 : I1 method_2_code 33 (.iconst 0) 1 34 := ⟨(by decide +kernel), rfl⟩
theorem iE4_34 : I1 method_2_code 34 (.ireturn) 1 35 := ⟨(by decide +kernel), rfl⟩
theorem iE4_35 : I1 method_2_code 35 (.iload_n 3) 1 36 := ⟨(by decide +kernel), rfl⟩
theorem iE4_36 : I1 method_2_code 36 (.iconst 2) 1 37 := ⟨(by decide +kernel), rfl⟩
theorem iE4_37 : B1 method_2_code 37 (.if_icmp .le 17) 17 54 40 := ⟨(by decide +kernel), rfl, by decide, by decide⟩
theorem iE4_40 : I1 method_2_code 40 (.aload_n 0) 1 41 := ⟨(by decide +kernel), rfl⟩
theorem iE4_41 : I1 method_2_code 41 (.iconst 1) 1 42 := ⟨(by decide +kernel), rfl⟩
theorem iE4_42 : I1 method_2_code 42 (.iaload) 1 43 := ⟨(by decide +kernel), rfl⟩
theorem iE4_43 : I1 method_2_code 43 (.aload_n 0) 1 44 := ⟨(by decide +kernel), rfl⟩
theorem iE4_44 : I1 method_2_code 44 (.iload 4) 2 46 := ⟨(by decide +kernel), rfl⟩
theorem iE4_46 : I1 method_2_code 46 (.iconst 1) 1 47 := ⟨(by decide +kernel), rfl⟩
theorem iE4_47 : I1 method_2_code 47 (.iadd) 1 48 := ⟨(by decide +kernel), rfl⟩
theorem iE4_48 : I1 method_2_code 48 (.iaload) 1 49 := ⟨(by decide +kernel), rfl⟩
theorem iE4_49 : B1 method_2_code 49 (.if_icmp .eq 5) 5 54 52 := ⟨(by decide +kernel), rfl, by decide, by decide⟩
theorem iE4_52 : I1 method_2_code 52 (.iconst 0) 1 53 := ⟨(by decide +kernel), rfl⟩
theorem iE4_53 : I1 method_2_code 53 (.ireturn) 1 54 := ⟨(by decide +kernel), rfl⟩
theorem iE4_54 : I1 method_2_code 54 (.iload_n 3) 1 55 := ⟨(by decide +kernel), rfl⟩
theorem iE4_55 : I1 method_2_code 55 (.iconst 3) 1 56 := ⟨(by decide +kernel), rfl⟩
theorem iE4_56 : B1 method_2_code 56 (.if_icmp .le 17) 17 73 59 := ⟨(by decide +kernel), rfl, by decide, by decide⟩
theorem iE4_59 : I1 method_2_code 59 (.aload_n 0) 1 60 := ⟨(by decide +kernel), rfl⟩
theorem iE4_60 : I1 method_2_code 60 (.iconst 2) 1 61 := ⟨(by decide +kernel), rfl⟩
theorem iE4_61 : I1 method_2_code 61 (.iaload) 1 62 := ⟨(by decide +kernel), rfl⟩
theorem iE4_62 : I1 method_2_code 62 (.aload_n 0) 1 63 := ⟨(by decide +kernel), rfl⟩
theorem iE4_63 : I1 method_2_code 63 (.iload 4) 2 65 := ⟨(by decide +kernel), rfl⟩
theorem iE4_65 : I1 method_2_code 65 (.iconst 2) 1 66 := ⟨(by decide +kernel), rfl⟩
theorem iE4_66 : I1 method_2_code 66 (.iadd) 1 67 := ⟨(by decide +kernel), rfl⟩
theorem iE4_67 : I1 method_2_code 67 (.iaload) 1 68 := ⟨(by decide +kernel), rfl⟩
theorem iE4_68 : B1 method_2_code 68 (.if_icmp .eq 5) 5 73 71 := ⟨(by decide +kernel), rfl, by decide, by decide⟩
theorem iE4_71 : I1 method_2_code 71 (.iconst 0) 1 72 := ⟨(by decide +kernel), rfl⟩
theorem iE4_72 : I1 method_2_code 72 (.ireturn) 1 73 := ⟨(by decide +kernel), rfl⟩
theorem iE4_73 : I1 method_2_code 73 (.iconst 1) 1 74 := ⟨(by decide +kernel), rfl⟩
theorem iE4_74 : I1 method_2_code 74 (.ireturn) 1 75 := ⟨(by decide +kernel), rfl⟩
def ret_E4 (p1 : Int32) (p2 : Int32) (n_a0 : Nat) (f_a0 : Nat → Int32) : Int32 := (if (f_a0 3) = p2 then (if (f_a0 0) = (f_a0 (((p1 + (1 : Int32)) - (4 : Int32))).toNatClampNeg) then (if (f_a0 1) = (f_a0 ((((p1 + (1 : Int32)) - (4 : Int32)) + (1 : Int32))).toNatClampNeg) then (if (f_a0 2) = (f_a0 ((((p1 + (1 : Int32)) - (4 : Int32)) + (2 : Int32))).toNatClampNeg) then (1 : Int32) else (0 : Int32)) else (0 : Int32)) else (0 : Int32)) else (0 : Int32))
theorem efE4 (m : MethodId) (a0 : Addr) (p1 : Int32) (p2 : Int32) : entryFrame m #[(.ref a0), (.int p1), (.int p2), (.int (4 : Int32))] 5 = mkF m 0 #[.val (.ref a0), .val (.int p1), .val (.int p2), .val (.int (4 : Int32)), .unset] [] := by first | (simp [entryFrame, mkF, argsToLocals, Value.category]; done) | rfl
def QE4 (Z : State) (a0 : Addr) (p1 : Int32) (p2 : Int32) (n_a0 : Nat) (f_a0 : Nat → Int32) (h0 : Heap) (n0 : Nat) (v : Option Value) (h : Heap) : Prop := v = some (.int (ret_E4 p1 p2 n_a0 f_a0)) ∧ h = h0
set_option maxRecDepth 65536 in
set_option maxHeartbeats 40000000 in
theorem rmE4 (l : Launch) (Z : State) (aZ : Array Value) (hw : ∀ d ∈ tables_1, d.before aZ Z = true) (a0 : Addr) (p1 : Int32) (p2 : Int32) (n_a0 : Nat) (f_a0 : Nat → Int32) (h0 : Heap) (n0 : Nat) (Z0 : n0 ≤ h0.size) (hm : 3 ≤ p1.toInt ∧ p1.toInt ≤ 3) (hn : n_a0 = 4) (V_a0 : AV Z h0 a0 .int n_a0 (fun i => .int (f_a0 i))) :
    Ctr l Z (⟨"com/example/ends2/ends2/PrefixTableExtendPinLaw", "ends", "([IIII)Z"⟩ : MethodName) method_2_code 5 (some .boolean) ({ frames := 0, cells := 0, slots := 0, locals := 0 } : Room) #[(.ref a0), (.int p1), (.int p2), (.int (4 : Int32))] h0 n0 (QE4 Z a0 p1 p2 n_a0 f_a0 h0 n0) := by
  refine Ctr.of_go pn0 (fun m => efE4 m a0 p1 p2) ?_
  intro p e s m below meth c hnm C
  refine g_aloadN C iE4_0 rfl rfl ?_
  refine g_iloadN C iE4_1 rfl ?_
  refine g_iconst C (1 : Int32) iE4_2 rfl ?_
  refine g_isub C iE4_3 ?_
  refine g_iald C (.int (f_a0 3)) iE4_4 V_a0 (by subst hn; exact ⟨by decide, by decide⟩) rfl ?_
  refine g_iloadN C iE4_5 rfl ?_
  refine g_icmp_eq C iE4_6 (fun hc6_1 => ?_) (fun hc6_1 => ?_)
  · refine g_iloadN C iE4_11 rfl ?_
    refine g_iconst C (1 : Int32) iE4_12 rfl ?_
    refine g_iadd C iE4_13 ?_
    refine g_iloadN C iE4_14 rfl ?_
    refine g_isub C iE4_15 ?_
    refine g_istore C (Ls' := #[.val (.ref a0), .val (.int p1), .val (.int p2), .val (.int (4 : Int32)), .val (.int ((p1 + (1 : Int32)) - (4 : Int32)))]) iE4_16 rfl ?_
    refine g_iloadN C iE4_18 rfl ?_
    refine g_iconst C (1 : Int32) iE4_19 rfl ?_
    refine g_icmp_le C iE4_20 (fun _ => ?_) (fun q => absurd (by decide) q)
    refine g_aloadN C iE4_23 rfl rfl ?_
    refine g_iconst C (0 : Int32) iE4_24 rfl ?_
    refine g_iald C (.int (f_a0 0)) iE4_25 V_a0 (by subst hn; exact ⟨by decide, by decide⟩) rfl ?_
    refine g_aloadN C iE4_26 rfl rfl ?_
    refine g_iload C iE4_27 rfl ?_
    refine g_iald C (.int (f_a0 (((p1 + (1 : Int32)) - (4 : Int32))).toNatClampNeg)) iE4_29 V_a0 (by have q := (own_d p1 4 4 rfl ⟨by omega, hm.2⟩ (by decide)); subst hn; exact inb_int (by omega) (by omega)) rfl ?_
    refine g_icmp_eq C iE4_30 (fun hc30_1 => ?_) (fun hc30_1 => ?_)
    · refine g_iloadN C iE4_35 rfl ?_
      refine g_iconst C (2 : Int32) iE4_36 rfl ?_
      refine g_icmp_le C iE4_37 (fun _ => ?_) (fun q => absurd (by decide) q)
      refine g_aloadN C iE4_40 rfl rfl ?_
      refine g_iconst C (1 : Int32) iE4_41 rfl ?_
      refine g_iald C (.int (f_a0 1)) iE4_42 V_a0 (by subst hn; exact ⟨by decide, by decide⟩) rfl ?_
      refine g_aloadN C iE4_43 rfl rfl ?_
      refine g_iload C iE4_44 rfl ?_
      refine g_iconst C (1 : Int32) iE4_46 rfl ?_
      refine g_iadd C iE4_47 ?_
      refine g_iald C (.int (f_a0 ((((p1 + (1 : Int32)) - (4 : Int32)) + (1 : Int32))).toNatClampNeg)) iE4_48 V_a0 (by have q := (own_dj p1 4 4 rfl ⟨by omega, hm.2⟩ (by decide) 1 1 rfl (by decide)); subst hn; exact inb_int (by omega) (by omega)) rfl ?_
      refine g_icmp_eq C iE4_49 (fun hc49_1 => ?_) (fun hc49_1 => ?_)
      · refine g_iloadN C iE4_54 rfl ?_
        refine g_iconst C (3 : Int32) iE4_55 rfl ?_
        refine g_icmp_le C iE4_56 (fun _ => ?_) (fun q => absurd (by decide) q)
        refine g_aloadN C iE4_59 rfl rfl ?_
        refine g_iconst C (2 : Int32) iE4_60 rfl ?_
        refine g_iald C (.int (f_a0 2)) iE4_61 V_a0 (by subst hn; exact ⟨by decide, by decide⟩) rfl ?_
        refine g_aloadN C iE4_62 rfl rfl ?_
        refine g_iload C iE4_63 rfl ?_
        refine g_iconst C (2 : Int32) iE4_65 rfl ?_
        refine g_iadd C iE4_66 ?_
        refine g_iald C (.int (f_a0 ((((p1 + (1 : Int32)) - (4 : Int32)) + (2 : Int32))).toNatClampNeg)) iE4_67 V_a0 (by have q := (own_dj p1 4 4 rfl ⟨by omega, hm.2⟩ (by decide) 2 2 rfl (by decide)); subst hn; exact inb_int (by omega) (by omega)) rfl ?_
        refine g_icmp_eq C iE4_68 (fun hc68_1 => ?_) (fun hc68_1 => ?_)
        · refine g_iconst C (1 : Int32) iE4_73 rfl ?_
          have r0 : (ret_E4 p1 p2 n_a0 f_a0) = (1 : Int32) := by simp only [ret_E4, if_pos hc6_1, if_pos hc30_1, if_pos hc49_1, if_pos hc68_1]
          exact g_retNar C (t := .boolean) iE4_74 rfl (by simp) (by decide) (by decide) (show QE4 Z a0 p1 p2 n_a0 f_a0 h0 n0 _ _ from by unfold QE4; rw [r0]; exact ⟨rfl, rfl⟩)
        · refine g_iconst C (0 : Int32) iE4_71 rfl ?_
          have r0 : (ret_E4 p1 p2 n_a0 f_a0) = (0 : Int32) := by simp only [ret_E4, if_pos hc6_1, if_pos hc30_1, if_pos hc49_1, if_neg hc68_1]
          exact g_retNar C (t := .boolean) iE4_72 rfl (by simp) (by decide) (by decide) (show QE4 Z a0 p1 p2 n_a0 f_a0 h0 n0 _ _ from by unfold QE4; rw [r0]; exact ⟨rfl, rfl⟩)
      · refine g_iconst C (0 : Int32) iE4_52 rfl ?_
        have r0 : (ret_E4 p1 p2 n_a0 f_a0) = (0 : Int32) := by simp only [ret_E4, if_pos hc6_1, if_pos hc30_1, if_neg hc49_1]
        exact g_retNar C (t := .boolean) iE4_53 rfl (by simp) (by decide) (by decide) (show QE4 Z a0 p1 p2 n_a0 f_a0 h0 n0 _ _ from by unfold QE4; rw [r0]; exact ⟨rfl, rfl⟩)
    · refine g_iconst C (0 : Int32) iE4_33 rfl ?_
      have r0 : (ret_E4 p1 p2 n_a0 f_a0) = (0 : Int32) := by simp only [ret_E4, if_pos hc6_1, if_neg hc30_1]
      exact g_retNar C (t := .boolean) iE4_34 rfl (by simp) (by decide) (by decide) (show QE4 Z a0 p1 p2 n_a0 f_a0 h0 n0 _ _ from by unfold QE4; rw [r0]; exact ⟨rfl, rfl⟩)
  · refine g_iconst C (0 : Int32) iE4_9 rfl ?_
    have r0 : (ret_E4 p1 p2 n_a0 f_a0) = (0 : Int32) := by simp only [ret_E4, if_neg hc6_1]
    exact g_retNar C (t := .boolean) iE4_10 rfl (by simp) (by decide) (by decide) (show QE4 Z a0 p1 p2 n_a0 f_a0 h0 n0 _ _ from by unfold QE4; rw [r0]; exact ⟨rfl, rfl⟩)
theorem iE3_0 : I1 method_2_code 0 (.aload_n 0) 1 1 := ⟨(by decide +kernel), rfl⟩
theorem iE3_1 : I1 method_2_code 1 (.iload_n 3) 1 2 := ⟨(by decide +kernel), rfl⟩
theorem iE3_2 : I1 method_2_code 2 (.iconst 1) 1 3 := ⟨(by decide +kernel), rfl⟩
theorem iE3_3 : I1 method_2_code 3 (.isub) 1 4 := ⟨(by decide +kernel), rfl⟩
theorem iE3_4 : I1 method_2_code 4 (.iaload) 1 5 := ⟨(by decide +kernel), rfl⟩
theorem iE3_5 : I1 method_2_code 5 (.iload_n 2) 1 6 := ⟨(by decide +kernel), rfl⟩
theorem iE3_6 : B1 method_2_code 6 (.if_icmp .eq 5) 5 11 9 := ⟨(by decide +kernel), rfl, by decide, by decide⟩
theorem iE3_9 : I1 method_2_code 9 (.iconst 0) 1 10 := ⟨(by decide +kernel), rfl⟩
theorem iE3_10 : I1 method_2_code 10 (.ireturn) 1 11 := ⟨(by decide +kernel), rfl⟩
theorem iE3_11 : I1 method_2_code 11 (.iload_n 1) 1 12 := ⟨(by decide +kernel), rfl⟩
theorem iE3_12 : I1 method_2_code 12 (.iconst 1) 1 13 := ⟨(by decide +kernel), rfl⟩
theorem iE3_13 : I1 method_2_code 13 (.iadd) 1 14 := ⟨(by decide +kernel), rfl⟩
theorem iE3_14 : I1 method_2_code 14 (.iload_n 3) 1 15 := ⟨(by decide +kernel), rfl⟩
theorem iE3_15 : I1 method_2_code 15 (.isub) 1 16 := ⟨(by decide +kernel), rfl⟩
theorem iE3_16 : I1 method_2_code 16 (.istore 4) 2 18 := ⟨(by decide +kernel), rfl⟩
theorem iE3_18 : I1 method_2_code 18 (.iload_n 3) 1 19 := ⟨(by decide +kernel), rfl⟩
theorem iE3_19 : I1 method_2_code 19 (.iconst 1) 1 20 := ⟨(by decide +kernel), rfl⟩
theorem iE3_20 : B1 method_2_code 20 (.if_icmp .le 15) 15 35 23 := ⟨(by decide +kernel), rfl, by decide, by decide⟩
theorem iE3_23 : I1 method_2_code 23 (.aload_n 0) 1 24 := ⟨(by decide +kernel), rfl⟩
theorem iE3_24 : I1 method_2_code 24 (.iconst 0) 1 25 := ⟨(by decide +kernel), rfl⟩
theorem iE3_25 : I1 method_2_code 25 (.iaload) 1 26 := ⟨(by decide +kernel), rfl⟩
theorem iE3_26 : I1 method_2_code 26 (.aload_n 0) 1 27 := ⟨(by decide +kernel), rfl⟩
theorem iE3_27 : I1 method_2_code 27 (.iload 4) 2 29 := ⟨(by decide +kernel), rfl⟩
theorem iE3_29 : I1 method_2_code 29 (.iaload) 1 30 := ⟨(by decide +kernel), rfl⟩
theorem iE3_30 : B1 method_2_code 30 (.if_icmp .eq 5) 5 35 33 := ⟨(by decide +kernel), rfl, by decide, by decide⟩
theorem iE3_33 : I1 method_2_code 33 (.iconst 0) 1 34 := ⟨(by decide +kernel), rfl⟩
theorem iE3_34 : I1 method_2_code 34 (.ireturn) 1 35 := ⟨(by decide +kernel), rfl⟩
theorem iE3_35 : I1 method_2_code 35 (.iload_n 3) 1 36 := ⟨(by decide +kernel), rfl⟩
theorem iE3_36 : I1 method_2_code 36 (.iconst 2) 1 37 := ⟨(by decide +kernel), rfl⟩
theorem iE3_37 : B1 method_2_code 37 (.if_icmp .le 17) 17 54 40 := ⟨(by decide +kernel), rfl, by decide, by decide⟩
theorem iE3_40 : I1 method_2_code 40 (.aload_n 0) 1 41 := ⟨(by decide +kernel), rfl⟩
theorem iE3_41 : I1 method_2_code 41 (.iconst 1) 1 42 := ⟨(by decide +kernel), rfl⟩
theorem iE3_42 : I1 method_2_code 42 (.iaload) 1 43 := ⟨(by decide +kernel), rfl⟩
theorem iE3_43 : I1 method_2_code 43 (.aload_n 0) 1 44 := ⟨(by decide +kernel), rfl⟩
theorem iE3_44 : I1 method_2_code 44 (.iload 4) 2 46 := ⟨(by decide +kernel), rfl⟩
theorem iE3_46 : I1 method_2_code 46 (.iconst 1) 1 47 := ⟨(by decide +kernel), rfl⟩
theorem iE3_47 : I1 method_2_code 47 (.iadd) 1 48 := ⟨(by decide +kernel), rfl⟩
theorem iE3_48 : I1 method_2_code 48 (.iaload) 1 49 := ⟨(by decide +kernel), rfl⟩
theorem iE3_49 : B1 method_2_code 49 (.if_icmp .eq 5) 5 54 52 := ⟨(by decide +kernel), rfl, by decide, by decide⟩
theorem iE3_52 : I1 method_2_code 52 (.iconst 0) 1 53 := ⟨(by decide +kernel), rfl⟩
theorem iE3_53 : I1 method_2_code 53 (.ireturn) 1 54 := ⟨(by decide +kernel), rfl⟩
theorem iE3_54 : I1 method_2_code 54 (.iload_n 3) 1 55 := ⟨(by decide +kernel), rfl⟩
theorem iE3_55 : I1 method_2_code 55 (.iconst 3) 1 56 := ⟨(by decide +kernel), rfl⟩
theorem iE3_56 : B1 method_2_code 56 (.if_icmp .le 17) 17 73 59 := ⟨(by decide +kernel), rfl, by decide, by decide⟩
theorem iE3_73 : I1 method_2_code 73 (.iconst 1) 1 74 := ⟨(by decide +kernel), rfl⟩
theorem iE3_74 : I1 method_2_code 74 (.ireturn) 1 75 := ⟨(by decide +kernel), rfl⟩
def ret_E3 (p1 : Int32) (p2 : Int32) (n_a0 : Nat) (f_a0 : Nat → Int32) : Int32 := (if (f_a0 2) = p2 then (if (f_a0 0) = (f_a0 (((p1 + (1 : Int32)) - (3 : Int32))).toNatClampNeg) then (if (f_a0 1) = (f_a0 ((((p1 + (1 : Int32)) - (3 : Int32)) + (1 : Int32))).toNatClampNeg) then (1 : Int32) else (0 : Int32)) else (0 : Int32)) else (0 : Int32))
theorem efE3 (m : MethodId) (a0 : Addr) (p1 : Int32) (p2 : Int32) : entryFrame m #[(.ref a0), (.int p1), (.int p2), (.int (3 : Int32))] 5 = mkF m 0 #[.val (.ref a0), .val (.int p1), .val (.int p2), .val (.int (3 : Int32)), .unset] [] := by first | (simp [entryFrame, mkF, argsToLocals, Value.category]; done) | rfl
def QE3 (Z : State) (a0 : Addr) (p1 : Int32) (p2 : Int32) (n_a0 : Nat) (f_a0 : Nat → Int32) (h0 : Heap) (n0 : Nat) (v : Option Value) (h : Heap) : Prop := v = some (.int (ret_E3 p1 p2 n_a0 f_a0)) ∧ h = h0
set_option maxRecDepth 65536 in
set_option maxHeartbeats 40000000 in
theorem rmE3 (l : Launch) (Z : State) (aZ : Array Value) (hw : ∀ d ∈ tables_1, d.before aZ Z = true) (a0 : Addr) (p1 : Int32) (p2 : Int32) (n_a0 : Nat) (f_a0 : Nat → Int32) (h0 : Heap) (n0 : Nat) (Z0 : n0 ≤ h0.size) (hm : 2 ≤ p1.toInt ∧ p1.toInt ≤ 3) (hn : n_a0 = 4) (V_a0 : AV Z h0 a0 .int n_a0 (fun i => .int (f_a0 i))) :
    Ctr l Z (⟨"com/example/ends2/ends2/PrefixTableExtendPinLaw", "ends", "([IIII)Z"⟩ : MethodName) method_2_code 5 (some .boolean) ({ frames := 0, cells := 0, slots := 0, locals := 0 } : Room) #[(.ref a0), (.int p1), (.int p2), (.int (3 : Int32))] h0 n0 (QE3 Z a0 p1 p2 n_a0 f_a0 h0 n0) := by
  refine Ctr.of_go pn0 (fun m => efE3 m a0 p1 p2) ?_
  intro p e s m below meth c hnm C
  refine g_aloadN C iE3_0 rfl rfl ?_
  refine g_iloadN C iE3_1 rfl ?_
  refine g_iconst C (1 : Int32) iE3_2 rfl ?_
  refine g_isub C iE3_3 ?_
  refine g_iald C (.int (f_a0 2)) iE3_4 V_a0 (by subst hn; exact ⟨by decide, by decide⟩) rfl ?_
  refine g_iloadN C iE3_5 rfl ?_
  refine g_icmp_eq C iE3_6 (fun hc6_1 => ?_) (fun hc6_1 => ?_)
  · refine g_iloadN C iE3_11 rfl ?_
    refine g_iconst C (1 : Int32) iE3_12 rfl ?_
    refine g_iadd C iE3_13 ?_
    refine g_iloadN C iE3_14 rfl ?_
    refine g_isub C iE3_15 ?_
    refine g_istore C (Ls' := #[.val (.ref a0), .val (.int p1), .val (.int p2), .val (.int (3 : Int32)), .val (.int ((p1 + (1 : Int32)) - (3 : Int32)))]) iE3_16 rfl ?_
    refine g_iloadN C iE3_18 rfl ?_
    refine g_iconst C (1 : Int32) iE3_19 rfl ?_
    refine g_icmp_le C iE3_20 (fun _ => ?_) (fun q => absurd (by decide) q)
    refine g_aloadN C iE3_23 rfl rfl ?_
    refine g_iconst C (0 : Int32) iE3_24 rfl ?_
    refine g_iald C (.int (f_a0 0)) iE3_25 V_a0 (by subst hn; exact ⟨by decide, by decide⟩) rfl ?_
    refine g_aloadN C iE3_26 rfl rfl ?_
    refine g_iload C iE3_27 rfl ?_
    refine g_iald C (.int (f_a0 (((p1 + (1 : Int32)) - (3 : Int32))).toNatClampNeg)) iE3_29 V_a0 (by have q := (own_d p1 3 3 rfl ⟨by omega, hm.2⟩ (by decide)); subst hn; exact inb_int (by omega) (by omega)) rfl ?_
    refine g_icmp_eq C iE3_30 (fun hc30_1 => ?_) (fun hc30_1 => ?_)
    · refine g_iloadN C iE3_35 rfl ?_
      refine g_iconst C (2 : Int32) iE3_36 rfl ?_
      refine g_icmp_le C iE3_37 (fun _ => ?_) (fun q => absurd (by decide) q)
      refine g_aloadN C iE3_40 rfl rfl ?_
      refine g_iconst C (1 : Int32) iE3_41 rfl ?_
      refine g_iald C (.int (f_a0 1)) iE3_42 V_a0 (by subst hn; exact ⟨by decide, by decide⟩) rfl ?_
      refine g_aloadN C iE3_43 rfl rfl ?_
      refine g_iload C iE3_44 rfl ?_
      refine g_iconst C (1 : Int32) iE3_46 rfl ?_
      refine g_iadd C iE3_47 ?_
      refine g_iald C (.int (f_a0 ((((p1 + (1 : Int32)) - (3 : Int32)) + (1 : Int32))).toNatClampNeg)) iE3_48 V_a0 (by have q := (own_dj p1 3 3 rfl ⟨by omega, hm.2⟩ (by decide) 1 1 rfl (by decide)); subst hn; exact inb_int (by omega) (by omega)) rfl ?_
      refine g_icmp_eq C iE3_49 (fun hc49_1 => ?_) (fun hc49_1 => ?_)
      · refine g_iloadN C iE3_54 rfl ?_
        refine g_iconst C (3 : Int32) iE3_55 rfl ?_
        refine g_icmp_le C iE3_56 (fun q => absurd q (by decide)) (fun _ => ?_)
        refine g_iconst C (1 : Int32) iE3_73 rfl ?_
        have r0 : (ret_E3 p1 p2 n_a0 f_a0) = (1 : Int32) := by simp only [ret_E3, if_pos hc6_1, if_pos hc30_1, if_pos hc49_1]
        exact g_retNar C (t := .boolean) iE3_74 rfl (by simp) (by decide) (by decide) (show QE3 Z a0 p1 p2 n_a0 f_a0 h0 n0 _ _ from by unfold QE3; rw [r0]; exact ⟨rfl, rfl⟩)
      · refine g_iconst C (0 : Int32) iE3_52 rfl ?_
        have r0 : (ret_E3 p1 p2 n_a0 f_a0) = (0 : Int32) := by simp only [ret_E3, if_pos hc6_1, if_pos hc30_1, if_neg hc49_1]
        exact g_retNar C (t := .boolean) iE3_53 rfl (by simp) (by decide) (by decide) (show QE3 Z a0 p1 p2 n_a0 f_a0 h0 n0 _ _ from by unfold QE3; rw [r0]; exact ⟨rfl, rfl⟩)
    · refine g_iconst C (0 : Int32) iE3_33 rfl ?_
      have r0 : (ret_E3 p1 p2 n_a0 f_a0) = (0 : Int32) := by simp only [ret_E3, if_pos hc6_1, if_neg hc30_1]
      exact g_retNar C (t := .boolean) iE3_34 rfl (by simp) (by decide) (by decide) (show QE3 Z a0 p1 p2 n_a0 f_a0 h0 n0 _ _ from by unfold QE3; rw [r0]; exact ⟨rfl, rfl⟩)
  · refine g_iconst C (0 : Int32) iE3_9 rfl ?_
    have r0 : (ret_E3 p1 p2 n_a0 f_a0) = (0 : Int32) := by simp only [ret_E3, if_neg hc6_1]
    exact g_retNar C (t := .boolean) iE3_10 rfl (by simp) (by decide) (by decide) (show QE3 Z a0 p1 p2 n_a0 f_a0 h0 n0 _ _ from by unfold QE3; rw [r0]; exact ⟨rfl, rfl⟩)
theorem iE2_0 : I1 method_2_code 0 (.aload_n 0) 1 1 := ⟨(by decide +kernel), rfl⟩
theorem iE2_1 : I1 method_2_code 1 (.iload_n 3) 1 2 := ⟨(by decide +kernel), rfl⟩
theorem iE2_2 : I1 method_2_code 2 (.iconst 1) 1 3 := ⟨(by decide +kernel), rfl⟩
theorem iE2_3 : I1 method_2_code 3 (.isub) 1 4 := ⟨(by decide +kernel), rfl⟩
theorem iE2_4 : I1 method_2_code 4 (.iaload) 1 5 := ⟨(by decide +kernel), rfl⟩
theorem iE2_5 : I1 method_2_code 5 (.iload_n 2) 1 6 := ⟨(by decide +kernel), rfl⟩
theorem iE2_6 : B1 method_2_code 6 (.if_icmp .eq 5) 5 11 9 := ⟨(by decide +kernel), rfl, by decide, by decide⟩
theorem iE2_9 : I1 method_2_code 9 (.iconst 0) 1 10 := ⟨(by decide +kernel), rfl⟩
theorem iE2_10 : I1 method_2_code 10 (.ireturn) 1 11 := ⟨(by decide +kernel), rfl⟩
theorem iE2_11 : I1 method_2_code 11 (.iload_n 1) 1 12 := ⟨(by decide +kernel), rfl⟩
theorem iE2_12 : I1 method_2_code 12 (.iconst 1) 1 13 := ⟨(by decide +kernel), rfl⟩
theorem iE2_13 : I1 method_2_code 13 (.iadd) 1 14 := ⟨(by decide +kernel), rfl⟩
theorem iE2_14 : I1 method_2_code 14 (.iload_n 3) 1 15 := ⟨(by decide +kernel), rfl⟩
theorem iE2_15 : I1 method_2_code 15 (.isub) 1 16 := ⟨(by decide +kernel), rfl⟩
theorem iE2_16 : I1 method_2_code 16 (.istore 4) 2 18 := ⟨(by decide +kernel), rfl⟩
theorem iE2_18 : I1 method_2_code 18 (.iload_n 3) 1 19 := ⟨(by decide +kernel), rfl⟩
theorem iE2_19 : I1 method_2_code 19 (.iconst 1) 1 20 := ⟨(by decide +kernel), rfl⟩
theorem iE2_20 : B1 method_2_code 20 (.if_icmp .le 15) 15 35 23 := ⟨(by decide +kernel), rfl, by decide, by decide⟩
theorem iE2_23 : I1 method_2_code 23 (.aload_n 0) 1 24 := ⟨(by decide +kernel), rfl⟩
theorem iE2_24 : I1 method_2_code 24 (.iconst 0) 1 25 := ⟨(by decide +kernel), rfl⟩
theorem iE2_25 : I1 method_2_code 25 (.iaload) 1 26 := ⟨(by decide +kernel), rfl⟩
theorem iE2_26 : I1 method_2_code 26 (.aload_n 0) 1 27 := ⟨(by decide +kernel), rfl⟩
theorem iE2_27 : I1 method_2_code 27 (.iload 4) 2 29 := ⟨(by decide +kernel), rfl⟩
theorem iE2_29 : I1 method_2_code 29 (.iaload) 1 30 := ⟨(by decide +kernel), rfl⟩
theorem iE2_30 : B1 method_2_code 30 (.if_icmp .eq 5) 5 35 33 := ⟨(by decide +kernel), rfl, by decide, by decide⟩
theorem iE2_33 : I1 method_2_code 33 (.iconst 0) 1 34 := ⟨(by decide +kernel), rfl⟩
theorem iE2_34 : I1 method_2_code 34 (.ireturn) 1 35 := ⟨(by decide +kernel), rfl⟩
theorem iE2_35 : I1 method_2_code 35 (.iload_n 3) 1 36 := ⟨(by decide +kernel), rfl⟩
theorem iE2_36 : I1 method_2_code 36 (.iconst 2) 1 37 := ⟨(by decide +kernel), rfl⟩
theorem iE2_37 : B1 method_2_code 37 (.if_icmp .le 17) 17 54 40 := ⟨(by decide +kernel), rfl, by decide, by decide⟩
theorem iE2_54 : I1 method_2_code 54 (.iload_n 3) 1 55 := ⟨(by decide +kernel), rfl⟩
theorem iE2_55 : I1 method_2_code 55 (.iconst 3) 1 56 := ⟨(by decide +kernel), rfl⟩
theorem iE2_56 : B1 method_2_code 56 (.if_icmp .le 17) 17 73 59 := ⟨(by decide +kernel), rfl, by decide, by decide⟩
theorem iE2_73 : I1 method_2_code 73 (.iconst 1) 1 74 := ⟨(by decide +kernel), rfl⟩
theorem iE2_74 : I1 method_2_code 74 (.ireturn) 1 75 := ⟨(by decide +kernel), rfl⟩
def ret_E2 (p1 : Int32) (p2 : Int32) (n_a0 : Nat) (f_a0 : Nat → Int32) : Int32 := (if (f_a0 1) = p2 then (if (f_a0 0) = (f_a0 (((p1 + (1 : Int32)) - (2 : Int32))).toNatClampNeg) then (1 : Int32) else (0 : Int32)) else (0 : Int32))
theorem efE2 (m : MethodId) (a0 : Addr) (p1 : Int32) (p2 : Int32) : entryFrame m #[(.ref a0), (.int p1), (.int p2), (.int (2 : Int32))] 5 = mkF m 0 #[.val (.ref a0), .val (.int p1), .val (.int p2), .val (.int (2 : Int32)), .unset] [] := by first | (simp [entryFrame, mkF, argsToLocals, Value.category]; done) | rfl
def QE2 (Z : State) (a0 : Addr) (p1 : Int32) (p2 : Int32) (n_a0 : Nat) (f_a0 : Nat → Int32) (h0 : Heap) (n0 : Nat) (v : Option Value) (h : Heap) : Prop := v = some (.int (ret_E2 p1 p2 n_a0 f_a0)) ∧ h = h0
set_option maxRecDepth 65536 in
set_option maxHeartbeats 40000000 in
theorem rmE2 (l : Launch) (Z : State) (aZ : Array Value) (hw : ∀ d ∈ tables_1, d.before aZ Z = true) (a0 : Addr) (p1 : Int32) (p2 : Int32) (n_a0 : Nat) (f_a0 : Nat → Int32) (h0 : Heap) (n0 : Nat) (Z0 : n0 ≤ h0.size) (hm : 1 ≤ p1.toInt ∧ p1.toInt ≤ 3) (hn : n_a0 = 4) (V_a0 : AV Z h0 a0 .int n_a0 (fun i => .int (f_a0 i))) :
    Ctr l Z (⟨"com/example/ends2/ends2/PrefixTableExtendPinLaw", "ends", "([IIII)Z"⟩ : MethodName) method_2_code 5 (some .boolean) ({ frames := 0, cells := 0, slots := 0, locals := 0 } : Room) #[(.ref a0), (.int p1), (.int p2), (.int (2 : Int32))] h0 n0 (QE2 Z a0 p1 p2 n_a0 f_a0 h0 n0) := by
  refine Ctr.of_go pn0 (fun m => efE2 m a0 p1 p2) ?_
  intro p e s m below meth c hnm C
  refine g_aloadN C iE2_0 rfl rfl ?_
  refine g_iloadN C iE2_1 rfl ?_
  refine g_iconst C (1 : Int32) iE2_2 rfl ?_
  refine g_isub C iE2_3 ?_
  refine g_iald C (.int (f_a0 1)) iE2_4 V_a0 (by subst hn; exact ⟨by decide, by decide⟩) rfl ?_
  refine g_iloadN C iE2_5 rfl ?_
  refine g_icmp_eq C iE2_6 (fun hc6_1 => ?_) (fun hc6_1 => ?_)
  · refine g_iloadN C iE2_11 rfl ?_
    refine g_iconst C (1 : Int32) iE2_12 rfl ?_
    refine g_iadd C iE2_13 ?_
    refine g_iloadN C iE2_14 rfl ?_
    refine g_isub C iE2_15 ?_
    refine g_istore C (Ls' := #[.val (.ref a0), .val (.int p1), .val (.int p2), .val (.int (2 : Int32)), .val (.int ((p1 + (1 : Int32)) - (2 : Int32)))]) iE2_16 rfl ?_
    refine g_iloadN C iE2_18 rfl ?_
    refine g_iconst C (1 : Int32) iE2_19 rfl ?_
    refine g_icmp_le C iE2_20 (fun _ => ?_) (fun q => absurd (by decide) q)
    refine g_aloadN C iE2_23 rfl rfl ?_
    refine g_iconst C (0 : Int32) iE2_24 rfl ?_
    refine g_iald C (.int (f_a0 0)) iE2_25 V_a0 (by subst hn; exact ⟨by decide, by decide⟩) rfl ?_
    refine g_aloadN C iE2_26 rfl rfl ?_
    refine g_iload C iE2_27 rfl ?_
    refine g_iald C (.int (f_a0 (((p1 + (1 : Int32)) - (2 : Int32))).toNatClampNeg)) iE2_29 V_a0 (by have q := (own_d p1 2 2 rfl ⟨by omega, hm.2⟩ (by decide)); subst hn; exact inb_int (by omega) (by omega)) rfl ?_
    refine g_icmp_eq C iE2_30 (fun hc30_1 => ?_) (fun hc30_1 => ?_)
    · refine g_iloadN C iE2_35 rfl ?_
      refine g_iconst C (2 : Int32) iE2_36 rfl ?_
      refine g_icmp_le C iE2_37 (fun q => absurd q (by decide)) (fun _ => ?_)
      refine g_iloadN C iE2_54 rfl ?_
      refine g_iconst C (3 : Int32) iE2_55 rfl ?_
      refine g_icmp_le C iE2_56 (fun q => absurd q (by decide)) (fun _ => ?_)
      refine g_iconst C (1 : Int32) iE2_73 rfl ?_
      have r0 : (ret_E2 p1 p2 n_a0 f_a0) = (1 : Int32) := by simp only [ret_E2, if_pos hc6_1, if_pos hc30_1]
      exact g_retNar C (t := .boolean) iE2_74 rfl (by simp) (by decide) (by decide) (show QE2 Z a0 p1 p2 n_a0 f_a0 h0 n0 _ _ from by unfold QE2; rw [r0]; exact ⟨rfl, rfl⟩)
    · refine g_iconst C (0 : Int32) iE2_33 rfl ?_
      have r0 : (ret_E2 p1 p2 n_a0 f_a0) = (0 : Int32) := by simp only [ret_E2, if_pos hc6_1, if_neg hc30_1]
      exact g_retNar C (t := .boolean) iE2_34 rfl (by simp) (by decide) (by decide) (show QE2 Z a0 p1 p2 n_a0 f_a0 h0 n0 _ _ from by unfold QE2; rw [r0]; exact ⟨rfl, rfl⟩)
  · refine g_iconst C (0 : Int32) iE2_9 rfl ?_
    have r0 : (ret_E2 p1 p2 n_a0 f_a0) = (0 : Int32) := by simp only [ret_E2, if_neg hc6_1]
    exact g_retNar C (t := .boolean) iE2_10 rfl (by simp) (by decide) (by decide) (show QE2 Z a0 p1 p2 n_a0 f_a0 h0 n0 _ _ from by unfold QE2; rw [r0]; exact ⟨rfl, rfl⟩)
theorem iE1_0 : I1 method_2_code 0 (.aload_n 0) 1 1 := ⟨(by decide +kernel), rfl⟩
theorem iE1_1 : I1 method_2_code 1 (.iload_n 3) 1 2 := ⟨(by decide +kernel), rfl⟩
theorem iE1_2 : I1 method_2_code 2 (.iconst 1) 1 3 := ⟨(by decide +kernel), rfl⟩
theorem iE1_3 : I1 method_2_code 3 (.isub) 1 4 := ⟨(by decide +kernel), rfl⟩
theorem iE1_4 : I1 method_2_code 4 (.iaload) 1 5 := ⟨(by decide +kernel), rfl⟩
theorem iE1_5 : I1 method_2_code 5 (.iload_n 2) 1 6 := ⟨(by decide +kernel), rfl⟩
theorem iE1_6 : B1 method_2_code 6 (.if_icmp .eq 5) 5 11 9 := ⟨(by decide +kernel), rfl, by decide, by decide⟩
theorem iE1_9 : I1 method_2_code 9 (.iconst 0) 1 10 := ⟨(by decide +kernel), rfl⟩
theorem iE1_10 : I1 method_2_code 10 (.ireturn) 1 11 := ⟨(by decide +kernel), rfl⟩
theorem iE1_11 : I1 method_2_code 11 (.iload_n 1) 1 12 := ⟨(by decide +kernel), rfl⟩
theorem iE1_12 : I1 method_2_code 12 (.iconst 1) 1 13 := ⟨(by decide +kernel), rfl⟩
theorem iE1_13 : I1 method_2_code 13 (.iadd) 1 14 := ⟨(by decide +kernel), rfl⟩
theorem iE1_14 : I1 method_2_code 14 (.iload_n 3) 1 15 := ⟨(by decide +kernel), rfl⟩
theorem iE1_15 : I1 method_2_code 15 (.isub) 1 16 := ⟨(by decide +kernel), rfl⟩
theorem iE1_16 : I1 method_2_code 16 (.istore 4) 2 18 := ⟨(by decide +kernel), rfl⟩
theorem iE1_18 : I1 method_2_code 18 (.iload_n 3) 1 19 := ⟨(by decide +kernel), rfl⟩
theorem iE1_19 : I1 method_2_code 19 (.iconst 1) 1 20 := ⟨(by decide +kernel), rfl⟩
theorem iE1_20 : B1 method_2_code 20 (.if_icmp .le 15) 15 35 23 := ⟨(by decide +kernel), rfl, by decide, by decide⟩
theorem iE1_35 : I1 method_2_code 35 (.iload_n 3) 1 36 := ⟨(by decide +kernel), rfl⟩
theorem iE1_36 : I1 method_2_code 36 (.iconst 2) 1 37 := ⟨(by decide +kernel), rfl⟩
theorem iE1_37 : B1 method_2_code 37 (.if_icmp .le 17) 17 54 40 := ⟨(by decide +kernel), rfl, by decide, by decide⟩
theorem iE1_54 : I1 method_2_code 54 (.iload_n 3) 1 55 := ⟨(by decide +kernel), rfl⟩
theorem iE1_55 : I1 method_2_code 55 (.iconst 3) 1 56 := ⟨(by decide +kernel), rfl⟩
theorem iE1_56 : B1 method_2_code 56 (.if_icmp .le 17) 17 73 59 := ⟨(by decide +kernel), rfl, by decide, by decide⟩
theorem iE1_73 : I1 method_2_code 73 (.iconst 1) 1 74 := ⟨(by decide +kernel), rfl⟩
theorem iE1_74 : I1 method_2_code 74 (.ireturn) 1 75 := ⟨(by decide +kernel), rfl⟩
def ret_E1 (p1 : Int32) (p2 : Int32) (n_a0 : Nat) (f_a0 : Nat → Int32) : Int32 := (if (f_a0 0) = p2 then (1 : Int32) else (0 : Int32))
theorem efE1 (m : MethodId) (a0 : Addr) (p1 : Int32) (p2 : Int32) : entryFrame m #[(.ref a0), (.int p1), (.int p2), (.int (1 : Int32))] 5 = mkF m 0 #[.val (.ref a0), .val (.int p1), .val (.int p2), .val (.int (1 : Int32)), .unset] [] := by first | (simp [entryFrame, mkF, argsToLocals, Value.category]; done) | rfl
def QE1 (Z : State) (a0 : Addr) (p1 : Int32) (p2 : Int32) (n_a0 : Nat) (f_a0 : Nat → Int32) (h0 : Heap) (n0 : Nat) (v : Option Value) (h : Heap) : Prop := v = some (.int (ret_E1 p1 p2 n_a0 f_a0)) ∧ h = h0
set_option maxRecDepth 65536 in
set_option maxHeartbeats 40000000 in
theorem rmE1 (l : Launch) (Z : State) (aZ : Array Value) (hw : ∀ d ∈ tables_1, d.before aZ Z = true) (a0 : Addr) (p1 : Int32) (p2 : Int32) (n_a0 : Nat) (f_a0 : Nat → Int32) (h0 : Heap) (n0 : Nat) (Z0 : n0 ≤ h0.size) (hm : 0 ≤ p1.toInt ∧ p1.toInt ≤ 3) (hn : n_a0 = 4) (V_a0 : AV Z h0 a0 .int n_a0 (fun i => .int (f_a0 i))) :
    Ctr l Z (⟨"com/example/ends2/ends2/PrefixTableExtendPinLaw", "ends", "([IIII)Z"⟩ : MethodName) method_2_code 5 (some .boolean) ({ frames := 0, cells := 0, slots := 0, locals := 0 } : Room) #[(.ref a0), (.int p1), (.int p2), (.int (1 : Int32))] h0 n0 (QE1 Z a0 p1 p2 n_a0 f_a0 h0 n0) := by
  refine Ctr.of_go pn0 (fun m => efE1 m a0 p1 p2) ?_
  intro p e s m below meth c hnm C
  refine g_aloadN C iE1_0 rfl rfl ?_
  refine g_iloadN C iE1_1 rfl ?_
  refine g_iconst C (1 : Int32) iE1_2 rfl ?_
  refine g_isub C iE1_3 ?_
  refine g_iald C (.int (f_a0 0)) iE1_4 V_a0 (by subst hn; exact ⟨by decide, by decide⟩) rfl ?_
  refine g_iloadN C iE1_5 rfl ?_
  refine g_icmp_eq C iE1_6 (fun hc6_1 => ?_) (fun hc6_1 => ?_)
  · refine g_iloadN C iE1_11 rfl ?_
    refine g_iconst C (1 : Int32) iE1_12 rfl ?_
    refine g_iadd C iE1_13 ?_
    refine g_iloadN C iE1_14 rfl ?_
    refine g_isub C iE1_15 ?_
    refine g_istore C (Ls' := #[.val (.ref a0), .val (.int p1), .val (.int p2), .val (.int (1 : Int32)), .val (.int ((p1 + (1 : Int32)) - (1 : Int32)))]) iE1_16 rfl ?_
    refine g_iloadN C iE1_18 rfl ?_
    refine g_iconst C (1 : Int32) iE1_19 rfl ?_
    refine g_icmp_le C iE1_20 (fun q => absurd q (by decide)) (fun _ => ?_)
    refine g_iloadN C iE1_35 rfl ?_
    refine g_iconst C (2 : Int32) iE1_36 rfl ?_
    refine g_icmp_le C iE1_37 (fun q => absurd q (by decide)) (fun _ => ?_)
    refine g_iloadN C iE1_54 rfl ?_
    refine g_iconst C (3 : Int32) iE1_55 rfl ?_
    refine g_icmp_le C iE1_56 (fun q => absurd q (by decide)) (fun _ => ?_)
    refine g_iconst C (1 : Int32) iE1_73 rfl ?_
    have r0 : (ret_E1 p1 p2 n_a0 f_a0) = (1 : Int32) := by simp only [ret_E1, if_pos hc6_1]
    exact g_retNar C (t := .boolean) iE1_74 rfl (by simp) (by decide) (by decide) (show QE1 Z a0 p1 p2 n_a0 f_a0 h0 n0 _ _ from by unfold QE1; rw [r0]; exact ⟨rfl, rfl⟩)
  · refine g_iconst C (0 : Int32) iE1_9 rfl ?_
    have r0 : (ret_E1 p1 p2 n_a0 f_a0) = (0 : Int32) := by simp only [ret_E1, if_neg hc6_1]
    exact g_retNar C (t := .boolean) iE1_10 rfl (by simp) (by decide) (by decide) (show QE1 Z a0 p1 p2 n_a0 f_a0 h0 n0 _ _ from by unfold QE1; rw [r0]; exact ⟨rfl, rfl⟩)
/-- the loop, in plain numbers -/
def extF : Nat → (Nat → Int32) → (Nat → Int32) → Nat → Int32 → Nat
  | 0, _, _, _, _ => 0
  | k + 1, u, t, len, un => if un = u len then len + 1 else if len = 0 then 0 else extF k u t (t (len - 1)).toNatClampNeg un
def QX (Z : State) (a0 a1 : Addr) (p2 p3 : Int32) (f_a0 f_a1 : Nat → Int32) (h0 : Heap) (n0 : Nat) (v : Option Value) (h : Heap) : Prop := v = some (.int (extF 5 f_a0 f_a1 p2.toNatClampNeg p3).toInt32) ∧ h = h0
theorem iX_18 : I1 prog_9_method_5_code 18 (.iload 5) 2 20 := ⟨(by decide +kernel), rfl⟩
theorem iX_20 : B1 prog_9_method_5_code 20 (.ifCond .ne 34) 34 54 23 := ⟨(by decide +kernel), rfl, by decide, by decide⟩
theorem iX_23 : I1 prog_9_method_5_code 23 (.iload 4) 2 25 := ⟨(by decide +kernel), rfl⟩
theorem iX_25 : B1 prog_9_method_5_code 25 (.ifCond .le 29) 29 54 28 := ⟨(by decide +kernel), rfl, by decide, by decide⟩
theorem iX_28 : I1 prog_9_method_5_code 28 (.aload_n 1) 1 29 := ⟨(by decide +kernel), rfl⟩
theorem iX_29 : I1 prog_9_method_5_code 29 (.iload 4) 2 31 := ⟨(by decide +kernel), rfl⟩
theorem iX_31 : I1 prog_9_method_5_code 31 (.iconst 1) 1 32 := ⟨(by decide +kernel), rfl⟩
theorem iX_32 : I1 prog_9_method_5_code 32 (.isub) 1 33 := ⟨(by decide +kernel), rfl⟩
theorem iX_33 : I1 prog_9_method_5_code 33 (.iaload) 1 34 := ⟨(by decide +kernel), rfl⟩
theorem iX_34 : I1 prog_9_method_5_code 34 (.istore 4) 2 36 := ⟨(by decide +kernel), rfl⟩
theorem iX_36 : I1 prog_9_method_5_code 36 (.iload_n 3) 1 37 := ⟨(by decide +kernel), rfl⟩
theorem iX_37 : I1 prog_9_method_5_code 37 (.aload_n 0) 1 38 := ⟨(by decide +kernel), rfl⟩
theorem iX_38 : I1 prog_9_method_5_code 38 (.iload 4) 2 40 := ⟨(by decide +kernel), rfl⟩
theorem iX_40 : I1 prog_9_method_5_code 40 (.iaload) 1 41 := ⟨(by decide +kernel), rfl⟩
theorem iX_41 : B1 prog_9_method_5_code 41 (.if_icmp .ne 7) 7 48 44 := ⟨(by decide +kernel), rfl, by decide, by decide⟩
theorem iX_44 : I1 prog_9_method_5_code 44 (.iconst 1) 1 45 := ⟨(by decide +kernel), rfl⟩
theorem iX_45 : B1 prog_9_method_5_code 45 (.goto 4) 4 49 48 := ⟨(by decide +kernel), rfl, by decide, by decide⟩
theorem iX_48 : I1 prog_9_method_5_code 48 (.iconst 0) 1 49 := ⟨(by decide +kernel), rfl⟩
theorem iX_49 : I1 prog_9_method_5_code 49 (.istore 5) 2 51 := ⟨(by decide +kernel), rfl⟩
theorem iX_51 : B1 prog_9_method_5_code 51 (.goto (-33)) (-33) 18 54 := ⟨(by decide +kernel), rfl, by decide, by decide⟩
theorem iX_54 : I1 prog_9_method_5_code 54 (.iload 5) 2 56 := ⟨(by decide +kernel), rfl⟩
theorem iX_56 : B1 prog_9_method_5_code 56 (.ifCond .eq 10) 10 66 59 := ⟨(by decide +kernel), rfl, by decide, by decide⟩
theorem iX_59 : I1 prog_9_method_5_code 59 (.iload 4) 2 61 := ⟨(by decide +kernel), rfl⟩
theorem iX_61 : I1 prog_9_method_5_code 61 (.iconst 1) 1 62 := ⟨(by decide +kernel), rfl⟩
theorem iX_62 : I1 prog_9_method_5_code 62 (.iadd) 1 63 := ⟨(by decide +kernel), rfl⟩
theorem iX_63 : B1 prog_9_method_5_code 63 (.goto 4) 4 67 66 := ⟨(by decide +kernel), rfl, by decide, by decide⟩
theorem iX_66 : I1 prog_9_method_5_code 66 (.iconst 0) 1 67 := ⟨(by decide +kernel), rfl⟩
theorem iX_67 : I1 prog_9_method_5_code 67 (.ireturn) 1 68 := ⟨(by decide +kernel), rfl⟩
set_option maxRecDepth 65536 in
set_option maxHeartbeats 40000000 in
theorem loopX (l : Launch) (Z : State) (a0 a1 : Addr) (p2 un : Int32) (u t : Nat → Int32) (h0 : Heap) (n0 : Nat) (V0 : AV Z h0 a0 .int 4 (fun i => .int (u i))) (V1 : AV Z h0 a1 .int 4 (fun i => .int (t i))) (ht : ∀ i : Nat, i < 4 → 0 ≤ (t i).toInt ∧ (t i).toInt ≤ i)
    {p : Program} {e : Env} {s : State} {m : MethodId} {below : List Frame} {meth : Method} {c : Code} (C : Cx p s m meth c Z prog_9_method_5_code 6 "com/example/ends2/ends2/PrefixTable" (some .int)) :
    ∀ (k len : Nat), len < k → len < 4 → Go p l e ({ frames := 0, cells := 0, slots := 0, locals := 0 } : Room) s m #[(.ref a0), (.ref a1), (.int p2), (.int un)] below meth c n0 0 0 (fun v h => v = some (.int (extF k u t len un).toInt32) ∧ h = h0) h0 0 0 (mkF m 18 #[.val (.ref a0), .val (.ref a1), .val (.int p2), .val (.int un), .val (.int len.toInt32), .val (.int (if un = (u len) then (1 : Int32) else (0 : Int32)))] []) := by
  intro k
  induction k with
  | zero => intro len hk; exact absurd hk (Nat.not_lt_zero _)
  | succ k ih =>
    intro len hk hl
    have hl0 : len < 2147483648 := by omega
    refine g_iload C iX_18 rfl ?_
    refine g_if_ne C iX_20 (fun hc20_1 => ?_) (fun hc20_1 => ?_)
    · refine g_iload C iX_23 rfl ?_
      refine g_if_le C iX_25 (fun hc25_1 => ?_) (fun hc25_1 => ?_)
      · have hp : 0 < len := by rw [Int32.lt_iff_toInt_lt, own_nat hl0] at hc25_1; exact Int.ofNat_lt.mp hc25_1
        have ht0 := ht (len - 1) (by omega)
        have htn : ¬ (t (len - 1) < 0) := by rw [Int32.lt_iff_toInt_lt]; have e0 : (0 : Int32).toInt = 0 := rfl; omega
        have htl : (t (len - 1)).toNatClampNeg ≤ len - 1 := by simp only [Int32.toNatClampNeg]; omega
        refine g_aloadN C iX_28 rfl rfl ?_
        refine g_iload C iX_29 rfl ?_
        refine g_iconst C (1 : Int32) iX_31 rfl ?_
        refine g_isub C iX_32 ?_
        refine g_iald C (.int (t (len - 1))) iX_33 V1 (by rw [own_pred hp hl0]; exact own_inN (by omega) (by omega)) (by rw [own_pred hp hl0]; exact own_rd (fun i => Value.int (t i)) (by omega)) ?_
        refine g_istore C (Ls' := #[.val (.ref a0), .val (.ref a1), .val (.int p2), .val (.int un), .val (.int (t (len - 1))), .val (.int (if un = (u len) then (1 : Int32) else (0 : Int32)))]) iX_34 rfl ?_
        refine g_iloadN C iX_36 rfl ?_
        refine g_aloadN C iX_37 rfl rfl ?_
        refine g_iload C iX_38 rfl ?_
        refine g_iald C (.int (u (t (len - 1)).toNatClampNeg)) iX_40 V0 ⟨htn, by omega⟩ rfl ?_
        refine Go.join (mkF m 49 #[.val (.ref a0), .val (.ref a1), .val (.int p2), .val (.int un), .val (.int (t (len - 1))), .val (.int (if un = (u len) then (1 : Int32) else (0 : Int32)))] [(.int (if un = (u (t (len - 1)).toNatClampNeg) then (1 : Int32) else (0 : Int32)))]) ?_ (fun J => ?_)
        · refine g_istore C (Ls' := #[.val (.ref a0), .val (.ref a1), .val (.int p2), .val (.int un), .val (.int (t (len - 1))), .val (.int (if un = (u (t (len - 1)).toNatClampNeg) then (1 : Int32) else (0 : Int32)))]) iX_49 rfl ?_
          refine g_goto C iX_51 ?_
          have hne : ¬ (un = u len) := fun q => absurd ((if_pos q).symm.trans hc20_1) (by decide)
          have e : extF (k + 1) u t len un = extF k u t (t (len - 1)).toNatClampNeg un := by simp only [extF, if_neg hne, if_neg (Nat.ne_of_gt hp)]
          rw [e]
          exact Go.cast (ih (t (len - 1)).toNatClampNeg (by omega) (by omega)) (by rw [(back32 htn).1])
        · refine g_icmp_ne C iX_41 (fun hc41_1 => ?_) (fun hc41_1 => ?_)
          · refine g_iconst C (1 : Int32) iX_44 rfl ?_
            refine g_goto C iX_45 ?_
            have e0 : (if un = (u (t (len - 1)).toNatClampNeg) then (1 : Int32) else (0 : Int32)) = (1 : Int32) := by simp only [if_pos hc41_1]
            exact Go.cast J (by rw [e0])
          · refine g_iconst C (0 : Int32) iX_48 rfl ?_
            have e0 : (if un = (u (t (len - 1)).toNatClampNeg) then (1 : Int32) else (0 : Int32)) = (0 : Int32) := by simp only [if_neg hc41_1]
            exact Go.cast J (by rw [e0])
      · refine g_iload C iX_54 rfl ?_
        refine g_if_eq C iX_56 (fun _ => ?_) (fun q => absurd hc20_1 q)
        refine g_iconst C (0 : Int32) iX_66 rfl ?_
        have hne : ¬ (un = u len) := fun q => absurd ((if_pos q).symm.trans hc20_1) (by decide)
        have hz : len = 0 := Nat.eq_zero_of_not_pos fun q => hc25_1 (by rw [Int32.lt_iff_toInt_lt, own_nat hl0]; exact Int.ofNat_lt.mpr q)
        have e : extF (k + 1) u t len un = 0 := by simp only [extF, if_neg hne, if_pos hz]
        rw [e]
        exact g_retInt C iX_67 rfl (by decide) (by decide) ⟨rfl, rfl⟩
    · refine g_iload C iX_54 rfl ?_
      refine g_if_eq C iX_56 (fun q => absurd q hc20_1) (fun _ => ?_)
      refine g_iload C iX_59 rfl ?_
      refine g_iconst C (1 : Int32) iX_61 rfl ?_
      refine g_iadd C iX_62 ?_
      refine g_goto C iX_63 ?_
      have hy : un = u len := Classical.byContradiction fun q => hc20_1 (if_neg q)
      have e : extF (k + 1) u t len un = len + 1 := by simp only [extF, if_pos hy]
      rw [e]
      exact g_retInt C iX_67 rfl (by decide) (by decide) ⟨by rw [own_succ (by omega)], rfl⟩
theorem iX_0 : I1 prog_9_method_5_code 0 (.iload_n 2) 1 1 := ⟨(by decide +kernel), rfl⟩
theorem iX_1 : I1 prog_9_method_5_code 1 (.istore 4) 2 3 := ⟨(by decide +kernel), rfl⟩
theorem iX_3 : I1 prog_9_method_5_code 3 (.iload_n 3) 1 4 := ⟨(by decide +kernel), rfl⟩
theorem iX_4 : I1 prog_9_method_5_code 4 (.aload_n 0) 1 5 := ⟨(by decide +kernel), rfl⟩
theorem iX_5 : I1 prog_9_method_5_code 5 (.iload 4) 2 7 := ⟨(by decide +kernel), rfl⟩
theorem iX_7 : I1 prog_9_method_5_code 7 (.iaload) 1 8 := ⟨(by decide +kernel), rfl⟩
theorem iX_8 : B1 prog_9_method_5_code 8 (.if_icmp .ne 7) 7 15 11 := ⟨(by decide +kernel), rfl, by decide, by decide⟩
theorem iX_11 : I1 prog_9_method_5_code 11 (.iconst 1) 1 12 := ⟨(by decide +kernel), rfl⟩
theorem iX_12 : B1 prog_9_method_5_code 12 (.goto 4) 4 16 15 := ⟨(by decide +kernel), rfl, by decide, by decide⟩
theorem iX_15 : I1 prog_9_method_5_code 15 (.iconst 0) 1 16 := ⟨(by decide +kernel), rfl⟩
theorem iX_16 : I1 prog_9_method_5_code 16 (.istore 5) 2 18 := ⟨(by decide +kernel), rfl⟩
theorem pn1 : plainFor (⟨"com/example/ends2/ends2/PrefixTable", "extend", "([I[III)I"⟩ : MethodName) = true := by decide +kernel
theorem efX (m : MethodId) (a0 a1 : Addr) (p2 p3 : Int32) : entryFrame m #[(.ref a0), (.ref a1), (.int p2), (.int p3)] 6 = mkF m 0 #[.val (.ref a0), .val (.ref a1), .val (.int p2), .val (.int p3), .unset, .unset] [] := by first | (simp [entryFrame, mkF, argsToLocals, Value.category]; done) | rfl
set_option maxRecDepth 65536 in
set_option maxHeartbeats 40000000 in
theorem rmX (l : Launch) (Z : State) (aZ : Array Value) (hw : ∀ d ∈ tables_1, d.before aZ Z = true) (a0 a1 : Addr) (p2 p3 : Int32) (f_a0 f_a1 : Nat → Int32) (h0 : Heap) (n0 : Nat) (Z0 : n0 ≤ h0.size) (hp0 : ¬ (p2 < 0)) (hp2 : p2.toNatClampNeg < 4) (ht : ∀ i : Nat, i < 4 → 0 ≤ (f_a1 i).toInt ∧ (f_a1 i).toInt ≤ i) (V_a0 : AV Z h0 a0 .int 4 (fun i => .int (f_a0 i))) (V_a1 : AV Z h0 a1 .int 4 (fun i => .int (f_a1 i))) :
    Ctr l Z (⟨"com/example/ends2/ends2/PrefixTable", "extend", "([I[III)I"⟩ : MethodName) prog_9_method_5_code 6 (some .int) ({ frames := 0, cells := 0, slots := 0, locals := 0 } : Room) #[(.ref a0), (.ref a1), (.int p2), (.int p3)] h0 n0 (QX Z a0 a1 p2 p3 f_a0 f_a1 h0 n0) := by
  refine Ctr.of_go pn1 (fun m => efX m a0 a1 p2 p3) ?_
  intro p e s m below meth c hnm C
  refine g_iloadN C iX_0 rfl ?_
  refine g_istore C (Ls' := #[.val (.ref a0), .val (.ref a1), .val (.int p2), .val (.int p3), .val (.int p2), .unset]) iX_1 rfl ?_
  refine g_iloadN C iX_3 rfl ?_
  refine g_aloadN C iX_4 rfl rfl ?_
  refine g_iload C iX_5 rfl ?_
  refine g_iald C (.int (f_a0 p2.toNatClampNeg)) iX_7 V_a0 ⟨hp0, hp2⟩ rfl ?_
  refine Go.join (mkF m 16 #[.val (.ref a0), .val (.ref a1), .val (.int p2), .val (.int p3), .val (.int p2), .unset] [(.int (if p3 = (f_a0 p2.toNatClampNeg) then (1 : Int32) else (0 : Int32)))]) ?_ (fun J => ?_)
  · refine g_istore C (Ls' := #[.val (.ref a0), .val (.ref a1), .val (.int p2), .val (.int p3), .val (.int p2), .val (.int (if p3 = (f_a0 p2.toNatClampNeg) then (1 : Int32) else (0 : Int32)))]) iX_16 rfl ?_
    exact Go.cast (loopX l Z a0 a1 p2 p3 f_a0 f_a1 h0 n0 V_a0 V_a1 ht C 5 p2.toNatClampNeg (by omega) hp2) (by rw [(back32 hp0).1])
  · refine g_icmp_ne C iX_8 (fun hc8_1 => ?_) (fun hc8_1 => ?_)
    · refine g_iconst C (1 : Int32) iX_11 rfl ?_
      refine g_goto C iX_12 ?_
      have e0 : (if p3 = (f_a0 p2.toNatClampNeg) then (1 : Int32) else (0 : Int32)) = (1 : Int32) := by simp only [if_pos hc8_1]
      exact Go.cast J (by rw [e0])
    · refine g_iconst C (0 : Int32) iX_15 rfl ?_
      have e0 : (if p3 = (f_a0 p2.toNatClampNeg) then (1 : Int32) else (0 : Int32)) = (0 : Int32) := by simp only [if_neg hc8_1]
      exact Go.cast J (by rw [e0])
theorem own_m3 (x : Int32) : 0 ≤ (x &&& (3 : Int32)).toInt ∧ (x &&& (3 : Int32)).toInt ≤ 3 := c_and x 3 (by decide)
theorem own_m3a (x : Int32) : ¬ ((x &&& (3 : Int32)) < 0) := by have h := own_m3 x; rw [Int32.lt_iff_toInt_lt]; have e0 : (0 : Int32).toInt = 0 := rfl; omega
theorem own_m3b (x : Int32) : (x &&& (3 : Int32)).toNatClampNeg < 4 := by have h := own_m3 x; simp only [Int32.toNatClampNeg]; omega
theorem own_ge {x : Int32} (k : Int32) (kk : Int) (hk : k.toInt = kk) (h : ¬ ((x &&& (3 : Int32)) < k)) : kk ≤ (x &&& (3 : Int32)).toInt ∧ (x &&& (3 : Int32)).toInt ≤ 3 := by
  rw [Int32.lt_iff_toInt_lt, hk] at h; have := own_m3 x; omega
theorem own_ht (x1 x2 : Int32) (h1 : 0 ≤ x1.toInt ∧ x1.toInt ≤ 1) (h2 : 0 ≤ x2.toInt ∧ x2.toInt ≤ 2) : ∀ i : Nat, i < 4 → 0 ≤ ((fun i => (if i = 3 then (0 : Int32) else (if i = 2 then x2 else (if i = 1 then x1 else (if i = 0 then (0 : Int32) else (0 : Int32)))))) i).toInt ∧ ((fun i => (if i = 3 then (0 : Int32) else (if i = 2 then x2 else (if i = 1 then x1 else (if i = 0 then (0 : Int32) else (0 : Int32)))))) i).toInt ≤ i := by
  intro i hi
  rcases (by omega : i = 0 ∨ i = 1 ∨ i = 2 ∨ i = 3) with rfl | rfl | rfl | rfl
  · simp
  · simpa using h1
  · simpa using h2
  · simp
theorem own_m4 (m : Int32) (h : 0 ≤ m.toInt ∧ m.toInt ≤ 3) : m = 0 ∨ m = 1 ∨ m = 2 ∨ m = 3 := by
  rcases (by omega : m.toInt = 0 ∨ m.toInt = 1 ∨ m.toInt = 2 ∨ m.toInt = 3) with q | q | q | q
  · exact Or.inl (Int32.toInt_inj.mp q)
  · exact Or.inr (Or.inl (Int32.toInt_inj.mp q))
  · exact Or.inr (Or.inr (Or.inl (Int32.toInt_inj.mp q)))
  · exact Or.inr (Or.inr (Or.inr (Int32.toInt_inj.mp q)))
def own_T0 (m x : Int32) (U : Nat → Int32) : Int32 := if (ret_E1 m x 4 U) = (0 : Int32) then (0 : Int32) else (1 : Int32)
def own_T1 (m x : Int32) (U : Nat → Int32) : Int32 := if m < (1 : Int32) then own_T0 m x U else (if (ret_E2 m x 4 U) = (0 : Int32) then own_T0 m x U else (2 : Int32))
def own_T2 (m x : Int32) (U : Nat → Int32) : Int32 := if m < (2 : Int32) then own_T1 m x U else (if (ret_E3 m x 4 U) = (0 : Int32) then own_T1 m x U else (3 : Int32))
def own_T3 (m x : Int32) (U : Nat → Int32) : Int32 := if m < (3 : Int32) then own_T2 m x U else (if (ret_E4 m x 4 U) = (0 : Int32) then own_T2 m x U else (4 : Int32))
theorem own_ite {P : Prop} [Decidable P] {y z : Int32} : (if (if P then (1 : Int32) else (0 : Int32)) = (0 : Int32) then y else z) = if P then z else y := by
  by_cases h : P
  · rw [if_pos h, if_pos h, if_neg (by decide)]
  · rw [if_neg h, if_neg h, if_pos rfl]
theorem own_E1 (m x : Int32) (U : Nat → Int32) : ret_E1 m x 4 U = if x = U 0 then 1 else 0 := by simp only [ret_E1, @eq_comm _ (U 0) x]
theorem own_E2 (m x : Int32) (U : Nat → Int32) (j : Nat) (h : ((m + (1 : Int32)) - (2 : Int32)).toNatClampNeg = j) : ret_E2 m x 4 U = if (x = U 1 ∧ U 0 = U j) then 1 else 0 := by
  subst h; simp only [ret_E2]; simp only [@eq_comm _ (U 1) x]; by_cases h1 : x = U 1 <;> by_cases h2 : U 0 = U ((m + (1 : Int32)) - (2 : Int32)).toNatClampNeg <;> simp [h1, h2]
theorem own_E3 (m x : Int32) (U : Nat → Int32) (j k : Nat) (h : ((m + (1 : Int32)) - (3 : Int32)).toNatClampNeg = j) (hk : (((m + (1 : Int32)) - (3 : Int32)) + (1 : Int32)).toNatClampNeg = k) : ret_E3 m x 4 U = if (x = U 2 ∧ U 0 = U j ∧ U 1 = U k) then 1 else 0 := by
  subst h hk; simp only [ret_E3]; simp only [@eq_comm _ (U 2) x]; by_cases h1 : x = U 2 <;> by_cases h2 : U 0 = U ((m + (1 : Int32)) - (3 : Int32)).toNatClampNeg <;> by_cases h3 : U 1 = U (((m + (1 : Int32)) - (3 : Int32)) + (1 : Int32)).toNatClampNeg <;> simp [h1, h2, h3]
theorem own_E4 (x : Int32) (U : Nat → Int32) : ret_E4 3 x 4 U = if x = U 3 then 1 else 0 := by
  have e0 : (((3 : Int32) + (1 : Int32)) - (4 : Int32)).toNatClampNeg = 0 := by decide
  have e1 : ((((3 : Int32) + (1 : Int32)) - (4 : Int32)) + (1 : Int32)).toNatClampNeg = 1 := by decide
  have e2 : ((((3 : Int32) + (1 : Int32)) - (4 : Int32)) + (2 : Int32)).toNatClampNeg = 2 := by decide
  simp only [ret_E4, e0, e1, e2, if_true, @eq_comm _ (U 3) x]
/-- the law of the matching step, for four units a b c d, matched m, the next unit x -/
theorem own_kmp (m x a b c d t2 : Int32) (hm : m = 0 ∨ m = 1 ∨ m = 2 ∨ m = 3) (U T : Nat → Int32) (u0 : U 0 = a) (u1 : U 1 = b) (u2 : U 2 = c) (u3 : U 3 = d) (t0 : T 0 = 0) (t1 : T 1 = if a = b then 1 else 0) (tt : T 2 = t2)
    (h2 : t2 = if a = b then (if b = c then 2 else (if a = c then 1 else 0)) else (if a = c then 1 else 0)) : (extF 5 U T m.toNatClampNeg x).toInt32 = own_T3 m x U := by
  have i0 : (0 : Nat).toInt32 = 0 := rfl
  have i1 : (1 : Nat).toInt32 = 1 := rfl
  have i2 : (2 : Nat).toInt32 = 2 := rfl
  have i3 : (3 : Nat).toInt32 = 3 := rfl
  have i4 : (4 : Nat).toInt32 = 4 := rfl
  have n0 : (0 : Int32).toNatClampNeg = 0 := by decide
  have n1 : (1 : Int32).toNatClampNeg = 1 := by decide
  have n2 : (2 : Int32).toNatClampNeg = 2 := by decide
  have n3 : (3 : Int32).toNatClampNeg = 3 := by decide
  rcases hm with rfl | rfl | rfl | rfl
  · have e : own_T3 0 x U = own_T0 0 x U := by simp [own_T3, own_T2, own_T1]
    rw [e, own_T0, own_E1, own_ite, n0, u0]
    by_cases g0 : x = a
    · simp [extF, i0, i1, i2, i3, i4, u0, g0]
    · simp [extF, i0, i1, i2, i3, i4, u0, g0]
  · have e : own_T3 1 x U = own_T1 1 x U := by simp [own_T3, own_T2]
    have e' : own_T1 1 x U = if (ret_E2 1 x 4 U) = (0 : Int32) then own_T0 1 x U else (2 : Int32) := by simp [own_T1]
    rw [e, e', own_E2 1 x U 0 (by decide), own_ite, own_T0, own_E1, own_ite, n1, u0, u1]
    by_cases g1 : x = b
    · simp [extF, i0, i1, i2, i3, i4, u1, g1]
    · by_cases g0 : x = a
      · subst g0; simp [extF, i0, i1, i2, i3, i4, u0, u1, g1, t0, n0]
      · simp [extF, i0, i1, i2, i3, i4, u0, u1, g1, t0, n0, g0]
  · have e : own_T3 2 x U = own_T2 2 x U := by simp [own_T3]
    have e' : own_T2 2 x U = if (ret_E3 2 x 4 U) = (0 : Int32) then own_T1 2 x U else (3 : Int32) := by simp [own_T2]
    have e2 : own_T1 2 x U = if (ret_E2 2 x 4 U) = (0 : Int32) then own_T0 2 x U else (2 : Int32) := by simp [own_T1]
    rw [e, e', own_E3 2 x U 0 1 (by decide) (by decide), own_ite, e2, own_E2 2 x U 1 (by decide), own_ite, own_T0, own_E1, own_ite, n2, u0, u1, u2]
    by_cases h1 : a = b
    · subst h1
      rw [if_pos rfl] at t1
      by_cases g2 : x = c <;> by_cases g1 : x = a <;> simp [extF, i0, i1, i2, i3, i4, u0, u1, u2, t0, t1, n0, n1, g2, g1] <;> (try subst g1) <;> simp_all
    · rw [if_neg h1] at t1
      by_cases g2 : x = c <;> by_cases g0 : x = a <;> simp [extF, i0, i1, i2, i3, i4, u0, u1, u2, t0, t1, n0, n1, g2, g0, h1] <;> simp_all
  · have e : own_T3 3 x U = if (ret_E4 3 x 4 U) = (0 : Int32) then own_T2 3 x U else (4 : Int32) := by simp [own_T3]
    have e' : own_T2 3 x U = if (ret_E3 3 x 4 U) = (0 : Int32) then own_T1 3 x U else (3 : Int32) := by simp [own_T2]
    have e2 : own_T1 3 x U = if (ret_E2 3 x 4 U) = (0 : Int32) then own_T0 3 x U else (2 : Int32) := by simp [own_T1]
    rw [e, own_E4, own_ite, e', own_E3 3 x U 1 2 (by decide) (by decide), own_ite, e2, own_E2 3 x U 2 (by decide), own_ite, own_T0, own_E1, own_ite, n3, u0, u1, u2, u3]
    by_cases g3 : x = d
    · simp [extF, i0, i1, i2, i3, i4, u3, g3]
    · by_cases h1 : a = b
      · subst h1
        rw [if_pos rfl] at t1 h2
        by_cases k2 : a = c
        · subst k2
          rw [if_pos rfl] at h2; subst h2
          by_cases g0 : x = a <;> simp [extF, i0, i1, i2, i3, i4, u0, u1, u2, u3, t0, t1, tt, n0, n1, n2, g3, g0] <;> simp_all
        · rw [if_neg k2, if_neg k2] at h2; subst h2
          by_cases g0 : x = a <;> simp [extF, i0, i1, i2, i3, i4, u0, u1, u2, u3, t0, t1, tt, n0, n1, n2, g3, g0, k2] <;> simp_all
      · rw [if_neg h1] at t1 h2
        by_cases k2 : a = c
        · subst k2
          rw [if_pos rfl] at h2; subst h2
          by_cases g1 : x = b <;> by_cases g0 : x = a <;> simp [extF, i0, i1, i2, i3, i4, u0, u1, u2, u3, t0, t1, tt, n0, n1, n2, g3, g0, g1, h1] <;> simp_all
        · rw [if_neg k2] at h2; subst h2
          by_cases g0 : x = a <;> simp [extF, i0, i1, i2, i3, i4, u0, u1, u2, u3, t0, t1, tt, n0, n1, n2, g3, g0, k2, h1] <;> simp_all
theorem pd0 : parseMethodDescriptor "([IIII)Z" = some ⟨[(.array .int), .int, .int, .int], some .boolean⟩ := by decide +kernel
theorem pd1 : parseMethodDescriptor "([I[III)I" = some ⟨[(.array .int), (.array .int), .int, .int], some .int⟩ := by decide +kernel
theorem pn2 : plainFor (⟨"com/example/ends2/ends2/PrefixTableExtendPinLaw", "law", "(IIII)Z"⟩ : MethodName) = true := by decide +kernel
theorem iM_0 : I1 code 0 (.iconst 4) 1 1 := ⟨at_0, rfl⟩
theorem iM_1 : I1 code 1 (.newarray .int) 2 3 := ⟨at_1, rfl⟩
theorem iM_3 : I1 code 3 (.astore 4) 2 5 := ⟨at_3, rfl⟩
theorem iM_5 : I1 code 5 (.aload 4) 2 7 := ⟨at_5, rfl⟩
theorem iM_7 : I1 code 7 (.iconst 0) 1 8 := ⟨at_7, rfl⟩
theorem iM_8 : I1 code 8 (.iload_n 0) 1 9 := ⟨at_8, rfl⟩
theorem iM_9 : I1 code 9 (.iload_n 1) 1 10 := ⟨at_9, rfl⟩
theorem iM_10 : I1 code 10 (.iconst 3) 1 11 := ⟨at_10, rfl⟩
theorem iM_11 : I1 code 11 (.iand) 1 12 := ⟨at_11, rfl⟩
theorem iM_12 : I1 code 12 (.iadd) 1 13 := ⟨at_12, rfl⟩
theorem iM_13 : I1 code 13 (.iastore) 1 14 := ⟨at_13, rfl⟩
theorem iM_14 : I1 code 14 (.aload 4) 2 16 := ⟨at_14, rfl⟩
theorem iM_16 : I1 code 16 (.iconst 1) 1 17 := ⟨at_16, rfl⟩
theorem iM_17 : I1 code 17 (.iload_n 0) 1 18 := ⟨at_17, rfl⟩
theorem iM_18 : I1 code 18 (.iload_n 1) 1 19 := ⟨at_18, rfl⟩
theorem iM_19 : I1 code 19 (.iconst 2) 1 20 := ⟨at_19, rfl⟩
theorem iM_20 : I1 code 20 (.iushr) 1 21 := ⟨at_20, rfl⟩
theorem iM_21 : I1 code 21 (.iconst 3) 1 22 := ⟨at_21, rfl⟩
theorem iM_22 : I1 code 22 (.iand) 1 23 := ⟨at_22, rfl⟩
theorem iM_23 : I1 code 23 (.iadd) 1 24 := ⟨at_23, rfl⟩
theorem iM_24 : I1 code 24 (.iastore) 1 25 := ⟨at_24, rfl⟩
theorem iM_25 : I1 code 25 (.aload 4) 2 27 := ⟨at_25, rfl⟩
theorem iM_27 : I1 code 27 (.iconst 2) 1 28 := ⟨at_27, rfl⟩
theorem iM_28 : I1 code 28 (.iload_n 0) 1 29 := ⟨at_28, rfl⟩
theorem iM_29 : I1 code 29 (.iload_n 1) 1 30 := ⟨at_29, rfl⟩
theorem iM_30 : I1 code 30 (.iconst 4) 1 31 := ⟨at_30, rfl⟩
theorem iM_31 : I1 code 31 (.iushr) 1 32 := ⟨at_31, rfl⟩
theorem iM_32 : I1 code 32 (.iconst 3) 1 33 := ⟨at_32, rfl⟩
theorem iM_33 : I1 code 33 (.iand) 1 34 := ⟨at_33, rfl⟩
theorem iM_34 : I1 code 34 (.iadd) 1 35 := ⟨at_34, rfl⟩
theorem iM_35 : I1 code 35 (.iastore) 1 36 := ⟨at_35, rfl⟩
theorem iM_36 : I1 code 36 (.aload 4) 2 38 := ⟨at_36, rfl⟩
theorem iM_38 : I1 code 38 (.iconst 3) 1 39 := ⟨at_38, rfl⟩
theorem iM_39 : I1 code 39 (.iload_n 0) 1 40 := ⟨at_39, rfl⟩
theorem iM_40 : I1 code 40 (.iload_n 1) 1 41 := ⟨at_40, rfl⟩
theorem iM_41 : I1 code 41 (.bipush 6) 2 43 := ⟨at_41, rfl⟩
theorem iM_43 : I1 code 43 (.iushr) 1 44 := ⟨at_43, rfl⟩
theorem iM_44 : I1 code 44 (.iconst 3) 1 45 := ⟨at_44, rfl⟩
theorem iM_45 : I1 code 45 (.iand) 1 46 := ⟨at_45, rfl⟩
theorem iM_46 : I1 code 46 (.iadd) 1 47 := ⟨at_46, rfl⟩
theorem iM_47 : I1 code 47 (.iastore) 1 48 := ⟨at_47, rfl⟩
theorem iM_48 : I1 code 48 (.iconst 4) 1 49 := ⟨at_48, rfl⟩
theorem iM_49 : I1 code 49 (.newarray .int) 2 51 := ⟨at_49, rfl⟩
theorem iM_51 : I1 code 51 (.astore 5) 2 53 := ⟨at_51, rfl⟩
theorem iM_53 : I1 code 53 (.aload 5) 2 55 := ⟨at_53, rfl⟩
theorem iM_55 : I1 code 55 (.iconst 0) 1 56 := ⟨at_55, rfl⟩
theorem iM_56 : I1 code 56 (.iconst 0) 1 57 := ⟨at_56, rfl⟩
theorem iM_57 : I1 code 57 (.iastore) 1 58 := ⟨at_57, rfl⟩
theorem iM_58 : I1 code 58 (.aload 5) 2 60 := ⟨at_58, rfl⟩
theorem iM_60 : I1 code 60 (.iconst 1) 1 61 := ⟨at_60, rfl⟩
theorem iM_61 : I1 code 61 (.aload 4) 2 63 := ⟨at_61, rfl⟩
theorem iM_63 : I1 code 63 (.iconst 0) 1 64 := ⟨at_63, rfl⟩
theorem iM_64 : I1 code 64 (.iaload) 1 65 := ⟨at_64, rfl⟩
theorem iM_65 : I1 code 65 (.aload 4) 2 67 := ⟨at_65, rfl⟩
theorem iM_67 : I1 code 67 (.iconst 1) 1 68 := ⟨at_67, rfl⟩
theorem iM_68 : I1 code 68 (.iaload) 1 69 := ⟨at_68, rfl⟩
theorem iM_69 : B1 code 69 (.if_icmp .ne 7) 7 76 72 := ⟨at_69, rfl, by decide, by decide⟩
theorem iM_72 : I1 code 72 (.iconst 1) 1 73 := ⟨at_72, rfl⟩
theorem iM_73 : B1 code 73 (.goto 4) 4 77 76 := ⟨at_73, rfl, by decide, by decide⟩
theorem iM_76 : I1 code 76 (.iconst 0) 1 77 := ⟨at_76, rfl⟩
theorem iM_77 : I1 code 77 (.iastore) 1 78 := ⟨at_77, rfl⟩
theorem iM_78 : I1 code 78 (.aload 4) 2 80 := ⟨at_78, rfl⟩
theorem iM_80 : I1 code 80 (.iconst 0) 1 81 := ⟨at_80, rfl⟩
theorem iM_81 : I1 code 81 (.iaload) 1 82 := ⟨at_81, rfl⟩
theorem iM_82 : I1 code 82 (.aload 4) 2 84 := ⟨at_82, rfl⟩
theorem iM_84 : I1 code 84 (.iconst 1) 1 85 := ⟨at_84, rfl⟩
theorem iM_85 : I1 code 85 (.iaload) 1 86 := ⟨at_85, rfl⟩
theorem iM_86 : B1 code 86 (.if_icmp .ne 22) 22 108 89 := ⟨at_86, rfl, by decide, by decide⟩
theorem iM_89 : I1 code 89 (.aload 4) 2 91 := ⟨at_89, rfl⟩
theorem iM_91 : I1 code 91 (.iconst 1) 1 92 := ⟨at_91, rfl⟩
theorem iM_92 : I1 code 92 (.iaload) 1 93 := ⟨at_92, rfl⟩
theorem iM_93 : I1 code 93 (.aload 4) 2 95 := ⟨at_93, rfl⟩
theorem iM_95 : I1 code 95 (.iconst 2) 1 96 := ⟨at_95, rfl⟩
theorem iM_96 : I1 code 96 (.iaload) 1 97 := ⟨at_96, rfl⟩
theorem iM_97 : B1 code 97 (.if_icmp .ne 11) 11 108 100 := ⟨at_97, rfl, by decide, by decide⟩
theorem iM_100 : I1 code 100 (.aload 5) 2 102 := ⟨at_100, rfl⟩
theorem iM_102 : I1 code 102 (.iconst 2) 1 103 := ⟨at_102, rfl⟩
theorem iM_103 : I1 code 103 (.iconst 2) 1 104 := ⟨at_103, rfl⟩
theorem iM_104 : I1 code 104 (.iastore) 1 105 := ⟨at_104, rfl⟩
theorem iM_105 : B1 code 105 (.goto 27) 27 132 108 := ⟨at_105, rfl, by decide, by decide⟩
theorem iM_108 : I1 code 108 (.aload 4) 2 110 := ⟨at_108, rfl⟩
theorem iM_110 : I1 code 110 (.iconst 0) 1 111 := ⟨at_110, rfl⟩
theorem iM_111 : I1 code 111 (.iaload) 1 112 := ⟨at_111, rfl⟩
theorem iM_112 : I1 code 112 (.aload 4) 2 114 := ⟨at_112, rfl⟩
theorem iM_114 : I1 code 114 (.iconst 2) 1 115 := ⟨at_114, rfl⟩
theorem iM_115 : I1 code 115 (.iaload) 1 116 := ⟨at_115, rfl⟩
theorem iM_116 : B1 code 116 (.if_icmp .ne 11) 11 127 119 := ⟨at_116, rfl, by decide, by decide⟩
theorem iM_119 : I1 code 119 (.aload 5) 2 121 := ⟨at_119, rfl⟩
theorem iM_121 : I1 code 121 (.iconst 2) 1 122 := ⟨at_121, rfl⟩
theorem iM_122 : I1 code 122 (.iconst 1) 1 123 := ⟨at_122, rfl⟩
theorem iM_123 : I1 code 123 (.iastore) 1 124 := ⟨at_123, rfl⟩
theorem iM_124 : B1 code 124 (.goto 8) 8 132 127 := ⟨at_124, rfl, by decide, by decide⟩
theorem iM_127 : I1 code 127 (.aload 5) 2 129 := ⟨at_127, rfl⟩
theorem iM_129 : I1 code 129 (.iconst 2) 1 130 := ⟨at_129, rfl⟩
theorem iM_130 : I1 code 130 (.iconst 0) 1 131 := ⟨at_130, rfl⟩
theorem iM_131 : I1 code 131 (.iastore) 1 132 := ⟨at_131, rfl⟩
theorem iM_132 : I1 code 132 (.aload 5) 2 134 := ⟨at_132, rfl⟩
theorem iM_134 : I1 code 134 (.iconst 3) 1 135 := ⟨at_134, rfl⟩
theorem iM_135 : I1 code 135 (.iconst 0) 1 136 := ⟨at_135, rfl⟩
theorem iM_136 : I1 code 136 (.iastore) 1 137 := ⟨at_136, rfl⟩
theorem iM_137 : I1 code 137 (.iload_n 2) 1 138 := ⟨at_137, rfl⟩
theorem iM_138 : I1 code 138 (.iconst 3) 1 139 := ⟨at_138, rfl⟩
theorem iM_139 : I1 code 139 (.iand) 1 140 := ⟨at_139, rfl⟩
theorem iM_140 : I1 code 140 (.istore 6) 2 142 := ⟨at_140, rfl⟩
theorem iM_142 : I1 code 142 (.iload_n 0) 1 143 := ⟨at_142, rfl⟩
theorem iM_143 : I1 code 143 (.iload_n 3) 1 144 := ⟨at_143, rfl⟩
theorem iM_144 : I1 code 144 (.bipush 7) 2 146 := ⟨at_144, rfl⟩
theorem iM_146 : I1 code 146 (.iand) 1 147 := ⟨at_146, rfl⟩
theorem iM_147 : I1 code 147 (.iadd) 1 148 := ⟨at_147, rfl⟩
theorem iM_148 : I1 code 148 (.istore 7) 2 150 := ⟨at_148, rfl⟩
theorem iM_150 : I1 code 150 (.iload 6) 2 152 := ⟨at_150, rfl⟩
theorem iM_152 : I1 code 152 (.iconst 3) 1 153 := ⟨at_152, rfl⟩
theorem iM_153 : B1 code 153 (.if_icmp .lt 22) 22 175 156 := ⟨at_153, rfl, by decide, by decide⟩
theorem iM_156 : I1 code 156 (.aload 4) 2 158 := ⟨at_156, rfl⟩
theorem iM_158 : I1 code 158 (.iload 6) 2 160 := ⟨at_158, rfl⟩
theorem iM_160 : I1 code 160 (.iload 7) 2 162 := ⟨at_160, rfl⟩
theorem iM_162 : I1 code 162 (.iconst 4) 1 163 := ⟨at_162, rfl⟩
theorem iM_163 : I1 code 163 (.invokestatic 7) 3 166 := ⟨at_163, rfl⟩
theorem iM_166 : B1 code 166 (.ifCond .eq 9) 9 175 169 := ⟨at_166, rfl, by decide, by decide⟩
theorem iM_169 : I1 code 169 (.iconst 4) 1 170 := ⟨at_169, rfl⟩
theorem iM_170 : I1 code 170 (.istore 8) 2 172 := ⟨at_170, rfl⟩
theorem iM_172 : B1 code 172 (.goto 75) 75 247 175 := ⟨at_172, rfl, by decide, by decide⟩
theorem iM_175 : I1 code 175 (.iload 6) 2 177 := ⟨at_175, rfl⟩
theorem iM_177 : I1 code 177 (.iconst 2) 1 178 := ⟨at_177, rfl⟩
theorem iM_178 : B1 code 178 (.if_icmp .lt 22) 22 200 181 := ⟨at_178, rfl, by decide, by decide⟩
theorem iM_181 : I1 code 181 (.aload 4) 2 183 := ⟨at_181, rfl⟩
theorem iM_183 : I1 code 183 (.iload 6) 2 185 := ⟨at_183, rfl⟩
theorem iM_185 : I1 code 185 (.iload 7) 2 187 := ⟨at_185, rfl⟩
theorem iM_187 : I1 code 187 (.iconst 3) 1 188 := ⟨at_187, rfl⟩
theorem iM_188 : I1 code 188 (.invokestatic 7) 3 191 := ⟨at_188, rfl⟩
theorem iM_191 : B1 code 191 (.ifCond .eq 9) 9 200 194 := ⟨at_191, rfl, by decide, by decide⟩
theorem iM_194 : I1 code 194 (.iconst 3) 1 195 := ⟨at_194, rfl⟩
theorem iM_195 : I1 code 195 (.istore 8) 2 197 := ⟨at_195, rfl⟩
theorem iM_197 : B1 code 197 (.goto 50) 50 247 200 := ⟨at_197, rfl, by decide, by decide⟩
theorem iM_200 : I1 code 200 (.iload 6) 2 202 := ⟨at_200, rfl⟩
theorem iM_202 : I1 code 202 (.iconst 1) 1 203 := ⟨at_202, rfl⟩
theorem iM_203 : B1 code 203 (.if_icmp .lt 22) 22 225 206 := ⟨at_203, rfl, by decide, by decide⟩
theorem iM_206 : I1 code 206 (.aload 4) 2 208 := ⟨at_206, rfl⟩
theorem iM_208 : I1 code 208 (.iload 6) 2 210 := ⟨at_208, rfl⟩
theorem iM_210 : I1 code 210 (.iload 7) 2 212 := ⟨at_210, rfl⟩
theorem iM_212 : I1 code 212 (.iconst 2) 1 213 := ⟨at_212, rfl⟩
theorem iM_213 : I1 code 213 (.invokestatic 7) 3 216 := ⟨at_213, rfl⟩
theorem iM_216 : B1 code 216 (.ifCond .eq 9) 9 225 219 := ⟨at_216, rfl, by decide, by decide⟩
theorem iM_219 : I1 code 219 (.iconst 2) 1 220 := ⟨at_219, rfl⟩
theorem iM_220 : I1 code 220 (.istore 8) 2 222 := ⟨at_220, rfl⟩
theorem iM_222 : B1 code 222 (.goto 25) 25 247 225 := ⟨at_222, rfl, by decide, by decide⟩
theorem iM_225 : I1 code 225 (.aload 4) 2 227 := ⟨at_225, rfl⟩
theorem iM_227 : I1 code 227 (.iload 6) 2 229 := ⟨at_227, rfl⟩
theorem iM_229 : I1 code 229 (.iload 7) 2 231 := ⟨at_229, rfl⟩
theorem iM_231 : I1 code 231 (.iconst 1) 1 232 := ⟨at_231, rfl⟩
theorem iM_232 : I1 code 232 (.invokestatic 7) 3 235 := ⟨at_232, rfl⟩
theorem iM_235 : B1 code 235 (.ifCond .eq 9) 9 244 238 := ⟨at_235, rfl, by decide, by decide⟩
theorem iM_238 : I1 code 238 (.iconst 1) 1 239 := ⟨at_238, rfl⟩
theorem iM_239 : I1 code 239 (.istore 8) 2 241 := ⟨at_239, rfl⟩
theorem iM_241 : B1 code 241 (.goto 6) 6 247 244 := ⟨at_241, rfl, by decide, by decide⟩
theorem iM_244 : I1 code 244 (.iconst 0) 1 245 := ⟨at_244, rfl⟩
theorem iM_245 : I1 code 245 (.istore 8) 2 247 := ⟨at_245, rfl⟩
theorem iM_247 : I1 code 247 (.aload 4) 2 249 := ⟨at_247, rfl⟩
theorem iM_249 : I1 code 249 (.aload 5) 2 251 := ⟨at_249, rfl⟩
theorem iM_251 : I1 code 251 (.iload 6) 2 253 := ⟨at_251, rfl⟩
theorem iM_253 : I1 code 253 (.iload 7) 2 255 := ⟨at_253, rfl⟩
theorem iM_255 : I1 code 255 (.invokestatic 13) 3 258 := ⟨at_255, rfl⟩
theorem iM_258 : I1 code 258 (.istore 9) 2 260 := ⟨at_258, rfl⟩
theorem iM_260 : I1 code 260 (.iload 9) 2 262 := ⟨at_260, rfl⟩
theorem iM_262 : I1 code 262 (.iload 8) 2 264 := ⟨at_262, rfl⟩
theorem iM_264 : B1 code 264 (.if_icmp .ne 7) 7 271 267 := ⟨at_264, rfl, by decide, by decide⟩
theorem iM_267 : I1 code 267 (.iconst 1) 1 268 := ⟨at_267, rfl⟩
theorem iM_268 : B1 code 268 (.goto 4) 4 272 271 := ⟨at_268, rfl, by decide, by decide⟩
theorem iM_271 : I1 code 271 (.iconst 0) 1 272 := ⟨at_271, rfl⟩
theorem iM_272 : I1 code 272 (.ireturn) 1 273 := ⟨at_272, rfl⟩
def vM_0 (p0 : Int32) (p1 : Int32) (p2 : Int32) (p3 : Int32) : Int32 := (p0 + (((p1.toUInt32 >>> ((2 : Int32) &&& 31).toUInt32).toInt32) &&& (3 : Int32)))
def vM_1 (p0 : Int32) (p1 : Int32) (p2 : Int32) (p3 : Int32) : Int32 := (p0 + (((p1.toUInt32 >>> ((4 : Int32) &&& 31).toUInt32).toInt32) &&& (3 : Int32)))
def vM_2 (p0 : Int32) (p1 : Int32) (p2 : Int32) (p3 : Int32) : Int32 := (p0 + (((p1.toUInt32 >>> ((6 : Int32) &&& 31).toUInt32).toInt32) &&& (3 : Int32)))
def vM_3 (p0 : Int32) (p1 : Int32) (p2 : Int32) (p3 : Int32) : Int32 := (if (p0 + (p1 &&& (3 : Int32))) = (vM_0 p0 p1 p2 p3) then (1 : Int32) else (0 : Int32))
def vM_4 (p0 : Int32) (p1 : Int32) (p2 : Int32) (p3 : Int32) : Nat → Int32 := (fun i => (if i = 3 then (vM_2 p0 p1 p2 p3) else (if i = 2 then (vM_1 p0 p1 p2 p3) else (if i = 1 then (vM_0 p0 p1 p2 p3) else (if i = 0 then (p0 + (p1 &&& (3 : Int32))) else (0 : Int32))))))
def vM_5 (p0 : Int32) (p1 : Int32) (p2 : Int32) (p3 : Int32) : Int32 := (if (ret_E1 (p2 &&& (3 : Int32)) (p0 + (p3 &&& (7 : Int32))) 4 (vM_4 p0 p1 p2 p3)) = (0 : Int32) then (0 : Int32) else (1 : Int32))
def vM_6 (p0 : Int32) (p1 : Int32) (p2 : Int32) (p3 : Int32) : Int32 := (if (ret_E2 (p2 &&& (3 : Int32)) (p0 + (p3 &&& (7 : Int32))) 4 (vM_4 p0 p1 p2 p3)) = (0 : Int32) then (if (ret_E1 (p2 &&& (3 : Int32)) (p0 + (p3 &&& (7 : Int32))) 4 (vM_4 p0 p1 p2 p3)) = (0 : Int32) then (0 : Int32) else (1 : Int32)) else (2 : Int32))
def vM_7 (p0 : Int32) (p1 : Int32) (p2 : Int32) (p3 : Int32) : Int32 := (if (p2 &&& (3 : Int32)) < (1 : Int32) then (if (ret_E1 (p2 &&& (3 : Int32)) (p0 + (p3 &&& (7 : Int32))) 4 (vM_4 p0 p1 p2 p3)) = (0 : Int32) then (0 : Int32) else (1 : Int32)) else (if (ret_E2 (p2 &&& (3 : Int32)) (p0 + (p3 &&& (7 : Int32))) 4 (vM_4 p0 p1 p2 p3)) = (0 : Int32) then (if (ret_E1 (p2 &&& (3 : Int32)) (p0 + (p3 &&& (7 : Int32))) 4 (vM_4 p0 p1 p2 p3)) = (0 : Int32) then (0 : Int32) else (1 : Int32)) else (2 : Int32)))
def vM_8 (p0 : Int32) (p1 : Int32) (p2 : Int32) (p3 : Int32) : Int32 := (if (ret_E3 (p2 &&& (3 : Int32)) (p0 + (p3 &&& (7 : Int32))) 4 (vM_4 p0 p1 p2 p3)) = (0 : Int32) then (if (p2 &&& (3 : Int32)) < (1 : Int32) then (if (ret_E1 (p2 &&& (3 : Int32)) (p0 + (p3 &&& (7 : Int32))) 4 (vM_4 p0 p1 p2 p3)) = (0 : Int32) then (0 : Int32) else (1 : Int32)) else (if (ret_E2 (p2 &&& (3 : Int32)) (p0 + (p3 &&& (7 : Int32))) 4 (vM_4 p0 p1 p2 p3)) = (0 : Int32) then (if (ret_E1 (p2 &&& (3 : Int32)) (p0 + (p3 &&& (7 : Int32))) 4 (vM_4 p0 p1 p2 p3)) = (0 : Int32) then (0 : Int32) else (1 : Int32)) else (2 : Int32))) else (3 : Int32))
def vM_9 (p0 : Int32) (p1 : Int32) (p2 : Int32) (p3 : Int32) : Int32 := (if (p2 &&& (3 : Int32)) < (2 : Int32) then (if (p2 &&& (3 : Int32)) < (1 : Int32) then (if (ret_E1 (p2 &&& (3 : Int32)) (p0 + (p3 &&& (7 : Int32))) 4 (vM_4 p0 p1 p2 p3)) = (0 : Int32) then (0 : Int32) else (1 : Int32)) else (if (ret_E2 (p2 &&& (3 : Int32)) (p0 + (p3 &&& (7 : Int32))) 4 (vM_4 p0 p1 p2 p3)) = (0 : Int32) then (if (ret_E1 (p2 &&& (3 : Int32)) (p0 + (p3 &&& (7 : Int32))) 4 (vM_4 p0 p1 p2 p3)) = (0 : Int32) then (0 : Int32) else (1 : Int32)) else (2 : Int32))) else (if (ret_E3 (p2 &&& (3 : Int32)) (p0 + (p3 &&& (7 : Int32))) 4 (vM_4 p0 p1 p2 p3)) = (0 : Int32) then (if (p2 &&& (3 : Int32)) < (1 : Int32) then (if (ret_E1 (p2 &&& (3 : Int32)) (p0 + (p3 &&& (7 : Int32))) 4 (vM_4 p0 p1 p2 p3)) = (0 : Int32) then (0 : Int32) else (1 : Int32)) else (if (ret_E2 (p2 &&& (3 : Int32)) (p0 + (p3 &&& (7 : Int32))) 4 (vM_4 p0 p1 p2 p3)) = (0 : Int32) then (if (ret_E1 (p2 &&& (3 : Int32)) (p0 + (p3 &&& (7 : Int32))) 4 (vM_4 p0 p1 p2 p3)) = (0 : Int32) then (0 : Int32) else (1 : Int32)) else (2 : Int32))) else (3 : Int32)))
def vM_10 (p0 : Int32) (p1 : Int32) (p2 : Int32) (p3 : Int32) : Int32 := (if (ret_E4 (p2 &&& (3 : Int32)) (p0 + (p3 &&& (7 : Int32))) 4 (vM_4 p0 p1 p2 p3)) = (0 : Int32) then (if (p2 &&& (3 : Int32)) < (2 : Int32) then (if (p2 &&& (3 : Int32)) < (1 : Int32) then (if (ret_E1 (p2 &&& (3 : Int32)) (p0 + (p3 &&& (7 : Int32))) 4 (vM_4 p0 p1 p2 p3)) = (0 : Int32) then (0 : Int32) else (1 : Int32)) else (if (ret_E2 (p2 &&& (3 : Int32)) (p0 + (p3 &&& (7 : Int32))) 4 (vM_4 p0 p1 p2 p3)) = (0 : Int32) then (if (ret_E1 (p2 &&& (3 : Int32)) (p0 + (p3 &&& (7 : Int32))) 4 (vM_4 p0 p1 p2 p3)) = (0 : Int32) then (0 : Int32) else (1 : Int32)) else (2 : Int32))) else (if (ret_E3 (p2 &&& (3 : Int32)) (p0 + (p3 &&& (7 : Int32))) 4 (vM_4 p0 p1 p2 p3)) = (0 : Int32) then (if (p2 &&& (3 : Int32)) < (1 : Int32) then (if (ret_E1 (p2 &&& (3 : Int32)) (p0 + (p3 &&& (7 : Int32))) 4 (vM_4 p0 p1 p2 p3)) = (0 : Int32) then (0 : Int32) else (1 : Int32)) else (if (ret_E2 (p2 &&& (3 : Int32)) (p0 + (p3 &&& (7 : Int32))) 4 (vM_4 p0 p1 p2 p3)) = (0 : Int32) then (if (ret_E1 (p2 &&& (3 : Int32)) (p0 + (p3 &&& (7 : Int32))) 4 (vM_4 p0 p1 p2 p3)) = (0 : Int32) then (0 : Int32) else (1 : Int32)) else (2 : Int32))) else (3 : Int32))) else (4 : Int32))
def vM_11 (p0 : Int32) (p1 : Int32) (p2 : Int32) (p3 : Int32) : Int32 := (if (p2 &&& (3 : Int32)) < (3 : Int32) then (if (p2 &&& (3 : Int32)) < (2 : Int32) then (if (p2 &&& (3 : Int32)) < (1 : Int32) then (if (ret_E1 (p2 &&& (3 : Int32)) (p0 + (p3 &&& (7 : Int32))) 4 (vM_4 p0 p1 p2 p3)) = (0 : Int32) then (0 : Int32) else (1 : Int32)) else (if (ret_E2 (p2 &&& (3 : Int32)) (p0 + (p3 &&& (7 : Int32))) 4 (vM_4 p0 p1 p2 p3)) = (0 : Int32) then (if (ret_E1 (p2 &&& (3 : Int32)) (p0 + (p3 &&& (7 : Int32))) 4 (vM_4 p0 p1 p2 p3)) = (0 : Int32) then (0 : Int32) else (1 : Int32)) else (2 : Int32))) else (if (ret_E3 (p2 &&& (3 : Int32)) (p0 + (p3 &&& (7 : Int32))) 4 (vM_4 p0 p1 p2 p3)) = (0 : Int32) then (if (p2 &&& (3 : Int32)) < (1 : Int32) then (if (ret_E1 (p2 &&& (3 : Int32)) (p0 + (p3 &&& (7 : Int32))) 4 (vM_4 p0 p1 p2 p3)) = (0 : Int32) then (0 : Int32) else (1 : Int32)) else (if (ret_E2 (p2 &&& (3 : Int32)) (p0 + (p3 &&& (7 : Int32))) 4 (vM_4 p0 p1 p2 p3)) = (0 : Int32) then (if (ret_E1 (p2 &&& (3 : Int32)) (p0 + (p3 &&& (7 : Int32))) 4 (vM_4 p0 p1 p2 p3)) = (0 : Int32) then (0 : Int32) else (1 : Int32)) else (2 : Int32))) else (3 : Int32))) else (if (ret_E4 (p2 &&& (3 : Int32)) (p0 + (p3 &&& (7 : Int32))) 4 (vM_4 p0 p1 p2 p3)) = (0 : Int32) then (if (p2 &&& (3 : Int32)) < (2 : Int32) then (if (p2 &&& (3 : Int32)) < (1 : Int32) then (if (ret_E1 (p2 &&& (3 : Int32)) (p0 + (p3 &&& (7 : Int32))) 4 (vM_4 p0 p1 p2 p3)) = (0 : Int32) then (0 : Int32) else (1 : Int32)) else (if (ret_E2 (p2 &&& (3 : Int32)) (p0 + (p3 &&& (7 : Int32))) 4 (vM_4 p0 p1 p2 p3)) = (0 : Int32) then (if (ret_E1 (p2 &&& (3 : Int32)) (p0 + (p3 &&& (7 : Int32))) 4 (vM_4 p0 p1 p2 p3)) = (0 : Int32) then (0 : Int32) else (1 : Int32)) else (2 : Int32))) else (if (ret_E3 (p2 &&& (3 : Int32)) (p0 + (p3 &&& (7 : Int32))) 4 (vM_4 p0 p1 p2 p3)) = (0 : Int32) then (if (p2 &&& (3 : Int32)) < (1 : Int32) then (if (ret_E1 (p2 &&& (3 : Int32)) (p0 + (p3 &&& (7 : Int32))) 4 (vM_4 p0 p1 p2 p3)) = (0 : Int32) then (0 : Int32) else (1 : Int32)) else (if (ret_E2 (p2 &&& (3 : Int32)) (p0 + (p3 &&& (7 : Int32))) 4 (vM_4 p0 p1 p2 p3)) = (0 : Int32) then (if (ret_E1 (p2 &&& (3 : Int32)) (p0 + (p3 &&& (7 : Int32))) 4 (vM_4 p0 p1 p2 p3)) = (0 : Int32) then (0 : Int32) else (1 : Int32)) else (2 : Int32))) else (3 : Int32))) else (4 : Int32)))
def vM_12 (p0 : Int32) (p1 : Int32) (p2 : Int32) (p3 : Int32) : Nat → Int32 := (fun i => (if i = 3 then (0 : Int32) else (if i = 2 then (2 : Int32) else (if i = 1 then (vM_3 p0 p1 p2 p3) else (if i = 0 then (0 : Int32) else (0 : Int32))))))
def vM_13 (p0 : Int32) (p1 : Int32) (p2 : Int32) (p3 : Int32) : Int32 := ((extF 5 (vM_4 p0 p1 p2 p3) (vM_12 p0 p1 p2 p3) (p2 &&& (3 : Int32)).toNatClampNeg (p0 + (p3 &&& (7 : Int32)))).toInt32)
def vM_14 (p0 : Int32) (p1 : Int32) (p2 : Int32) (p3 : Int32) : Int32 := (if (vM_13 p0 p1 p2 p3) = (vM_11 p0 p1 p2 p3) then (1 : Int32) else (0 : Int32))
def vM_15 (p0 : Int32) (p1 : Int32) (p2 : Int32) (p3 : Int32) : Nat → Int32 := (fun i => (if i = 3 then (0 : Int32) else (if i = 2 then (1 : Int32) else (if i = 1 then (vM_3 p0 p1 p2 p3) else (if i = 0 then (0 : Int32) else (0 : Int32))))))
def vM_16 (p0 : Int32) (p1 : Int32) (p2 : Int32) (p3 : Int32) : Int32 := ((extF 5 (vM_4 p0 p1 p2 p3) (vM_15 p0 p1 p2 p3) (p2 &&& (3 : Int32)).toNatClampNeg (p0 + (p3 &&& (7 : Int32)))).toInt32)
def vM_17 (p0 : Int32) (p1 : Int32) (p2 : Int32) (p3 : Int32) : Int32 := (if (vM_16 p0 p1 p2 p3) = (vM_11 p0 p1 p2 p3) then (1 : Int32) else (0 : Int32))
def vM_18 (p0 : Int32) (p1 : Int32) (p2 : Int32) (p3 : Int32) : Nat → Int32 := (fun i => (if i = 3 then (0 : Int32) else (if i = 2 then (0 : Int32) else (if i = 1 then (vM_3 p0 p1 p2 p3) else (if i = 0 then (0 : Int32) else (0 : Int32))))))
def vM_19 (p0 : Int32) (p1 : Int32) (p2 : Int32) (p3 : Int32) : Int32 := ((extF 5 (vM_4 p0 p1 p2 p3) (vM_18 p0 p1 p2 p3) (p2 &&& (3 : Int32)).toNatClampNeg (p0 + (p3 &&& (7 : Int32)))).toInt32)
def vM_20 (p0 : Int32) (p1 : Int32) (p2 : Int32) (p3 : Int32) : Int32 := (if (vM_19 p0 p1 p2 p3) = (vM_11 p0 p1 p2 p3) then (1 : Int32) else (0 : Int32))
theorem own_v3 (p0 p1 p2 p3 : Int32) : 0 ≤ (vM_3 p0 p1 p2 p3).toInt ∧ (vM_3 p0 p1 p2 p3).toInt ≤ 1 := by
  simp only [vM_3]; split <;> decide
theorem leafM_0 (p0 : Int32) (p1 : Int32) (p2 : Int32) (p3 : Int32) (hc86_1 : (p0 + (p1 &&& (3 : Int32))) = (vM_0 p0 p1 p2 p3)) (hc97_1 : (vM_0 p0 p1 p2 p3) = (vM_1 p0 p1 p2 p3)) : nar .boolean (vM_14 p0 p1 p2 p3) = 1 := by
  refine nbT.mpr ?_
  exact own_kmp (p2 &&& (3 : Int32)) (p0 + (p3 &&& (7 : Int32))) (p0 + (p1 &&& (3 : Int32))) (vM_0 p0 p1 p2 p3) (vM_1 p0 p1 p2 p3) (vM_2 p0 p1 p2 p3) 2 (own_m4 _ (own_m3 p2)) (vM_4 p0 p1 p2 p3) _ rfl rfl rfl rfl rfl rfl rfl (by rw [if_pos hc86_1, if_pos hc97_1])
theorem leafM_1 (p0 : Int32) (p1 : Int32) (p2 : Int32) (p3 : Int32) (hc86_1 : (p0 + (p1 &&& (3 : Int32))) = (vM_0 p0 p1 p2 p3)) (hc97_1 : ¬ ((vM_0 p0 p1 p2 p3) = (vM_1 p0 p1 p2 p3))) (hc116_1 : (p0 + (p1 &&& (3 : Int32))) = (vM_1 p0 p1 p2 p3)) : nar .boolean (vM_17 p0 p1 p2 p3) = 1 := by
  refine nbT.mpr ?_
  exact own_kmp (p2 &&& (3 : Int32)) (p0 + (p3 &&& (7 : Int32))) (p0 + (p1 &&& (3 : Int32))) (vM_0 p0 p1 p2 p3) (vM_1 p0 p1 p2 p3) (vM_2 p0 p1 p2 p3) 1 (own_m4 _ (own_m3 p2)) (vM_4 p0 p1 p2 p3) _ rfl rfl rfl rfl rfl rfl rfl (by rw [if_pos hc86_1, if_neg hc97_1, if_pos hc116_1])
theorem leafM_2 (p0 : Int32) (p1 : Int32) (p2 : Int32) (p3 : Int32) (hc86_1 : (p0 + (p1 &&& (3 : Int32))) = (vM_0 p0 p1 p2 p3)) (hc97_1 : ¬ ((vM_0 p0 p1 p2 p3) = (vM_1 p0 p1 p2 p3))) (hc116_1 : ¬ ((p0 + (p1 &&& (3 : Int32))) = (vM_1 p0 p1 p2 p3))) : nar .boolean (vM_20 p0 p1 p2 p3) = 1 := by
  refine nbT.mpr ?_
  exact own_kmp (p2 &&& (3 : Int32)) (p0 + (p3 &&& (7 : Int32))) (p0 + (p1 &&& (3 : Int32))) (vM_0 p0 p1 p2 p3) (vM_1 p0 p1 p2 p3) (vM_2 p0 p1 p2 p3) 0 (own_m4 _ (own_m3 p2)) (vM_4 p0 p1 p2 p3) _ rfl rfl rfl rfl rfl rfl rfl (by rw [if_pos hc86_1, if_neg hc97_1, if_neg hc116_1])
theorem leafM_3 (p0 : Int32) (p1 : Int32) (p2 : Int32) (p3 : Int32) (hc86_1 : ¬ ((p0 + (p1 &&& (3 : Int32))) = (vM_0 p0 p1 p2 p3))) (hc116_1 : (p0 + (p1 &&& (3 : Int32))) = (vM_1 p0 p1 p2 p3)) : nar .boolean (vM_17 p0 p1 p2 p3) = 1 := by
  refine nbT.mpr ?_
  exact own_kmp (p2 &&& (3 : Int32)) (p0 + (p3 &&& (7 : Int32))) (p0 + (p1 &&& (3 : Int32))) (vM_0 p0 p1 p2 p3) (vM_1 p0 p1 p2 p3) (vM_2 p0 p1 p2 p3) 1 (own_m4 _ (own_m3 p2)) (vM_4 p0 p1 p2 p3) _ rfl rfl rfl rfl rfl rfl rfl (by rw [if_neg hc86_1, if_pos hc116_1])
theorem leafM_4 (p0 : Int32) (p1 : Int32) (p2 : Int32) (p3 : Int32) (hc86_1 : ¬ ((p0 + (p1 &&& (3 : Int32))) = (vM_0 p0 p1 p2 p3))) (hc116_1 : ¬ ((p0 + (p1 &&& (3 : Int32))) = (vM_1 p0 p1 p2 p3))) : nar .boolean (vM_20 p0 p1 p2 p3) = 1 := by
  refine nbT.mpr ?_
  exact own_kmp (p2 &&& (3 : Int32)) (p0 + (p3 &&& (7 : Int32))) (p0 + (p1 &&& (3 : Int32))) (vM_0 p0 p1 p2 p3) (vM_1 p0 p1 p2 p3) (vM_2 p0 p1 p2 p3) 0 (own_m4 _ (own_m3 p2)) (vM_4 p0 p1 p2 p3) _ rfl rfl rfl rfl rfl rfl rfl (by rw [if_neg hc86_1, if_neg hc116_1])
theorem efM (m : MethodId) (p0 : Int32) (p1 : Int32) (p2 : Int32) (p3 : Int32) : entryFrame m #[(.int p0), (.int p1), (.int p2), (.int p3)] maxLocals = mkF m 0 #[.val (.int p0), .val (.int p1), .val (.int p2), .val (.int p3), .unset, .unset, .unset, .unset, .unset, .unset] [] := by first | (simp [entryFrame, mkF, argsToLocals, Value.category, maxLocals]; done) | rfl
def QM (Z : State) (p0 : Int32) (p1 : Int32) (p2 : Int32) (p3 : Int32) (h0 : Heap) (n0 : Nat) (v : Option Value) (h : Heap) : Prop := v = some (.int 1)
set_option maxRecDepth 65536 in
set_option maxHeartbeats 40000000 in
theorem rmM (l : Launch) (Z : State) (aZ : Array Value) (hw : ∀ d ∈ tables_1, d.before aZ Z = true) (p0 : Int32) (p1 : Int32) (p2 : Int32) (p3 : Int32) (h0 : Heap) (n0 : Nat) (Z0 : n0 ≤ h0.size) :
    Ctr l Z x code maxLocals ret room_1 #[(.int p0), (.int p1), (.int p2), (.int p3)] h0 n0 (QM Z p0 p1 p2 p3 h0 n0) := by
  refine Ctr.of_go pn2 (fun m => efM m p0 p1 p2 p3) ?_
  intro p e s m below meth c hnm C
  refine g_iconst C (4 : Int32) iM_0 rfl ?_
  refine g_newP C iM_1 (hw _ (List.mem_of_getElem? (i := 0) rfl)) (by decide) 4 (by decide) (by decide) (by decide) (by decide) rfl rfl (fun h1 b1 g1 E1 A1 => ?_)
  have ge1 : n0 ≤ b1 := Nat.le_trans Z0 (Nat.le_of_eq g1.symm)
  have fr1 : h0.size ≤ b1 := Nat.le_trans (Keep.refl h0 []).1 (Nat.le_of_eq g1.symm)
  have K1 := Keep.ext (Keep.refl h0 []) E1
  have Z1 : n0 ≤ h1.size := Nat.le_trans Z0 E1.1
  have V1 : AV Z h1 b1 .int 4 (fun _ => (.int (0 : Int32))) := A1
  refine g_astore C (Ls' := #[.val (.int p0), .val (.int p1), .val (.int p2), .val (.int p3), .val (.ref b1), .unset, .unset, .unset, .unset, .unset]) iM_3 rfl rfl ?_
  refine g_aload C iM_5 rfl rfl ?_
  refine g_iconst C (0 : Int32) iM_7 rfl ?_
  refine g_iloadN C iM_8 rfl ?_
  refine g_iloadN C iM_9 rfl ?_
  refine g_iconst C (3 : Int32) iM_10 rfl ?_
  refine g_iand C iM_11 ?_
  refine g_iadd C iM_12 ?_
  refine g_iast C iM_13 V1 ⟨by decide, by decide⟩ ge1 (fun h2 W2 V2 => ?_)
  have Vw2 : AV Z h2 b1 .int 4 (fun i => if i = 0 then (.int (p0 + (p1 &&& (3 : Int32)))) else (fun _ => (.int (0 : Int32))) i) := V2
  have K2 := Keep.wr K1 W2 (Or.inr fr1)
  have Z2 : n0 ≤ h2.size := Nat.le_trans Z1 (Keep.of_wr W2).1
  refine g_aload C iM_14 rfl rfl ?_
  refine g_iconst C (1 : Int32) iM_16 rfl ?_
  refine g_iloadN C iM_17 rfl ?_
  refine g_iloadN C iM_18 rfl ?_
  refine g_iconst C (2 : Int32) iM_19 rfl ?_
  refine g_iushr C iM_20 ?_
  refine g_iconst C (3 : Int32) iM_21 rfl ?_
  refine g_iand C iM_22 ?_
  refine g_iadd C iM_23 ?_
  refine g_iast C iM_24 Vw2 ⟨by decide, by decide⟩ ge1 (fun h3 W3 V3 => ?_)
  have Vw3 : AV Z h3 b1 .int 4 (fun i => if i = 1 then (.int (vM_0 p0 p1 p2 p3)) else (fun i => if i = 0 then (.int (p0 + (p1 &&& (3 : Int32)))) else (fun _ => (.int (0 : Int32))) i) i) := V3
  have K3 := Keep.wr K2 W3 (Or.inr fr1)
  have Z3 : n0 ≤ h3.size := Nat.le_trans Z2 (Keep.of_wr W3).1
  refine g_aload C iM_25 rfl rfl ?_
  refine g_iconst C (2 : Int32) iM_27 rfl ?_
  refine g_iloadN C iM_28 rfl ?_
  refine g_iloadN C iM_29 rfl ?_
  refine g_iconst C (4 : Int32) iM_30 rfl ?_
  refine g_iushr C iM_31 ?_
  refine g_iconst C (3 : Int32) iM_32 rfl ?_
  refine g_iand C iM_33 ?_
  refine g_iadd C iM_34 ?_
  refine g_iast C iM_35 Vw3 ⟨by decide, by decide⟩ ge1 (fun h4 W4 V4 => ?_)
  have Vw4 : AV Z h4 b1 .int 4 (fun i => if i = 2 then (.int (vM_1 p0 p1 p2 p3)) else (fun i => if i = 1 then (.int (vM_0 p0 p1 p2 p3)) else (fun i => if i = 0 then (.int (p0 + (p1 &&& (3 : Int32)))) else (fun _ => (.int (0 : Int32))) i) i) i) := V4
  have K4 := Keep.wr K3 W4 (Or.inr fr1)
  have Z4 : n0 ≤ h4.size := Nat.le_trans Z3 (Keep.of_wr W4).1
  refine g_aload C iM_36 rfl rfl ?_
  refine g_iconst C (3 : Int32) iM_38 rfl ?_
  refine g_iloadN C iM_39 rfl ?_
  refine g_iloadN C iM_40 rfl ?_
  refine g_bipush C (6 : Int32) iM_41 rfl ?_
  refine g_iushr C iM_43 ?_
  refine g_iconst C (3 : Int32) iM_44 rfl ?_
  refine g_iand C iM_45 ?_
  refine g_iadd C iM_46 ?_
  refine g_iast C iM_47 Vw4 ⟨by decide, by decide⟩ ge1 (fun h5 W5 V5 => ?_)
  have Vw5 : AV Z h5 b1 .int 4 (fun i => if i = 3 then (.int (vM_2 p0 p1 p2 p3)) else (fun i => if i = 2 then (.int (vM_1 p0 p1 p2 p3)) else (fun i => if i = 1 then (.int (vM_0 p0 p1 p2 p3)) else (fun i => if i = 0 then (.int (p0 + (p1 &&& (3 : Int32)))) else (fun _ => (.int (0 : Int32))) i) i) i) i) := V5
  have K5 := Keep.wr K4 W5 (Or.inr fr1)
  have Z5 : n0 ≤ h5.size := Nat.le_trans Z4 (Keep.of_wr W5).1
  refine g_iconst C (4 : Int32) iM_48 rfl ?_
  refine g_newP C iM_49 (hw _ (List.mem_of_getElem? (i := 0) rfl)) (by decide) 4 (by decide) (by decide) (by decide) (by decide) rfl rfl (fun h6 b6 g6 E6 A6 => ?_)
  have ne_b1_b6 : b1 ≠ b6 := Nat.ne_of_lt (Nat.lt_of_lt_of_le Vw5.lt (Nat.le_of_eq g6.symm))
  have ge6 : n0 ≤ b6 := Nat.le_trans Z5 (Nat.le_of_eq g6.symm)
  have fr6 : h0.size ≤ b6 := Nat.le_trans K5.1 (Nat.le_of_eq g6.symm)
  have K6 := Keep.ext K5 E6
  have Z6 : n0 ≤ h6.size := Nat.le_trans Z5 E6.1
  have Vw5_c6 := Vw5.ext E6
  have V6 : AV Z h6 b6 .int 4 (fun _ => (.int (0 : Int32))) := A6
  refine g_astore C (Ls' := #[.val (.int p0), .val (.int p1), .val (.int p2), .val (.int p3), .val (.ref b1), .val (.ref b6), .unset, .unset, .unset, .unset]) iM_51 rfl rfl ?_
  refine g_aload C iM_53 rfl rfl ?_
  refine g_iconst C (0 : Int32) iM_55 rfl ?_
  refine g_iconst C (0 : Int32) iM_56 rfl ?_
  refine g_iast C iM_57 V6 ⟨by decide, by decide⟩ ge6 (fun h7 W7 V7 => ?_)
  have Vw5_c7 := AV.other Vw5_c6 W7 ne_b1_b6
  have Vw7 : AV Z h7 b6 .int 4 (fun i => if i = 0 then (.int (0 : Int32)) else (fun _ => (.int (0 : Int32))) i) := V7
  have K7 := Keep.wr K6 W7 (Or.inr fr6)
  have Z7 : n0 ≤ h7.size := Nat.le_trans Z6 (Keep.of_wr W7).1
  refine g_aload C iM_58 rfl rfl ?_
  refine g_iconst C (1 : Int32) iM_60 rfl ?_
  refine g_aload C iM_61 rfl rfl ?_
  refine g_iconst C (0 : Int32) iM_63 rfl ?_
  refine g_iald C (.int (p0 + (p1 &&& (3 : Int32)))) iM_64 Vw5_c7 ⟨by decide, by decide⟩ rfl ?_
  refine g_aload C iM_65 rfl rfl ?_
  refine g_iconst C (1 : Int32) iM_67 rfl ?_
  refine g_iald C (.int (vM_0 p0 p1 p2 p3)) iM_68 Vw5_c7 ⟨by decide, by decide⟩ rfl ?_
  refine Go.join (mkF m 77 #[.val (.int p0), .val (.int p1), .val (.int p2), .val (.int p3), .val (.ref b1), .val (.ref b6), .unset, .unset, .unset, .unset] [(.int (vM_3 p0 p1 p2 p3)), (.int (1 : Int32)), (.ref b6)]) ?_ (fun J => ?_)
  · refine g_iast C iM_77 Vw7 ⟨by decide, by decide⟩ ge6 (fun h8 W8 V8 => ?_)
    have Vw5_c8 := AV.other Vw5_c7 W8 ne_b1_b6
    have Vw8 : AV Z h8 b6 .int 4 (fun i => if i = 1 then (.int (vM_3 p0 p1 p2 p3)) else (fun i => if i = 0 then (.int (0 : Int32)) else (fun _ => (.int (0 : Int32))) i) i) := V8
    have K8 := Keep.wr K7 W8 (Or.inr fr6)
    have Z8 : n0 ≤ h8.size := Nat.le_trans Z7 (Keep.of_wr W8).1
    refine g_aload C iM_78 rfl rfl ?_
    refine g_iconst C (0 : Int32) iM_80 rfl ?_
    refine g_iald C (.int (p0 + (p1 &&& (3 : Int32)))) iM_81 Vw5_c8 ⟨by decide, by decide⟩ rfl ?_
    refine g_aload C iM_82 rfl rfl ?_
    refine g_iconst C (1 : Int32) iM_84 rfl ?_
    refine g_iald C (.int (vM_0 p0 p1 p2 p3)) iM_85 Vw5_c8 ⟨by decide, by decide⟩ rfl ?_
    refine g_icmp_ne C iM_86 (fun hc86_1 => ?_) (fun hc86_1 => ?_)
    · refine g_aload C iM_89 rfl rfl ?_
      refine g_iconst C (1 : Int32) iM_91 rfl ?_
      refine g_iald C (.int (vM_0 p0 p1 p2 p3)) iM_92 Vw5_c8 ⟨by decide, by decide⟩ rfl ?_
      refine g_aload C iM_93 rfl rfl ?_
      refine g_iconst C (2 : Int32) iM_95 rfl ?_
      refine g_iald C (.int (vM_1 p0 p1 p2 p3)) iM_96 Vw5_c8 ⟨by decide, by decide⟩ rfl ?_
      refine g_icmp_ne C iM_97 (fun hc97_1 => ?_) (fun hc97_1 => ?_)
      · refine g_aload C iM_100 rfl rfl ?_
        refine g_iconst C (2 : Int32) iM_102 rfl ?_
        refine g_iconst C (2 : Int32) iM_103 rfl ?_
        refine g_iast C iM_104 Vw8 ⟨by decide, by decide⟩ ge6 (fun h9 W9 V9 => ?_)
        have Vw5_c9 := AV.other Vw5_c8 W9 ne_b1_b6
        have Vw9 : AV Z h9 b6 .int 4 (fun i => if i = 2 then (.int (2 : Int32)) else (fun i => if i = 1 then (.int (vM_3 p0 p1 p2 p3)) else (fun i => if i = 0 then (.int (0 : Int32)) else (fun _ => (.int (0 : Int32))) i) i) i) := V9
        have K9 := Keep.wr K8 W9 (Or.inr fr6)
        have Z9 : n0 ≤ h9.size := Nat.le_trans Z8 (Keep.of_wr W9).1
        refine g_goto C iM_105 ?_
        refine g_aload C iM_132 rfl rfl ?_
        refine g_iconst C (3 : Int32) iM_134 rfl ?_
        refine g_iconst C (0 : Int32) iM_135 rfl ?_
        refine g_iast C iM_136 Vw9 ⟨by decide, by decide⟩ ge6 (fun h10 W10 V10 => ?_)
        have Vw5_c10 := AV.other Vw5_c9 W10 ne_b1_b6
        have Vw10 : AV Z h10 b6 .int 4 (fun i => if i = 3 then (.int (0 : Int32)) else (fun i => if i = 2 then (.int (2 : Int32)) else (fun i => if i = 1 then (.int (vM_3 p0 p1 p2 p3)) else (fun i => if i = 0 then (.int (0 : Int32)) else (fun _ => (.int (0 : Int32))) i) i) i) i) := V10
        have K10 := Keep.wr K9 W10 (Or.inr fr6)
        have Z10 : n0 ≤ h10.size := Nat.le_trans Z9 (Keep.of_wr W10).1
        refine g_iloadN C iM_137 rfl ?_
        refine g_iconst C (3 : Int32) iM_138 rfl ?_
        refine g_iand C iM_139 ?_
        refine g_istore C (Ls' := #[.val (.int p0), .val (.int p1), .val (.int p2), .val (.int p3), .val (.ref b1), .val (.ref b6), .val (.int (p2 &&& (3 : Int32))), .unset, .unset, .unset]) iM_140 rfl ?_
        refine g_iloadN C iM_142 rfl ?_
        refine g_iloadN C iM_143 rfl ?_
        refine g_bipush C (7 : Int32) iM_144 rfl ?_
        refine g_iand C iM_146 ?_
        refine g_iadd C iM_147 ?_
        refine g_istore C (Ls' := #[.val (.int p0), .val (.int p1), .val (.int p2), .val (.int p3), .val (.ref b1), .val (.ref b6), .val (.int (p2 &&& (3 : Int32))), .val (.int (p0 + (p3 &&& (7 : Int32)))), .unset, .unset]) iM_148 rfl ?_
        refine g_iload C iM_150 rfl ?_
        refine g_iconst C (3 : Int32) iM_152 rfl ?_
        refine Go.join (mkF m 247 #[.val (.int p0), .val (.int p1), .val (.int p2), .val (.int p3), .val (.ref b1), .val (.ref b6), .val (.int (p2 &&& (3 : Int32))), .val (.int (p0 + (p3 &&& (7 : Int32)))), .val (.int (vM_11 p0 p1 p2 p3)), .unset] []) ?_ (fun J => ?_)
        · refine g_aload C iM_247 rfl rfl ?_
          refine g_aload C iM_249 rfl rfl ?_
          refine g_iload C iM_251 rfl ?_
          refine g_iload C iM_253 rfl ?_
          refine g_callS C (rmX l Z aZ hw b1 b6 (p2 &&& (3 : Int32)) (p0 + (p3 &&& (7 : Int32))) (vM_4 p0 p1 p2 p3) (vM_12 p0 p1 p2 p3) h10 n0 Z10 (own_m3a p2) (own_m3b p2) (own_ht _ _ (own_v3 p0 p1 p2 p3) (by decide)) (AV.congr Vw5_c10 (fun i _ => by first | rfl | ((repeat' split) <;> rfl) | (simp only [vM_4]; done) | (simp only [vM_4]; (repeat' split) <;> rfl))) (AV.congr Vw10 (fun i _ => by first | rfl | ((repeat' split) <;> rfl) | (simp only [vM_12]; done) | (simp only [vM_12]; (repeat' split) <;> rfl)))) iM_255 (hw _ (List.mem_of_getElem? (i := 5) rfl)) (hw _ (List.mem_of_getElem? (i := 6) rfl)) (hw _ (List.mem_of_getElem? (i := 7) rfl)) (hw _ (List.mem_of_getElem? (i := 8) rfl)) (by decide) (argsL := [(.ref b1), (.ref b6), (.int (p2 &&& (3 : Int32))), (.int (p0 + (p3 &&& (7 : Int32))))]) (rest := []) rfl rfl pd1 rfl rfl 0 (Nat.le_of_eq rfl) (by decide) (by decide) (by decide) (by decide) rfl rfl ?_
          rintro _ _ ⟨rfl, he26⟩
          refine Go.heap he26.symm ?_
          refine Go.some' ?_
          refine g_istore C (Ls' := #[.val (.int p0), .val (.int p1), .val (.int p2), .val (.int p3), .val (.ref b1), .val (.ref b6), .val (.int (p2 &&& (3 : Int32))), .val (.int (p0 + (p3 &&& (7 : Int32)))), .val (.int (vM_11 p0 p1 p2 p3)), .val (.int (vM_13 p0 p1 p2 p3))]) iM_258 rfl ?_
          refine g_iload C iM_260 rfl ?_
          refine g_iload C iM_262 rfl ?_
          refine Go.join (mkF m 272 #[.val (.int p0), .val (.int p1), .val (.int p2), .val (.int p3), .val (.ref b1), .val (.ref b6), .val (.int (p2 &&& (3 : Int32))), .val (.int (p0 + (p3 &&& (7 : Int32)))), .val (.int (vM_11 p0 p1 p2 p3)), .val (.int (vM_13 p0 p1 p2 p3))] [(.int (vM_14 p0 p1 p2 p3))]) ?_ (fun J => ?_)
          · exact g_retNar C (t := .boolean) iM_272 rfl (by simp) (by decide) (by decide) (show _ = _ from congrArg (fun z => some (Value.int z)) (leafM_0 p0 p1 p2 p3 hc86_1 hc97_1))
          · refine g_icmp_ne C iM_264 (fun hc264_1 => ?_) (fun hc264_1 => ?_)
            · refine g_iconst C (1 : Int32) iM_267 rfl ?_
              refine g_goto C iM_268 ?_
              have e0 : (vM_14 p0 p1 p2 p3) = (1 : Int32) := by simp only [vM_14, if_pos hc264_1]
              exact Go.cast J (by rw [e0])
            · refine g_iconst C (0 : Int32) iM_271 rfl ?_
              have e0 : (vM_14 p0 p1 p2 p3) = (0 : Int32) := by simp only [vM_14, if_neg hc264_1]
              exact Go.cast J (by rw [e0])
        · refine g_icmp_lt C iM_153 (fun hc153_1 => ?_) (fun hc153_1 => ?_)
          · refine g_iload C iM_175 rfl ?_
            refine g_iconst C (2 : Int32) iM_177 rfl ?_
            refine g_icmp_lt C iM_178 (fun hc178_1 => ?_) (fun hc178_1 => ?_)
            · refine g_iload C iM_200 rfl ?_
              refine g_iconst C (1 : Int32) iM_202 rfl ?_
              refine g_icmp_lt C iM_203 (fun hc203_1 => ?_) (fun hc203_1 => ?_)
              · refine g_aload C iM_225 rfl rfl ?_
                refine g_iload C iM_227 rfl ?_
                refine g_iload C iM_229 rfl ?_
                refine g_iconst C (1 : Int32) iM_231 rfl ?_
                refine g_callS C (rmE1 l Z aZ hw b1 (p2 &&& (3 : Int32)) (p0 + (p3 &&& (7 : Int32))) 4 (vM_4 p0 p1 p2 p3) h10 n0 Z10 (own_m3 p2) rfl (AV.congr Vw5_c10 (fun i _ => by first | rfl | ((repeat' split) <;> rfl) | (simp only [vM_4]; done) | (simp only [vM_4]; (repeat' split) <;> rfl)))) iM_232 (hw _ (List.mem_of_getElem? (i := 1) rfl)) (hw _ (List.mem_of_getElem? (i := 2) rfl)) (hw _ (List.mem_of_getElem? (i := 3) rfl)) (hw _ (List.mem_of_getElem? (i := 4) rfl)) (by decide) (argsL := [(.ref b1), (.int (p2 &&& (3 : Int32))), (.int (p0 + (p3 &&& (7 : Int32)))), (.int (1 : Int32))]) (rest := []) rfl rfl pd0 rfl rfl 0 (Nat.le_of_eq rfl) (by decide) (by decide) (by decide) (by decide) rfl rfl ?_
                rintro _ _ ⟨rfl, he11⟩
                refine Go.heap he11.symm ?_
                refine Go.some' ?_
                refine g_if_eq C iM_235 (fun hc235_1 => ?_) (fun hc235_1 => ?_)
                · refine g_iconst C (0 : Int32) iM_244 rfl ?_
                  refine g_istore C (Ls' := #[.val (.int p0), .val (.int p1), .val (.int p2), .val (.int p3), .val (.ref b1), .val (.ref b6), .val (.int (p2 &&& (3 : Int32))), .val (.int (p0 + (p3 &&& (7 : Int32)))), .val (.int (0 : Int32)), .unset]) iM_245 rfl ?_
                  have e0 : (vM_11 p0 p1 p2 p3) = (0 : Int32) := by simp only [vM_11, if_pos hc153_1, if_pos hc178_1, if_pos hc203_1, if_pos hc235_1]
                  exact Go.cast J (by rw [e0])
                · refine g_iconst C (1 : Int32) iM_238 rfl ?_
                  refine g_istore C (Ls' := #[.val (.int p0), .val (.int p1), .val (.int p2), .val (.int p3), .val (.ref b1), .val (.ref b6), .val (.int (p2 &&& (3 : Int32))), .val (.int (p0 + (p3 &&& (7 : Int32)))), .val (.int (1 : Int32)), .unset]) iM_239 rfl ?_
                  refine g_goto C iM_241 ?_
                  have e0 : (vM_11 p0 p1 p2 p3) = (1 : Int32) := by simp only [vM_11, if_pos hc153_1, if_pos hc178_1, if_pos hc203_1, if_neg hc235_1]
                  exact Go.cast J (by rw [e0])
              · refine g_aload C iM_206 rfl rfl ?_
                refine g_iload C iM_208 rfl ?_
                refine g_iload C iM_210 rfl ?_
                refine g_iconst C (2 : Int32) iM_212 rfl ?_
                refine g_callS C (rmE2 l Z aZ hw b1 (p2 &&& (3 : Int32)) (p0 + (p3 &&& (7 : Int32))) 4 (vM_4 p0 p1 p2 p3) h10 n0 Z10 (own_ge 1 1 rfl hc203_1) rfl (AV.congr Vw5_c10 (fun i _ => by first | rfl | ((repeat' split) <;> rfl) | (simp only [vM_4]; done) | (simp only [vM_4]; (repeat' split) <;> rfl)))) iM_213 (hw _ (List.mem_of_getElem? (i := 1) rfl)) (hw _ (List.mem_of_getElem? (i := 2) rfl)) (hw _ (List.mem_of_getElem? (i := 3) rfl)) (hw _ (List.mem_of_getElem? (i := 4) rfl)) (by decide) (argsL := [(.ref b1), (.int (p2 &&& (3 : Int32))), (.int (p0 + (p3 &&& (7 : Int32)))), (.int (2 : Int32))]) (rest := []) rfl rfl pd0 rfl rfl 0 (Nat.le_of_eq rfl) (by decide) (by decide) (by decide) (by decide) rfl rfl ?_
                rintro _ _ ⟨rfl, he12⟩
                refine Go.heap he12.symm ?_
                refine Go.some' ?_
                refine g_if_eq C iM_216 (fun hc216_1 => ?_) (fun hc216_1 => ?_)
                · refine g_aload C iM_225 rfl rfl ?_
                  refine g_iload C iM_227 rfl ?_
                  refine g_iload C iM_229 rfl ?_
                  refine g_iconst C (1 : Int32) iM_231 rfl ?_
                  refine g_callS C (rmE1 l Z aZ hw b1 (p2 &&& (3 : Int32)) (p0 + (p3 &&& (7 : Int32))) 4 (vM_4 p0 p1 p2 p3) h10 n0 Z10 (own_m3 p2) rfl (AV.congr Vw5_c10 (fun i _ => by first | rfl | ((repeat' split) <;> rfl) | (simp only [vM_4]; done) | (simp only [vM_4]; (repeat' split) <;> rfl)))) iM_232 (hw _ (List.mem_of_getElem? (i := 1) rfl)) (hw _ (List.mem_of_getElem? (i := 2) rfl)) (hw _ (List.mem_of_getElem? (i := 3) rfl)) (hw _ (List.mem_of_getElem? (i := 4) rfl)) (by decide) (argsL := [(.ref b1), (.int (p2 &&& (3 : Int32))), (.int (p0 + (p3 &&& (7 : Int32)))), (.int (1 : Int32))]) (rest := []) rfl rfl pd0 rfl rfl 0 (Nat.le_of_eq rfl) (by decide) (by decide) (by decide) (by decide) rfl rfl ?_
                  rintro _ _ ⟨rfl, he13⟩
                  refine Go.heap he13.symm ?_
                  refine Go.some' ?_
                  refine g_if_eq C iM_235 (fun hc235_1 => ?_) (fun hc235_1 => ?_)
                  · refine g_iconst C (0 : Int32) iM_244 rfl ?_
                    refine g_istore C (Ls' := #[.val (.int p0), .val (.int p1), .val (.int p2), .val (.int p3), .val (.ref b1), .val (.ref b6), .val (.int (p2 &&& (3 : Int32))), .val (.int (p0 + (p3 &&& (7 : Int32)))), .val (.int (0 : Int32)), .unset]) iM_245 rfl ?_
                    have e0 : (vM_11 p0 p1 p2 p3) = (0 : Int32) := by simp only [vM_11, if_pos hc153_1, if_pos hc178_1, if_neg hc203_1, if_pos hc216_1, if_pos hc235_1]
                    exact Go.cast J (by rw [e0])
                  · refine g_iconst C (1 : Int32) iM_238 rfl ?_
                    refine g_istore C (Ls' := #[.val (.int p0), .val (.int p1), .val (.int p2), .val (.int p3), .val (.ref b1), .val (.ref b6), .val (.int (p2 &&& (3 : Int32))), .val (.int (p0 + (p3 &&& (7 : Int32)))), .val (.int (1 : Int32)), .unset]) iM_239 rfl ?_
                    refine g_goto C iM_241 ?_
                    have e0 : (vM_11 p0 p1 p2 p3) = (1 : Int32) := by simp only [vM_11, if_pos hc153_1, if_pos hc178_1, if_neg hc203_1, if_pos hc216_1, if_neg hc235_1]
                    exact Go.cast J (by rw [e0])
                · refine g_iconst C (2 : Int32) iM_219 rfl ?_
                  refine g_istore C (Ls' := #[.val (.int p0), .val (.int p1), .val (.int p2), .val (.int p3), .val (.ref b1), .val (.ref b6), .val (.int (p2 &&& (3 : Int32))), .val (.int (p0 + (p3 &&& (7 : Int32)))), .val (.int (2 : Int32)), .unset]) iM_220 rfl ?_
                  refine g_goto C iM_222 ?_
                  have e0 : (vM_11 p0 p1 p2 p3) = (2 : Int32) := by simp only [vM_11, if_pos hc153_1, if_pos hc178_1, if_neg hc203_1, if_neg hc216_1]
                  exact Go.cast J (by rw [e0])
            · refine g_aload C iM_181 rfl rfl ?_
              refine g_iload C iM_183 rfl ?_
              refine g_iload C iM_185 rfl ?_
              refine g_iconst C (3 : Int32) iM_187 rfl ?_
              refine g_callS C (rmE3 l Z aZ hw b1 (p2 &&& (3 : Int32)) (p0 + (p3 &&& (7 : Int32))) 4 (vM_4 p0 p1 p2 p3) h10 n0 Z10 (own_ge 2 2 rfl hc178_1) rfl (AV.congr Vw5_c10 (fun i _ => by first | rfl | ((repeat' split) <;> rfl) | (simp only [vM_4]; done) | (simp only [vM_4]; (repeat' split) <;> rfl)))) iM_188 (hw _ (List.mem_of_getElem? (i := 1) rfl)) (hw _ (List.mem_of_getElem? (i := 2) rfl)) (hw _ (List.mem_of_getElem? (i := 3) rfl)) (hw _ (List.mem_of_getElem? (i := 4) rfl)) (by decide) (argsL := [(.ref b1), (.int (p2 &&& (3 : Int32))), (.int (p0 + (p3 &&& (7 : Int32)))), (.int (3 : Int32))]) (rest := []) rfl rfl pd0 rfl rfl 0 (Nat.le_of_eq rfl) (by decide) (by decide) (by decide) (by decide) rfl rfl ?_
              rintro _ _ ⟨rfl, he14⟩
              refine Go.heap he14.symm ?_
              refine Go.some' ?_
              refine g_if_eq C iM_191 (fun hc191_1 => ?_) (fun hc191_1 => ?_)
              · refine g_iload C iM_200 rfl ?_
                refine g_iconst C (1 : Int32) iM_202 rfl ?_
                refine g_icmp_lt C iM_203 (fun hc203_1 => ?_) (fun hc203_1 => ?_)
                · refine g_aload C iM_225 rfl rfl ?_
                  refine g_iload C iM_227 rfl ?_
                  refine g_iload C iM_229 rfl ?_
                  refine g_iconst C (1 : Int32) iM_231 rfl ?_
                  refine g_callS C (rmE1 l Z aZ hw b1 (p2 &&& (3 : Int32)) (p0 + (p3 &&& (7 : Int32))) 4 (vM_4 p0 p1 p2 p3) h10 n0 Z10 (own_m3 p2) rfl (AV.congr Vw5_c10 (fun i _ => by first | rfl | ((repeat' split) <;> rfl) | (simp only [vM_4]; done) | (simp only [vM_4]; (repeat' split) <;> rfl)))) iM_232 (hw _ (List.mem_of_getElem? (i := 1) rfl)) (hw _ (List.mem_of_getElem? (i := 2) rfl)) (hw _ (List.mem_of_getElem? (i := 3) rfl)) (hw _ (List.mem_of_getElem? (i := 4) rfl)) (by decide) (argsL := [(.ref b1), (.int (p2 &&& (3 : Int32))), (.int (p0 + (p3 &&& (7 : Int32)))), (.int (1 : Int32))]) (rest := []) rfl rfl pd0 rfl rfl 0 (Nat.le_of_eq rfl) (by decide) (by decide) (by decide) (by decide) rfl rfl ?_
                  rintro _ _ ⟨rfl, he15⟩
                  refine Go.heap he15.symm ?_
                  refine Go.some' ?_
                  refine g_if_eq C iM_235 (fun hc235_1 => ?_) (fun hc235_1 => ?_)
                  · refine g_iconst C (0 : Int32) iM_244 rfl ?_
                    refine g_istore C (Ls' := #[.val (.int p0), .val (.int p1), .val (.int p2), .val (.int p3), .val (.ref b1), .val (.ref b6), .val (.int (p2 &&& (3 : Int32))), .val (.int (p0 + (p3 &&& (7 : Int32)))), .val (.int (0 : Int32)), .unset]) iM_245 rfl ?_
                    have e0 : (vM_11 p0 p1 p2 p3) = (0 : Int32) := by simp only [vM_11, if_pos hc153_1, if_neg hc178_1, if_pos hc191_1, if_pos hc203_1, if_pos hc235_1]
                    exact Go.cast J (by rw [e0])
                  · refine g_iconst C (1 : Int32) iM_238 rfl ?_
                    refine g_istore C (Ls' := #[.val (.int p0), .val (.int p1), .val (.int p2), .val (.int p3), .val (.ref b1), .val (.ref b6), .val (.int (p2 &&& (3 : Int32))), .val (.int (p0 + (p3 &&& (7 : Int32)))), .val (.int (1 : Int32)), .unset]) iM_239 rfl ?_
                    refine g_goto C iM_241 ?_
                    have e0 : (vM_11 p0 p1 p2 p3) = (1 : Int32) := by simp only [vM_11, if_pos hc153_1, if_neg hc178_1, if_pos hc191_1, if_pos hc203_1, if_neg hc235_1]
                    exact Go.cast J (by rw [e0])
                · refine g_aload C iM_206 rfl rfl ?_
                  refine g_iload C iM_208 rfl ?_
                  refine g_iload C iM_210 rfl ?_
                  refine g_iconst C (2 : Int32) iM_212 rfl ?_
                  refine g_callS C (rmE2 l Z aZ hw b1 (p2 &&& (3 : Int32)) (p0 + (p3 &&& (7 : Int32))) 4 (vM_4 p0 p1 p2 p3) h10 n0 Z10 (own_ge 1 1 rfl hc203_1) rfl (AV.congr Vw5_c10 (fun i _ => by first | rfl | ((repeat' split) <;> rfl) | (simp only [vM_4]; done) | (simp only [vM_4]; (repeat' split) <;> rfl)))) iM_213 (hw _ (List.mem_of_getElem? (i := 1) rfl)) (hw _ (List.mem_of_getElem? (i := 2) rfl)) (hw _ (List.mem_of_getElem? (i := 3) rfl)) (hw _ (List.mem_of_getElem? (i := 4) rfl)) (by decide) (argsL := [(.ref b1), (.int (p2 &&& (3 : Int32))), (.int (p0 + (p3 &&& (7 : Int32)))), (.int (2 : Int32))]) (rest := []) rfl rfl pd0 rfl rfl 0 (Nat.le_of_eq rfl) (by decide) (by decide) (by decide) (by decide) rfl rfl ?_
                  rintro _ _ ⟨rfl, he16⟩
                  refine Go.heap he16.symm ?_
                  refine Go.some' ?_
                  refine g_if_eq C iM_216 (fun hc216_1 => ?_) (fun hc216_1 => ?_)
                  · refine g_aload C iM_225 rfl rfl ?_
                    refine g_iload C iM_227 rfl ?_
                    refine g_iload C iM_229 rfl ?_
                    refine g_iconst C (1 : Int32) iM_231 rfl ?_
                    refine g_callS C (rmE1 l Z aZ hw b1 (p2 &&& (3 : Int32)) (p0 + (p3 &&& (7 : Int32))) 4 (vM_4 p0 p1 p2 p3) h10 n0 Z10 (own_m3 p2) rfl (AV.congr Vw5_c10 (fun i _ => by first | rfl | ((repeat' split) <;> rfl) | (simp only [vM_4]; done) | (simp only [vM_4]; (repeat' split) <;> rfl)))) iM_232 (hw _ (List.mem_of_getElem? (i := 1) rfl)) (hw _ (List.mem_of_getElem? (i := 2) rfl)) (hw _ (List.mem_of_getElem? (i := 3) rfl)) (hw _ (List.mem_of_getElem? (i := 4) rfl)) (by decide) (argsL := [(.ref b1), (.int (p2 &&& (3 : Int32))), (.int (p0 + (p3 &&& (7 : Int32)))), (.int (1 : Int32))]) (rest := []) rfl rfl pd0 rfl rfl 0 (Nat.le_of_eq rfl) (by decide) (by decide) (by decide) (by decide) rfl rfl ?_
                    rintro _ _ ⟨rfl, he17⟩
                    refine Go.heap he17.symm ?_
                    refine Go.some' ?_
                    refine g_if_eq C iM_235 (fun hc235_1 => ?_) (fun hc235_1 => ?_)
                    · refine g_iconst C (0 : Int32) iM_244 rfl ?_
                      refine g_istore C (Ls' := #[.val (.int p0), .val (.int p1), .val (.int p2), .val (.int p3), .val (.ref b1), .val (.ref b6), .val (.int (p2 &&& (3 : Int32))), .val (.int (p0 + (p3 &&& (7 : Int32)))), .val (.int (0 : Int32)), .unset]) iM_245 rfl ?_
                      have e0 : (vM_11 p0 p1 p2 p3) = (0 : Int32) := by simp only [vM_11, if_pos hc153_1, if_neg hc178_1, if_pos hc191_1, if_neg hc203_1, if_pos hc216_1, if_pos hc235_1]
                      exact Go.cast J (by rw [e0])
                    · refine g_iconst C (1 : Int32) iM_238 rfl ?_
                      refine g_istore C (Ls' := #[.val (.int p0), .val (.int p1), .val (.int p2), .val (.int p3), .val (.ref b1), .val (.ref b6), .val (.int (p2 &&& (3 : Int32))), .val (.int (p0 + (p3 &&& (7 : Int32)))), .val (.int (1 : Int32)), .unset]) iM_239 rfl ?_
                      refine g_goto C iM_241 ?_
                      have e0 : (vM_11 p0 p1 p2 p3) = (1 : Int32) := by simp only [vM_11, if_pos hc153_1, if_neg hc178_1, if_pos hc191_1, if_neg hc203_1, if_pos hc216_1, if_neg hc235_1]
                      exact Go.cast J (by rw [e0])
                  · refine g_iconst C (2 : Int32) iM_219 rfl ?_
                    refine g_istore C (Ls' := #[.val (.int p0), .val (.int p1), .val (.int p2), .val (.int p3), .val (.ref b1), .val (.ref b6), .val (.int (p2 &&& (3 : Int32))), .val (.int (p0 + (p3 &&& (7 : Int32)))), .val (.int (2 : Int32)), .unset]) iM_220 rfl ?_
                    refine g_goto C iM_222 ?_
                    have e0 : (vM_11 p0 p1 p2 p3) = (2 : Int32) := by simp only [vM_11, if_pos hc153_1, if_neg hc178_1, if_pos hc191_1, if_neg hc203_1, if_neg hc216_1]
                    exact Go.cast J (by rw [e0])
              · refine g_iconst C (3 : Int32) iM_194 rfl ?_
                refine g_istore C (Ls' := #[.val (.int p0), .val (.int p1), .val (.int p2), .val (.int p3), .val (.ref b1), .val (.ref b6), .val (.int (p2 &&& (3 : Int32))), .val (.int (p0 + (p3 &&& (7 : Int32)))), .val (.int (3 : Int32)), .unset]) iM_195 rfl ?_
                refine g_goto C iM_197 ?_
                have e0 : (vM_11 p0 p1 p2 p3) = (3 : Int32) := by simp only [vM_11, if_pos hc153_1, if_neg hc178_1, if_neg hc191_1]
                exact Go.cast J (by rw [e0])
          · refine g_aload C iM_156 rfl rfl ?_
            refine g_iload C iM_158 rfl ?_
            refine g_iload C iM_160 rfl ?_
            refine g_iconst C (4 : Int32) iM_162 rfl ?_
            refine g_callS C (rmE4 l Z aZ hw b1 (p2 &&& (3 : Int32)) (p0 + (p3 &&& (7 : Int32))) 4 (vM_4 p0 p1 p2 p3) h10 n0 Z10 (own_ge 3 3 rfl hc153_1) rfl (AV.congr Vw5_c10 (fun i _ => by first | rfl | ((repeat' split) <;> rfl) | (simp only [vM_4]; done) | (simp only [vM_4]; (repeat' split) <;> rfl)))) iM_163 (hw _ (List.mem_of_getElem? (i := 1) rfl)) (hw _ (List.mem_of_getElem? (i := 2) rfl)) (hw _ (List.mem_of_getElem? (i := 3) rfl)) (hw _ (List.mem_of_getElem? (i := 4) rfl)) (by decide) (argsL := [(.ref b1), (.int (p2 &&& (3 : Int32))), (.int (p0 + (p3 &&& (7 : Int32)))), (.int (4 : Int32))]) (rest := []) rfl rfl pd0 rfl rfl 0 (Nat.le_of_eq rfl) (by decide) (by decide) (by decide) (by decide) rfl rfl ?_
            rintro _ _ ⟨rfl, he18⟩
            refine Go.heap he18.symm ?_
            refine Go.some' ?_
            refine g_if_eq C iM_166 (fun hc166_1 => ?_) (fun hc166_1 => ?_)
            · refine g_iload C iM_175 rfl ?_
              refine g_iconst C (2 : Int32) iM_177 rfl ?_
              refine g_icmp_lt C iM_178 (fun hc178_1 => ?_) (fun hc178_1 => ?_)
              · refine g_iload C iM_200 rfl ?_
                refine g_iconst C (1 : Int32) iM_202 rfl ?_
                refine g_icmp_lt C iM_203 (fun hc203_1 => ?_) (fun hc203_1 => ?_)
                · refine g_aload C iM_225 rfl rfl ?_
                  refine g_iload C iM_227 rfl ?_
                  refine g_iload C iM_229 rfl ?_
                  refine g_iconst C (1 : Int32) iM_231 rfl ?_
                  refine g_callS C (rmE1 l Z aZ hw b1 (p2 &&& (3 : Int32)) (p0 + (p3 &&& (7 : Int32))) 4 (vM_4 p0 p1 p2 p3) h10 n0 Z10 (own_m3 p2) rfl (AV.congr Vw5_c10 (fun i _ => by first | rfl | ((repeat' split) <;> rfl) | (simp only [vM_4]; done) | (simp only [vM_4]; (repeat' split) <;> rfl)))) iM_232 (hw _ (List.mem_of_getElem? (i := 1) rfl)) (hw _ (List.mem_of_getElem? (i := 2) rfl)) (hw _ (List.mem_of_getElem? (i := 3) rfl)) (hw _ (List.mem_of_getElem? (i := 4) rfl)) (by decide) (argsL := [(.ref b1), (.int (p2 &&& (3 : Int32))), (.int (p0 + (p3 &&& (7 : Int32)))), (.int (1 : Int32))]) (rest := []) rfl rfl pd0 rfl rfl 0 (Nat.le_of_eq rfl) (by decide) (by decide) (by decide) (by decide) rfl rfl ?_
                  rintro _ _ ⟨rfl, he19⟩
                  refine Go.heap he19.symm ?_
                  refine Go.some' ?_
                  refine g_if_eq C iM_235 (fun hc235_1 => ?_) (fun hc235_1 => ?_)
                  · refine g_iconst C (0 : Int32) iM_244 rfl ?_
                    refine g_istore C (Ls' := #[.val (.int p0), .val (.int p1), .val (.int p2), .val (.int p3), .val (.ref b1), .val (.ref b6), .val (.int (p2 &&& (3 : Int32))), .val (.int (p0 + (p3 &&& (7 : Int32)))), .val (.int (0 : Int32)), .unset]) iM_245 rfl ?_
                    have e0 : (vM_11 p0 p1 p2 p3) = (0 : Int32) := by simp only [vM_11, if_neg hc153_1, if_pos hc166_1, if_pos hc178_1, if_pos hc203_1, if_pos hc235_1]
                    exact Go.cast J (by rw [e0])
                  · refine g_iconst C (1 : Int32) iM_238 rfl ?_
                    refine g_istore C (Ls' := #[.val (.int p0), .val (.int p1), .val (.int p2), .val (.int p3), .val (.ref b1), .val (.ref b6), .val (.int (p2 &&& (3 : Int32))), .val (.int (p0 + (p3 &&& (7 : Int32)))), .val (.int (1 : Int32)), .unset]) iM_239 rfl ?_
                    refine g_goto C iM_241 ?_
                    have e0 : (vM_11 p0 p1 p2 p3) = (1 : Int32) := by simp only [vM_11, if_neg hc153_1, if_pos hc166_1, if_pos hc178_1, if_pos hc203_1, if_neg hc235_1]
                    exact Go.cast J (by rw [e0])
                · refine g_aload C iM_206 rfl rfl ?_
                  refine g_iload C iM_208 rfl ?_
                  refine g_iload C iM_210 rfl ?_
                  refine g_iconst C (2 : Int32) iM_212 rfl ?_
                  refine g_callS C (rmE2 l Z aZ hw b1 (p2 &&& (3 : Int32)) (p0 + (p3 &&& (7 : Int32))) 4 (vM_4 p0 p1 p2 p3) h10 n0 Z10 (own_ge 1 1 rfl hc203_1) rfl (AV.congr Vw5_c10 (fun i _ => by first | rfl | ((repeat' split) <;> rfl) | (simp only [vM_4]; done) | (simp only [vM_4]; (repeat' split) <;> rfl)))) iM_213 (hw _ (List.mem_of_getElem? (i := 1) rfl)) (hw _ (List.mem_of_getElem? (i := 2) rfl)) (hw _ (List.mem_of_getElem? (i := 3) rfl)) (hw _ (List.mem_of_getElem? (i := 4) rfl)) (by decide) (argsL := [(.ref b1), (.int (p2 &&& (3 : Int32))), (.int (p0 + (p3 &&& (7 : Int32)))), (.int (2 : Int32))]) (rest := []) rfl rfl pd0 rfl rfl 0 (Nat.le_of_eq rfl) (by decide) (by decide) (by decide) (by decide) rfl rfl ?_
                  rintro _ _ ⟨rfl, he20⟩
                  refine Go.heap he20.symm ?_
                  refine Go.some' ?_
                  refine g_if_eq C iM_216 (fun hc216_1 => ?_) (fun hc216_1 => ?_)
                  · refine g_aload C iM_225 rfl rfl ?_
                    refine g_iload C iM_227 rfl ?_
                    refine g_iload C iM_229 rfl ?_
                    refine g_iconst C (1 : Int32) iM_231 rfl ?_
                    refine g_callS C (rmE1 l Z aZ hw b1 (p2 &&& (3 : Int32)) (p0 + (p3 &&& (7 : Int32))) 4 (vM_4 p0 p1 p2 p3) h10 n0 Z10 (own_m3 p2) rfl (AV.congr Vw5_c10 (fun i _ => by first | rfl | ((repeat' split) <;> rfl) | (simp only [vM_4]; done) | (simp only [vM_4]; (repeat' split) <;> rfl)))) iM_232 (hw _ (List.mem_of_getElem? (i := 1) rfl)) (hw _ (List.mem_of_getElem? (i := 2) rfl)) (hw _ (List.mem_of_getElem? (i := 3) rfl)) (hw _ (List.mem_of_getElem? (i := 4) rfl)) (by decide) (argsL := [(.ref b1), (.int (p2 &&& (3 : Int32))), (.int (p0 + (p3 &&& (7 : Int32)))), (.int (1 : Int32))]) (rest := []) rfl rfl pd0 rfl rfl 0 (Nat.le_of_eq rfl) (by decide) (by decide) (by decide) (by decide) rfl rfl ?_
                    rintro _ _ ⟨rfl, he21⟩
                    refine Go.heap he21.symm ?_
                    refine Go.some' ?_
                    refine g_if_eq C iM_235 (fun hc235_1 => ?_) (fun hc235_1 => ?_)
                    · refine g_iconst C (0 : Int32) iM_244 rfl ?_
                      refine g_istore C (Ls' := #[.val (.int p0), .val (.int p1), .val (.int p2), .val (.int p3), .val (.ref b1), .val (.ref b6), .val (.int (p2 &&& (3 : Int32))), .val (.int (p0 + (p3 &&& (7 : Int32)))), .val (.int (0 : Int32)), .unset]) iM_245 rfl ?_
                      have e0 : (vM_11 p0 p1 p2 p3) = (0 : Int32) := by simp only [vM_11, if_neg hc153_1, if_pos hc166_1, if_pos hc178_1, if_neg hc203_1, if_pos hc216_1, if_pos hc235_1]
                      exact Go.cast J (by rw [e0])
                    · refine g_iconst C (1 : Int32) iM_238 rfl ?_
                      refine g_istore C (Ls' := #[.val (.int p0), .val (.int p1), .val (.int p2), .val (.int p3), .val (.ref b1), .val (.ref b6), .val (.int (p2 &&& (3 : Int32))), .val (.int (p0 + (p3 &&& (7 : Int32)))), .val (.int (1 : Int32)), .unset]) iM_239 rfl ?_
                      refine g_goto C iM_241 ?_
                      have e0 : (vM_11 p0 p1 p2 p3) = (1 : Int32) := by simp only [vM_11, if_neg hc153_1, if_pos hc166_1, if_pos hc178_1, if_neg hc203_1, if_pos hc216_1, if_neg hc235_1]
                      exact Go.cast J (by rw [e0])
                  · refine g_iconst C (2 : Int32) iM_219 rfl ?_
                    refine g_istore C (Ls' := #[.val (.int p0), .val (.int p1), .val (.int p2), .val (.int p3), .val (.ref b1), .val (.ref b6), .val (.int (p2 &&& (3 : Int32))), .val (.int (p0 + (p3 &&& (7 : Int32)))), .val (.int (2 : Int32)), .unset]) iM_220 rfl ?_
                    refine g_goto C iM_222 ?_
                    have e0 : (vM_11 p0 p1 p2 p3) = (2 : Int32) := by simp only [vM_11, if_neg hc153_1, if_pos hc166_1, if_pos hc178_1, if_neg hc203_1, if_neg hc216_1]
                    exact Go.cast J (by rw [e0])
              · refine g_aload C iM_181 rfl rfl ?_
                refine g_iload C iM_183 rfl ?_
                refine g_iload C iM_185 rfl ?_
                refine g_iconst C (3 : Int32) iM_187 rfl ?_
                refine g_callS C (rmE3 l Z aZ hw b1 (p2 &&& (3 : Int32)) (p0 + (p3 &&& (7 : Int32))) 4 (vM_4 p0 p1 p2 p3) h10 n0 Z10 (own_ge 2 2 rfl hc178_1) rfl (AV.congr Vw5_c10 (fun i _ => by first | rfl | ((repeat' split) <;> rfl) | (simp only [vM_4]; done) | (simp only [vM_4]; (repeat' split) <;> rfl)))) iM_188 (hw _ (List.mem_of_getElem? (i := 1) rfl)) (hw _ (List.mem_of_getElem? (i := 2) rfl)) (hw _ (List.mem_of_getElem? (i := 3) rfl)) (hw _ (List.mem_of_getElem? (i := 4) rfl)) (by decide) (argsL := [(.ref b1), (.int (p2 &&& (3 : Int32))), (.int (p0 + (p3 &&& (7 : Int32)))), (.int (3 : Int32))]) (rest := []) rfl rfl pd0 rfl rfl 0 (Nat.le_of_eq rfl) (by decide) (by decide) (by decide) (by decide) rfl rfl ?_
                rintro _ _ ⟨rfl, he22⟩
                refine Go.heap he22.symm ?_
                refine Go.some' ?_
                refine g_if_eq C iM_191 (fun hc191_1 => ?_) (fun hc191_1 => ?_)
                · refine g_iload C iM_200 rfl ?_
                  refine g_iconst C (1 : Int32) iM_202 rfl ?_
                  refine g_icmp_lt C iM_203 (fun hc203_1 => ?_) (fun hc203_1 => ?_)
                  · refine g_aload C iM_225 rfl rfl ?_
                    refine g_iload C iM_227 rfl ?_
                    refine g_iload C iM_229 rfl ?_
                    refine g_iconst C (1 : Int32) iM_231 rfl ?_
                    refine g_callS C (rmE1 l Z aZ hw b1 (p2 &&& (3 : Int32)) (p0 + (p3 &&& (7 : Int32))) 4 (vM_4 p0 p1 p2 p3) h10 n0 Z10 (own_m3 p2) rfl (AV.congr Vw5_c10 (fun i _ => by first | rfl | ((repeat' split) <;> rfl) | (simp only [vM_4]; done) | (simp only [vM_4]; (repeat' split) <;> rfl)))) iM_232 (hw _ (List.mem_of_getElem? (i := 1) rfl)) (hw _ (List.mem_of_getElem? (i := 2) rfl)) (hw _ (List.mem_of_getElem? (i := 3) rfl)) (hw _ (List.mem_of_getElem? (i := 4) rfl)) (by decide) (argsL := [(.ref b1), (.int (p2 &&& (3 : Int32))), (.int (p0 + (p3 &&& (7 : Int32)))), (.int (1 : Int32))]) (rest := []) rfl rfl pd0 rfl rfl 0 (Nat.le_of_eq rfl) (by decide) (by decide) (by decide) (by decide) rfl rfl ?_
                    rintro _ _ ⟨rfl, he23⟩
                    refine Go.heap he23.symm ?_
                    refine Go.some' ?_
                    refine g_if_eq C iM_235 (fun hc235_1 => ?_) (fun hc235_1 => ?_)
                    · refine g_iconst C (0 : Int32) iM_244 rfl ?_
                      refine g_istore C (Ls' := #[.val (.int p0), .val (.int p1), .val (.int p2), .val (.int p3), .val (.ref b1), .val (.ref b6), .val (.int (p2 &&& (3 : Int32))), .val (.int (p0 + (p3 &&& (7 : Int32)))), .val (.int (0 : Int32)), .unset]) iM_245 rfl ?_
                      have e0 : (vM_11 p0 p1 p2 p3) = (0 : Int32) := by simp only [vM_11, if_neg hc153_1, if_pos hc166_1, if_neg hc178_1, if_pos hc191_1, if_pos hc203_1, if_pos hc235_1]
                      exact Go.cast J (by rw [e0])
                    · refine g_iconst C (1 : Int32) iM_238 rfl ?_
                      refine g_istore C (Ls' := #[.val (.int p0), .val (.int p1), .val (.int p2), .val (.int p3), .val (.ref b1), .val (.ref b6), .val (.int (p2 &&& (3 : Int32))), .val (.int (p0 + (p3 &&& (7 : Int32)))), .val (.int (1 : Int32)), .unset]) iM_239 rfl ?_
                      refine g_goto C iM_241 ?_
                      have e0 : (vM_11 p0 p1 p2 p3) = (1 : Int32) := by simp only [vM_11, if_neg hc153_1, if_pos hc166_1, if_neg hc178_1, if_pos hc191_1, if_pos hc203_1, if_neg hc235_1]
                      exact Go.cast J (by rw [e0])
                  · refine g_aload C iM_206 rfl rfl ?_
                    refine g_iload C iM_208 rfl ?_
                    refine g_iload C iM_210 rfl ?_
                    refine g_iconst C (2 : Int32) iM_212 rfl ?_
                    refine g_callS C (rmE2 l Z aZ hw b1 (p2 &&& (3 : Int32)) (p0 + (p3 &&& (7 : Int32))) 4 (vM_4 p0 p1 p2 p3) h10 n0 Z10 (own_ge 1 1 rfl hc203_1) rfl (AV.congr Vw5_c10 (fun i _ => by first | rfl | ((repeat' split) <;> rfl) | (simp only [vM_4]; done) | (simp only [vM_4]; (repeat' split) <;> rfl)))) iM_213 (hw _ (List.mem_of_getElem? (i := 1) rfl)) (hw _ (List.mem_of_getElem? (i := 2) rfl)) (hw _ (List.mem_of_getElem? (i := 3) rfl)) (hw _ (List.mem_of_getElem? (i := 4) rfl)) (by decide) (argsL := [(.ref b1), (.int (p2 &&& (3 : Int32))), (.int (p0 + (p3 &&& (7 : Int32)))), (.int (2 : Int32))]) (rest := []) rfl rfl pd0 rfl rfl 0 (Nat.le_of_eq rfl) (by decide) (by decide) (by decide) (by decide) rfl rfl ?_
                    rintro _ _ ⟨rfl, he24⟩
                    refine Go.heap he24.symm ?_
                    refine Go.some' ?_
                    refine g_if_eq C iM_216 (fun hc216_1 => ?_) (fun hc216_1 => ?_)
                    · refine g_aload C iM_225 rfl rfl ?_
                      refine g_iload C iM_227 rfl ?_
                      refine g_iload C iM_229 rfl ?_
                      refine g_iconst C (1 : Int32) iM_231 rfl ?_
                      refine g_callS C (rmE1 l Z aZ hw b1 (p2 &&& (3 : Int32)) (p0 + (p3 &&& (7 : Int32))) 4 (vM_4 p0 p1 p2 p3) h10 n0 Z10 (own_m3 p2) rfl (AV.congr Vw5_c10 (fun i _ => by first | rfl | ((repeat' split) <;> rfl) | (simp only [vM_4]; done) | (simp only [vM_4]; (repeat' split) <;> rfl)))) iM_232 (hw _ (List.mem_of_getElem? (i := 1) rfl)) (hw _ (List.mem_of_getElem? (i := 2) rfl)) (hw _ (List.mem_of_getElem? (i := 3) rfl)) (hw _ (List.mem_of_getElem? (i := 4) rfl)) (by decide) (argsL := [(.ref b1), (.int (p2 &&& (3 : Int32))), (.int (p0 + (p3 &&& (7 : Int32)))), (.int (1 : Int32))]) (rest := []) rfl rfl pd0 rfl rfl 0 (Nat.le_of_eq rfl) (by decide) (by decide) (by decide) (by decide) rfl rfl ?_
                      rintro _ _ ⟨rfl, he25⟩
                      refine Go.heap he25.symm ?_
                      refine Go.some' ?_
                      refine g_if_eq C iM_235 (fun hc235_1 => ?_) (fun hc235_1 => ?_)
                      · refine g_iconst C (0 : Int32) iM_244 rfl ?_
                        refine g_istore C (Ls' := #[.val (.int p0), .val (.int p1), .val (.int p2), .val (.int p3), .val (.ref b1), .val (.ref b6), .val (.int (p2 &&& (3 : Int32))), .val (.int (p0 + (p3 &&& (7 : Int32)))), .val (.int (0 : Int32)), .unset]) iM_245 rfl ?_
                        have e0 : (vM_11 p0 p1 p2 p3) = (0 : Int32) := by simp only [vM_11, if_neg hc153_1, if_pos hc166_1, if_neg hc178_1, if_pos hc191_1, if_neg hc203_1, if_pos hc216_1, if_pos hc235_1]
                        exact Go.cast J (by rw [e0])
                      · refine g_iconst C (1 : Int32) iM_238 rfl ?_
                        refine g_istore C (Ls' := #[.val (.int p0), .val (.int p1), .val (.int p2), .val (.int p3), .val (.ref b1), .val (.ref b6), .val (.int (p2 &&& (3 : Int32))), .val (.int (p0 + (p3 &&& (7 : Int32)))), .val (.int (1 : Int32)), .unset]) iM_239 rfl ?_
                        refine g_goto C iM_241 ?_
                        have e0 : (vM_11 p0 p1 p2 p3) = (1 : Int32) := by simp only [vM_11, if_neg hc153_1, if_pos hc166_1, if_neg hc178_1, if_pos hc191_1, if_neg hc203_1, if_pos hc216_1, if_neg hc235_1]
                        exact Go.cast J (by rw [e0])
                    · refine g_iconst C (2 : Int32) iM_219 rfl ?_
                      refine g_istore C (Ls' := #[.val (.int p0), .val (.int p1), .val (.int p2), .val (.int p3), .val (.ref b1), .val (.ref b6), .val (.int (p2 &&& (3 : Int32))), .val (.int (p0 + (p3 &&& (7 : Int32)))), .val (.int (2 : Int32)), .unset]) iM_220 rfl ?_
                      refine g_goto C iM_222 ?_
                      have e0 : (vM_11 p0 p1 p2 p3) = (2 : Int32) := by simp only [vM_11, if_neg hc153_1, if_pos hc166_1, if_neg hc178_1, if_pos hc191_1, if_neg hc203_1, if_neg hc216_1]
                      exact Go.cast J (by rw [e0])
                · refine g_iconst C (3 : Int32) iM_194 rfl ?_
                  refine g_istore C (Ls' := #[.val (.int p0), .val (.int p1), .val (.int p2), .val (.int p3), .val (.ref b1), .val (.ref b6), .val (.int (p2 &&& (3 : Int32))), .val (.int (p0 + (p3 &&& (7 : Int32)))), .val (.int (3 : Int32)), .unset]) iM_195 rfl ?_
                  refine g_goto C iM_197 ?_
                  have e0 : (vM_11 p0 p1 p2 p3) = (3 : Int32) := by simp only [vM_11, if_neg hc153_1, if_pos hc166_1, if_neg hc178_1, if_neg hc191_1]
                  exact Go.cast J (by rw [e0])
            · refine g_iconst C (4 : Int32) iM_169 rfl ?_
              refine g_istore C (Ls' := #[.val (.int p0), .val (.int p1), .val (.int p2), .val (.int p3), .val (.ref b1), .val (.ref b6), .val (.int (p2 &&& (3 : Int32))), .val (.int (p0 + (p3 &&& (7 : Int32)))), .val (.int (4 : Int32)), .unset]) iM_170 rfl ?_
              refine g_goto C iM_172 ?_
              have e0 : (vM_11 p0 p1 p2 p3) = (4 : Int32) := by simp only [vM_11, if_neg hc153_1, if_neg hc166_1]
              exact Go.cast J (by rw [e0])
      · refine g_aload C iM_108 rfl rfl ?_
        refine g_iconst C (0 : Int32) iM_110 rfl ?_
        refine g_iald C (.int (p0 + (p1 &&& (3 : Int32)))) iM_111 Vw5_c8 ⟨by decide, by decide⟩ rfl ?_
        refine g_aload C iM_112 rfl rfl ?_
        refine g_iconst C (2 : Int32) iM_114 rfl ?_
        refine g_iald C (.int (vM_1 p0 p1 p2 p3)) iM_115 Vw5_c8 ⟨by decide, by decide⟩ rfl ?_
        refine g_icmp_ne C iM_116 (fun hc116_1 => ?_) (fun hc116_1 => ?_)
        · refine g_aload C iM_119 rfl rfl ?_
          refine g_iconst C (2 : Int32) iM_121 rfl ?_
          refine g_iconst C (1 : Int32) iM_122 rfl ?_
          refine g_iast C iM_123 Vw8 ⟨by decide, by decide⟩ ge6 (fun h27 W27 V27 => ?_)
          have Vw5_c27 := AV.other Vw5_c8 W27 ne_b1_b6
          have Vw27 : AV Z h27 b6 .int 4 (fun i => if i = 2 then (.int (1 : Int32)) else (fun i => if i = 1 then (.int (vM_3 p0 p1 p2 p3)) else (fun i => if i = 0 then (.int (0 : Int32)) else (fun _ => (.int (0 : Int32))) i) i) i) := V27
          have K27 := Keep.wr K8 W27 (Or.inr fr6)
          have Z27 : n0 ≤ h27.size := Nat.le_trans Z8 (Keep.of_wr W27).1
          refine g_goto C iM_124 ?_
          refine g_aload C iM_132 rfl rfl ?_
          refine g_iconst C (3 : Int32) iM_134 rfl ?_
          refine g_iconst C (0 : Int32) iM_135 rfl ?_
          refine g_iast C iM_136 Vw27 ⟨by decide, by decide⟩ ge6 (fun h28 W28 V28 => ?_)
          have Vw5_c28 := AV.other Vw5_c27 W28 ne_b1_b6
          have Vw28 : AV Z h28 b6 .int 4 (fun i => if i = 3 then (.int (0 : Int32)) else (fun i => if i = 2 then (.int (1 : Int32)) else (fun i => if i = 1 then (.int (vM_3 p0 p1 p2 p3)) else (fun i => if i = 0 then (.int (0 : Int32)) else (fun _ => (.int (0 : Int32))) i) i) i) i) := V28
          have K28 := Keep.wr K27 W28 (Or.inr fr6)
          have Z28 : n0 ≤ h28.size := Nat.le_trans Z27 (Keep.of_wr W28).1
          refine g_iloadN C iM_137 rfl ?_
          refine g_iconst C (3 : Int32) iM_138 rfl ?_
          refine g_iand C iM_139 ?_
          refine g_istore C (Ls' := #[.val (.int p0), .val (.int p1), .val (.int p2), .val (.int p3), .val (.ref b1), .val (.ref b6), .val (.int (p2 &&& (3 : Int32))), .unset, .unset, .unset]) iM_140 rfl ?_
          refine g_iloadN C iM_142 rfl ?_
          refine g_iloadN C iM_143 rfl ?_
          refine g_bipush C (7 : Int32) iM_144 rfl ?_
          refine g_iand C iM_146 ?_
          refine g_iadd C iM_147 ?_
          refine g_istore C (Ls' := #[.val (.int p0), .val (.int p1), .val (.int p2), .val (.int p3), .val (.ref b1), .val (.ref b6), .val (.int (p2 &&& (3 : Int32))), .val (.int (p0 + (p3 &&& (7 : Int32)))), .unset, .unset]) iM_148 rfl ?_
          refine g_iload C iM_150 rfl ?_
          refine g_iconst C (3 : Int32) iM_152 rfl ?_
          refine Go.join (mkF m 247 #[.val (.int p0), .val (.int p1), .val (.int p2), .val (.int p3), .val (.ref b1), .val (.ref b6), .val (.int (p2 &&& (3 : Int32))), .val (.int (p0 + (p3 &&& (7 : Int32)))), .val (.int (vM_11 p0 p1 p2 p3)), .unset] []) ?_ (fun J => ?_)
          · refine g_aload C iM_247 rfl rfl ?_
            refine g_aload C iM_249 rfl rfl ?_
            refine g_iload C iM_251 rfl ?_
            refine g_iload C iM_253 rfl ?_
            refine g_callS C (rmX l Z aZ hw b1 b6 (p2 &&& (3 : Int32)) (p0 + (p3 &&& (7 : Int32))) (vM_4 p0 p1 p2 p3) (vM_15 p0 p1 p2 p3) h28 n0 Z28 (own_m3a p2) (own_m3b p2) (own_ht _ _ (own_v3 p0 p1 p2 p3) (by decide)) (AV.congr Vw5_c28 (fun i _ => by first | rfl | ((repeat' split) <;> rfl) | (simp only [vM_4]; done) | (simp only [vM_4]; (repeat' split) <;> rfl))) (AV.congr Vw28 (fun i _ => by first | rfl | ((repeat' split) <;> rfl) | (simp only [vM_15]; done) | (simp only [vM_15]; (repeat' split) <;> rfl)))) iM_255 (hw _ (List.mem_of_getElem? (i := 5) rfl)) (hw _ (List.mem_of_getElem? (i := 6) rfl)) (hw _ (List.mem_of_getElem? (i := 7) rfl)) (hw _ (List.mem_of_getElem? (i := 8) rfl)) (by decide) (argsL := [(.ref b1), (.ref b6), (.int (p2 &&& (3 : Int32))), (.int (p0 + (p3 &&& (7 : Int32))))]) (rest := []) rfl rfl pd1 rfl rfl 0 (Nat.le_of_eq rfl) (by decide) (by decide) (by decide) (by decide) rfl rfl ?_
            rintro _ _ ⟨rfl, he44⟩
            refine Go.heap he44.symm ?_
            refine Go.some' ?_
            refine g_istore C (Ls' := #[.val (.int p0), .val (.int p1), .val (.int p2), .val (.int p3), .val (.ref b1), .val (.ref b6), .val (.int (p2 &&& (3 : Int32))), .val (.int (p0 + (p3 &&& (7 : Int32)))), .val (.int (vM_11 p0 p1 p2 p3)), .val (.int (vM_16 p0 p1 p2 p3))]) iM_258 rfl ?_
            refine g_iload C iM_260 rfl ?_
            refine g_iload C iM_262 rfl ?_
            refine Go.join (mkF m 272 #[.val (.int p0), .val (.int p1), .val (.int p2), .val (.int p3), .val (.ref b1), .val (.ref b6), .val (.int (p2 &&& (3 : Int32))), .val (.int (p0 + (p3 &&& (7 : Int32)))), .val (.int (vM_11 p0 p1 p2 p3)), .val (.int (vM_16 p0 p1 p2 p3))] [(.int (vM_17 p0 p1 p2 p3))]) ?_ (fun J => ?_)
            · exact g_retNar C (t := .boolean) iM_272 rfl (by simp) (by decide) (by decide) (show _ = _ from congrArg (fun z => some (Value.int z)) (leafM_1 p0 p1 p2 p3 hc86_1 hc97_1 hc116_1))
            · refine g_icmp_ne C iM_264 (fun hc264_1 => ?_) (fun hc264_1 => ?_)
              · refine g_iconst C (1 : Int32) iM_267 rfl ?_
                refine g_goto C iM_268 ?_
                have e0 : (vM_17 p0 p1 p2 p3) = (1 : Int32) := by simp only [vM_17, if_pos hc264_1]
                exact Go.cast J (by rw [e0])
              · refine g_iconst C (0 : Int32) iM_271 rfl ?_
                have e0 : (vM_17 p0 p1 p2 p3) = (0 : Int32) := by simp only [vM_17, if_neg hc264_1]
                exact Go.cast J (by rw [e0])
          · refine g_icmp_lt C iM_153 (fun hc153_1 => ?_) (fun hc153_1 => ?_)
            · refine g_iload C iM_175 rfl ?_
              refine g_iconst C (2 : Int32) iM_177 rfl ?_
              refine g_icmp_lt C iM_178 (fun hc178_1 => ?_) (fun hc178_1 => ?_)
              · refine g_iload C iM_200 rfl ?_
                refine g_iconst C (1 : Int32) iM_202 rfl ?_
                refine g_icmp_lt C iM_203 (fun hc203_1 => ?_) (fun hc203_1 => ?_)
                · refine g_aload C iM_225 rfl rfl ?_
                  refine g_iload C iM_227 rfl ?_
                  refine g_iload C iM_229 rfl ?_
                  refine g_iconst C (1 : Int32) iM_231 rfl ?_
                  refine g_callS C (rmE1 l Z aZ hw b1 (p2 &&& (3 : Int32)) (p0 + (p3 &&& (7 : Int32))) 4 (vM_4 p0 p1 p2 p3) h28 n0 Z28 (own_m3 p2) rfl (AV.congr Vw5_c28 (fun i _ => by first | rfl | ((repeat' split) <;> rfl) | (simp only [vM_4]; done) | (simp only [vM_4]; (repeat' split) <;> rfl)))) iM_232 (hw _ (List.mem_of_getElem? (i := 1) rfl)) (hw _ (List.mem_of_getElem? (i := 2) rfl)) (hw _ (List.mem_of_getElem? (i := 3) rfl)) (hw _ (List.mem_of_getElem? (i := 4) rfl)) (by decide) (argsL := [(.ref b1), (.int (p2 &&& (3 : Int32))), (.int (p0 + (p3 &&& (7 : Int32)))), (.int (1 : Int32))]) (rest := []) rfl rfl pd0 rfl rfl 0 (Nat.le_of_eq rfl) (by decide) (by decide) (by decide) (by decide) rfl rfl ?_
                  rintro _ _ ⟨rfl, he29⟩
                  refine Go.heap he29.symm ?_
                  refine Go.some' ?_
                  refine g_if_eq C iM_235 (fun hc235_1 => ?_) (fun hc235_1 => ?_)
                  · refine g_iconst C (0 : Int32) iM_244 rfl ?_
                    refine g_istore C (Ls' := #[.val (.int p0), .val (.int p1), .val (.int p2), .val (.int p3), .val (.ref b1), .val (.ref b6), .val (.int (p2 &&& (3 : Int32))), .val (.int (p0 + (p3 &&& (7 : Int32)))), .val (.int (0 : Int32)), .unset]) iM_245 rfl ?_
                    have e0 : (vM_11 p0 p1 p2 p3) = (0 : Int32) := by simp only [vM_11, if_pos hc153_1, if_pos hc178_1, if_pos hc203_1, if_pos hc235_1]
                    exact Go.cast J (by rw [e0])
                  · refine g_iconst C (1 : Int32) iM_238 rfl ?_
                    refine g_istore C (Ls' := #[.val (.int p0), .val (.int p1), .val (.int p2), .val (.int p3), .val (.ref b1), .val (.ref b6), .val (.int (p2 &&& (3 : Int32))), .val (.int (p0 + (p3 &&& (7 : Int32)))), .val (.int (1 : Int32)), .unset]) iM_239 rfl ?_
                    refine g_goto C iM_241 ?_
                    have e0 : (vM_11 p0 p1 p2 p3) = (1 : Int32) := by simp only [vM_11, if_pos hc153_1, if_pos hc178_1, if_pos hc203_1, if_neg hc235_1]
                    exact Go.cast J (by rw [e0])
                · refine g_aload C iM_206 rfl rfl ?_
                  refine g_iload C iM_208 rfl ?_
                  refine g_iload C iM_210 rfl ?_
                  refine g_iconst C (2 : Int32) iM_212 rfl ?_
                  refine g_callS C (rmE2 l Z aZ hw b1 (p2 &&& (3 : Int32)) (p0 + (p3 &&& (7 : Int32))) 4 (vM_4 p0 p1 p2 p3) h28 n0 Z28 (own_ge 1 1 rfl hc203_1) rfl (AV.congr Vw5_c28 (fun i _ => by first | rfl | ((repeat' split) <;> rfl) | (simp only [vM_4]; done) | (simp only [vM_4]; (repeat' split) <;> rfl)))) iM_213 (hw _ (List.mem_of_getElem? (i := 1) rfl)) (hw _ (List.mem_of_getElem? (i := 2) rfl)) (hw _ (List.mem_of_getElem? (i := 3) rfl)) (hw _ (List.mem_of_getElem? (i := 4) rfl)) (by decide) (argsL := [(.ref b1), (.int (p2 &&& (3 : Int32))), (.int (p0 + (p3 &&& (7 : Int32)))), (.int (2 : Int32))]) (rest := []) rfl rfl pd0 rfl rfl 0 (Nat.le_of_eq rfl) (by decide) (by decide) (by decide) (by decide) rfl rfl ?_
                  rintro _ _ ⟨rfl, he30⟩
                  refine Go.heap he30.symm ?_
                  refine Go.some' ?_
                  refine g_if_eq C iM_216 (fun hc216_1 => ?_) (fun hc216_1 => ?_)
                  · refine g_aload C iM_225 rfl rfl ?_
                    refine g_iload C iM_227 rfl ?_
                    refine g_iload C iM_229 rfl ?_
                    refine g_iconst C (1 : Int32) iM_231 rfl ?_
                    refine g_callS C (rmE1 l Z aZ hw b1 (p2 &&& (3 : Int32)) (p0 + (p3 &&& (7 : Int32))) 4 (vM_4 p0 p1 p2 p3) h28 n0 Z28 (own_m3 p2) rfl (AV.congr Vw5_c28 (fun i _ => by first | rfl | ((repeat' split) <;> rfl) | (simp only [vM_4]; done) | (simp only [vM_4]; (repeat' split) <;> rfl)))) iM_232 (hw _ (List.mem_of_getElem? (i := 1) rfl)) (hw _ (List.mem_of_getElem? (i := 2) rfl)) (hw _ (List.mem_of_getElem? (i := 3) rfl)) (hw _ (List.mem_of_getElem? (i := 4) rfl)) (by decide) (argsL := [(.ref b1), (.int (p2 &&& (3 : Int32))), (.int (p0 + (p3 &&& (7 : Int32)))), (.int (1 : Int32))]) (rest := []) rfl rfl pd0 rfl rfl 0 (Nat.le_of_eq rfl) (by decide) (by decide) (by decide) (by decide) rfl rfl ?_
                    rintro _ _ ⟨rfl, he31⟩
                    refine Go.heap he31.symm ?_
                    refine Go.some' ?_
                    refine g_if_eq C iM_235 (fun hc235_1 => ?_) (fun hc235_1 => ?_)
                    · refine g_iconst C (0 : Int32) iM_244 rfl ?_
                      refine g_istore C (Ls' := #[.val (.int p0), .val (.int p1), .val (.int p2), .val (.int p3), .val (.ref b1), .val (.ref b6), .val (.int (p2 &&& (3 : Int32))), .val (.int (p0 + (p3 &&& (7 : Int32)))), .val (.int (0 : Int32)), .unset]) iM_245 rfl ?_
                      have e0 : (vM_11 p0 p1 p2 p3) = (0 : Int32) := by simp only [vM_11, if_pos hc153_1, if_pos hc178_1, if_neg hc203_1, if_pos hc216_1, if_pos hc235_1]
                      exact Go.cast J (by rw [e0])
                    · refine g_iconst C (1 : Int32) iM_238 rfl ?_
                      refine g_istore C (Ls' := #[.val (.int p0), .val (.int p1), .val (.int p2), .val (.int p3), .val (.ref b1), .val (.ref b6), .val (.int (p2 &&& (3 : Int32))), .val (.int (p0 + (p3 &&& (7 : Int32)))), .val (.int (1 : Int32)), .unset]) iM_239 rfl ?_
                      refine g_goto C iM_241 ?_
                      have e0 : (vM_11 p0 p1 p2 p3) = (1 : Int32) := by simp only [vM_11, if_pos hc153_1, if_pos hc178_1, if_neg hc203_1, if_pos hc216_1, if_neg hc235_1]
                      exact Go.cast J (by rw [e0])
                  · refine g_iconst C (2 : Int32) iM_219 rfl ?_
                    refine g_istore C (Ls' := #[.val (.int p0), .val (.int p1), .val (.int p2), .val (.int p3), .val (.ref b1), .val (.ref b6), .val (.int (p2 &&& (3 : Int32))), .val (.int (p0 + (p3 &&& (7 : Int32)))), .val (.int (2 : Int32)), .unset]) iM_220 rfl ?_
                    refine g_goto C iM_222 ?_
                    have e0 : (vM_11 p0 p1 p2 p3) = (2 : Int32) := by simp only [vM_11, if_pos hc153_1, if_pos hc178_1, if_neg hc203_1, if_neg hc216_1]
                    exact Go.cast J (by rw [e0])
              · refine g_aload C iM_181 rfl rfl ?_
                refine g_iload C iM_183 rfl ?_
                refine g_iload C iM_185 rfl ?_
                refine g_iconst C (3 : Int32) iM_187 rfl ?_
                refine g_callS C (rmE3 l Z aZ hw b1 (p2 &&& (3 : Int32)) (p0 + (p3 &&& (7 : Int32))) 4 (vM_4 p0 p1 p2 p3) h28 n0 Z28 (own_ge 2 2 rfl hc178_1) rfl (AV.congr Vw5_c28 (fun i _ => by first | rfl | ((repeat' split) <;> rfl) | (simp only [vM_4]; done) | (simp only [vM_4]; (repeat' split) <;> rfl)))) iM_188 (hw _ (List.mem_of_getElem? (i := 1) rfl)) (hw _ (List.mem_of_getElem? (i := 2) rfl)) (hw _ (List.mem_of_getElem? (i := 3) rfl)) (hw _ (List.mem_of_getElem? (i := 4) rfl)) (by decide) (argsL := [(.ref b1), (.int (p2 &&& (3 : Int32))), (.int (p0 + (p3 &&& (7 : Int32)))), (.int (3 : Int32))]) (rest := []) rfl rfl pd0 rfl rfl 0 (Nat.le_of_eq rfl) (by decide) (by decide) (by decide) (by decide) rfl rfl ?_
                rintro _ _ ⟨rfl, he32⟩
                refine Go.heap he32.symm ?_
                refine Go.some' ?_
                refine g_if_eq C iM_191 (fun hc191_1 => ?_) (fun hc191_1 => ?_)
                · refine g_iload C iM_200 rfl ?_
                  refine g_iconst C (1 : Int32) iM_202 rfl ?_
                  refine g_icmp_lt C iM_203 (fun hc203_1 => ?_) (fun hc203_1 => ?_)
                  · refine g_aload C iM_225 rfl rfl ?_
                    refine g_iload C iM_227 rfl ?_
                    refine g_iload C iM_229 rfl ?_
                    refine g_iconst C (1 : Int32) iM_231 rfl ?_
                    refine g_callS C (rmE1 l Z aZ hw b1 (p2 &&& (3 : Int32)) (p0 + (p3 &&& (7 : Int32))) 4 (vM_4 p0 p1 p2 p3) h28 n0 Z28 (own_m3 p2) rfl (AV.congr Vw5_c28 (fun i _ => by first | rfl | ((repeat' split) <;> rfl) | (simp only [vM_4]; done) | (simp only [vM_4]; (repeat' split) <;> rfl)))) iM_232 (hw _ (List.mem_of_getElem? (i := 1) rfl)) (hw _ (List.mem_of_getElem? (i := 2) rfl)) (hw _ (List.mem_of_getElem? (i := 3) rfl)) (hw _ (List.mem_of_getElem? (i := 4) rfl)) (by decide) (argsL := [(.ref b1), (.int (p2 &&& (3 : Int32))), (.int (p0 + (p3 &&& (7 : Int32)))), (.int (1 : Int32))]) (rest := []) rfl rfl pd0 rfl rfl 0 (Nat.le_of_eq rfl) (by decide) (by decide) (by decide) (by decide) rfl rfl ?_
                    rintro _ _ ⟨rfl, he33⟩
                    refine Go.heap he33.symm ?_
                    refine Go.some' ?_
                    refine g_if_eq C iM_235 (fun hc235_1 => ?_) (fun hc235_1 => ?_)
                    · refine g_iconst C (0 : Int32) iM_244 rfl ?_
                      refine g_istore C (Ls' := #[.val (.int p0), .val (.int p1), .val (.int p2), .val (.int p3), .val (.ref b1), .val (.ref b6), .val (.int (p2 &&& (3 : Int32))), .val (.int (p0 + (p3 &&& (7 : Int32)))), .val (.int (0 : Int32)), .unset]) iM_245 rfl ?_
                      have e0 : (vM_11 p0 p1 p2 p3) = (0 : Int32) := by simp only [vM_11, if_pos hc153_1, if_neg hc178_1, if_pos hc191_1, if_pos hc203_1, if_pos hc235_1]
                      exact Go.cast J (by rw [e0])
                    · refine g_iconst C (1 : Int32) iM_238 rfl ?_
                      refine g_istore C (Ls' := #[.val (.int p0), .val (.int p1), .val (.int p2), .val (.int p3), .val (.ref b1), .val (.ref b6), .val (.int (p2 &&& (3 : Int32))), .val (.int (p0 + (p3 &&& (7 : Int32)))), .val (.int (1 : Int32)), .unset]) iM_239 rfl ?_
                      refine g_goto C iM_241 ?_
                      have e0 : (vM_11 p0 p1 p2 p3) = (1 : Int32) := by simp only [vM_11, if_pos hc153_1, if_neg hc178_1, if_pos hc191_1, if_pos hc203_1, if_neg hc235_1]
                      exact Go.cast J (by rw [e0])
                  · refine g_aload C iM_206 rfl rfl ?_
                    refine g_iload C iM_208 rfl ?_
                    refine g_iload C iM_210 rfl ?_
                    refine g_iconst C (2 : Int32) iM_212 rfl ?_
                    refine g_callS C (rmE2 l Z aZ hw b1 (p2 &&& (3 : Int32)) (p0 + (p3 &&& (7 : Int32))) 4 (vM_4 p0 p1 p2 p3) h28 n0 Z28 (own_ge 1 1 rfl hc203_1) rfl (AV.congr Vw5_c28 (fun i _ => by first | rfl | ((repeat' split) <;> rfl) | (simp only [vM_4]; done) | (simp only [vM_4]; (repeat' split) <;> rfl)))) iM_213 (hw _ (List.mem_of_getElem? (i := 1) rfl)) (hw _ (List.mem_of_getElem? (i := 2) rfl)) (hw _ (List.mem_of_getElem? (i := 3) rfl)) (hw _ (List.mem_of_getElem? (i := 4) rfl)) (by decide) (argsL := [(.ref b1), (.int (p2 &&& (3 : Int32))), (.int (p0 + (p3 &&& (7 : Int32)))), (.int (2 : Int32))]) (rest := []) rfl rfl pd0 rfl rfl 0 (Nat.le_of_eq rfl) (by decide) (by decide) (by decide) (by decide) rfl rfl ?_
                    rintro _ _ ⟨rfl, he34⟩
                    refine Go.heap he34.symm ?_
                    refine Go.some' ?_
                    refine g_if_eq C iM_216 (fun hc216_1 => ?_) (fun hc216_1 => ?_)
                    · refine g_aload C iM_225 rfl rfl ?_
                      refine g_iload C iM_227 rfl ?_
                      refine g_iload C iM_229 rfl ?_
                      refine g_iconst C (1 : Int32) iM_231 rfl ?_
                      refine g_callS C (rmE1 l Z aZ hw b1 (p2 &&& (3 : Int32)) (p0 + (p3 &&& (7 : Int32))) 4 (vM_4 p0 p1 p2 p3) h28 n0 Z28 (own_m3 p2) rfl (AV.congr Vw5_c28 (fun i _ => by first | rfl | ((repeat' split) <;> rfl) | (simp only [vM_4]; done) | (simp only [vM_4]; (repeat' split) <;> rfl)))) iM_232 (hw _ (List.mem_of_getElem? (i := 1) rfl)) (hw _ (List.mem_of_getElem? (i := 2) rfl)) (hw _ (List.mem_of_getElem? (i := 3) rfl)) (hw _ (List.mem_of_getElem? (i := 4) rfl)) (by decide) (argsL := [(.ref b1), (.int (p2 &&& (3 : Int32))), (.int (p0 + (p3 &&& (7 : Int32)))), (.int (1 : Int32))]) (rest := []) rfl rfl pd0 rfl rfl 0 (Nat.le_of_eq rfl) (by decide) (by decide) (by decide) (by decide) rfl rfl ?_
                      rintro _ _ ⟨rfl, he35⟩
                      refine Go.heap he35.symm ?_
                      refine Go.some' ?_
                      refine g_if_eq C iM_235 (fun hc235_1 => ?_) (fun hc235_1 => ?_)
                      · refine g_iconst C (0 : Int32) iM_244 rfl ?_
                        refine g_istore C (Ls' := #[.val (.int p0), .val (.int p1), .val (.int p2), .val (.int p3), .val (.ref b1), .val (.ref b6), .val (.int (p2 &&& (3 : Int32))), .val (.int (p0 + (p3 &&& (7 : Int32)))), .val (.int (0 : Int32)), .unset]) iM_245 rfl ?_
                        have e0 : (vM_11 p0 p1 p2 p3) = (0 : Int32) := by simp only [vM_11, if_pos hc153_1, if_neg hc178_1, if_pos hc191_1, if_neg hc203_1, if_pos hc216_1, if_pos hc235_1]
                        exact Go.cast J (by rw [e0])
                      · refine g_iconst C (1 : Int32) iM_238 rfl ?_
                        refine g_istore C (Ls' := #[.val (.int p0), .val (.int p1), .val (.int p2), .val (.int p3), .val (.ref b1), .val (.ref b6), .val (.int (p2 &&& (3 : Int32))), .val (.int (p0 + (p3 &&& (7 : Int32)))), .val (.int (1 : Int32)), .unset]) iM_239 rfl ?_
                        refine g_goto C iM_241 ?_
                        have e0 : (vM_11 p0 p1 p2 p3) = (1 : Int32) := by simp only [vM_11, if_pos hc153_1, if_neg hc178_1, if_pos hc191_1, if_neg hc203_1, if_pos hc216_1, if_neg hc235_1]
                        exact Go.cast J (by rw [e0])
                    · refine g_iconst C (2 : Int32) iM_219 rfl ?_
                      refine g_istore C (Ls' := #[.val (.int p0), .val (.int p1), .val (.int p2), .val (.int p3), .val (.ref b1), .val (.ref b6), .val (.int (p2 &&& (3 : Int32))), .val (.int (p0 + (p3 &&& (7 : Int32)))), .val (.int (2 : Int32)), .unset]) iM_220 rfl ?_
                      refine g_goto C iM_222 ?_
                      have e0 : (vM_11 p0 p1 p2 p3) = (2 : Int32) := by simp only [vM_11, if_pos hc153_1, if_neg hc178_1, if_pos hc191_1, if_neg hc203_1, if_neg hc216_1]
                      exact Go.cast J (by rw [e0])
                · refine g_iconst C (3 : Int32) iM_194 rfl ?_
                  refine g_istore C (Ls' := #[.val (.int p0), .val (.int p1), .val (.int p2), .val (.int p3), .val (.ref b1), .val (.ref b6), .val (.int (p2 &&& (3 : Int32))), .val (.int (p0 + (p3 &&& (7 : Int32)))), .val (.int (3 : Int32)), .unset]) iM_195 rfl ?_
                  refine g_goto C iM_197 ?_
                  have e0 : (vM_11 p0 p1 p2 p3) = (3 : Int32) := by simp only [vM_11, if_pos hc153_1, if_neg hc178_1, if_neg hc191_1]
                  exact Go.cast J (by rw [e0])
            · refine g_aload C iM_156 rfl rfl ?_
              refine g_iload C iM_158 rfl ?_
              refine g_iload C iM_160 rfl ?_
              refine g_iconst C (4 : Int32) iM_162 rfl ?_
              refine g_callS C (rmE4 l Z aZ hw b1 (p2 &&& (3 : Int32)) (p0 + (p3 &&& (7 : Int32))) 4 (vM_4 p0 p1 p2 p3) h28 n0 Z28 (own_ge 3 3 rfl hc153_1) rfl (AV.congr Vw5_c28 (fun i _ => by first | rfl | ((repeat' split) <;> rfl) | (simp only [vM_4]; done) | (simp only [vM_4]; (repeat' split) <;> rfl)))) iM_163 (hw _ (List.mem_of_getElem? (i := 1) rfl)) (hw _ (List.mem_of_getElem? (i := 2) rfl)) (hw _ (List.mem_of_getElem? (i := 3) rfl)) (hw _ (List.mem_of_getElem? (i := 4) rfl)) (by decide) (argsL := [(.ref b1), (.int (p2 &&& (3 : Int32))), (.int (p0 + (p3 &&& (7 : Int32)))), (.int (4 : Int32))]) (rest := []) rfl rfl pd0 rfl rfl 0 (Nat.le_of_eq rfl) (by decide) (by decide) (by decide) (by decide) rfl rfl ?_
              rintro _ _ ⟨rfl, he36⟩
              refine Go.heap he36.symm ?_
              refine Go.some' ?_
              refine g_if_eq C iM_166 (fun hc166_1 => ?_) (fun hc166_1 => ?_)
              · refine g_iload C iM_175 rfl ?_
                refine g_iconst C (2 : Int32) iM_177 rfl ?_
                refine g_icmp_lt C iM_178 (fun hc178_1 => ?_) (fun hc178_1 => ?_)
                · refine g_iload C iM_200 rfl ?_
                  refine g_iconst C (1 : Int32) iM_202 rfl ?_
                  refine g_icmp_lt C iM_203 (fun hc203_1 => ?_) (fun hc203_1 => ?_)
                  · refine g_aload C iM_225 rfl rfl ?_
                    refine g_iload C iM_227 rfl ?_
                    refine g_iload C iM_229 rfl ?_
                    refine g_iconst C (1 : Int32) iM_231 rfl ?_
                    refine g_callS C (rmE1 l Z aZ hw b1 (p2 &&& (3 : Int32)) (p0 + (p3 &&& (7 : Int32))) 4 (vM_4 p0 p1 p2 p3) h28 n0 Z28 (own_m3 p2) rfl (AV.congr Vw5_c28 (fun i _ => by first | rfl | ((repeat' split) <;> rfl) | (simp only [vM_4]; done) | (simp only [vM_4]; (repeat' split) <;> rfl)))) iM_232 (hw _ (List.mem_of_getElem? (i := 1) rfl)) (hw _ (List.mem_of_getElem? (i := 2) rfl)) (hw _ (List.mem_of_getElem? (i := 3) rfl)) (hw _ (List.mem_of_getElem? (i := 4) rfl)) (by decide) (argsL := [(.ref b1), (.int (p2 &&& (3 : Int32))), (.int (p0 + (p3 &&& (7 : Int32)))), (.int (1 : Int32))]) (rest := []) rfl rfl pd0 rfl rfl 0 (Nat.le_of_eq rfl) (by decide) (by decide) (by decide) (by decide) rfl rfl ?_
                    rintro _ _ ⟨rfl, he37⟩
                    refine Go.heap he37.symm ?_
                    refine Go.some' ?_
                    refine g_if_eq C iM_235 (fun hc235_1 => ?_) (fun hc235_1 => ?_)
                    · refine g_iconst C (0 : Int32) iM_244 rfl ?_
                      refine g_istore C (Ls' := #[.val (.int p0), .val (.int p1), .val (.int p2), .val (.int p3), .val (.ref b1), .val (.ref b6), .val (.int (p2 &&& (3 : Int32))), .val (.int (p0 + (p3 &&& (7 : Int32)))), .val (.int (0 : Int32)), .unset]) iM_245 rfl ?_
                      have e0 : (vM_11 p0 p1 p2 p3) = (0 : Int32) := by simp only [vM_11, if_neg hc153_1, if_pos hc166_1, if_pos hc178_1, if_pos hc203_1, if_pos hc235_1]
                      exact Go.cast J (by rw [e0])
                    · refine g_iconst C (1 : Int32) iM_238 rfl ?_
                      refine g_istore C (Ls' := #[.val (.int p0), .val (.int p1), .val (.int p2), .val (.int p3), .val (.ref b1), .val (.ref b6), .val (.int (p2 &&& (3 : Int32))), .val (.int (p0 + (p3 &&& (7 : Int32)))), .val (.int (1 : Int32)), .unset]) iM_239 rfl ?_
                      refine g_goto C iM_241 ?_
                      have e0 : (vM_11 p0 p1 p2 p3) = (1 : Int32) := by simp only [vM_11, if_neg hc153_1, if_pos hc166_1, if_pos hc178_1, if_pos hc203_1, if_neg hc235_1]
                      exact Go.cast J (by rw [e0])
                  · refine g_aload C iM_206 rfl rfl ?_
                    refine g_iload C iM_208 rfl ?_
                    refine g_iload C iM_210 rfl ?_
                    refine g_iconst C (2 : Int32) iM_212 rfl ?_
                    refine g_callS C (rmE2 l Z aZ hw b1 (p2 &&& (3 : Int32)) (p0 + (p3 &&& (7 : Int32))) 4 (vM_4 p0 p1 p2 p3) h28 n0 Z28 (own_ge 1 1 rfl hc203_1) rfl (AV.congr Vw5_c28 (fun i _ => by first | rfl | ((repeat' split) <;> rfl) | (simp only [vM_4]; done) | (simp only [vM_4]; (repeat' split) <;> rfl)))) iM_213 (hw _ (List.mem_of_getElem? (i := 1) rfl)) (hw _ (List.mem_of_getElem? (i := 2) rfl)) (hw _ (List.mem_of_getElem? (i := 3) rfl)) (hw _ (List.mem_of_getElem? (i := 4) rfl)) (by decide) (argsL := [(.ref b1), (.int (p2 &&& (3 : Int32))), (.int (p0 + (p3 &&& (7 : Int32)))), (.int (2 : Int32))]) (rest := []) rfl rfl pd0 rfl rfl 0 (Nat.le_of_eq rfl) (by decide) (by decide) (by decide) (by decide) rfl rfl ?_
                    rintro _ _ ⟨rfl, he38⟩
                    refine Go.heap he38.symm ?_
                    refine Go.some' ?_
                    refine g_if_eq C iM_216 (fun hc216_1 => ?_) (fun hc216_1 => ?_)
                    · refine g_aload C iM_225 rfl rfl ?_
                      refine g_iload C iM_227 rfl ?_
                      refine g_iload C iM_229 rfl ?_
                      refine g_iconst C (1 : Int32) iM_231 rfl ?_
                      refine g_callS C (rmE1 l Z aZ hw b1 (p2 &&& (3 : Int32)) (p0 + (p3 &&& (7 : Int32))) 4 (vM_4 p0 p1 p2 p3) h28 n0 Z28 (own_m3 p2) rfl (AV.congr Vw5_c28 (fun i _ => by first | rfl | ((repeat' split) <;> rfl) | (simp only [vM_4]; done) | (simp only [vM_4]; (repeat' split) <;> rfl)))) iM_232 (hw _ (List.mem_of_getElem? (i := 1) rfl)) (hw _ (List.mem_of_getElem? (i := 2) rfl)) (hw _ (List.mem_of_getElem? (i := 3) rfl)) (hw _ (List.mem_of_getElem? (i := 4) rfl)) (by decide) (argsL := [(.ref b1), (.int (p2 &&& (3 : Int32))), (.int (p0 + (p3 &&& (7 : Int32)))), (.int (1 : Int32))]) (rest := []) rfl rfl pd0 rfl rfl 0 (Nat.le_of_eq rfl) (by decide) (by decide) (by decide) (by decide) rfl rfl ?_
                      rintro _ _ ⟨rfl, he39⟩
                      refine Go.heap he39.symm ?_
                      refine Go.some' ?_
                      refine g_if_eq C iM_235 (fun hc235_1 => ?_) (fun hc235_1 => ?_)
                      · refine g_iconst C (0 : Int32) iM_244 rfl ?_
                        refine g_istore C (Ls' := #[.val (.int p0), .val (.int p1), .val (.int p2), .val (.int p3), .val (.ref b1), .val (.ref b6), .val (.int (p2 &&& (3 : Int32))), .val (.int (p0 + (p3 &&& (7 : Int32)))), .val (.int (0 : Int32)), .unset]) iM_245 rfl ?_
                        have e0 : (vM_11 p0 p1 p2 p3) = (0 : Int32) := by simp only [vM_11, if_neg hc153_1, if_pos hc166_1, if_pos hc178_1, if_neg hc203_1, if_pos hc216_1, if_pos hc235_1]
                        exact Go.cast J (by rw [e0])
                      · refine g_iconst C (1 : Int32) iM_238 rfl ?_
                        refine g_istore C (Ls' := #[.val (.int p0), .val (.int p1), .val (.int p2), .val (.int p3), .val (.ref b1), .val (.ref b6), .val (.int (p2 &&& (3 : Int32))), .val (.int (p0 + (p3 &&& (7 : Int32)))), .val (.int (1 : Int32)), .unset]) iM_239 rfl ?_
                        refine g_goto C iM_241 ?_
                        have e0 : (vM_11 p0 p1 p2 p3) = (1 : Int32) := by simp only [vM_11, if_neg hc153_1, if_pos hc166_1, if_pos hc178_1, if_neg hc203_1, if_pos hc216_1, if_neg hc235_1]
                        exact Go.cast J (by rw [e0])
                    · refine g_iconst C (2 : Int32) iM_219 rfl ?_
                      refine g_istore C (Ls' := #[.val (.int p0), .val (.int p1), .val (.int p2), .val (.int p3), .val (.ref b1), .val (.ref b6), .val (.int (p2 &&& (3 : Int32))), .val (.int (p0 + (p3 &&& (7 : Int32)))), .val (.int (2 : Int32)), .unset]) iM_220 rfl ?_
                      refine g_goto C iM_222 ?_
                      have e0 : (vM_11 p0 p1 p2 p3) = (2 : Int32) := by simp only [vM_11, if_neg hc153_1, if_pos hc166_1, if_pos hc178_1, if_neg hc203_1, if_neg hc216_1]
                      exact Go.cast J (by rw [e0])
                · refine g_aload C iM_181 rfl rfl ?_
                  refine g_iload C iM_183 rfl ?_
                  refine g_iload C iM_185 rfl ?_
                  refine g_iconst C (3 : Int32) iM_187 rfl ?_
                  refine g_callS C (rmE3 l Z aZ hw b1 (p2 &&& (3 : Int32)) (p0 + (p3 &&& (7 : Int32))) 4 (vM_4 p0 p1 p2 p3) h28 n0 Z28 (own_ge 2 2 rfl hc178_1) rfl (AV.congr Vw5_c28 (fun i _ => by first | rfl | ((repeat' split) <;> rfl) | (simp only [vM_4]; done) | (simp only [vM_4]; (repeat' split) <;> rfl)))) iM_188 (hw _ (List.mem_of_getElem? (i := 1) rfl)) (hw _ (List.mem_of_getElem? (i := 2) rfl)) (hw _ (List.mem_of_getElem? (i := 3) rfl)) (hw _ (List.mem_of_getElem? (i := 4) rfl)) (by decide) (argsL := [(.ref b1), (.int (p2 &&& (3 : Int32))), (.int (p0 + (p3 &&& (7 : Int32)))), (.int (3 : Int32))]) (rest := []) rfl rfl pd0 rfl rfl 0 (Nat.le_of_eq rfl) (by decide) (by decide) (by decide) (by decide) rfl rfl ?_
                  rintro _ _ ⟨rfl, he40⟩
                  refine Go.heap he40.symm ?_
                  refine Go.some' ?_
                  refine g_if_eq C iM_191 (fun hc191_1 => ?_) (fun hc191_1 => ?_)
                  · refine g_iload C iM_200 rfl ?_
                    refine g_iconst C (1 : Int32) iM_202 rfl ?_
                    refine g_icmp_lt C iM_203 (fun hc203_1 => ?_) (fun hc203_1 => ?_)
                    · refine g_aload C iM_225 rfl rfl ?_
                      refine g_iload C iM_227 rfl ?_
                      refine g_iload C iM_229 rfl ?_
                      refine g_iconst C (1 : Int32) iM_231 rfl ?_
                      refine g_callS C (rmE1 l Z aZ hw b1 (p2 &&& (3 : Int32)) (p0 + (p3 &&& (7 : Int32))) 4 (vM_4 p0 p1 p2 p3) h28 n0 Z28 (own_m3 p2) rfl (AV.congr Vw5_c28 (fun i _ => by first | rfl | ((repeat' split) <;> rfl) | (simp only [vM_4]; done) | (simp only [vM_4]; (repeat' split) <;> rfl)))) iM_232 (hw _ (List.mem_of_getElem? (i := 1) rfl)) (hw _ (List.mem_of_getElem? (i := 2) rfl)) (hw _ (List.mem_of_getElem? (i := 3) rfl)) (hw _ (List.mem_of_getElem? (i := 4) rfl)) (by decide) (argsL := [(.ref b1), (.int (p2 &&& (3 : Int32))), (.int (p0 + (p3 &&& (7 : Int32)))), (.int (1 : Int32))]) (rest := []) rfl rfl pd0 rfl rfl 0 (Nat.le_of_eq rfl) (by decide) (by decide) (by decide) (by decide) rfl rfl ?_
                      rintro _ _ ⟨rfl, he41⟩
                      refine Go.heap he41.symm ?_
                      refine Go.some' ?_
                      refine g_if_eq C iM_235 (fun hc235_1 => ?_) (fun hc235_1 => ?_)
                      · refine g_iconst C (0 : Int32) iM_244 rfl ?_
                        refine g_istore C (Ls' := #[.val (.int p0), .val (.int p1), .val (.int p2), .val (.int p3), .val (.ref b1), .val (.ref b6), .val (.int (p2 &&& (3 : Int32))), .val (.int (p0 + (p3 &&& (7 : Int32)))), .val (.int (0 : Int32)), .unset]) iM_245 rfl ?_
                        have e0 : (vM_11 p0 p1 p2 p3) = (0 : Int32) := by simp only [vM_11, if_neg hc153_1, if_pos hc166_1, if_neg hc178_1, if_pos hc191_1, if_pos hc203_1, if_pos hc235_1]
                        exact Go.cast J (by rw [e0])
                      · refine g_iconst C (1 : Int32) iM_238 rfl ?_
                        refine g_istore C (Ls' := #[.val (.int p0), .val (.int p1), .val (.int p2), .val (.int p3), .val (.ref b1), .val (.ref b6), .val (.int (p2 &&& (3 : Int32))), .val (.int (p0 + (p3 &&& (7 : Int32)))), .val (.int (1 : Int32)), .unset]) iM_239 rfl ?_
                        refine g_goto C iM_241 ?_
                        have e0 : (vM_11 p0 p1 p2 p3) = (1 : Int32) := by simp only [vM_11, if_neg hc153_1, if_pos hc166_1, if_neg hc178_1, if_pos hc191_1, if_pos hc203_1, if_neg hc235_1]
                        exact Go.cast J (by rw [e0])
                    · refine g_aload C iM_206 rfl rfl ?_
                      refine g_iload C iM_208 rfl ?_
                      refine g_iload C iM_210 rfl ?_
                      refine g_iconst C (2 : Int32) iM_212 rfl ?_
                      refine g_callS C (rmE2 l Z aZ hw b1 (p2 &&& (3 : Int32)) (p0 + (p3 &&& (7 : Int32))) 4 (vM_4 p0 p1 p2 p3) h28 n0 Z28 (own_ge 1 1 rfl hc203_1) rfl (AV.congr Vw5_c28 (fun i _ => by first | rfl | ((repeat' split) <;> rfl) | (simp only [vM_4]; done) | (simp only [vM_4]; (repeat' split) <;> rfl)))) iM_213 (hw _ (List.mem_of_getElem? (i := 1) rfl)) (hw _ (List.mem_of_getElem? (i := 2) rfl)) (hw _ (List.mem_of_getElem? (i := 3) rfl)) (hw _ (List.mem_of_getElem? (i := 4) rfl)) (by decide) (argsL := [(.ref b1), (.int (p2 &&& (3 : Int32))), (.int (p0 + (p3 &&& (7 : Int32)))), (.int (2 : Int32))]) (rest := []) rfl rfl pd0 rfl rfl 0 (Nat.le_of_eq rfl) (by decide) (by decide) (by decide) (by decide) rfl rfl ?_
                      rintro _ _ ⟨rfl, he42⟩
                      refine Go.heap he42.symm ?_
                      refine Go.some' ?_
                      refine g_if_eq C iM_216 (fun hc216_1 => ?_) (fun hc216_1 => ?_)
                      · refine g_aload C iM_225 rfl rfl ?_
                        refine g_iload C iM_227 rfl ?_
                        refine g_iload C iM_229 rfl ?_
                        refine g_iconst C (1 : Int32) iM_231 rfl ?_
                        refine g_callS C (rmE1 l Z aZ hw b1 (p2 &&& (3 : Int32)) (p0 + (p3 &&& (7 : Int32))) 4 (vM_4 p0 p1 p2 p3) h28 n0 Z28 (own_m3 p2) rfl (AV.congr Vw5_c28 (fun i _ => by first | rfl | ((repeat' split) <;> rfl) | (simp only [vM_4]; done) | (simp only [vM_4]; (repeat' split) <;> rfl)))) iM_232 (hw _ (List.mem_of_getElem? (i := 1) rfl)) (hw _ (List.mem_of_getElem? (i := 2) rfl)) (hw _ (List.mem_of_getElem? (i := 3) rfl)) (hw _ (List.mem_of_getElem? (i := 4) rfl)) (by decide) (argsL := [(.ref b1), (.int (p2 &&& (3 : Int32))), (.int (p0 + (p3 &&& (7 : Int32)))), (.int (1 : Int32))]) (rest := []) rfl rfl pd0 rfl rfl 0 (Nat.le_of_eq rfl) (by decide) (by decide) (by decide) (by decide) rfl rfl ?_
                        rintro _ _ ⟨rfl, he43⟩
                        refine Go.heap he43.symm ?_
                        refine Go.some' ?_
                        refine g_if_eq C iM_235 (fun hc235_1 => ?_) (fun hc235_1 => ?_)
                        · refine g_iconst C (0 : Int32) iM_244 rfl ?_
                          refine g_istore C (Ls' := #[.val (.int p0), .val (.int p1), .val (.int p2), .val (.int p3), .val (.ref b1), .val (.ref b6), .val (.int (p2 &&& (3 : Int32))), .val (.int (p0 + (p3 &&& (7 : Int32)))), .val (.int (0 : Int32)), .unset]) iM_245 rfl ?_
                          have e0 : (vM_11 p0 p1 p2 p3) = (0 : Int32) := by simp only [vM_11, if_neg hc153_1, if_pos hc166_1, if_neg hc178_1, if_pos hc191_1, if_neg hc203_1, if_pos hc216_1, if_pos hc235_1]
                          exact Go.cast J (by rw [e0])
                        · refine g_iconst C (1 : Int32) iM_238 rfl ?_
                          refine g_istore C (Ls' := #[.val (.int p0), .val (.int p1), .val (.int p2), .val (.int p3), .val (.ref b1), .val (.ref b6), .val (.int (p2 &&& (3 : Int32))), .val (.int (p0 + (p3 &&& (7 : Int32)))), .val (.int (1 : Int32)), .unset]) iM_239 rfl ?_
                          refine g_goto C iM_241 ?_
                          have e0 : (vM_11 p0 p1 p2 p3) = (1 : Int32) := by simp only [vM_11, if_neg hc153_1, if_pos hc166_1, if_neg hc178_1, if_pos hc191_1, if_neg hc203_1, if_pos hc216_1, if_neg hc235_1]
                          exact Go.cast J (by rw [e0])
                      · refine g_iconst C (2 : Int32) iM_219 rfl ?_
                        refine g_istore C (Ls' := #[.val (.int p0), .val (.int p1), .val (.int p2), .val (.int p3), .val (.ref b1), .val (.ref b6), .val (.int (p2 &&& (3 : Int32))), .val (.int (p0 + (p3 &&& (7 : Int32)))), .val (.int (2 : Int32)), .unset]) iM_220 rfl ?_
                        refine g_goto C iM_222 ?_
                        have e0 : (vM_11 p0 p1 p2 p3) = (2 : Int32) := by simp only [vM_11, if_neg hc153_1, if_pos hc166_1, if_neg hc178_1, if_pos hc191_1, if_neg hc203_1, if_neg hc216_1]
                        exact Go.cast J (by rw [e0])
                  · refine g_iconst C (3 : Int32) iM_194 rfl ?_
                    refine g_istore C (Ls' := #[.val (.int p0), .val (.int p1), .val (.int p2), .val (.int p3), .val (.ref b1), .val (.ref b6), .val (.int (p2 &&& (3 : Int32))), .val (.int (p0 + (p3 &&& (7 : Int32)))), .val (.int (3 : Int32)), .unset]) iM_195 rfl ?_
                    refine g_goto C iM_197 ?_
                    have e0 : (vM_11 p0 p1 p2 p3) = (3 : Int32) := by simp only [vM_11, if_neg hc153_1, if_pos hc166_1, if_neg hc178_1, if_neg hc191_1]
                    exact Go.cast J (by rw [e0])
              · refine g_iconst C (4 : Int32) iM_169 rfl ?_
                refine g_istore C (Ls' := #[.val (.int p0), .val (.int p1), .val (.int p2), .val (.int p3), .val (.ref b1), .val (.ref b6), .val (.int (p2 &&& (3 : Int32))), .val (.int (p0 + (p3 &&& (7 : Int32)))), .val (.int (4 : Int32)), .unset]) iM_170 rfl ?_
                refine g_goto C iM_172 ?_
                have e0 : (vM_11 p0 p1 p2 p3) = (4 : Int32) := by simp only [vM_11, if_neg hc153_1, if_neg hc166_1]
                exact Go.cast J (by rw [e0])
        · refine g_aload C iM_127 rfl rfl ?_
          refine g_iconst C (2 : Int32) iM_129 rfl ?_
          refine g_iconst C (0 : Int32) iM_130 rfl ?_
          refine g_iast C iM_131 Vw8 ⟨by decide, by decide⟩ ge6 (fun h45 W45 V45 => ?_)
          have Vw5_c45 := AV.other Vw5_c8 W45 ne_b1_b6
          have Vw45 : AV Z h45 b6 .int 4 (fun i => if i = 2 then (.int (0 : Int32)) else (fun i => if i = 1 then (.int (vM_3 p0 p1 p2 p3)) else (fun i => if i = 0 then (.int (0 : Int32)) else (fun _ => (.int (0 : Int32))) i) i) i) := V45
          have K45 := Keep.wr K8 W45 (Or.inr fr6)
          have Z45 : n0 ≤ h45.size := Nat.le_trans Z8 (Keep.of_wr W45).1
          refine g_aload C iM_132 rfl rfl ?_
          refine g_iconst C (3 : Int32) iM_134 rfl ?_
          refine g_iconst C (0 : Int32) iM_135 rfl ?_
          refine g_iast C iM_136 Vw45 ⟨by decide, by decide⟩ ge6 (fun h46 W46 V46 => ?_)
          have Vw5_c46 := AV.other Vw5_c45 W46 ne_b1_b6
          have Vw46 : AV Z h46 b6 .int 4 (fun i => if i = 3 then (.int (0 : Int32)) else (fun i => if i = 2 then (.int (0 : Int32)) else (fun i => if i = 1 then (.int (vM_3 p0 p1 p2 p3)) else (fun i => if i = 0 then (.int (0 : Int32)) else (fun _ => (.int (0 : Int32))) i) i) i) i) := V46
          have K46 := Keep.wr K45 W46 (Or.inr fr6)
          have Z46 : n0 ≤ h46.size := Nat.le_trans Z45 (Keep.of_wr W46).1
          refine g_iloadN C iM_137 rfl ?_
          refine g_iconst C (3 : Int32) iM_138 rfl ?_
          refine g_iand C iM_139 ?_
          refine g_istore C (Ls' := #[.val (.int p0), .val (.int p1), .val (.int p2), .val (.int p3), .val (.ref b1), .val (.ref b6), .val (.int (p2 &&& (3 : Int32))), .unset, .unset, .unset]) iM_140 rfl ?_
          refine g_iloadN C iM_142 rfl ?_
          refine g_iloadN C iM_143 rfl ?_
          refine g_bipush C (7 : Int32) iM_144 rfl ?_
          refine g_iand C iM_146 ?_
          refine g_iadd C iM_147 ?_
          refine g_istore C (Ls' := #[.val (.int p0), .val (.int p1), .val (.int p2), .val (.int p3), .val (.ref b1), .val (.ref b6), .val (.int (p2 &&& (3 : Int32))), .val (.int (p0 + (p3 &&& (7 : Int32)))), .unset, .unset]) iM_148 rfl ?_
          refine g_iload C iM_150 rfl ?_
          refine g_iconst C (3 : Int32) iM_152 rfl ?_
          refine Go.join (mkF m 247 #[.val (.int p0), .val (.int p1), .val (.int p2), .val (.int p3), .val (.ref b1), .val (.ref b6), .val (.int (p2 &&& (3 : Int32))), .val (.int (p0 + (p3 &&& (7 : Int32)))), .val (.int (vM_11 p0 p1 p2 p3)), .unset] []) ?_ (fun J => ?_)
          · refine g_aload C iM_247 rfl rfl ?_
            refine g_aload C iM_249 rfl rfl ?_
            refine g_iload C iM_251 rfl ?_
            refine g_iload C iM_253 rfl ?_
            refine g_callS C (rmX l Z aZ hw b1 b6 (p2 &&& (3 : Int32)) (p0 + (p3 &&& (7 : Int32))) (vM_4 p0 p1 p2 p3) (vM_18 p0 p1 p2 p3) h46 n0 Z46 (own_m3a p2) (own_m3b p2) (own_ht _ _ (own_v3 p0 p1 p2 p3) (by decide)) (AV.congr Vw5_c46 (fun i _ => by first | rfl | ((repeat' split) <;> rfl) | (simp only [vM_4]; done) | (simp only [vM_4]; (repeat' split) <;> rfl))) (AV.congr Vw46 (fun i _ => by first | rfl | ((repeat' split) <;> rfl) | (simp only [vM_18]; done) | (simp only [vM_18]; (repeat' split) <;> rfl)))) iM_255 (hw _ (List.mem_of_getElem? (i := 5) rfl)) (hw _ (List.mem_of_getElem? (i := 6) rfl)) (hw _ (List.mem_of_getElem? (i := 7) rfl)) (hw _ (List.mem_of_getElem? (i := 8) rfl)) (by decide) (argsL := [(.ref b1), (.ref b6), (.int (p2 &&& (3 : Int32))), (.int (p0 + (p3 &&& (7 : Int32))))]) (rest := []) rfl rfl pd1 rfl rfl 0 (Nat.le_of_eq rfl) (by decide) (by decide) (by decide) (by decide) rfl rfl ?_
            rintro _ _ ⟨rfl, he62⟩
            refine Go.heap he62.symm ?_
            refine Go.some' ?_
            refine g_istore C (Ls' := #[.val (.int p0), .val (.int p1), .val (.int p2), .val (.int p3), .val (.ref b1), .val (.ref b6), .val (.int (p2 &&& (3 : Int32))), .val (.int (p0 + (p3 &&& (7 : Int32)))), .val (.int (vM_11 p0 p1 p2 p3)), .val (.int (vM_19 p0 p1 p2 p3))]) iM_258 rfl ?_
            refine g_iload C iM_260 rfl ?_
            refine g_iload C iM_262 rfl ?_
            refine Go.join (mkF m 272 #[.val (.int p0), .val (.int p1), .val (.int p2), .val (.int p3), .val (.ref b1), .val (.ref b6), .val (.int (p2 &&& (3 : Int32))), .val (.int (p0 + (p3 &&& (7 : Int32)))), .val (.int (vM_11 p0 p1 p2 p3)), .val (.int (vM_19 p0 p1 p2 p3))] [(.int (vM_20 p0 p1 p2 p3))]) ?_ (fun J => ?_)
            · exact g_retNar C (t := .boolean) iM_272 rfl (by simp) (by decide) (by decide) (show _ = _ from congrArg (fun z => some (Value.int z)) (leafM_2 p0 p1 p2 p3 hc86_1 hc97_1 hc116_1))
            · refine g_icmp_ne C iM_264 (fun hc264_1 => ?_) (fun hc264_1 => ?_)
              · refine g_iconst C (1 : Int32) iM_267 rfl ?_
                refine g_goto C iM_268 ?_
                have e0 : (vM_20 p0 p1 p2 p3) = (1 : Int32) := by simp only [vM_20, if_pos hc264_1]
                exact Go.cast J (by rw [e0])
              · refine g_iconst C (0 : Int32) iM_271 rfl ?_
                have e0 : (vM_20 p0 p1 p2 p3) = (0 : Int32) := by simp only [vM_20, if_neg hc264_1]
                exact Go.cast J (by rw [e0])
          · refine g_icmp_lt C iM_153 (fun hc153_1 => ?_) (fun hc153_1 => ?_)
            · refine g_iload C iM_175 rfl ?_
              refine g_iconst C (2 : Int32) iM_177 rfl ?_
              refine g_icmp_lt C iM_178 (fun hc178_1 => ?_) (fun hc178_1 => ?_)
              · refine g_iload C iM_200 rfl ?_
                refine g_iconst C (1 : Int32) iM_202 rfl ?_
                refine g_icmp_lt C iM_203 (fun hc203_1 => ?_) (fun hc203_1 => ?_)
                · refine g_aload C iM_225 rfl rfl ?_
                  refine g_iload C iM_227 rfl ?_
                  refine g_iload C iM_229 rfl ?_
                  refine g_iconst C (1 : Int32) iM_231 rfl ?_
                  refine g_callS C (rmE1 l Z aZ hw b1 (p2 &&& (3 : Int32)) (p0 + (p3 &&& (7 : Int32))) 4 (vM_4 p0 p1 p2 p3) h46 n0 Z46 (own_m3 p2) rfl (AV.congr Vw5_c46 (fun i _ => by first | rfl | ((repeat' split) <;> rfl) | (simp only [vM_4]; done) | (simp only [vM_4]; (repeat' split) <;> rfl)))) iM_232 (hw _ (List.mem_of_getElem? (i := 1) rfl)) (hw _ (List.mem_of_getElem? (i := 2) rfl)) (hw _ (List.mem_of_getElem? (i := 3) rfl)) (hw _ (List.mem_of_getElem? (i := 4) rfl)) (by decide) (argsL := [(.ref b1), (.int (p2 &&& (3 : Int32))), (.int (p0 + (p3 &&& (7 : Int32)))), (.int (1 : Int32))]) (rest := []) rfl rfl pd0 rfl rfl 0 (Nat.le_of_eq rfl) (by decide) (by decide) (by decide) (by decide) rfl rfl ?_
                  rintro _ _ ⟨rfl, he47⟩
                  refine Go.heap he47.symm ?_
                  refine Go.some' ?_
                  refine g_if_eq C iM_235 (fun hc235_1 => ?_) (fun hc235_1 => ?_)
                  · refine g_iconst C (0 : Int32) iM_244 rfl ?_
                    refine g_istore C (Ls' := #[.val (.int p0), .val (.int p1), .val (.int p2), .val (.int p3), .val (.ref b1), .val (.ref b6), .val (.int (p2 &&& (3 : Int32))), .val (.int (p0 + (p3 &&& (7 : Int32)))), .val (.int (0 : Int32)), .unset]) iM_245 rfl ?_
                    have e0 : (vM_11 p0 p1 p2 p3) = (0 : Int32) := by simp only [vM_11, if_pos hc153_1, if_pos hc178_1, if_pos hc203_1, if_pos hc235_1]
                    exact Go.cast J (by rw [e0])
                  · refine g_iconst C (1 : Int32) iM_238 rfl ?_
                    refine g_istore C (Ls' := #[.val (.int p0), .val (.int p1), .val (.int p2), .val (.int p3), .val (.ref b1), .val (.ref b6), .val (.int (p2 &&& (3 : Int32))), .val (.int (p0 + (p3 &&& (7 : Int32)))), .val (.int (1 : Int32)), .unset]) iM_239 rfl ?_
                    refine g_goto C iM_241 ?_
                    have e0 : (vM_11 p0 p1 p2 p3) = (1 : Int32) := by simp only [vM_11, if_pos hc153_1, if_pos hc178_1, if_pos hc203_1, if_neg hc235_1]
                    exact Go.cast J (by rw [e0])
                · refine g_aload C iM_206 rfl rfl ?_
                  refine g_iload C iM_208 rfl ?_
                  refine g_iload C iM_210 rfl ?_
                  refine g_iconst C (2 : Int32) iM_212 rfl ?_
                  refine g_callS C (rmE2 l Z aZ hw b1 (p2 &&& (3 : Int32)) (p0 + (p3 &&& (7 : Int32))) 4 (vM_4 p0 p1 p2 p3) h46 n0 Z46 (own_ge 1 1 rfl hc203_1) rfl (AV.congr Vw5_c46 (fun i _ => by first | rfl | ((repeat' split) <;> rfl) | (simp only [vM_4]; done) | (simp only [vM_4]; (repeat' split) <;> rfl)))) iM_213 (hw _ (List.mem_of_getElem? (i := 1) rfl)) (hw _ (List.mem_of_getElem? (i := 2) rfl)) (hw _ (List.mem_of_getElem? (i := 3) rfl)) (hw _ (List.mem_of_getElem? (i := 4) rfl)) (by decide) (argsL := [(.ref b1), (.int (p2 &&& (3 : Int32))), (.int (p0 + (p3 &&& (7 : Int32)))), (.int (2 : Int32))]) (rest := []) rfl rfl pd0 rfl rfl 0 (Nat.le_of_eq rfl) (by decide) (by decide) (by decide) (by decide) rfl rfl ?_
                  rintro _ _ ⟨rfl, he48⟩
                  refine Go.heap he48.symm ?_
                  refine Go.some' ?_
                  refine g_if_eq C iM_216 (fun hc216_1 => ?_) (fun hc216_1 => ?_)
                  · refine g_aload C iM_225 rfl rfl ?_
                    refine g_iload C iM_227 rfl ?_
                    refine g_iload C iM_229 rfl ?_
                    refine g_iconst C (1 : Int32) iM_231 rfl ?_
                    refine g_callS C (rmE1 l Z aZ hw b1 (p2 &&& (3 : Int32)) (p0 + (p3 &&& (7 : Int32))) 4 (vM_4 p0 p1 p2 p3) h46 n0 Z46 (own_m3 p2) rfl (AV.congr Vw5_c46 (fun i _ => by first | rfl | ((repeat' split) <;> rfl) | (simp only [vM_4]; done) | (simp only [vM_4]; (repeat' split) <;> rfl)))) iM_232 (hw _ (List.mem_of_getElem? (i := 1) rfl)) (hw _ (List.mem_of_getElem? (i := 2) rfl)) (hw _ (List.mem_of_getElem? (i := 3) rfl)) (hw _ (List.mem_of_getElem? (i := 4) rfl)) (by decide) (argsL := [(.ref b1), (.int (p2 &&& (3 : Int32))), (.int (p0 + (p3 &&& (7 : Int32)))), (.int (1 : Int32))]) (rest := []) rfl rfl pd0 rfl rfl 0 (Nat.le_of_eq rfl) (by decide) (by decide) (by decide) (by decide) rfl rfl ?_
                    rintro _ _ ⟨rfl, he49⟩
                    refine Go.heap he49.symm ?_
                    refine Go.some' ?_
                    refine g_if_eq C iM_235 (fun hc235_1 => ?_) (fun hc235_1 => ?_)
                    · refine g_iconst C (0 : Int32) iM_244 rfl ?_
                      refine g_istore C (Ls' := #[.val (.int p0), .val (.int p1), .val (.int p2), .val (.int p3), .val (.ref b1), .val (.ref b6), .val (.int (p2 &&& (3 : Int32))), .val (.int (p0 + (p3 &&& (7 : Int32)))), .val (.int (0 : Int32)), .unset]) iM_245 rfl ?_
                      have e0 : (vM_11 p0 p1 p2 p3) = (0 : Int32) := by simp only [vM_11, if_pos hc153_1, if_pos hc178_1, if_neg hc203_1, if_pos hc216_1, if_pos hc235_1]
                      exact Go.cast J (by rw [e0])
                    · refine g_iconst C (1 : Int32) iM_238 rfl ?_
                      refine g_istore C (Ls' := #[.val (.int p0), .val (.int p1), .val (.int p2), .val (.int p3), .val (.ref b1), .val (.ref b6), .val (.int (p2 &&& (3 : Int32))), .val (.int (p0 + (p3 &&& (7 : Int32)))), .val (.int (1 : Int32)), .unset]) iM_239 rfl ?_
                      refine g_goto C iM_241 ?_
                      have e0 : (vM_11 p0 p1 p2 p3) = (1 : Int32) := by simp only [vM_11, if_pos hc153_1, if_pos hc178_1, if_neg hc203_1, if_pos hc216_1, if_neg hc235_1]
                      exact Go.cast J (by rw [e0])
                  · refine g_iconst C (2 : Int32) iM_219 rfl ?_
                    refine g_istore C (Ls' := #[.val (.int p0), .val (.int p1), .val (.int p2), .val (.int p3), .val (.ref b1), .val (.ref b6), .val (.int (p2 &&& (3 : Int32))), .val (.int (p0 + (p3 &&& (7 : Int32)))), .val (.int (2 : Int32)), .unset]) iM_220 rfl ?_
                    refine g_goto C iM_222 ?_
                    have e0 : (vM_11 p0 p1 p2 p3) = (2 : Int32) := by simp only [vM_11, if_pos hc153_1, if_pos hc178_1, if_neg hc203_1, if_neg hc216_1]
                    exact Go.cast J (by rw [e0])
              · refine g_aload C iM_181 rfl rfl ?_
                refine g_iload C iM_183 rfl ?_
                refine g_iload C iM_185 rfl ?_
                refine g_iconst C (3 : Int32) iM_187 rfl ?_
                refine g_callS C (rmE3 l Z aZ hw b1 (p2 &&& (3 : Int32)) (p0 + (p3 &&& (7 : Int32))) 4 (vM_4 p0 p1 p2 p3) h46 n0 Z46 (own_ge 2 2 rfl hc178_1) rfl (AV.congr Vw5_c46 (fun i _ => by first | rfl | ((repeat' split) <;> rfl) | (simp only [vM_4]; done) | (simp only [vM_4]; (repeat' split) <;> rfl)))) iM_188 (hw _ (List.mem_of_getElem? (i := 1) rfl)) (hw _ (List.mem_of_getElem? (i := 2) rfl)) (hw _ (List.mem_of_getElem? (i := 3) rfl)) (hw _ (List.mem_of_getElem? (i := 4) rfl)) (by decide) (argsL := [(.ref b1), (.int (p2 &&& (3 : Int32))), (.int (p0 + (p3 &&& (7 : Int32)))), (.int (3 : Int32))]) (rest := []) rfl rfl pd0 rfl rfl 0 (Nat.le_of_eq rfl) (by decide) (by decide) (by decide) (by decide) rfl rfl ?_
                rintro _ _ ⟨rfl, he50⟩
                refine Go.heap he50.symm ?_
                refine Go.some' ?_
                refine g_if_eq C iM_191 (fun hc191_1 => ?_) (fun hc191_1 => ?_)
                · refine g_iload C iM_200 rfl ?_
                  refine g_iconst C (1 : Int32) iM_202 rfl ?_
                  refine g_icmp_lt C iM_203 (fun hc203_1 => ?_) (fun hc203_1 => ?_)
                  · refine g_aload C iM_225 rfl rfl ?_
                    refine g_iload C iM_227 rfl ?_
                    refine g_iload C iM_229 rfl ?_
                    refine g_iconst C (1 : Int32) iM_231 rfl ?_
                    refine g_callS C (rmE1 l Z aZ hw b1 (p2 &&& (3 : Int32)) (p0 + (p3 &&& (7 : Int32))) 4 (vM_4 p0 p1 p2 p3) h46 n0 Z46 (own_m3 p2) rfl (AV.congr Vw5_c46 (fun i _ => by first | rfl | ((repeat' split) <;> rfl) | (simp only [vM_4]; done) | (simp only [vM_4]; (repeat' split) <;> rfl)))) iM_232 (hw _ (List.mem_of_getElem? (i := 1) rfl)) (hw _ (List.mem_of_getElem? (i := 2) rfl)) (hw _ (List.mem_of_getElem? (i := 3) rfl)) (hw _ (List.mem_of_getElem? (i := 4) rfl)) (by decide) (argsL := [(.ref b1), (.int (p2 &&& (3 : Int32))), (.int (p0 + (p3 &&& (7 : Int32)))), (.int (1 : Int32))]) (rest := []) rfl rfl pd0 rfl rfl 0 (Nat.le_of_eq rfl) (by decide) (by decide) (by decide) (by decide) rfl rfl ?_
                    rintro _ _ ⟨rfl, he51⟩
                    refine Go.heap he51.symm ?_
                    refine Go.some' ?_
                    refine g_if_eq C iM_235 (fun hc235_1 => ?_) (fun hc235_1 => ?_)
                    · refine g_iconst C (0 : Int32) iM_244 rfl ?_
                      refine g_istore C (Ls' := #[.val (.int p0), .val (.int p1), .val (.int p2), .val (.int p3), .val (.ref b1), .val (.ref b6), .val (.int (p2 &&& (3 : Int32))), .val (.int (p0 + (p3 &&& (7 : Int32)))), .val (.int (0 : Int32)), .unset]) iM_245 rfl ?_
                      have e0 : (vM_11 p0 p1 p2 p3) = (0 : Int32) := by simp only [vM_11, if_pos hc153_1, if_neg hc178_1, if_pos hc191_1, if_pos hc203_1, if_pos hc235_1]
                      exact Go.cast J (by rw [e0])
                    · refine g_iconst C (1 : Int32) iM_238 rfl ?_
                      refine g_istore C (Ls' := #[.val (.int p0), .val (.int p1), .val (.int p2), .val (.int p3), .val (.ref b1), .val (.ref b6), .val (.int (p2 &&& (3 : Int32))), .val (.int (p0 + (p3 &&& (7 : Int32)))), .val (.int (1 : Int32)), .unset]) iM_239 rfl ?_
                      refine g_goto C iM_241 ?_
                      have e0 : (vM_11 p0 p1 p2 p3) = (1 : Int32) := by simp only [vM_11, if_pos hc153_1, if_neg hc178_1, if_pos hc191_1, if_pos hc203_1, if_neg hc235_1]
                      exact Go.cast J (by rw [e0])
                  · refine g_aload C iM_206 rfl rfl ?_
                    refine g_iload C iM_208 rfl ?_
                    refine g_iload C iM_210 rfl ?_
                    refine g_iconst C (2 : Int32) iM_212 rfl ?_
                    refine g_callS C (rmE2 l Z aZ hw b1 (p2 &&& (3 : Int32)) (p0 + (p3 &&& (7 : Int32))) 4 (vM_4 p0 p1 p2 p3) h46 n0 Z46 (own_ge 1 1 rfl hc203_1) rfl (AV.congr Vw5_c46 (fun i _ => by first | rfl | ((repeat' split) <;> rfl) | (simp only [vM_4]; done) | (simp only [vM_4]; (repeat' split) <;> rfl)))) iM_213 (hw _ (List.mem_of_getElem? (i := 1) rfl)) (hw _ (List.mem_of_getElem? (i := 2) rfl)) (hw _ (List.mem_of_getElem? (i := 3) rfl)) (hw _ (List.mem_of_getElem? (i := 4) rfl)) (by decide) (argsL := [(.ref b1), (.int (p2 &&& (3 : Int32))), (.int (p0 + (p3 &&& (7 : Int32)))), (.int (2 : Int32))]) (rest := []) rfl rfl pd0 rfl rfl 0 (Nat.le_of_eq rfl) (by decide) (by decide) (by decide) (by decide) rfl rfl ?_
                    rintro _ _ ⟨rfl, he52⟩
                    refine Go.heap he52.symm ?_
                    refine Go.some' ?_
                    refine g_if_eq C iM_216 (fun hc216_1 => ?_) (fun hc216_1 => ?_)
                    · refine g_aload C iM_225 rfl rfl ?_
                      refine g_iload C iM_227 rfl ?_
                      refine g_iload C iM_229 rfl ?_
                      refine g_iconst C (1 : Int32) iM_231 rfl ?_
                      refine g_callS C (rmE1 l Z aZ hw b1 (p2 &&& (3 : Int32)) (p0 + (p3 &&& (7 : Int32))) 4 (vM_4 p0 p1 p2 p3) h46 n0 Z46 (own_m3 p2) rfl (AV.congr Vw5_c46 (fun i _ => by first | rfl | ((repeat' split) <;> rfl) | (simp only [vM_4]; done) | (simp only [vM_4]; (repeat' split) <;> rfl)))) iM_232 (hw _ (List.mem_of_getElem? (i := 1) rfl)) (hw _ (List.mem_of_getElem? (i := 2) rfl)) (hw _ (List.mem_of_getElem? (i := 3) rfl)) (hw _ (List.mem_of_getElem? (i := 4) rfl)) (by decide) (argsL := [(.ref b1), (.int (p2 &&& (3 : Int32))), (.int (p0 + (p3 &&& (7 : Int32)))), (.int (1 : Int32))]) (rest := []) rfl rfl pd0 rfl rfl 0 (Nat.le_of_eq rfl) (by decide) (by decide) (by decide) (by decide) rfl rfl ?_
                      rintro _ _ ⟨rfl, he53⟩
                      refine Go.heap he53.symm ?_
                      refine Go.some' ?_
                      refine g_if_eq C iM_235 (fun hc235_1 => ?_) (fun hc235_1 => ?_)
                      · refine g_iconst C (0 : Int32) iM_244 rfl ?_
                        refine g_istore C (Ls' := #[.val (.int p0), .val (.int p1), .val (.int p2), .val (.int p3), .val (.ref b1), .val (.ref b6), .val (.int (p2 &&& (3 : Int32))), .val (.int (p0 + (p3 &&& (7 : Int32)))), .val (.int (0 : Int32)), .unset]) iM_245 rfl ?_
                        have e0 : (vM_11 p0 p1 p2 p3) = (0 : Int32) := by simp only [vM_11, if_pos hc153_1, if_neg hc178_1, if_pos hc191_1, if_neg hc203_1, if_pos hc216_1, if_pos hc235_1]
                        exact Go.cast J (by rw [e0])
                      · refine g_iconst C (1 : Int32) iM_238 rfl ?_
                        refine g_istore C (Ls' := #[.val (.int p0), .val (.int p1), .val (.int p2), .val (.int p3), .val (.ref b1), .val (.ref b6), .val (.int (p2 &&& (3 : Int32))), .val (.int (p0 + (p3 &&& (7 : Int32)))), .val (.int (1 : Int32)), .unset]) iM_239 rfl ?_
                        refine g_goto C iM_241 ?_
                        have e0 : (vM_11 p0 p1 p2 p3) = (1 : Int32) := by simp only [vM_11, if_pos hc153_1, if_neg hc178_1, if_pos hc191_1, if_neg hc203_1, if_pos hc216_1, if_neg hc235_1]
                        exact Go.cast J (by rw [e0])
                    · refine g_iconst C (2 : Int32) iM_219 rfl ?_
                      refine g_istore C (Ls' := #[.val (.int p0), .val (.int p1), .val (.int p2), .val (.int p3), .val (.ref b1), .val (.ref b6), .val (.int (p2 &&& (3 : Int32))), .val (.int (p0 + (p3 &&& (7 : Int32)))), .val (.int (2 : Int32)), .unset]) iM_220 rfl ?_
                      refine g_goto C iM_222 ?_
                      have e0 : (vM_11 p0 p1 p2 p3) = (2 : Int32) := by simp only [vM_11, if_pos hc153_1, if_neg hc178_1, if_pos hc191_1, if_neg hc203_1, if_neg hc216_1]
                      exact Go.cast J (by rw [e0])
                · refine g_iconst C (3 : Int32) iM_194 rfl ?_
                  refine g_istore C (Ls' := #[.val (.int p0), .val (.int p1), .val (.int p2), .val (.int p3), .val (.ref b1), .val (.ref b6), .val (.int (p2 &&& (3 : Int32))), .val (.int (p0 + (p3 &&& (7 : Int32)))), .val (.int (3 : Int32)), .unset]) iM_195 rfl ?_
                  refine g_goto C iM_197 ?_
                  have e0 : (vM_11 p0 p1 p2 p3) = (3 : Int32) := by simp only [vM_11, if_pos hc153_1, if_neg hc178_1, if_neg hc191_1]
                  exact Go.cast J (by rw [e0])
            · refine g_aload C iM_156 rfl rfl ?_
              refine g_iload C iM_158 rfl ?_
              refine g_iload C iM_160 rfl ?_
              refine g_iconst C (4 : Int32) iM_162 rfl ?_
              refine g_callS C (rmE4 l Z aZ hw b1 (p2 &&& (3 : Int32)) (p0 + (p3 &&& (7 : Int32))) 4 (vM_4 p0 p1 p2 p3) h46 n0 Z46 (own_ge 3 3 rfl hc153_1) rfl (AV.congr Vw5_c46 (fun i _ => by first | rfl | ((repeat' split) <;> rfl) | (simp only [vM_4]; done) | (simp only [vM_4]; (repeat' split) <;> rfl)))) iM_163 (hw _ (List.mem_of_getElem? (i := 1) rfl)) (hw _ (List.mem_of_getElem? (i := 2) rfl)) (hw _ (List.mem_of_getElem? (i := 3) rfl)) (hw _ (List.mem_of_getElem? (i := 4) rfl)) (by decide) (argsL := [(.ref b1), (.int (p2 &&& (3 : Int32))), (.int (p0 + (p3 &&& (7 : Int32)))), (.int (4 : Int32))]) (rest := []) rfl rfl pd0 rfl rfl 0 (Nat.le_of_eq rfl) (by decide) (by decide) (by decide) (by decide) rfl rfl ?_
              rintro _ _ ⟨rfl, he54⟩
              refine Go.heap he54.symm ?_
              refine Go.some' ?_
              refine g_if_eq C iM_166 (fun hc166_1 => ?_) (fun hc166_1 => ?_)
              · refine g_iload C iM_175 rfl ?_
                refine g_iconst C (2 : Int32) iM_177 rfl ?_
                refine g_icmp_lt C iM_178 (fun hc178_1 => ?_) (fun hc178_1 => ?_)
                · refine g_iload C iM_200 rfl ?_
                  refine g_iconst C (1 : Int32) iM_202 rfl ?_
                  refine g_icmp_lt C iM_203 (fun hc203_1 => ?_) (fun hc203_1 => ?_)
                  · refine g_aload C iM_225 rfl rfl ?_
                    refine g_iload C iM_227 rfl ?_
                    refine g_iload C iM_229 rfl ?_
                    refine g_iconst C (1 : Int32) iM_231 rfl ?_
                    refine g_callS C (rmE1 l Z aZ hw b1 (p2 &&& (3 : Int32)) (p0 + (p3 &&& (7 : Int32))) 4 (vM_4 p0 p1 p2 p3) h46 n0 Z46 (own_m3 p2) rfl (AV.congr Vw5_c46 (fun i _ => by first | rfl | ((repeat' split) <;> rfl) | (simp only [vM_4]; done) | (simp only [vM_4]; (repeat' split) <;> rfl)))) iM_232 (hw _ (List.mem_of_getElem? (i := 1) rfl)) (hw _ (List.mem_of_getElem? (i := 2) rfl)) (hw _ (List.mem_of_getElem? (i := 3) rfl)) (hw _ (List.mem_of_getElem? (i := 4) rfl)) (by decide) (argsL := [(.ref b1), (.int (p2 &&& (3 : Int32))), (.int (p0 + (p3 &&& (7 : Int32)))), (.int (1 : Int32))]) (rest := []) rfl rfl pd0 rfl rfl 0 (Nat.le_of_eq rfl) (by decide) (by decide) (by decide) (by decide) rfl rfl ?_
                    rintro _ _ ⟨rfl, he55⟩
                    refine Go.heap he55.symm ?_
                    refine Go.some' ?_
                    refine g_if_eq C iM_235 (fun hc235_1 => ?_) (fun hc235_1 => ?_)
                    · refine g_iconst C (0 : Int32) iM_244 rfl ?_
                      refine g_istore C (Ls' := #[.val (.int p0), .val (.int p1), .val (.int p2), .val (.int p3), .val (.ref b1), .val (.ref b6), .val (.int (p2 &&& (3 : Int32))), .val (.int (p0 + (p3 &&& (7 : Int32)))), .val (.int (0 : Int32)), .unset]) iM_245 rfl ?_
                      have e0 : (vM_11 p0 p1 p2 p3) = (0 : Int32) := by simp only [vM_11, if_neg hc153_1, if_pos hc166_1, if_pos hc178_1, if_pos hc203_1, if_pos hc235_1]
                      exact Go.cast J (by rw [e0])
                    · refine g_iconst C (1 : Int32) iM_238 rfl ?_
                      refine g_istore C (Ls' := #[.val (.int p0), .val (.int p1), .val (.int p2), .val (.int p3), .val (.ref b1), .val (.ref b6), .val (.int (p2 &&& (3 : Int32))), .val (.int (p0 + (p3 &&& (7 : Int32)))), .val (.int (1 : Int32)), .unset]) iM_239 rfl ?_
                      refine g_goto C iM_241 ?_
                      have e0 : (vM_11 p0 p1 p2 p3) = (1 : Int32) := by simp only [vM_11, if_neg hc153_1, if_pos hc166_1, if_pos hc178_1, if_pos hc203_1, if_neg hc235_1]
                      exact Go.cast J (by rw [e0])
                  · refine g_aload C iM_206 rfl rfl ?_
                    refine g_iload C iM_208 rfl ?_
                    refine g_iload C iM_210 rfl ?_
                    refine g_iconst C (2 : Int32) iM_212 rfl ?_
                    refine g_callS C (rmE2 l Z aZ hw b1 (p2 &&& (3 : Int32)) (p0 + (p3 &&& (7 : Int32))) 4 (vM_4 p0 p1 p2 p3) h46 n0 Z46 (own_ge 1 1 rfl hc203_1) rfl (AV.congr Vw5_c46 (fun i _ => by first | rfl | ((repeat' split) <;> rfl) | (simp only [vM_4]; done) | (simp only [vM_4]; (repeat' split) <;> rfl)))) iM_213 (hw _ (List.mem_of_getElem? (i := 1) rfl)) (hw _ (List.mem_of_getElem? (i := 2) rfl)) (hw _ (List.mem_of_getElem? (i := 3) rfl)) (hw _ (List.mem_of_getElem? (i := 4) rfl)) (by decide) (argsL := [(.ref b1), (.int (p2 &&& (3 : Int32))), (.int (p0 + (p3 &&& (7 : Int32)))), (.int (2 : Int32))]) (rest := []) rfl rfl pd0 rfl rfl 0 (Nat.le_of_eq rfl) (by decide) (by decide) (by decide) (by decide) rfl rfl ?_
                    rintro _ _ ⟨rfl, he56⟩
                    refine Go.heap he56.symm ?_
                    refine Go.some' ?_
                    refine g_if_eq C iM_216 (fun hc216_1 => ?_) (fun hc216_1 => ?_)
                    · refine g_aload C iM_225 rfl rfl ?_
                      refine g_iload C iM_227 rfl ?_
                      refine g_iload C iM_229 rfl ?_
                      refine g_iconst C (1 : Int32) iM_231 rfl ?_
                      refine g_callS C (rmE1 l Z aZ hw b1 (p2 &&& (3 : Int32)) (p0 + (p3 &&& (7 : Int32))) 4 (vM_4 p0 p1 p2 p3) h46 n0 Z46 (own_m3 p2) rfl (AV.congr Vw5_c46 (fun i _ => by first | rfl | ((repeat' split) <;> rfl) | (simp only [vM_4]; done) | (simp only [vM_4]; (repeat' split) <;> rfl)))) iM_232 (hw _ (List.mem_of_getElem? (i := 1) rfl)) (hw _ (List.mem_of_getElem? (i := 2) rfl)) (hw _ (List.mem_of_getElem? (i := 3) rfl)) (hw _ (List.mem_of_getElem? (i := 4) rfl)) (by decide) (argsL := [(.ref b1), (.int (p2 &&& (3 : Int32))), (.int (p0 + (p3 &&& (7 : Int32)))), (.int (1 : Int32))]) (rest := []) rfl rfl pd0 rfl rfl 0 (Nat.le_of_eq rfl) (by decide) (by decide) (by decide) (by decide) rfl rfl ?_
                      rintro _ _ ⟨rfl, he57⟩
                      refine Go.heap he57.symm ?_
                      refine Go.some' ?_
                      refine g_if_eq C iM_235 (fun hc235_1 => ?_) (fun hc235_1 => ?_)
                      · refine g_iconst C (0 : Int32) iM_244 rfl ?_
                        refine g_istore C (Ls' := #[.val (.int p0), .val (.int p1), .val (.int p2), .val (.int p3), .val (.ref b1), .val (.ref b6), .val (.int (p2 &&& (3 : Int32))), .val (.int (p0 + (p3 &&& (7 : Int32)))), .val (.int (0 : Int32)), .unset]) iM_245 rfl ?_
                        have e0 : (vM_11 p0 p1 p2 p3) = (0 : Int32) := by simp only [vM_11, if_neg hc153_1, if_pos hc166_1, if_pos hc178_1, if_neg hc203_1, if_pos hc216_1, if_pos hc235_1]
                        exact Go.cast J (by rw [e0])
                      · refine g_iconst C (1 : Int32) iM_238 rfl ?_
                        refine g_istore C (Ls' := #[.val (.int p0), .val (.int p1), .val (.int p2), .val (.int p3), .val (.ref b1), .val (.ref b6), .val (.int (p2 &&& (3 : Int32))), .val (.int (p0 + (p3 &&& (7 : Int32)))), .val (.int (1 : Int32)), .unset]) iM_239 rfl ?_
                        refine g_goto C iM_241 ?_
                        have e0 : (vM_11 p0 p1 p2 p3) = (1 : Int32) := by simp only [vM_11, if_neg hc153_1, if_pos hc166_1, if_pos hc178_1, if_neg hc203_1, if_pos hc216_1, if_neg hc235_1]
                        exact Go.cast J (by rw [e0])
                    · refine g_iconst C (2 : Int32) iM_219 rfl ?_
                      refine g_istore C (Ls' := #[.val (.int p0), .val (.int p1), .val (.int p2), .val (.int p3), .val (.ref b1), .val (.ref b6), .val (.int (p2 &&& (3 : Int32))), .val (.int (p0 + (p3 &&& (7 : Int32)))), .val (.int (2 : Int32)), .unset]) iM_220 rfl ?_
                      refine g_goto C iM_222 ?_
                      have e0 : (vM_11 p0 p1 p2 p3) = (2 : Int32) := by simp only [vM_11, if_neg hc153_1, if_pos hc166_1, if_pos hc178_1, if_neg hc203_1, if_neg hc216_1]
                      exact Go.cast J (by rw [e0])
                · refine g_aload C iM_181 rfl rfl ?_
                  refine g_iload C iM_183 rfl ?_
                  refine g_iload C iM_185 rfl ?_
                  refine g_iconst C (3 : Int32) iM_187 rfl ?_
                  refine g_callS C (rmE3 l Z aZ hw b1 (p2 &&& (3 : Int32)) (p0 + (p3 &&& (7 : Int32))) 4 (vM_4 p0 p1 p2 p3) h46 n0 Z46 (own_ge 2 2 rfl hc178_1) rfl (AV.congr Vw5_c46 (fun i _ => by first | rfl | ((repeat' split) <;> rfl) | (simp only [vM_4]; done) | (simp only [vM_4]; (repeat' split) <;> rfl)))) iM_188 (hw _ (List.mem_of_getElem? (i := 1) rfl)) (hw _ (List.mem_of_getElem? (i := 2) rfl)) (hw _ (List.mem_of_getElem? (i := 3) rfl)) (hw _ (List.mem_of_getElem? (i := 4) rfl)) (by decide) (argsL := [(.ref b1), (.int (p2 &&& (3 : Int32))), (.int (p0 + (p3 &&& (7 : Int32)))), (.int (3 : Int32))]) (rest := []) rfl rfl pd0 rfl rfl 0 (Nat.le_of_eq rfl) (by decide) (by decide) (by decide) (by decide) rfl rfl ?_
                  rintro _ _ ⟨rfl, he58⟩
                  refine Go.heap he58.symm ?_
                  refine Go.some' ?_
                  refine g_if_eq C iM_191 (fun hc191_1 => ?_) (fun hc191_1 => ?_)
                  · refine g_iload C iM_200 rfl ?_
                    refine g_iconst C (1 : Int32) iM_202 rfl ?_
                    refine g_icmp_lt C iM_203 (fun hc203_1 => ?_) (fun hc203_1 => ?_)
                    · refine g_aload C iM_225 rfl rfl ?_
                      refine g_iload C iM_227 rfl ?_
                      refine g_iload C iM_229 rfl ?_
                      refine g_iconst C (1 : Int32) iM_231 rfl ?_
                      refine g_callS C (rmE1 l Z aZ hw b1 (p2 &&& (3 : Int32)) (p0 + (p3 &&& (7 : Int32))) 4 (vM_4 p0 p1 p2 p3) h46 n0 Z46 (own_m3 p2) rfl (AV.congr Vw5_c46 (fun i _ => by first | rfl | ((repeat' split) <;> rfl) | (simp only [vM_4]; done) | (simp only [vM_4]; (repeat' split) <;> rfl)))) iM_232 (hw _ (List.mem_of_getElem? (i := 1) rfl)) (hw _ (List.mem_of_getElem? (i := 2) rfl)) (hw _ (List.mem_of_getElem? (i := 3) rfl)) (hw _ (List.mem_of_getElem? (i := 4) rfl)) (by decide) (argsL := [(.ref b1), (.int (p2 &&& (3 : Int32))), (.int (p0 + (p3 &&& (7 : Int32)))), (.int (1 : Int32))]) (rest := []) rfl rfl pd0 rfl rfl 0 (Nat.le_of_eq rfl) (by decide) (by decide) (by decide) (by decide) rfl rfl ?_
                      rintro _ _ ⟨rfl, he59⟩
                      refine Go.heap he59.symm ?_
                      refine Go.some' ?_
                      refine g_if_eq C iM_235 (fun hc235_1 => ?_) (fun hc235_1 => ?_)
                      · refine g_iconst C (0 : Int32) iM_244 rfl ?_
                        refine g_istore C (Ls' := #[.val (.int p0), .val (.int p1), .val (.int p2), .val (.int p3), .val (.ref b1), .val (.ref b6), .val (.int (p2 &&& (3 : Int32))), .val (.int (p0 + (p3 &&& (7 : Int32)))), .val (.int (0 : Int32)), .unset]) iM_245 rfl ?_
                        have e0 : (vM_11 p0 p1 p2 p3) = (0 : Int32) := by simp only [vM_11, if_neg hc153_1, if_pos hc166_1, if_neg hc178_1, if_pos hc191_1, if_pos hc203_1, if_pos hc235_1]
                        exact Go.cast J (by rw [e0])
                      · refine g_iconst C (1 : Int32) iM_238 rfl ?_
                        refine g_istore C (Ls' := #[.val (.int p0), .val (.int p1), .val (.int p2), .val (.int p3), .val (.ref b1), .val (.ref b6), .val (.int (p2 &&& (3 : Int32))), .val (.int (p0 + (p3 &&& (7 : Int32)))), .val (.int (1 : Int32)), .unset]) iM_239 rfl ?_
                        refine g_goto C iM_241 ?_
                        have e0 : (vM_11 p0 p1 p2 p3) = (1 : Int32) := by simp only [vM_11, if_neg hc153_1, if_pos hc166_1, if_neg hc178_1, if_pos hc191_1, if_pos hc203_1, if_neg hc235_1]
                        exact Go.cast J (by rw [e0])
                    · refine g_aload C iM_206 rfl rfl ?_
                      refine g_iload C iM_208 rfl ?_
                      refine g_iload C iM_210 rfl ?_
                      refine g_iconst C (2 : Int32) iM_212 rfl ?_
                      refine g_callS C (rmE2 l Z aZ hw b1 (p2 &&& (3 : Int32)) (p0 + (p3 &&& (7 : Int32))) 4 (vM_4 p0 p1 p2 p3) h46 n0 Z46 (own_ge 1 1 rfl hc203_1) rfl (AV.congr Vw5_c46 (fun i _ => by first | rfl | ((repeat' split) <;> rfl) | (simp only [vM_4]; done) | (simp only [vM_4]; (repeat' split) <;> rfl)))) iM_213 (hw _ (List.mem_of_getElem? (i := 1) rfl)) (hw _ (List.mem_of_getElem? (i := 2) rfl)) (hw _ (List.mem_of_getElem? (i := 3) rfl)) (hw _ (List.mem_of_getElem? (i := 4) rfl)) (by decide) (argsL := [(.ref b1), (.int (p2 &&& (3 : Int32))), (.int (p0 + (p3 &&& (7 : Int32)))), (.int (2 : Int32))]) (rest := []) rfl rfl pd0 rfl rfl 0 (Nat.le_of_eq rfl) (by decide) (by decide) (by decide) (by decide) rfl rfl ?_
                      rintro _ _ ⟨rfl, he60⟩
                      refine Go.heap he60.symm ?_
                      refine Go.some' ?_
                      refine g_if_eq C iM_216 (fun hc216_1 => ?_) (fun hc216_1 => ?_)
                      · refine g_aload C iM_225 rfl rfl ?_
                        refine g_iload C iM_227 rfl ?_
                        refine g_iload C iM_229 rfl ?_
                        refine g_iconst C (1 : Int32) iM_231 rfl ?_
                        refine g_callS C (rmE1 l Z aZ hw b1 (p2 &&& (3 : Int32)) (p0 + (p3 &&& (7 : Int32))) 4 (vM_4 p0 p1 p2 p3) h46 n0 Z46 (own_m3 p2) rfl (AV.congr Vw5_c46 (fun i _ => by first | rfl | ((repeat' split) <;> rfl) | (simp only [vM_4]; done) | (simp only [vM_4]; (repeat' split) <;> rfl)))) iM_232 (hw _ (List.mem_of_getElem? (i := 1) rfl)) (hw _ (List.mem_of_getElem? (i := 2) rfl)) (hw _ (List.mem_of_getElem? (i := 3) rfl)) (hw _ (List.mem_of_getElem? (i := 4) rfl)) (by decide) (argsL := [(.ref b1), (.int (p2 &&& (3 : Int32))), (.int (p0 + (p3 &&& (7 : Int32)))), (.int (1 : Int32))]) (rest := []) rfl rfl pd0 rfl rfl 0 (Nat.le_of_eq rfl) (by decide) (by decide) (by decide) (by decide) rfl rfl ?_
                        rintro _ _ ⟨rfl, he61⟩
                        refine Go.heap he61.symm ?_
                        refine Go.some' ?_
                        refine g_if_eq C iM_235 (fun hc235_1 => ?_) (fun hc235_1 => ?_)
                        · refine g_iconst C (0 : Int32) iM_244 rfl ?_
                          refine g_istore C (Ls' := #[.val (.int p0), .val (.int p1), .val (.int p2), .val (.int p3), .val (.ref b1), .val (.ref b6), .val (.int (p2 &&& (3 : Int32))), .val (.int (p0 + (p3 &&& (7 : Int32)))), .val (.int (0 : Int32)), .unset]) iM_245 rfl ?_
                          have e0 : (vM_11 p0 p1 p2 p3) = (0 : Int32) := by simp only [vM_11, if_neg hc153_1, if_pos hc166_1, if_neg hc178_1, if_pos hc191_1, if_neg hc203_1, if_pos hc216_1, if_pos hc235_1]
                          exact Go.cast J (by rw [e0])
                        · refine g_iconst C (1 : Int32) iM_238 rfl ?_
                          refine g_istore C (Ls' := #[.val (.int p0), .val (.int p1), .val (.int p2), .val (.int p3), .val (.ref b1), .val (.ref b6), .val (.int (p2 &&& (3 : Int32))), .val (.int (p0 + (p3 &&& (7 : Int32)))), .val (.int (1 : Int32)), .unset]) iM_239 rfl ?_
                          refine g_goto C iM_241 ?_
                          have e0 : (vM_11 p0 p1 p2 p3) = (1 : Int32) := by simp only [vM_11, if_neg hc153_1, if_pos hc166_1, if_neg hc178_1, if_pos hc191_1, if_neg hc203_1, if_pos hc216_1, if_neg hc235_1]
                          exact Go.cast J (by rw [e0])
                      · refine g_iconst C (2 : Int32) iM_219 rfl ?_
                        refine g_istore C (Ls' := #[.val (.int p0), .val (.int p1), .val (.int p2), .val (.int p3), .val (.ref b1), .val (.ref b6), .val (.int (p2 &&& (3 : Int32))), .val (.int (p0 + (p3 &&& (7 : Int32)))), .val (.int (2 : Int32)), .unset]) iM_220 rfl ?_
                        refine g_goto C iM_222 ?_
                        have e0 : (vM_11 p0 p1 p2 p3) = (2 : Int32) := by simp only [vM_11, if_neg hc153_1, if_pos hc166_1, if_neg hc178_1, if_pos hc191_1, if_neg hc203_1, if_neg hc216_1]
                        exact Go.cast J (by rw [e0])
                  · refine g_iconst C (3 : Int32) iM_194 rfl ?_
                    refine g_istore C (Ls' := #[.val (.int p0), .val (.int p1), .val (.int p2), .val (.int p3), .val (.ref b1), .val (.ref b6), .val (.int (p2 &&& (3 : Int32))), .val (.int (p0 + (p3 &&& (7 : Int32)))), .val (.int (3 : Int32)), .unset]) iM_195 rfl ?_
                    refine g_goto C iM_197 ?_
                    have e0 : (vM_11 p0 p1 p2 p3) = (3 : Int32) := by simp only [vM_11, if_neg hc153_1, if_pos hc166_1, if_neg hc178_1, if_neg hc191_1]
                    exact Go.cast J (by rw [e0])
              · refine g_iconst C (4 : Int32) iM_169 rfl ?_
                refine g_istore C (Ls' := #[.val (.int p0), .val (.int p1), .val (.int p2), .val (.int p3), .val (.ref b1), .val (.ref b6), .val (.int (p2 &&& (3 : Int32))), .val (.int (p0 + (p3 &&& (7 : Int32)))), .val (.int (4 : Int32)), .unset]) iM_170 rfl ?_
                refine g_goto C iM_172 ?_
                have e0 : (vM_11 p0 p1 p2 p3) = (4 : Int32) := by simp only [vM_11, if_neg hc153_1, if_neg hc166_1]
                exact Go.cast J (by rw [e0])
    · refine g_aload C iM_108 rfl rfl ?_
      refine g_iconst C (0 : Int32) iM_110 rfl ?_
      refine g_iald C (.int (p0 + (p1 &&& (3 : Int32)))) iM_111 Vw5_c8 ⟨by decide, by decide⟩ rfl ?_
      refine g_aload C iM_112 rfl rfl ?_
      refine g_iconst C (2 : Int32) iM_114 rfl ?_
      refine g_iald C (.int (vM_1 p0 p1 p2 p3)) iM_115 Vw5_c8 ⟨by decide, by decide⟩ rfl ?_
      refine g_icmp_ne C iM_116 (fun hc116_1 => ?_) (fun hc116_1 => ?_)
      · refine g_aload C iM_119 rfl rfl ?_
        refine g_iconst C (2 : Int32) iM_121 rfl ?_
        refine g_iconst C (1 : Int32) iM_122 rfl ?_
        refine g_iast C iM_123 Vw8 ⟨by decide, by decide⟩ ge6 (fun h63 W63 V63 => ?_)
        have Vw5_c63 := AV.other Vw5_c8 W63 ne_b1_b6
        have Vw63 : AV Z h63 b6 .int 4 (fun i => if i = 2 then (.int (1 : Int32)) else (fun i => if i = 1 then (.int (vM_3 p0 p1 p2 p3)) else (fun i => if i = 0 then (.int (0 : Int32)) else (fun _ => (.int (0 : Int32))) i) i) i) := V63
        have K63 := Keep.wr K8 W63 (Or.inr fr6)
        have Z63 : n0 ≤ h63.size := Nat.le_trans Z8 (Keep.of_wr W63).1
        refine g_goto C iM_124 ?_
        refine g_aload C iM_132 rfl rfl ?_
        refine g_iconst C (3 : Int32) iM_134 rfl ?_
        refine g_iconst C (0 : Int32) iM_135 rfl ?_
        refine g_iast C iM_136 Vw63 ⟨by decide, by decide⟩ ge6 (fun h64 W64 V64 => ?_)
        have Vw5_c64 := AV.other Vw5_c63 W64 ne_b1_b6
        have Vw64 : AV Z h64 b6 .int 4 (fun i => if i = 3 then (.int (0 : Int32)) else (fun i => if i = 2 then (.int (1 : Int32)) else (fun i => if i = 1 then (.int (vM_3 p0 p1 p2 p3)) else (fun i => if i = 0 then (.int (0 : Int32)) else (fun _ => (.int (0 : Int32))) i) i) i) i) := V64
        have K64 := Keep.wr K63 W64 (Or.inr fr6)
        have Z64 : n0 ≤ h64.size := Nat.le_trans Z63 (Keep.of_wr W64).1
        refine g_iloadN C iM_137 rfl ?_
        refine g_iconst C (3 : Int32) iM_138 rfl ?_
        refine g_iand C iM_139 ?_
        refine g_istore C (Ls' := #[.val (.int p0), .val (.int p1), .val (.int p2), .val (.int p3), .val (.ref b1), .val (.ref b6), .val (.int (p2 &&& (3 : Int32))), .unset, .unset, .unset]) iM_140 rfl ?_
        refine g_iloadN C iM_142 rfl ?_
        refine g_iloadN C iM_143 rfl ?_
        refine g_bipush C (7 : Int32) iM_144 rfl ?_
        refine g_iand C iM_146 ?_
        refine g_iadd C iM_147 ?_
        refine g_istore C (Ls' := #[.val (.int p0), .val (.int p1), .val (.int p2), .val (.int p3), .val (.ref b1), .val (.ref b6), .val (.int (p2 &&& (3 : Int32))), .val (.int (p0 + (p3 &&& (7 : Int32)))), .unset, .unset]) iM_148 rfl ?_
        refine g_iload C iM_150 rfl ?_
        refine g_iconst C (3 : Int32) iM_152 rfl ?_
        refine Go.join (mkF m 247 #[.val (.int p0), .val (.int p1), .val (.int p2), .val (.int p3), .val (.ref b1), .val (.ref b6), .val (.int (p2 &&& (3 : Int32))), .val (.int (p0 + (p3 &&& (7 : Int32)))), .val (.int (vM_11 p0 p1 p2 p3)), .unset] []) ?_ (fun J => ?_)
        · refine g_aload C iM_247 rfl rfl ?_
          refine g_aload C iM_249 rfl rfl ?_
          refine g_iload C iM_251 rfl ?_
          refine g_iload C iM_253 rfl ?_
          refine g_callS C (rmX l Z aZ hw b1 b6 (p2 &&& (3 : Int32)) (p0 + (p3 &&& (7 : Int32))) (vM_4 p0 p1 p2 p3) (vM_15 p0 p1 p2 p3) h64 n0 Z64 (own_m3a p2) (own_m3b p2) (own_ht _ _ (own_v3 p0 p1 p2 p3) (by decide)) (AV.congr Vw5_c64 (fun i _ => by first | rfl | ((repeat' split) <;> rfl) | (simp only [vM_4]; done) | (simp only [vM_4]; (repeat' split) <;> rfl))) (AV.congr Vw64 (fun i _ => by first | rfl | ((repeat' split) <;> rfl) | (simp only [vM_15]; done) | (simp only [vM_15]; (repeat' split) <;> rfl)))) iM_255 (hw _ (List.mem_of_getElem? (i := 5) rfl)) (hw _ (List.mem_of_getElem? (i := 6) rfl)) (hw _ (List.mem_of_getElem? (i := 7) rfl)) (hw _ (List.mem_of_getElem? (i := 8) rfl)) (by decide) (argsL := [(.ref b1), (.ref b6), (.int (p2 &&& (3 : Int32))), (.int (p0 + (p3 &&& (7 : Int32))))]) (rest := []) rfl rfl pd1 rfl rfl 0 (Nat.le_of_eq rfl) (by decide) (by decide) (by decide) (by decide) rfl rfl ?_
          rintro _ _ ⟨rfl, he80⟩
          refine Go.heap he80.symm ?_
          refine Go.some' ?_
          refine g_istore C (Ls' := #[.val (.int p0), .val (.int p1), .val (.int p2), .val (.int p3), .val (.ref b1), .val (.ref b6), .val (.int (p2 &&& (3 : Int32))), .val (.int (p0 + (p3 &&& (7 : Int32)))), .val (.int (vM_11 p0 p1 p2 p3)), .val (.int (vM_16 p0 p1 p2 p3))]) iM_258 rfl ?_
          refine g_iload C iM_260 rfl ?_
          refine g_iload C iM_262 rfl ?_
          refine Go.join (mkF m 272 #[.val (.int p0), .val (.int p1), .val (.int p2), .val (.int p3), .val (.ref b1), .val (.ref b6), .val (.int (p2 &&& (3 : Int32))), .val (.int (p0 + (p3 &&& (7 : Int32)))), .val (.int (vM_11 p0 p1 p2 p3)), .val (.int (vM_16 p0 p1 p2 p3))] [(.int (vM_17 p0 p1 p2 p3))]) ?_ (fun J => ?_)
          · exact g_retNar C (t := .boolean) iM_272 rfl (by simp) (by decide) (by decide) (show _ = _ from congrArg (fun z => some (Value.int z)) (leafM_3 p0 p1 p2 p3 hc86_1 hc116_1))
          · refine g_icmp_ne C iM_264 (fun hc264_1 => ?_) (fun hc264_1 => ?_)
            · refine g_iconst C (1 : Int32) iM_267 rfl ?_
              refine g_goto C iM_268 ?_
              have e0 : (vM_17 p0 p1 p2 p3) = (1 : Int32) := by simp only [vM_17, if_pos hc264_1]
              exact Go.cast J (by rw [e0])
            · refine g_iconst C (0 : Int32) iM_271 rfl ?_
              have e0 : (vM_17 p0 p1 p2 p3) = (0 : Int32) := by simp only [vM_17, if_neg hc264_1]
              exact Go.cast J (by rw [e0])
        · refine g_icmp_lt C iM_153 (fun hc153_1 => ?_) (fun hc153_1 => ?_)
          · refine g_iload C iM_175 rfl ?_
            refine g_iconst C (2 : Int32) iM_177 rfl ?_
            refine g_icmp_lt C iM_178 (fun hc178_1 => ?_) (fun hc178_1 => ?_)
            · refine g_iload C iM_200 rfl ?_
              refine g_iconst C (1 : Int32) iM_202 rfl ?_
              refine g_icmp_lt C iM_203 (fun hc203_1 => ?_) (fun hc203_1 => ?_)
              · refine g_aload C iM_225 rfl rfl ?_
                refine g_iload C iM_227 rfl ?_
                refine g_iload C iM_229 rfl ?_
                refine g_iconst C (1 : Int32) iM_231 rfl ?_
                refine g_callS C (rmE1 l Z aZ hw b1 (p2 &&& (3 : Int32)) (p0 + (p3 &&& (7 : Int32))) 4 (vM_4 p0 p1 p2 p3) h64 n0 Z64 (own_m3 p2) rfl (AV.congr Vw5_c64 (fun i _ => by first | rfl | ((repeat' split) <;> rfl) | (simp only [vM_4]; done) | (simp only [vM_4]; (repeat' split) <;> rfl)))) iM_232 (hw _ (List.mem_of_getElem? (i := 1) rfl)) (hw _ (List.mem_of_getElem? (i := 2) rfl)) (hw _ (List.mem_of_getElem? (i := 3) rfl)) (hw _ (List.mem_of_getElem? (i := 4) rfl)) (by decide) (argsL := [(.ref b1), (.int (p2 &&& (3 : Int32))), (.int (p0 + (p3 &&& (7 : Int32)))), (.int (1 : Int32))]) (rest := []) rfl rfl pd0 rfl rfl 0 (Nat.le_of_eq rfl) (by decide) (by decide) (by decide) (by decide) rfl rfl ?_
                rintro _ _ ⟨rfl, he65⟩
                refine Go.heap he65.symm ?_
                refine Go.some' ?_
                refine g_if_eq C iM_235 (fun hc235_1 => ?_) (fun hc235_1 => ?_)
                · refine g_iconst C (0 : Int32) iM_244 rfl ?_
                  refine g_istore C (Ls' := #[.val (.int p0), .val (.int p1), .val (.int p2), .val (.int p3), .val (.ref b1), .val (.ref b6), .val (.int (p2 &&& (3 : Int32))), .val (.int (p0 + (p3 &&& (7 : Int32)))), .val (.int (0 : Int32)), .unset]) iM_245 rfl ?_
                  have e0 : (vM_11 p0 p1 p2 p3) = (0 : Int32) := by simp only [vM_11, if_pos hc153_1, if_pos hc178_1, if_pos hc203_1, if_pos hc235_1]
                  exact Go.cast J (by rw [e0])
                · refine g_iconst C (1 : Int32) iM_238 rfl ?_
                  refine g_istore C (Ls' := #[.val (.int p0), .val (.int p1), .val (.int p2), .val (.int p3), .val (.ref b1), .val (.ref b6), .val (.int (p2 &&& (3 : Int32))), .val (.int (p0 + (p3 &&& (7 : Int32)))), .val (.int (1 : Int32)), .unset]) iM_239 rfl ?_
                  refine g_goto C iM_241 ?_
                  have e0 : (vM_11 p0 p1 p2 p3) = (1 : Int32) := by simp only [vM_11, if_pos hc153_1, if_pos hc178_1, if_pos hc203_1, if_neg hc235_1]
                  exact Go.cast J (by rw [e0])
              · refine g_aload C iM_206 rfl rfl ?_
                refine g_iload C iM_208 rfl ?_
                refine g_iload C iM_210 rfl ?_
                refine g_iconst C (2 : Int32) iM_212 rfl ?_
                refine g_callS C (rmE2 l Z aZ hw b1 (p2 &&& (3 : Int32)) (p0 + (p3 &&& (7 : Int32))) 4 (vM_4 p0 p1 p2 p3) h64 n0 Z64 (own_ge 1 1 rfl hc203_1) rfl (AV.congr Vw5_c64 (fun i _ => by first | rfl | ((repeat' split) <;> rfl) | (simp only [vM_4]; done) | (simp only [vM_4]; (repeat' split) <;> rfl)))) iM_213 (hw _ (List.mem_of_getElem? (i := 1) rfl)) (hw _ (List.mem_of_getElem? (i := 2) rfl)) (hw _ (List.mem_of_getElem? (i := 3) rfl)) (hw _ (List.mem_of_getElem? (i := 4) rfl)) (by decide) (argsL := [(.ref b1), (.int (p2 &&& (3 : Int32))), (.int (p0 + (p3 &&& (7 : Int32)))), (.int (2 : Int32))]) (rest := []) rfl rfl pd0 rfl rfl 0 (Nat.le_of_eq rfl) (by decide) (by decide) (by decide) (by decide) rfl rfl ?_
                rintro _ _ ⟨rfl, he66⟩
                refine Go.heap he66.symm ?_
                refine Go.some' ?_
                refine g_if_eq C iM_216 (fun hc216_1 => ?_) (fun hc216_1 => ?_)
                · refine g_aload C iM_225 rfl rfl ?_
                  refine g_iload C iM_227 rfl ?_
                  refine g_iload C iM_229 rfl ?_
                  refine g_iconst C (1 : Int32) iM_231 rfl ?_
                  refine g_callS C (rmE1 l Z aZ hw b1 (p2 &&& (3 : Int32)) (p0 + (p3 &&& (7 : Int32))) 4 (vM_4 p0 p1 p2 p3) h64 n0 Z64 (own_m3 p2) rfl (AV.congr Vw5_c64 (fun i _ => by first | rfl | ((repeat' split) <;> rfl) | (simp only [vM_4]; done) | (simp only [vM_4]; (repeat' split) <;> rfl)))) iM_232 (hw _ (List.mem_of_getElem? (i := 1) rfl)) (hw _ (List.mem_of_getElem? (i := 2) rfl)) (hw _ (List.mem_of_getElem? (i := 3) rfl)) (hw _ (List.mem_of_getElem? (i := 4) rfl)) (by decide) (argsL := [(.ref b1), (.int (p2 &&& (3 : Int32))), (.int (p0 + (p3 &&& (7 : Int32)))), (.int (1 : Int32))]) (rest := []) rfl rfl pd0 rfl rfl 0 (Nat.le_of_eq rfl) (by decide) (by decide) (by decide) (by decide) rfl rfl ?_
                  rintro _ _ ⟨rfl, he67⟩
                  refine Go.heap he67.symm ?_
                  refine Go.some' ?_
                  refine g_if_eq C iM_235 (fun hc235_1 => ?_) (fun hc235_1 => ?_)
                  · refine g_iconst C (0 : Int32) iM_244 rfl ?_
                    refine g_istore C (Ls' := #[.val (.int p0), .val (.int p1), .val (.int p2), .val (.int p3), .val (.ref b1), .val (.ref b6), .val (.int (p2 &&& (3 : Int32))), .val (.int (p0 + (p3 &&& (7 : Int32)))), .val (.int (0 : Int32)), .unset]) iM_245 rfl ?_
                    have e0 : (vM_11 p0 p1 p2 p3) = (0 : Int32) := by simp only [vM_11, if_pos hc153_1, if_pos hc178_1, if_neg hc203_1, if_pos hc216_1, if_pos hc235_1]
                    exact Go.cast J (by rw [e0])
                  · refine g_iconst C (1 : Int32) iM_238 rfl ?_
                    refine g_istore C (Ls' := #[.val (.int p0), .val (.int p1), .val (.int p2), .val (.int p3), .val (.ref b1), .val (.ref b6), .val (.int (p2 &&& (3 : Int32))), .val (.int (p0 + (p3 &&& (7 : Int32)))), .val (.int (1 : Int32)), .unset]) iM_239 rfl ?_
                    refine g_goto C iM_241 ?_
                    have e0 : (vM_11 p0 p1 p2 p3) = (1 : Int32) := by simp only [vM_11, if_pos hc153_1, if_pos hc178_1, if_neg hc203_1, if_pos hc216_1, if_neg hc235_1]
                    exact Go.cast J (by rw [e0])
                · refine g_iconst C (2 : Int32) iM_219 rfl ?_
                  refine g_istore C (Ls' := #[.val (.int p0), .val (.int p1), .val (.int p2), .val (.int p3), .val (.ref b1), .val (.ref b6), .val (.int (p2 &&& (3 : Int32))), .val (.int (p0 + (p3 &&& (7 : Int32)))), .val (.int (2 : Int32)), .unset]) iM_220 rfl ?_
                  refine g_goto C iM_222 ?_
                  have e0 : (vM_11 p0 p1 p2 p3) = (2 : Int32) := by simp only [vM_11, if_pos hc153_1, if_pos hc178_1, if_neg hc203_1, if_neg hc216_1]
                  exact Go.cast J (by rw [e0])
            · refine g_aload C iM_181 rfl rfl ?_
              refine g_iload C iM_183 rfl ?_
              refine g_iload C iM_185 rfl ?_
              refine g_iconst C (3 : Int32) iM_187 rfl ?_
              refine g_callS C (rmE3 l Z aZ hw b1 (p2 &&& (3 : Int32)) (p0 + (p3 &&& (7 : Int32))) 4 (vM_4 p0 p1 p2 p3) h64 n0 Z64 (own_ge 2 2 rfl hc178_1) rfl (AV.congr Vw5_c64 (fun i _ => by first | rfl | ((repeat' split) <;> rfl) | (simp only [vM_4]; done) | (simp only [vM_4]; (repeat' split) <;> rfl)))) iM_188 (hw _ (List.mem_of_getElem? (i := 1) rfl)) (hw _ (List.mem_of_getElem? (i := 2) rfl)) (hw _ (List.mem_of_getElem? (i := 3) rfl)) (hw _ (List.mem_of_getElem? (i := 4) rfl)) (by decide) (argsL := [(.ref b1), (.int (p2 &&& (3 : Int32))), (.int (p0 + (p3 &&& (7 : Int32)))), (.int (3 : Int32))]) (rest := []) rfl rfl pd0 rfl rfl 0 (Nat.le_of_eq rfl) (by decide) (by decide) (by decide) (by decide) rfl rfl ?_
              rintro _ _ ⟨rfl, he68⟩
              refine Go.heap he68.symm ?_
              refine Go.some' ?_
              refine g_if_eq C iM_191 (fun hc191_1 => ?_) (fun hc191_1 => ?_)
              · refine g_iload C iM_200 rfl ?_
                refine g_iconst C (1 : Int32) iM_202 rfl ?_
                refine g_icmp_lt C iM_203 (fun hc203_1 => ?_) (fun hc203_1 => ?_)
                · refine g_aload C iM_225 rfl rfl ?_
                  refine g_iload C iM_227 rfl ?_
                  refine g_iload C iM_229 rfl ?_
                  refine g_iconst C (1 : Int32) iM_231 rfl ?_
                  refine g_callS C (rmE1 l Z aZ hw b1 (p2 &&& (3 : Int32)) (p0 + (p3 &&& (7 : Int32))) 4 (vM_4 p0 p1 p2 p3) h64 n0 Z64 (own_m3 p2) rfl (AV.congr Vw5_c64 (fun i _ => by first | rfl | ((repeat' split) <;> rfl) | (simp only [vM_4]; done) | (simp only [vM_4]; (repeat' split) <;> rfl)))) iM_232 (hw _ (List.mem_of_getElem? (i := 1) rfl)) (hw _ (List.mem_of_getElem? (i := 2) rfl)) (hw _ (List.mem_of_getElem? (i := 3) rfl)) (hw _ (List.mem_of_getElem? (i := 4) rfl)) (by decide) (argsL := [(.ref b1), (.int (p2 &&& (3 : Int32))), (.int (p0 + (p3 &&& (7 : Int32)))), (.int (1 : Int32))]) (rest := []) rfl rfl pd0 rfl rfl 0 (Nat.le_of_eq rfl) (by decide) (by decide) (by decide) (by decide) rfl rfl ?_
                  rintro _ _ ⟨rfl, he69⟩
                  refine Go.heap he69.symm ?_
                  refine Go.some' ?_
                  refine g_if_eq C iM_235 (fun hc235_1 => ?_) (fun hc235_1 => ?_)
                  · refine g_iconst C (0 : Int32) iM_244 rfl ?_
                    refine g_istore C (Ls' := #[.val (.int p0), .val (.int p1), .val (.int p2), .val (.int p3), .val (.ref b1), .val (.ref b6), .val (.int (p2 &&& (3 : Int32))), .val (.int (p0 + (p3 &&& (7 : Int32)))), .val (.int (0 : Int32)), .unset]) iM_245 rfl ?_
                    have e0 : (vM_11 p0 p1 p2 p3) = (0 : Int32) := by simp only [vM_11, if_pos hc153_1, if_neg hc178_1, if_pos hc191_1, if_pos hc203_1, if_pos hc235_1]
                    exact Go.cast J (by rw [e0])
                  · refine g_iconst C (1 : Int32) iM_238 rfl ?_
                    refine g_istore C (Ls' := #[.val (.int p0), .val (.int p1), .val (.int p2), .val (.int p3), .val (.ref b1), .val (.ref b6), .val (.int (p2 &&& (3 : Int32))), .val (.int (p0 + (p3 &&& (7 : Int32)))), .val (.int (1 : Int32)), .unset]) iM_239 rfl ?_
                    refine g_goto C iM_241 ?_
                    have e0 : (vM_11 p0 p1 p2 p3) = (1 : Int32) := by simp only [vM_11, if_pos hc153_1, if_neg hc178_1, if_pos hc191_1, if_pos hc203_1, if_neg hc235_1]
                    exact Go.cast J (by rw [e0])
                · refine g_aload C iM_206 rfl rfl ?_
                  refine g_iload C iM_208 rfl ?_
                  refine g_iload C iM_210 rfl ?_
                  refine g_iconst C (2 : Int32) iM_212 rfl ?_
                  refine g_callS C (rmE2 l Z aZ hw b1 (p2 &&& (3 : Int32)) (p0 + (p3 &&& (7 : Int32))) 4 (vM_4 p0 p1 p2 p3) h64 n0 Z64 (own_ge 1 1 rfl hc203_1) rfl (AV.congr Vw5_c64 (fun i _ => by first | rfl | ((repeat' split) <;> rfl) | (simp only [vM_4]; done) | (simp only [vM_4]; (repeat' split) <;> rfl)))) iM_213 (hw _ (List.mem_of_getElem? (i := 1) rfl)) (hw _ (List.mem_of_getElem? (i := 2) rfl)) (hw _ (List.mem_of_getElem? (i := 3) rfl)) (hw _ (List.mem_of_getElem? (i := 4) rfl)) (by decide) (argsL := [(.ref b1), (.int (p2 &&& (3 : Int32))), (.int (p0 + (p3 &&& (7 : Int32)))), (.int (2 : Int32))]) (rest := []) rfl rfl pd0 rfl rfl 0 (Nat.le_of_eq rfl) (by decide) (by decide) (by decide) (by decide) rfl rfl ?_
                  rintro _ _ ⟨rfl, he70⟩
                  refine Go.heap he70.symm ?_
                  refine Go.some' ?_
                  refine g_if_eq C iM_216 (fun hc216_1 => ?_) (fun hc216_1 => ?_)
                  · refine g_aload C iM_225 rfl rfl ?_
                    refine g_iload C iM_227 rfl ?_
                    refine g_iload C iM_229 rfl ?_
                    refine g_iconst C (1 : Int32) iM_231 rfl ?_
                    refine g_callS C (rmE1 l Z aZ hw b1 (p2 &&& (3 : Int32)) (p0 + (p3 &&& (7 : Int32))) 4 (vM_4 p0 p1 p2 p3) h64 n0 Z64 (own_m3 p2) rfl (AV.congr Vw5_c64 (fun i _ => by first | rfl | ((repeat' split) <;> rfl) | (simp only [vM_4]; done) | (simp only [vM_4]; (repeat' split) <;> rfl)))) iM_232 (hw _ (List.mem_of_getElem? (i := 1) rfl)) (hw _ (List.mem_of_getElem? (i := 2) rfl)) (hw _ (List.mem_of_getElem? (i := 3) rfl)) (hw _ (List.mem_of_getElem? (i := 4) rfl)) (by decide) (argsL := [(.ref b1), (.int (p2 &&& (3 : Int32))), (.int (p0 + (p3 &&& (7 : Int32)))), (.int (1 : Int32))]) (rest := []) rfl rfl pd0 rfl rfl 0 (Nat.le_of_eq rfl) (by decide) (by decide) (by decide) (by decide) rfl rfl ?_
                    rintro _ _ ⟨rfl, he71⟩
                    refine Go.heap he71.symm ?_
                    refine Go.some' ?_
                    refine g_if_eq C iM_235 (fun hc235_1 => ?_) (fun hc235_1 => ?_)
                    · refine g_iconst C (0 : Int32) iM_244 rfl ?_
                      refine g_istore C (Ls' := #[.val (.int p0), .val (.int p1), .val (.int p2), .val (.int p3), .val (.ref b1), .val (.ref b6), .val (.int (p2 &&& (3 : Int32))), .val (.int (p0 + (p3 &&& (7 : Int32)))), .val (.int (0 : Int32)), .unset]) iM_245 rfl ?_
                      have e0 : (vM_11 p0 p1 p2 p3) = (0 : Int32) := by simp only [vM_11, if_pos hc153_1, if_neg hc178_1, if_pos hc191_1, if_neg hc203_1, if_pos hc216_1, if_pos hc235_1]
                      exact Go.cast J (by rw [e0])
                    · refine g_iconst C (1 : Int32) iM_238 rfl ?_
                      refine g_istore C (Ls' := #[.val (.int p0), .val (.int p1), .val (.int p2), .val (.int p3), .val (.ref b1), .val (.ref b6), .val (.int (p2 &&& (3 : Int32))), .val (.int (p0 + (p3 &&& (7 : Int32)))), .val (.int (1 : Int32)), .unset]) iM_239 rfl ?_
                      refine g_goto C iM_241 ?_
                      have e0 : (vM_11 p0 p1 p2 p3) = (1 : Int32) := by simp only [vM_11, if_pos hc153_1, if_neg hc178_1, if_pos hc191_1, if_neg hc203_1, if_pos hc216_1, if_neg hc235_1]
                      exact Go.cast J (by rw [e0])
                  · refine g_iconst C (2 : Int32) iM_219 rfl ?_
                    refine g_istore C (Ls' := #[.val (.int p0), .val (.int p1), .val (.int p2), .val (.int p3), .val (.ref b1), .val (.ref b6), .val (.int (p2 &&& (3 : Int32))), .val (.int (p0 + (p3 &&& (7 : Int32)))), .val (.int (2 : Int32)), .unset]) iM_220 rfl ?_
                    refine g_goto C iM_222 ?_
                    have e0 : (vM_11 p0 p1 p2 p3) = (2 : Int32) := by simp only [vM_11, if_pos hc153_1, if_neg hc178_1, if_pos hc191_1, if_neg hc203_1, if_neg hc216_1]
                    exact Go.cast J (by rw [e0])
              · refine g_iconst C (3 : Int32) iM_194 rfl ?_
                refine g_istore C (Ls' := #[.val (.int p0), .val (.int p1), .val (.int p2), .val (.int p3), .val (.ref b1), .val (.ref b6), .val (.int (p2 &&& (3 : Int32))), .val (.int (p0 + (p3 &&& (7 : Int32)))), .val (.int (3 : Int32)), .unset]) iM_195 rfl ?_
                refine g_goto C iM_197 ?_
                have e0 : (vM_11 p0 p1 p2 p3) = (3 : Int32) := by simp only [vM_11, if_pos hc153_1, if_neg hc178_1, if_neg hc191_1]
                exact Go.cast J (by rw [e0])
          · refine g_aload C iM_156 rfl rfl ?_
            refine g_iload C iM_158 rfl ?_
            refine g_iload C iM_160 rfl ?_
            refine g_iconst C (4 : Int32) iM_162 rfl ?_
            refine g_callS C (rmE4 l Z aZ hw b1 (p2 &&& (3 : Int32)) (p0 + (p3 &&& (7 : Int32))) 4 (vM_4 p0 p1 p2 p3) h64 n0 Z64 (own_ge 3 3 rfl hc153_1) rfl (AV.congr Vw5_c64 (fun i _ => by first | rfl | ((repeat' split) <;> rfl) | (simp only [vM_4]; done) | (simp only [vM_4]; (repeat' split) <;> rfl)))) iM_163 (hw _ (List.mem_of_getElem? (i := 1) rfl)) (hw _ (List.mem_of_getElem? (i := 2) rfl)) (hw _ (List.mem_of_getElem? (i := 3) rfl)) (hw _ (List.mem_of_getElem? (i := 4) rfl)) (by decide) (argsL := [(.ref b1), (.int (p2 &&& (3 : Int32))), (.int (p0 + (p3 &&& (7 : Int32)))), (.int (4 : Int32))]) (rest := []) rfl rfl pd0 rfl rfl 0 (Nat.le_of_eq rfl) (by decide) (by decide) (by decide) (by decide) rfl rfl ?_
            rintro _ _ ⟨rfl, he72⟩
            refine Go.heap he72.symm ?_
            refine Go.some' ?_
            refine g_if_eq C iM_166 (fun hc166_1 => ?_) (fun hc166_1 => ?_)
            · refine g_iload C iM_175 rfl ?_
              refine g_iconst C (2 : Int32) iM_177 rfl ?_
              refine g_icmp_lt C iM_178 (fun hc178_1 => ?_) (fun hc178_1 => ?_)
              · refine g_iload C iM_200 rfl ?_
                refine g_iconst C (1 : Int32) iM_202 rfl ?_
                refine g_icmp_lt C iM_203 (fun hc203_1 => ?_) (fun hc203_1 => ?_)
                · refine g_aload C iM_225 rfl rfl ?_
                  refine g_iload C iM_227 rfl ?_
                  refine g_iload C iM_229 rfl ?_
                  refine g_iconst C (1 : Int32) iM_231 rfl ?_
                  refine g_callS C (rmE1 l Z aZ hw b1 (p2 &&& (3 : Int32)) (p0 + (p3 &&& (7 : Int32))) 4 (vM_4 p0 p1 p2 p3) h64 n0 Z64 (own_m3 p2) rfl (AV.congr Vw5_c64 (fun i _ => by first | rfl | ((repeat' split) <;> rfl) | (simp only [vM_4]; done) | (simp only [vM_4]; (repeat' split) <;> rfl)))) iM_232 (hw _ (List.mem_of_getElem? (i := 1) rfl)) (hw _ (List.mem_of_getElem? (i := 2) rfl)) (hw _ (List.mem_of_getElem? (i := 3) rfl)) (hw _ (List.mem_of_getElem? (i := 4) rfl)) (by decide) (argsL := [(.ref b1), (.int (p2 &&& (3 : Int32))), (.int (p0 + (p3 &&& (7 : Int32)))), (.int (1 : Int32))]) (rest := []) rfl rfl pd0 rfl rfl 0 (Nat.le_of_eq rfl) (by decide) (by decide) (by decide) (by decide) rfl rfl ?_
                  rintro _ _ ⟨rfl, he73⟩
                  refine Go.heap he73.symm ?_
                  refine Go.some' ?_
                  refine g_if_eq C iM_235 (fun hc235_1 => ?_) (fun hc235_1 => ?_)
                  · refine g_iconst C (0 : Int32) iM_244 rfl ?_
                    refine g_istore C (Ls' := #[.val (.int p0), .val (.int p1), .val (.int p2), .val (.int p3), .val (.ref b1), .val (.ref b6), .val (.int (p2 &&& (3 : Int32))), .val (.int (p0 + (p3 &&& (7 : Int32)))), .val (.int (0 : Int32)), .unset]) iM_245 rfl ?_
                    have e0 : (vM_11 p0 p1 p2 p3) = (0 : Int32) := by simp only [vM_11, if_neg hc153_1, if_pos hc166_1, if_pos hc178_1, if_pos hc203_1, if_pos hc235_1]
                    exact Go.cast J (by rw [e0])
                  · refine g_iconst C (1 : Int32) iM_238 rfl ?_
                    refine g_istore C (Ls' := #[.val (.int p0), .val (.int p1), .val (.int p2), .val (.int p3), .val (.ref b1), .val (.ref b6), .val (.int (p2 &&& (3 : Int32))), .val (.int (p0 + (p3 &&& (7 : Int32)))), .val (.int (1 : Int32)), .unset]) iM_239 rfl ?_
                    refine g_goto C iM_241 ?_
                    have e0 : (vM_11 p0 p1 p2 p3) = (1 : Int32) := by simp only [vM_11, if_neg hc153_1, if_pos hc166_1, if_pos hc178_1, if_pos hc203_1, if_neg hc235_1]
                    exact Go.cast J (by rw [e0])
                · refine g_aload C iM_206 rfl rfl ?_
                  refine g_iload C iM_208 rfl ?_
                  refine g_iload C iM_210 rfl ?_
                  refine g_iconst C (2 : Int32) iM_212 rfl ?_
                  refine g_callS C (rmE2 l Z aZ hw b1 (p2 &&& (3 : Int32)) (p0 + (p3 &&& (7 : Int32))) 4 (vM_4 p0 p1 p2 p3) h64 n0 Z64 (own_ge 1 1 rfl hc203_1) rfl (AV.congr Vw5_c64 (fun i _ => by first | rfl | ((repeat' split) <;> rfl) | (simp only [vM_4]; done) | (simp only [vM_4]; (repeat' split) <;> rfl)))) iM_213 (hw _ (List.mem_of_getElem? (i := 1) rfl)) (hw _ (List.mem_of_getElem? (i := 2) rfl)) (hw _ (List.mem_of_getElem? (i := 3) rfl)) (hw _ (List.mem_of_getElem? (i := 4) rfl)) (by decide) (argsL := [(.ref b1), (.int (p2 &&& (3 : Int32))), (.int (p0 + (p3 &&& (7 : Int32)))), (.int (2 : Int32))]) (rest := []) rfl rfl pd0 rfl rfl 0 (Nat.le_of_eq rfl) (by decide) (by decide) (by decide) (by decide) rfl rfl ?_
                  rintro _ _ ⟨rfl, he74⟩
                  refine Go.heap he74.symm ?_
                  refine Go.some' ?_
                  refine g_if_eq C iM_216 (fun hc216_1 => ?_) (fun hc216_1 => ?_)
                  · refine g_aload C iM_225 rfl rfl ?_
                    refine g_iload C iM_227 rfl ?_
                    refine g_iload C iM_229 rfl ?_
                    refine g_iconst C (1 : Int32) iM_231 rfl ?_
                    refine g_callS C (rmE1 l Z aZ hw b1 (p2 &&& (3 : Int32)) (p0 + (p3 &&& (7 : Int32))) 4 (vM_4 p0 p1 p2 p3) h64 n0 Z64 (own_m3 p2) rfl (AV.congr Vw5_c64 (fun i _ => by first | rfl | ((repeat' split) <;> rfl) | (simp only [vM_4]; done) | (simp only [vM_4]; (repeat' split) <;> rfl)))) iM_232 (hw _ (List.mem_of_getElem? (i := 1) rfl)) (hw _ (List.mem_of_getElem? (i := 2) rfl)) (hw _ (List.mem_of_getElem? (i := 3) rfl)) (hw _ (List.mem_of_getElem? (i := 4) rfl)) (by decide) (argsL := [(.ref b1), (.int (p2 &&& (3 : Int32))), (.int (p0 + (p3 &&& (7 : Int32)))), (.int (1 : Int32))]) (rest := []) rfl rfl pd0 rfl rfl 0 (Nat.le_of_eq rfl) (by decide) (by decide) (by decide) (by decide) rfl rfl ?_
                    rintro _ _ ⟨rfl, he75⟩
                    refine Go.heap he75.symm ?_
                    refine Go.some' ?_
                    refine g_if_eq C iM_235 (fun hc235_1 => ?_) (fun hc235_1 => ?_)
                    · refine g_iconst C (0 : Int32) iM_244 rfl ?_
                      refine g_istore C (Ls' := #[.val (.int p0), .val (.int p1), .val (.int p2), .val (.int p3), .val (.ref b1), .val (.ref b6), .val (.int (p2 &&& (3 : Int32))), .val (.int (p0 + (p3 &&& (7 : Int32)))), .val (.int (0 : Int32)), .unset]) iM_245 rfl ?_
                      have e0 : (vM_11 p0 p1 p2 p3) = (0 : Int32) := by simp only [vM_11, if_neg hc153_1, if_pos hc166_1, if_pos hc178_1, if_neg hc203_1, if_pos hc216_1, if_pos hc235_1]
                      exact Go.cast J (by rw [e0])
                    · refine g_iconst C (1 : Int32) iM_238 rfl ?_
                      refine g_istore C (Ls' := #[.val (.int p0), .val (.int p1), .val (.int p2), .val (.int p3), .val (.ref b1), .val (.ref b6), .val (.int (p2 &&& (3 : Int32))), .val (.int (p0 + (p3 &&& (7 : Int32)))), .val (.int (1 : Int32)), .unset]) iM_239 rfl ?_
                      refine g_goto C iM_241 ?_
                      have e0 : (vM_11 p0 p1 p2 p3) = (1 : Int32) := by simp only [vM_11, if_neg hc153_1, if_pos hc166_1, if_pos hc178_1, if_neg hc203_1, if_pos hc216_1, if_neg hc235_1]
                      exact Go.cast J (by rw [e0])
                  · refine g_iconst C (2 : Int32) iM_219 rfl ?_
                    refine g_istore C (Ls' := #[.val (.int p0), .val (.int p1), .val (.int p2), .val (.int p3), .val (.ref b1), .val (.ref b6), .val (.int (p2 &&& (3 : Int32))), .val (.int (p0 + (p3 &&& (7 : Int32)))), .val (.int (2 : Int32)), .unset]) iM_220 rfl ?_
                    refine g_goto C iM_222 ?_
                    have e0 : (vM_11 p0 p1 p2 p3) = (2 : Int32) := by simp only [vM_11, if_neg hc153_1, if_pos hc166_1, if_pos hc178_1, if_neg hc203_1, if_neg hc216_1]
                    exact Go.cast J (by rw [e0])
              · refine g_aload C iM_181 rfl rfl ?_
                refine g_iload C iM_183 rfl ?_
                refine g_iload C iM_185 rfl ?_
                refine g_iconst C (3 : Int32) iM_187 rfl ?_
                refine g_callS C (rmE3 l Z aZ hw b1 (p2 &&& (3 : Int32)) (p0 + (p3 &&& (7 : Int32))) 4 (vM_4 p0 p1 p2 p3) h64 n0 Z64 (own_ge 2 2 rfl hc178_1) rfl (AV.congr Vw5_c64 (fun i _ => by first | rfl | ((repeat' split) <;> rfl) | (simp only [vM_4]; done) | (simp only [vM_4]; (repeat' split) <;> rfl)))) iM_188 (hw _ (List.mem_of_getElem? (i := 1) rfl)) (hw _ (List.mem_of_getElem? (i := 2) rfl)) (hw _ (List.mem_of_getElem? (i := 3) rfl)) (hw _ (List.mem_of_getElem? (i := 4) rfl)) (by decide) (argsL := [(.ref b1), (.int (p2 &&& (3 : Int32))), (.int (p0 + (p3 &&& (7 : Int32)))), (.int (3 : Int32))]) (rest := []) rfl rfl pd0 rfl rfl 0 (Nat.le_of_eq rfl) (by decide) (by decide) (by decide) (by decide) rfl rfl ?_
                rintro _ _ ⟨rfl, he76⟩
                refine Go.heap he76.symm ?_
                refine Go.some' ?_
                refine g_if_eq C iM_191 (fun hc191_1 => ?_) (fun hc191_1 => ?_)
                · refine g_iload C iM_200 rfl ?_
                  refine g_iconst C (1 : Int32) iM_202 rfl ?_
                  refine g_icmp_lt C iM_203 (fun hc203_1 => ?_) (fun hc203_1 => ?_)
                  · refine g_aload C iM_225 rfl rfl ?_
                    refine g_iload C iM_227 rfl ?_
                    refine g_iload C iM_229 rfl ?_
                    refine g_iconst C (1 : Int32) iM_231 rfl ?_
                    refine g_callS C (rmE1 l Z aZ hw b1 (p2 &&& (3 : Int32)) (p0 + (p3 &&& (7 : Int32))) 4 (vM_4 p0 p1 p2 p3) h64 n0 Z64 (own_m3 p2) rfl (AV.congr Vw5_c64 (fun i _ => by first | rfl | ((repeat' split) <;> rfl) | (simp only [vM_4]; done) | (simp only [vM_4]; (repeat' split) <;> rfl)))) iM_232 (hw _ (List.mem_of_getElem? (i := 1) rfl)) (hw _ (List.mem_of_getElem? (i := 2) rfl)) (hw _ (List.mem_of_getElem? (i := 3) rfl)) (hw _ (List.mem_of_getElem? (i := 4) rfl)) (by decide) (argsL := [(.ref b1), (.int (p2 &&& (3 : Int32))), (.int (p0 + (p3 &&& (7 : Int32)))), (.int (1 : Int32))]) (rest := []) rfl rfl pd0 rfl rfl 0 (Nat.le_of_eq rfl) (by decide) (by decide) (by decide) (by decide) rfl rfl ?_
                    rintro _ _ ⟨rfl, he77⟩
                    refine Go.heap he77.symm ?_
                    refine Go.some' ?_
                    refine g_if_eq C iM_235 (fun hc235_1 => ?_) (fun hc235_1 => ?_)
                    · refine g_iconst C (0 : Int32) iM_244 rfl ?_
                      refine g_istore C (Ls' := #[.val (.int p0), .val (.int p1), .val (.int p2), .val (.int p3), .val (.ref b1), .val (.ref b6), .val (.int (p2 &&& (3 : Int32))), .val (.int (p0 + (p3 &&& (7 : Int32)))), .val (.int (0 : Int32)), .unset]) iM_245 rfl ?_
                      have e0 : (vM_11 p0 p1 p2 p3) = (0 : Int32) := by simp only [vM_11, if_neg hc153_1, if_pos hc166_1, if_neg hc178_1, if_pos hc191_1, if_pos hc203_1, if_pos hc235_1]
                      exact Go.cast J (by rw [e0])
                    · refine g_iconst C (1 : Int32) iM_238 rfl ?_
                      refine g_istore C (Ls' := #[.val (.int p0), .val (.int p1), .val (.int p2), .val (.int p3), .val (.ref b1), .val (.ref b6), .val (.int (p2 &&& (3 : Int32))), .val (.int (p0 + (p3 &&& (7 : Int32)))), .val (.int (1 : Int32)), .unset]) iM_239 rfl ?_
                      refine g_goto C iM_241 ?_
                      have e0 : (vM_11 p0 p1 p2 p3) = (1 : Int32) := by simp only [vM_11, if_neg hc153_1, if_pos hc166_1, if_neg hc178_1, if_pos hc191_1, if_pos hc203_1, if_neg hc235_1]
                      exact Go.cast J (by rw [e0])
                  · refine g_aload C iM_206 rfl rfl ?_
                    refine g_iload C iM_208 rfl ?_
                    refine g_iload C iM_210 rfl ?_
                    refine g_iconst C (2 : Int32) iM_212 rfl ?_
                    refine g_callS C (rmE2 l Z aZ hw b1 (p2 &&& (3 : Int32)) (p0 + (p3 &&& (7 : Int32))) 4 (vM_4 p0 p1 p2 p3) h64 n0 Z64 (own_ge 1 1 rfl hc203_1) rfl (AV.congr Vw5_c64 (fun i _ => by first | rfl | ((repeat' split) <;> rfl) | (simp only [vM_4]; done) | (simp only [vM_4]; (repeat' split) <;> rfl)))) iM_213 (hw _ (List.mem_of_getElem? (i := 1) rfl)) (hw _ (List.mem_of_getElem? (i := 2) rfl)) (hw _ (List.mem_of_getElem? (i := 3) rfl)) (hw _ (List.mem_of_getElem? (i := 4) rfl)) (by decide) (argsL := [(.ref b1), (.int (p2 &&& (3 : Int32))), (.int (p0 + (p3 &&& (7 : Int32)))), (.int (2 : Int32))]) (rest := []) rfl rfl pd0 rfl rfl 0 (Nat.le_of_eq rfl) (by decide) (by decide) (by decide) (by decide) rfl rfl ?_
                    rintro _ _ ⟨rfl, he78⟩
                    refine Go.heap he78.symm ?_
                    refine Go.some' ?_
                    refine g_if_eq C iM_216 (fun hc216_1 => ?_) (fun hc216_1 => ?_)
                    · refine g_aload C iM_225 rfl rfl ?_
                      refine g_iload C iM_227 rfl ?_
                      refine g_iload C iM_229 rfl ?_
                      refine g_iconst C (1 : Int32) iM_231 rfl ?_
                      refine g_callS C (rmE1 l Z aZ hw b1 (p2 &&& (3 : Int32)) (p0 + (p3 &&& (7 : Int32))) 4 (vM_4 p0 p1 p2 p3) h64 n0 Z64 (own_m3 p2) rfl (AV.congr Vw5_c64 (fun i _ => by first | rfl | ((repeat' split) <;> rfl) | (simp only [vM_4]; done) | (simp only [vM_4]; (repeat' split) <;> rfl)))) iM_232 (hw _ (List.mem_of_getElem? (i := 1) rfl)) (hw _ (List.mem_of_getElem? (i := 2) rfl)) (hw _ (List.mem_of_getElem? (i := 3) rfl)) (hw _ (List.mem_of_getElem? (i := 4) rfl)) (by decide) (argsL := [(.ref b1), (.int (p2 &&& (3 : Int32))), (.int (p0 + (p3 &&& (7 : Int32)))), (.int (1 : Int32))]) (rest := []) rfl rfl pd0 rfl rfl 0 (Nat.le_of_eq rfl) (by decide) (by decide) (by decide) (by decide) rfl rfl ?_
                      rintro _ _ ⟨rfl, he79⟩
                      refine Go.heap he79.symm ?_
                      refine Go.some' ?_
                      refine g_if_eq C iM_235 (fun hc235_1 => ?_) (fun hc235_1 => ?_)
                      · refine g_iconst C (0 : Int32) iM_244 rfl ?_
                        refine g_istore C (Ls' := #[.val (.int p0), .val (.int p1), .val (.int p2), .val (.int p3), .val (.ref b1), .val (.ref b6), .val (.int (p2 &&& (3 : Int32))), .val (.int (p0 + (p3 &&& (7 : Int32)))), .val (.int (0 : Int32)), .unset]) iM_245 rfl ?_
                        have e0 : (vM_11 p0 p1 p2 p3) = (0 : Int32) := by simp only [vM_11, if_neg hc153_1, if_pos hc166_1, if_neg hc178_1, if_pos hc191_1, if_neg hc203_1, if_pos hc216_1, if_pos hc235_1]
                        exact Go.cast J (by rw [e0])
                      · refine g_iconst C (1 : Int32) iM_238 rfl ?_
                        refine g_istore C (Ls' := #[.val (.int p0), .val (.int p1), .val (.int p2), .val (.int p3), .val (.ref b1), .val (.ref b6), .val (.int (p2 &&& (3 : Int32))), .val (.int (p0 + (p3 &&& (7 : Int32)))), .val (.int (1 : Int32)), .unset]) iM_239 rfl ?_
                        refine g_goto C iM_241 ?_
                        have e0 : (vM_11 p0 p1 p2 p3) = (1 : Int32) := by simp only [vM_11, if_neg hc153_1, if_pos hc166_1, if_neg hc178_1, if_pos hc191_1, if_neg hc203_1, if_pos hc216_1, if_neg hc235_1]
                        exact Go.cast J (by rw [e0])
                    · refine g_iconst C (2 : Int32) iM_219 rfl ?_
                      refine g_istore C (Ls' := #[.val (.int p0), .val (.int p1), .val (.int p2), .val (.int p3), .val (.ref b1), .val (.ref b6), .val (.int (p2 &&& (3 : Int32))), .val (.int (p0 + (p3 &&& (7 : Int32)))), .val (.int (2 : Int32)), .unset]) iM_220 rfl ?_
                      refine g_goto C iM_222 ?_
                      have e0 : (vM_11 p0 p1 p2 p3) = (2 : Int32) := by simp only [vM_11, if_neg hc153_1, if_pos hc166_1, if_neg hc178_1, if_pos hc191_1, if_neg hc203_1, if_neg hc216_1]
                      exact Go.cast J (by rw [e0])
                · refine g_iconst C (3 : Int32) iM_194 rfl ?_
                  refine g_istore C (Ls' := #[.val (.int p0), .val (.int p1), .val (.int p2), .val (.int p3), .val (.ref b1), .val (.ref b6), .val (.int (p2 &&& (3 : Int32))), .val (.int (p0 + (p3 &&& (7 : Int32)))), .val (.int (3 : Int32)), .unset]) iM_195 rfl ?_
                  refine g_goto C iM_197 ?_
                  have e0 : (vM_11 p0 p1 p2 p3) = (3 : Int32) := by simp only [vM_11, if_neg hc153_1, if_pos hc166_1, if_neg hc178_1, if_neg hc191_1]
                  exact Go.cast J (by rw [e0])
            · refine g_iconst C (4 : Int32) iM_169 rfl ?_
              refine g_istore C (Ls' := #[.val (.int p0), .val (.int p1), .val (.int p2), .val (.int p3), .val (.ref b1), .val (.ref b6), .val (.int (p2 &&& (3 : Int32))), .val (.int (p0 + (p3 &&& (7 : Int32)))), .val (.int (4 : Int32)), .unset]) iM_170 rfl ?_
              refine g_goto C iM_172 ?_
              have e0 : (vM_11 p0 p1 p2 p3) = (4 : Int32) := by simp only [vM_11, if_neg hc153_1, if_neg hc166_1]
              exact Go.cast J (by rw [e0])
      · refine g_aload C iM_127 rfl rfl ?_
        refine g_iconst C (2 : Int32) iM_129 rfl ?_
        refine g_iconst C (0 : Int32) iM_130 rfl ?_
        refine g_iast C iM_131 Vw8 ⟨by decide, by decide⟩ ge6 (fun h81 W81 V81 => ?_)
        have Vw5_c81 := AV.other Vw5_c8 W81 ne_b1_b6
        have Vw81 : AV Z h81 b6 .int 4 (fun i => if i = 2 then (.int (0 : Int32)) else (fun i => if i = 1 then (.int (vM_3 p0 p1 p2 p3)) else (fun i => if i = 0 then (.int (0 : Int32)) else (fun _ => (.int (0 : Int32))) i) i) i) := V81
        have K81 := Keep.wr K8 W81 (Or.inr fr6)
        have Z81 : n0 ≤ h81.size := Nat.le_trans Z8 (Keep.of_wr W81).1
        refine g_aload C iM_132 rfl rfl ?_
        refine g_iconst C (3 : Int32) iM_134 rfl ?_
        refine g_iconst C (0 : Int32) iM_135 rfl ?_
        refine g_iast C iM_136 Vw81 ⟨by decide, by decide⟩ ge6 (fun h82 W82 V82 => ?_)
        have Vw5_c82 := AV.other Vw5_c81 W82 ne_b1_b6
        have Vw82 : AV Z h82 b6 .int 4 (fun i => if i = 3 then (.int (0 : Int32)) else (fun i => if i = 2 then (.int (0 : Int32)) else (fun i => if i = 1 then (.int (vM_3 p0 p1 p2 p3)) else (fun i => if i = 0 then (.int (0 : Int32)) else (fun _ => (.int (0 : Int32))) i) i) i) i) := V82
        have K82 := Keep.wr K81 W82 (Or.inr fr6)
        have Z82 : n0 ≤ h82.size := Nat.le_trans Z81 (Keep.of_wr W82).1
        refine g_iloadN C iM_137 rfl ?_
        refine g_iconst C (3 : Int32) iM_138 rfl ?_
        refine g_iand C iM_139 ?_
        refine g_istore C (Ls' := #[.val (.int p0), .val (.int p1), .val (.int p2), .val (.int p3), .val (.ref b1), .val (.ref b6), .val (.int (p2 &&& (3 : Int32))), .unset, .unset, .unset]) iM_140 rfl ?_
        refine g_iloadN C iM_142 rfl ?_
        refine g_iloadN C iM_143 rfl ?_
        refine g_bipush C (7 : Int32) iM_144 rfl ?_
        refine g_iand C iM_146 ?_
        refine g_iadd C iM_147 ?_
        refine g_istore C (Ls' := #[.val (.int p0), .val (.int p1), .val (.int p2), .val (.int p3), .val (.ref b1), .val (.ref b6), .val (.int (p2 &&& (3 : Int32))), .val (.int (p0 + (p3 &&& (7 : Int32)))), .unset, .unset]) iM_148 rfl ?_
        refine g_iload C iM_150 rfl ?_
        refine g_iconst C (3 : Int32) iM_152 rfl ?_
        refine Go.join (mkF m 247 #[.val (.int p0), .val (.int p1), .val (.int p2), .val (.int p3), .val (.ref b1), .val (.ref b6), .val (.int (p2 &&& (3 : Int32))), .val (.int (p0 + (p3 &&& (7 : Int32)))), .val (.int (vM_11 p0 p1 p2 p3)), .unset] []) ?_ (fun J => ?_)
        · refine g_aload C iM_247 rfl rfl ?_
          refine g_aload C iM_249 rfl rfl ?_
          refine g_iload C iM_251 rfl ?_
          refine g_iload C iM_253 rfl ?_
          refine g_callS C (rmX l Z aZ hw b1 b6 (p2 &&& (3 : Int32)) (p0 + (p3 &&& (7 : Int32))) (vM_4 p0 p1 p2 p3) (vM_18 p0 p1 p2 p3) h82 n0 Z82 (own_m3a p2) (own_m3b p2) (own_ht _ _ (own_v3 p0 p1 p2 p3) (by decide)) (AV.congr Vw5_c82 (fun i _ => by first | rfl | ((repeat' split) <;> rfl) | (simp only [vM_4]; done) | (simp only [vM_4]; (repeat' split) <;> rfl))) (AV.congr Vw82 (fun i _ => by first | rfl | ((repeat' split) <;> rfl) | (simp only [vM_18]; done) | (simp only [vM_18]; (repeat' split) <;> rfl)))) iM_255 (hw _ (List.mem_of_getElem? (i := 5) rfl)) (hw _ (List.mem_of_getElem? (i := 6) rfl)) (hw _ (List.mem_of_getElem? (i := 7) rfl)) (hw _ (List.mem_of_getElem? (i := 8) rfl)) (by decide) (argsL := [(.ref b1), (.ref b6), (.int (p2 &&& (3 : Int32))), (.int (p0 + (p3 &&& (7 : Int32))))]) (rest := []) rfl rfl pd1 rfl rfl 0 (Nat.le_of_eq rfl) (by decide) (by decide) (by decide) (by decide) rfl rfl ?_
          rintro _ _ ⟨rfl, he98⟩
          refine Go.heap he98.symm ?_
          refine Go.some' ?_
          refine g_istore C (Ls' := #[.val (.int p0), .val (.int p1), .val (.int p2), .val (.int p3), .val (.ref b1), .val (.ref b6), .val (.int (p2 &&& (3 : Int32))), .val (.int (p0 + (p3 &&& (7 : Int32)))), .val (.int (vM_11 p0 p1 p2 p3)), .val (.int (vM_19 p0 p1 p2 p3))]) iM_258 rfl ?_
          refine g_iload C iM_260 rfl ?_
          refine g_iload C iM_262 rfl ?_
          refine Go.join (mkF m 272 #[.val (.int p0), .val (.int p1), .val (.int p2), .val (.int p3), .val (.ref b1), .val (.ref b6), .val (.int (p2 &&& (3 : Int32))), .val (.int (p0 + (p3 &&& (7 : Int32)))), .val (.int (vM_11 p0 p1 p2 p3)), .val (.int (vM_19 p0 p1 p2 p3))] [(.int (vM_20 p0 p1 p2 p3))]) ?_ (fun J => ?_)
          · exact g_retNar C (t := .boolean) iM_272 rfl (by simp) (by decide) (by decide) (show _ = _ from congrArg (fun z => some (Value.int z)) (leafM_4 p0 p1 p2 p3 hc86_1 hc116_1))
          · refine g_icmp_ne C iM_264 (fun hc264_1 => ?_) (fun hc264_1 => ?_)
            · refine g_iconst C (1 : Int32) iM_267 rfl ?_
              refine g_goto C iM_268 ?_
              have e0 : (vM_20 p0 p1 p2 p3) = (1 : Int32) := by simp only [vM_20, if_pos hc264_1]
              exact Go.cast J (by rw [e0])
            · refine g_iconst C (0 : Int32) iM_271 rfl ?_
              have e0 : (vM_20 p0 p1 p2 p3) = (0 : Int32) := by simp only [vM_20, if_neg hc264_1]
              exact Go.cast J (by rw [e0])
        · refine g_icmp_lt C iM_153 (fun hc153_1 => ?_) (fun hc153_1 => ?_)
          · refine g_iload C iM_175 rfl ?_
            refine g_iconst C (2 : Int32) iM_177 rfl ?_
            refine g_icmp_lt C iM_178 (fun hc178_1 => ?_) (fun hc178_1 => ?_)
            · refine g_iload C iM_200 rfl ?_
              refine g_iconst C (1 : Int32) iM_202 rfl ?_
              refine g_icmp_lt C iM_203 (fun hc203_1 => ?_) (fun hc203_1 => ?_)
              · refine g_aload C iM_225 rfl rfl ?_
                refine g_iload C iM_227 rfl ?_
                refine g_iload C iM_229 rfl ?_
                refine g_iconst C (1 : Int32) iM_231 rfl ?_
                refine g_callS C (rmE1 l Z aZ hw b1 (p2 &&& (3 : Int32)) (p0 + (p3 &&& (7 : Int32))) 4 (vM_4 p0 p1 p2 p3) h82 n0 Z82 (own_m3 p2) rfl (AV.congr Vw5_c82 (fun i _ => by first | rfl | ((repeat' split) <;> rfl) | (simp only [vM_4]; done) | (simp only [vM_4]; (repeat' split) <;> rfl)))) iM_232 (hw _ (List.mem_of_getElem? (i := 1) rfl)) (hw _ (List.mem_of_getElem? (i := 2) rfl)) (hw _ (List.mem_of_getElem? (i := 3) rfl)) (hw _ (List.mem_of_getElem? (i := 4) rfl)) (by decide) (argsL := [(.ref b1), (.int (p2 &&& (3 : Int32))), (.int (p0 + (p3 &&& (7 : Int32)))), (.int (1 : Int32))]) (rest := []) rfl rfl pd0 rfl rfl 0 (Nat.le_of_eq rfl) (by decide) (by decide) (by decide) (by decide) rfl rfl ?_
                rintro _ _ ⟨rfl, he83⟩
                refine Go.heap he83.symm ?_
                refine Go.some' ?_
                refine g_if_eq C iM_235 (fun hc235_1 => ?_) (fun hc235_1 => ?_)
                · refine g_iconst C (0 : Int32) iM_244 rfl ?_
                  refine g_istore C (Ls' := #[.val (.int p0), .val (.int p1), .val (.int p2), .val (.int p3), .val (.ref b1), .val (.ref b6), .val (.int (p2 &&& (3 : Int32))), .val (.int (p0 + (p3 &&& (7 : Int32)))), .val (.int (0 : Int32)), .unset]) iM_245 rfl ?_
                  have e0 : (vM_11 p0 p1 p2 p3) = (0 : Int32) := by simp only [vM_11, if_pos hc153_1, if_pos hc178_1, if_pos hc203_1, if_pos hc235_1]
                  exact Go.cast J (by rw [e0])
                · refine g_iconst C (1 : Int32) iM_238 rfl ?_
                  refine g_istore C (Ls' := #[.val (.int p0), .val (.int p1), .val (.int p2), .val (.int p3), .val (.ref b1), .val (.ref b6), .val (.int (p2 &&& (3 : Int32))), .val (.int (p0 + (p3 &&& (7 : Int32)))), .val (.int (1 : Int32)), .unset]) iM_239 rfl ?_
                  refine g_goto C iM_241 ?_
                  have e0 : (vM_11 p0 p1 p2 p3) = (1 : Int32) := by simp only [vM_11, if_pos hc153_1, if_pos hc178_1, if_pos hc203_1, if_neg hc235_1]
                  exact Go.cast J (by rw [e0])
              · refine g_aload C iM_206 rfl rfl ?_
                refine g_iload C iM_208 rfl ?_
                refine g_iload C iM_210 rfl ?_
                refine g_iconst C (2 : Int32) iM_212 rfl ?_
                refine g_callS C (rmE2 l Z aZ hw b1 (p2 &&& (3 : Int32)) (p0 + (p3 &&& (7 : Int32))) 4 (vM_4 p0 p1 p2 p3) h82 n0 Z82 (own_ge 1 1 rfl hc203_1) rfl (AV.congr Vw5_c82 (fun i _ => by first | rfl | ((repeat' split) <;> rfl) | (simp only [vM_4]; done) | (simp only [vM_4]; (repeat' split) <;> rfl)))) iM_213 (hw _ (List.mem_of_getElem? (i := 1) rfl)) (hw _ (List.mem_of_getElem? (i := 2) rfl)) (hw _ (List.mem_of_getElem? (i := 3) rfl)) (hw _ (List.mem_of_getElem? (i := 4) rfl)) (by decide) (argsL := [(.ref b1), (.int (p2 &&& (3 : Int32))), (.int (p0 + (p3 &&& (7 : Int32)))), (.int (2 : Int32))]) (rest := []) rfl rfl pd0 rfl rfl 0 (Nat.le_of_eq rfl) (by decide) (by decide) (by decide) (by decide) rfl rfl ?_
                rintro _ _ ⟨rfl, he84⟩
                refine Go.heap he84.symm ?_
                refine Go.some' ?_
                refine g_if_eq C iM_216 (fun hc216_1 => ?_) (fun hc216_1 => ?_)
                · refine g_aload C iM_225 rfl rfl ?_
                  refine g_iload C iM_227 rfl ?_
                  refine g_iload C iM_229 rfl ?_
                  refine g_iconst C (1 : Int32) iM_231 rfl ?_
                  refine g_callS C (rmE1 l Z aZ hw b1 (p2 &&& (3 : Int32)) (p0 + (p3 &&& (7 : Int32))) 4 (vM_4 p0 p1 p2 p3) h82 n0 Z82 (own_m3 p2) rfl (AV.congr Vw5_c82 (fun i _ => by first | rfl | ((repeat' split) <;> rfl) | (simp only [vM_4]; done) | (simp only [vM_4]; (repeat' split) <;> rfl)))) iM_232 (hw _ (List.mem_of_getElem? (i := 1) rfl)) (hw _ (List.mem_of_getElem? (i := 2) rfl)) (hw _ (List.mem_of_getElem? (i := 3) rfl)) (hw _ (List.mem_of_getElem? (i := 4) rfl)) (by decide) (argsL := [(.ref b1), (.int (p2 &&& (3 : Int32))), (.int (p0 + (p3 &&& (7 : Int32)))), (.int (1 : Int32))]) (rest := []) rfl rfl pd0 rfl rfl 0 (Nat.le_of_eq rfl) (by decide) (by decide) (by decide) (by decide) rfl rfl ?_
                  rintro _ _ ⟨rfl, he85⟩
                  refine Go.heap he85.symm ?_
                  refine Go.some' ?_
                  refine g_if_eq C iM_235 (fun hc235_1 => ?_) (fun hc235_1 => ?_)
                  · refine g_iconst C (0 : Int32) iM_244 rfl ?_
                    refine g_istore C (Ls' := #[.val (.int p0), .val (.int p1), .val (.int p2), .val (.int p3), .val (.ref b1), .val (.ref b6), .val (.int (p2 &&& (3 : Int32))), .val (.int (p0 + (p3 &&& (7 : Int32)))), .val (.int (0 : Int32)), .unset]) iM_245 rfl ?_
                    have e0 : (vM_11 p0 p1 p2 p3) = (0 : Int32) := by simp only [vM_11, if_pos hc153_1, if_pos hc178_1, if_neg hc203_1, if_pos hc216_1, if_pos hc235_1]
                    exact Go.cast J (by rw [e0])
                  · refine g_iconst C (1 : Int32) iM_238 rfl ?_
                    refine g_istore C (Ls' := #[.val (.int p0), .val (.int p1), .val (.int p2), .val (.int p3), .val (.ref b1), .val (.ref b6), .val (.int (p2 &&& (3 : Int32))), .val (.int (p0 + (p3 &&& (7 : Int32)))), .val (.int (1 : Int32)), .unset]) iM_239 rfl ?_
                    refine g_goto C iM_241 ?_
                    have e0 : (vM_11 p0 p1 p2 p3) = (1 : Int32) := by simp only [vM_11, if_pos hc153_1, if_pos hc178_1, if_neg hc203_1, if_pos hc216_1, if_neg hc235_1]
                    exact Go.cast J (by rw [e0])
                · refine g_iconst C (2 : Int32) iM_219 rfl ?_
                  refine g_istore C (Ls' := #[.val (.int p0), .val (.int p1), .val (.int p2), .val (.int p3), .val (.ref b1), .val (.ref b6), .val (.int (p2 &&& (3 : Int32))), .val (.int (p0 + (p3 &&& (7 : Int32)))), .val (.int (2 : Int32)), .unset]) iM_220 rfl ?_
                  refine g_goto C iM_222 ?_
                  have e0 : (vM_11 p0 p1 p2 p3) = (2 : Int32) := by simp only [vM_11, if_pos hc153_1, if_pos hc178_1, if_neg hc203_1, if_neg hc216_1]
                  exact Go.cast J (by rw [e0])
            · refine g_aload C iM_181 rfl rfl ?_
              refine g_iload C iM_183 rfl ?_
              refine g_iload C iM_185 rfl ?_
              refine g_iconst C (3 : Int32) iM_187 rfl ?_
              refine g_callS C (rmE3 l Z aZ hw b1 (p2 &&& (3 : Int32)) (p0 + (p3 &&& (7 : Int32))) 4 (vM_4 p0 p1 p2 p3) h82 n0 Z82 (own_ge 2 2 rfl hc178_1) rfl (AV.congr Vw5_c82 (fun i _ => by first | rfl | ((repeat' split) <;> rfl) | (simp only [vM_4]; done) | (simp only [vM_4]; (repeat' split) <;> rfl)))) iM_188 (hw _ (List.mem_of_getElem? (i := 1) rfl)) (hw _ (List.mem_of_getElem? (i := 2) rfl)) (hw _ (List.mem_of_getElem? (i := 3) rfl)) (hw _ (List.mem_of_getElem? (i := 4) rfl)) (by decide) (argsL := [(.ref b1), (.int (p2 &&& (3 : Int32))), (.int (p0 + (p3 &&& (7 : Int32)))), (.int (3 : Int32))]) (rest := []) rfl rfl pd0 rfl rfl 0 (Nat.le_of_eq rfl) (by decide) (by decide) (by decide) (by decide) rfl rfl ?_
              rintro _ _ ⟨rfl, he86⟩
              refine Go.heap he86.symm ?_
              refine Go.some' ?_
              refine g_if_eq C iM_191 (fun hc191_1 => ?_) (fun hc191_1 => ?_)
              · refine g_iload C iM_200 rfl ?_
                refine g_iconst C (1 : Int32) iM_202 rfl ?_
                refine g_icmp_lt C iM_203 (fun hc203_1 => ?_) (fun hc203_1 => ?_)
                · refine g_aload C iM_225 rfl rfl ?_
                  refine g_iload C iM_227 rfl ?_
                  refine g_iload C iM_229 rfl ?_
                  refine g_iconst C (1 : Int32) iM_231 rfl ?_
                  refine g_callS C (rmE1 l Z aZ hw b1 (p2 &&& (3 : Int32)) (p0 + (p3 &&& (7 : Int32))) 4 (vM_4 p0 p1 p2 p3) h82 n0 Z82 (own_m3 p2) rfl (AV.congr Vw5_c82 (fun i _ => by first | rfl | ((repeat' split) <;> rfl) | (simp only [vM_4]; done) | (simp only [vM_4]; (repeat' split) <;> rfl)))) iM_232 (hw _ (List.mem_of_getElem? (i := 1) rfl)) (hw _ (List.mem_of_getElem? (i := 2) rfl)) (hw _ (List.mem_of_getElem? (i := 3) rfl)) (hw _ (List.mem_of_getElem? (i := 4) rfl)) (by decide) (argsL := [(.ref b1), (.int (p2 &&& (3 : Int32))), (.int (p0 + (p3 &&& (7 : Int32)))), (.int (1 : Int32))]) (rest := []) rfl rfl pd0 rfl rfl 0 (Nat.le_of_eq rfl) (by decide) (by decide) (by decide) (by decide) rfl rfl ?_
                  rintro _ _ ⟨rfl, he87⟩
                  refine Go.heap he87.symm ?_
                  refine Go.some' ?_
                  refine g_if_eq C iM_235 (fun hc235_1 => ?_) (fun hc235_1 => ?_)
                  · refine g_iconst C (0 : Int32) iM_244 rfl ?_
                    refine g_istore C (Ls' := #[.val (.int p0), .val (.int p1), .val (.int p2), .val (.int p3), .val (.ref b1), .val (.ref b6), .val (.int (p2 &&& (3 : Int32))), .val (.int (p0 + (p3 &&& (7 : Int32)))), .val (.int (0 : Int32)), .unset]) iM_245 rfl ?_
                    have e0 : (vM_11 p0 p1 p2 p3) = (0 : Int32) := by simp only [vM_11, if_pos hc153_1, if_neg hc178_1, if_pos hc191_1, if_pos hc203_1, if_pos hc235_1]
                    exact Go.cast J (by rw [e0])
                  · refine g_iconst C (1 : Int32) iM_238 rfl ?_
                    refine g_istore C (Ls' := #[.val (.int p0), .val (.int p1), .val (.int p2), .val (.int p3), .val (.ref b1), .val (.ref b6), .val (.int (p2 &&& (3 : Int32))), .val (.int (p0 + (p3 &&& (7 : Int32)))), .val (.int (1 : Int32)), .unset]) iM_239 rfl ?_
                    refine g_goto C iM_241 ?_
                    have e0 : (vM_11 p0 p1 p2 p3) = (1 : Int32) := by simp only [vM_11, if_pos hc153_1, if_neg hc178_1, if_pos hc191_1, if_pos hc203_1, if_neg hc235_1]
                    exact Go.cast J (by rw [e0])
                · refine g_aload C iM_206 rfl rfl ?_
                  refine g_iload C iM_208 rfl ?_
                  refine g_iload C iM_210 rfl ?_
                  refine g_iconst C (2 : Int32) iM_212 rfl ?_
                  refine g_callS C (rmE2 l Z aZ hw b1 (p2 &&& (3 : Int32)) (p0 + (p3 &&& (7 : Int32))) 4 (vM_4 p0 p1 p2 p3) h82 n0 Z82 (own_ge 1 1 rfl hc203_1) rfl (AV.congr Vw5_c82 (fun i _ => by first | rfl | ((repeat' split) <;> rfl) | (simp only [vM_4]; done) | (simp only [vM_4]; (repeat' split) <;> rfl)))) iM_213 (hw _ (List.mem_of_getElem? (i := 1) rfl)) (hw _ (List.mem_of_getElem? (i := 2) rfl)) (hw _ (List.mem_of_getElem? (i := 3) rfl)) (hw _ (List.mem_of_getElem? (i := 4) rfl)) (by decide) (argsL := [(.ref b1), (.int (p2 &&& (3 : Int32))), (.int (p0 + (p3 &&& (7 : Int32)))), (.int (2 : Int32))]) (rest := []) rfl rfl pd0 rfl rfl 0 (Nat.le_of_eq rfl) (by decide) (by decide) (by decide) (by decide) rfl rfl ?_
                  rintro _ _ ⟨rfl, he88⟩
                  refine Go.heap he88.symm ?_
                  refine Go.some' ?_
                  refine g_if_eq C iM_216 (fun hc216_1 => ?_) (fun hc216_1 => ?_)
                  · refine g_aload C iM_225 rfl rfl ?_
                    refine g_iload C iM_227 rfl ?_
                    refine g_iload C iM_229 rfl ?_
                    refine g_iconst C (1 : Int32) iM_231 rfl ?_
                    refine g_callS C (rmE1 l Z aZ hw b1 (p2 &&& (3 : Int32)) (p0 + (p3 &&& (7 : Int32))) 4 (vM_4 p0 p1 p2 p3) h82 n0 Z82 (own_m3 p2) rfl (AV.congr Vw5_c82 (fun i _ => by first | rfl | ((repeat' split) <;> rfl) | (simp only [vM_4]; done) | (simp only [vM_4]; (repeat' split) <;> rfl)))) iM_232 (hw _ (List.mem_of_getElem? (i := 1) rfl)) (hw _ (List.mem_of_getElem? (i := 2) rfl)) (hw _ (List.mem_of_getElem? (i := 3) rfl)) (hw _ (List.mem_of_getElem? (i := 4) rfl)) (by decide) (argsL := [(.ref b1), (.int (p2 &&& (3 : Int32))), (.int (p0 + (p3 &&& (7 : Int32)))), (.int (1 : Int32))]) (rest := []) rfl rfl pd0 rfl rfl 0 (Nat.le_of_eq rfl) (by decide) (by decide) (by decide) (by decide) rfl rfl ?_
                    rintro _ _ ⟨rfl, he89⟩
                    refine Go.heap he89.symm ?_
                    refine Go.some' ?_
                    refine g_if_eq C iM_235 (fun hc235_1 => ?_) (fun hc235_1 => ?_)
                    · refine g_iconst C (0 : Int32) iM_244 rfl ?_
                      refine g_istore C (Ls' := #[.val (.int p0), .val (.int p1), .val (.int p2), .val (.int p3), .val (.ref b1), .val (.ref b6), .val (.int (p2 &&& (3 : Int32))), .val (.int (p0 + (p3 &&& (7 : Int32)))), .val (.int (0 : Int32)), .unset]) iM_245 rfl ?_
                      have e0 : (vM_11 p0 p1 p2 p3) = (0 : Int32) := by simp only [vM_11, if_pos hc153_1, if_neg hc178_1, if_pos hc191_1, if_neg hc203_1, if_pos hc216_1, if_pos hc235_1]
                      exact Go.cast J (by rw [e0])
                    · refine g_iconst C (1 : Int32) iM_238 rfl ?_
                      refine g_istore C (Ls' := #[.val (.int p0), .val (.int p1), .val (.int p2), .val (.int p3), .val (.ref b1), .val (.ref b6), .val (.int (p2 &&& (3 : Int32))), .val (.int (p0 + (p3 &&& (7 : Int32)))), .val (.int (1 : Int32)), .unset]) iM_239 rfl ?_
                      refine g_goto C iM_241 ?_
                      have e0 : (vM_11 p0 p1 p2 p3) = (1 : Int32) := by simp only [vM_11, if_pos hc153_1, if_neg hc178_1, if_pos hc191_1, if_neg hc203_1, if_pos hc216_1, if_neg hc235_1]
                      exact Go.cast J (by rw [e0])
                  · refine g_iconst C (2 : Int32) iM_219 rfl ?_
                    refine g_istore C (Ls' := #[.val (.int p0), .val (.int p1), .val (.int p2), .val (.int p3), .val (.ref b1), .val (.ref b6), .val (.int (p2 &&& (3 : Int32))), .val (.int (p0 + (p3 &&& (7 : Int32)))), .val (.int (2 : Int32)), .unset]) iM_220 rfl ?_
                    refine g_goto C iM_222 ?_
                    have e0 : (vM_11 p0 p1 p2 p3) = (2 : Int32) := by simp only [vM_11, if_pos hc153_1, if_neg hc178_1, if_pos hc191_1, if_neg hc203_1, if_neg hc216_1]
                    exact Go.cast J (by rw [e0])
              · refine g_iconst C (3 : Int32) iM_194 rfl ?_
                refine g_istore C (Ls' := #[.val (.int p0), .val (.int p1), .val (.int p2), .val (.int p3), .val (.ref b1), .val (.ref b6), .val (.int (p2 &&& (3 : Int32))), .val (.int (p0 + (p3 &&& (7 : Int32)))), .val (.int (3 : Int32)), .unset]) iM_195 rfl ?_
                refine g_goto C iM_197 ?_
                have e0 : (vM_11 p0 p1 p2 p3) = (3 : Int32) := by simp only [vM_11, if_pos hc153_1, if_neg hc178_1, if_neg hc191_1]
                exact Go.cast J (by rw [e0])
          · refine g_aload C iM_156 rfl rfl ?_
            refine g_iload C iM_158 rfl ?_
            refine g_iload C iM_160 rfl ?_
            refine g_iconst C (4 : Int32) iM_162 rfl ?_
            refine g_callS C (rmE4 l Z aZ hw b1 (p2 &&& (3 : Int32)) (p0 + (p3 &&& (7 : Int32))) 4 (vM_4 p0 p1 p2 p3) h82 n0 Z82 (own_ge 3 3 rfl hc153_1) rfl (AV.congr Vw5_c82 (fun i _ => by first | rfl | ((repeat' split) <;> rfl) | (simp only [vM_4]; done) | (simp only [vM_4]; (repeat' split) <;> rfl)))) iM_163 (hw _ (List.mem_of_getElem? (i := 1) rfl)) (hw _ (List.mem_of_getElem? (i := 2) rfl)) (hw _ (List.mem_of_getElem? (i := 3) rfl)) (hw _ (List.mem_of_getElem? (i := 4) rfl)) (by decide) (argsL := [(.ref b1), (.int (p2 &&& (3 : Int32))), (.int (p0 + (p3 &&& (7 : Int32)))), (.int (4 : Int32))]) (rest := []) rfl rfl pd0 rfl rfl 0 (Nat.le_of_eq rfl) (by decide) (by decide) (by decide) (by decide) rfl rfl ?_
            rintro _ _ ⟨rfl, he90⟩
            refine Go.heap he90.symm ?_
            refine Go.some' ?_
            refine g_if_eq C iM_166 (fun hc166_1 => ?_) (fun hc166_1 => ?_)
            · refine g_iload C iM_175 rfl ?_
              refine g_iconst C (2 : Int32) iM_177 rfl ?_
              refine g_icmp_lt C iM_178 (fun hc178_1 => ?_) (fun hc178_1 => ?_)
              · refine g_iload C iM_200 rfl ?_
                refine g_iconst C (1 : Int32) iM_202 rfl ?_
                refine g_icmp_lt C iM_203 (fun hc203_1 => ?_) (fun hc203_1 => ?_)
                · refine g_aload C iM_225 rfl rfl ?_
                  refine g_iload C iM_227 rfl ?_
                  refine g_iload C iM_229 rfl ?_
                  refine g_iconst C (1 : Int32) iM_231 rfl ?_
                  refine g_callS C (rmE1 l Z aZ hw b1 (p2 &&& (3 : Int32)) (p0 + (p3 &&& (7 : Int32))) 4 (vM_4 p0 p1 p2 p3) h82 n0 Z82 (own_m3 p2) rfl (AV.congr Vw5_c82 (fun i _ => by first | rfl | ((repeat' split) <;> rfl) | (simp only [vM_4]; done) | (simp only [vM_4]; (repeat' split) <;> rfl)))) iM_232 (hw _ (List.mem_of_getElem? (i := 1) rfl)) (hw _ (List.mem_of_getElem? (i := 2) rfl)) (hw _ (List.mem_of_getElem? (i := 3) rfl)) (hw _ (List.mem_of_getElem? (i := 4) rfl)) (by decide) (argsL := [(.ref b1), (.int (p2 &&& (3 : Int32))), (.int (p0 + (p3 &&& (7 : Int32)))), (.int (1 : Int32))]) (rest := []) rfl rfl pd0 rfl rfl 0 (Nat.le_of_eq rfl) (by decide) (by decide) (by decide) (by decide) rfl rfl ?_
                  rintro _ _ ⟨rfl, he91⟩
                  refine Go.heap he91.symm ?_
                  refine Go.some' ?_
                  refine g_if_eq C iM_235 (fun hc235_1 => ?_) (fun hc235_1 => ?_)
                  · refine g_iconst C (0 : Int32) iM_244 rfl ?_
                    refine g_istore C (Ls' := #[.val (.int p0), .val (.int p1), .val (.int p2), .val (.int p3), .val (.ref b1), .val (.ref b6), .val (.int (p2 &&& (3 : Int32))), .val (.int (p0 + (p3 &&& (7 : Int32)))), .val (.int (0 : Int32)), .unset]) iM_245 rfl ?_
                    have e0 : (vM_11 p0 p1 p2 p3) = (0 : Int32) := by simp only [vM_11, if_neg hc153_1, if_pos hc166_1, if_pos hc178_1, if_pos hc203_1, if_pos hc235_1]
                    exact Go.cast J (by rw [e0])
                  · refine g_iconst C (1 : Int32) iM_238 rfl ?_
                    refine g_istore C (Ls' := #[.val (.int p0), .val (.int p1), .val (.int p2), .val (.int p3), .val (.ref b1), .val (.ref b6), .val (.int (p2 &&& (3 : Int32))), .val (.int (p0 + (p3 &&& (7 : Int32)))), .val (.int (1 : Int32)), .unset]) iM_239 rfl ?_
                    refine g_goto C iM_241 ?_
                    have e0 : (vM_11 p0 p1 p2 p3) = (1 : Int32) := by simp only [vM_11, if_neg hc153_1, if_pos hc166_1, if_pos hc178_1, if_pos hc203_1, if_neg hc235_1]
                    exact Go.cast J (by rw [e0])
                · refine g_aload C iM_206 rfl rfl ?_
                  refine g_iload C iM_208 rfl ?_
                  refine g_iload C iM_210 rfl ?_
                  refine g_iconst C (2 : Int32) iM_212 rfl ?_
                  refine g_callS C (rmE2 l Z aZ hw b1 (p2 &&& (3 : Int32)) (p0 + (p3 &&& (7 : Int32))) 4 (vM_4 p0 p1 p2 p3) h82 n0 Z82 (own_ge 1 1 rfl hc203_1) rfl (AV.congr Vw5_c82 (fun i _ => by first | rfl | ((repeat' split) <;> rfl) | (simp only [vM_4]; done) | (simp only [vM_4]; (repeat' split) <;> rfl)))) iM_213 (hw _ (List.mem_of_getElem? (i := 1) rfl)) (hw _ (List.mem_of_getElem? (i := 2) rfl)) (hw _ (List.mem_of_getElem? (i := 3) rfl)) (hw _ (List.mem_of_getElem? (i := 4) rfl)) (by decide) (argsL := [(.ref b1), (.int (p2 &&& (3 : Int32))), (.int (p0 + (p3 &&& (7 : Int32)))), (.int (2 : Int32))]) (rest := []) rfl rfl pd0 rfl rfl 0 (Nat.le_of_eq rfl) (by decide) (by decide) (by decide) (by decide) rfl rfl ?_
                  rintro _ _ ⟨rfl, he92⟩
                  refine Go.heap he92.symm ?_
                  refine Go.some' ?_
                  refine g_if_eq C iM_216 (fun hc216_1 => ?_) (fun hc216_1 => ?_)
                  · refine g_aload C iM_225 rfl rfl ?_
                    refine g_iload C iM_227 rfl ?_
                    refine g_iload C iM_229 rfl ?_
                    refine g_iconst C (1 : Int32) iM_231 rfl ?_
                    refine g_callS C (rmE1 l Z aZ hw b1 (p2 &&& (3 : Int32)) (p0 + (p3 &&& (7 : Int32))) 4 (vM_4 p0 p1 p2 p3) h82 n0 Z82 (own_m3 p2) rfl (AV.congr Vw5_c82 (fun i _ => by first | rfl | ((repeat' split) <;> rfl) | (simp only [vM_4]; done) | (simp only [vM_4]; (repeat' split) <;> rfl)))) iM_232 (hw _ (List.mem_of_getElem? (i := 1) rfl)) (hw _ (List.mem_of_getElem? (i := 2) rfl)) (hw _ (List.mem_of_getElem? (i := 3) rfl)) (hw _ (List.mem_of_getElem? (i := 4) rfl)) (by decide) (argsL := [(.ref b1), (.int (p2 &&& (3 : Int32))), (.int (p0 + (p3 &&& (7 : Int32)))), (.int (1 : Int32))]) (rest := []) rfl rfl pd0 rfl rfl 0 (Nat.le_of_eq rfl) (by decide) (by decide) (by decide) (by decide) rfl rfl ?_
                    rintro _ _ ⟨rfl, he93⟩
                    refine Go.heap he93.symm ?_
                    refine Go.some' ?_
                    refine g_if_eq C iM_235 (fun hc235_1 => ?_) (fun hc235_1 => ?_)
                    · refine g_iconst C (0 : Int32) iM_244 rfl ?_
                      refine g_istore C (Ls' := #[.val (.int p0), .val (.int p1), .val (.int p2), .val (.int p3), .val (.ref b1), .val (.ref b6), .val (.int (p2 &&& (3 : Int32))), .val (.int (p0 + (p3 &&& (7 : Int32)))), .val (.int (0 : Int32)), .unset]) iM_245 rfl ?_
                      have e0 : (vM_11 p0 p1 p2 p3) = (0 : Int32) := by simp only [vM_11, if_neg hc153_1, if_pos hc166_1, if_pos hc178_1, if_neg hc203_1, if_pos hc216_1, if_pos hc235_1]
                      exact Go.cast J (by rw [e0])
                    · refine g_iconst C (1 : Int32) iM_238 rfl ?_
                      refine g_istore C (Ls' := #[.val (.int p0), .val (.int p1), .val (.int p2), .val (.int p3), .val (.ref b1), .val (.ref b6), .val (.int (p2 &&& (3 : Int32))), .val (.int (p0 + (p3 &&& (7 : Int32)))), .val (.int (1 : Int32)), .unset]) iM_239 rfl ?_
                      refine g_goto C iM_241 ?_
                      have e0 : (vM_11 p0 p1 p2 p3) = (1 : Int32) := by simp only [vM_11, if_neg hc153_1, if_pos hc166_1, if_pos hc178_1, if_neg hc203_1, if_pos hc216_1, if_neg hc235_1]
                      exact Go.cast J (by rw [e0])
                  · refine g_iconst C (2 : Int32) iM_219 rfl ?_
                    refine g_istore C (Ls' := #[.val (.int p0), .val (.int p1), .val (.int p2), .val (.int p3), .val (.ref b1), .val (.ref b6), .val (.int (p2 &&& (3 : Int32))), .val (.int (p0 + (p3 &&& (7 : Int32)))), .val (.int (2 : Int32)), .unset]) iM_220 rfl ?_
                    refine g_goto C iM_222 ?_
                    have e0 : (vM_11 p0 p1 p2 p3) = (2 : Int32) := by simp only [vM_11, if_neg hc153_1, if_pos hc166_1, if_pos hc178_1, if_neg hc203_1, if_neg hc216_1]
                    exact Go.cast J (by rw [e0])
              · refine g_aload C iM_181 rfl rfl ?_
                refine g_iload C iM_183 rfl ?_
                refine g_iload C iM_185 rfl ?_
                refine g_iconst C (3 : Int32) iM_187 rfl ?_
                refine g_callS C (rmE3 l Z aZ hw b1 (p2 &&& (3 : Int32)) (p0 + (p3 &&& (7 : Int32))) 4 (vM_4 p0 p1 p2 p3) h82 n0 Z82 (own_ge 2 2 rfl hc178_1) rfl (AV.congr Vw5_c82 (fun i _ => by first | rfl | ((repeat' split) <;> rfl) | (simp only [vM_4]; done) | (simp only [vM_4]; (repeat' split) <;> rfl)))) iM_188 (hw _ (List.mem_of_getElem? (i := 1) rfl)) (hw _ (List.mem_of_getElem? (i := 2) rfl)) (hw _ (List.mem_of_getElem? (i := 3) rfl)) (hw _ (List.mem_of_getElem? (i := 4) rfl)) (by decide) (argsL := [(.ref b1), (.int (p2 &&& (3 : Int32))), (.int (p0 + (p3 &&& (7 : Int32)))), (.int (3 : Int32))]) (rest := []) rfl rfl pd0 rfl rfl 0 (Nat.le_of_eq rfl) (by decide) (by decide) (by decide) (by decide) rfl rfl ?_
                rintro _ _ ⟨rfl, he94⟩
                refine Go.heap he94.symm ?_
                refine Go.some' ?_
                refine g_if_eq C iM_191 (fun hc191_1 => ?_) (fun hc191_1 => ?_)
                · refine g_iload C iM_200 rfl ?_
                  refine g_iconst C (1 : Int32) iM_202 rfl ?_
                  refine g_icmp_lt C iM_203 (fun hc203_1 => ?_) (fun hc203_1 => ?_)
                  · refine g_aload C iM_225 rfl rfl ?_
                    refine g_iload C iM_227 rfl ?_
                    refine g_iload C iM_229 rfl ?_
                    refine g_iconst C (1 : Int32) iM_231 rfl ?_
                    refine g_callS C (rmE1 l Z aZ hw b1 (p2 &&& (3 : Int32)) (p0 + (p3 &&& (7 : Int32))) 4 (vM_4 p0 p1 p2 p3) h82 n0 Z82 (own_m3 p2) rfl (AV.congr Vw5_c82 (fun i _ => by first | rfl | ((repeat' split) <;> rfl) | (simp only [vM_4]; done) | (simp only [vM_4]; (repeat' split) <;> rfl)))) iM_232 (hw _ (List.mem_of_getElem? (i := 1) rfl)) (hw _ (List.mem_of_getElem? (i := 2) rfl)) (hw _ (List.mem_of_getElem? (i := 3) rfl)) (hw _ (List.mem_of_getElem? (i := 4) rfl)) (by decide) (argsL := [(.ref b1), (.int (p2 &&& (3 : Int32))), (.int (p0 + (p3 &&& (7 : Int32)))), (.int (1 : Int32))]) (rest := []) rfl rfl pd0 rfl rfl 0 (Nat.le_of_eq rfl) (by decide) (by decide) (by decide) (by decide) rfl rfl ?_
                    rintro _ _ ⟨rfl, he95⟩
                    refine Go.heap he95.symm ?_
                    refine Go.some' ?_
                    refine g_if_eq C iM_235 (fun hc235_1 => ?_) (fun hc235_1 => ?_)
                    · refine g_iconst C (0 : Int32) iM_244 rfl ?_
                      refine g_istore C (Ls' := #[.val (.int p0), .val (.int p1), .val (.int p2), .val (.int p3), .val (.ref b1), .val (.ref b6), .val (.int (p2 &&& (3 : Int32))), .val (.int (p0 + (p3 &&& (7 : Int32)))), .val (.int (0 : Int32)), .unset]) iM_245 rfl ?_
                      have e0 : (vM_11 p0 p1 p2 p3) = (0 : Int32) := by simp only [vM_11, if_neg hc153_1, if_pos hc166_1, if_neg hc178_1, if_pos hc191_1, if_pos hc203_1, if_pos hc235_1]
                      exact Go.cast J (by rw [e0])
                    · refine g_iconst C (1 : Int32) iM_238 rfl ?_
                      refine g_istore C (Ls' := #[.val (.int p0), .val (.int p1), .val (.int p2), .val (.int p3), .val (.ref b1), .val (.ref b6), .val (.int (p2 &&& (3 : Int32))), .val (.int (p0 + (p3 &&& (7 : Int32)))), .val (.int (1 : Int32)), .unset]) iM_239 rfl ?_
                      refine g_goto C iM_241 ?_
                      have e0 : (vM_11 p0 p1 p2 p3) = (1 : Int32) := by simp only [vM_11, if_neg hc153_1, if_pos hc166_1, if_neg hc178_1, if_pos hc191_1, if_pos hc203_1, if_neg hc235_1]
                      exact Go.cast J (by rw [e0])
                  · refine g_aload C iM_206 rfl rfl ?_
                    refine g_iload C iM_208 rfl ?_
                    refine g_iload C iM_210 rfl ?_
                    refine g_iconst C (2 : Int32) iM_212 rfl ?_
                    refine g_callS C (rmE2 l Z aZ hw b1 (p2 &&& (3 : Int32)) (p0 + (p3 &&& (7 : Int32))) 4 (vM_4 p0 p1 p2 p3) h82 n0 Z82 (own_ge 1 1 rfl hc203_1) rfl (AV.congr Vw5_c82 (fun i _ => by first | rfl | ((repeat' split) <;> rfl) | (simp only [vM_4]; done) | (simp only [vM_4]; (repeat' split) <;> rfl)))) iM_213 (hw _ (List.mem_of_getElem? (i := 1) rfl)) (hw _ (List.mem_of_getElem? (i := 2) rfl)) (hw _ (List.mem_of_getElem? (i := 3) rfl)) (hw _ (List.mem_of_getElem? (i := 4) rfl)) (by decide) (argsL := [(.ref b1), (.int (p2 &&& (3 : Int32))), (.int (p0 + (p3 &&& (7 : Int32)))), (.int (2 : Int32))]) (rest := []) rfl rfl pd0 rfl rfl 0 (Nat.le_of_eq rfl) (by decide) (by decide) (by decide) (by decide) rfl rfl ?_
                    rintro _ _ ⟨rfl, he96⟩
                    refine Go.heap he96.symm ?_
                    refine Go.some' ?_
                    refine g_if_eq C iM_216 (fun hc216_1 => ?_) (fun hc216_1 => ?_)
                    · refine g_aload C iM_225 rfl rfl ?_
                      refine g_iload C iM_227 rfl ?_
                      refine g_iload C iM_229 rfl ?_
                      refine g_iconst C (1 : Int32) iM_231 rfl ?_
                      refine g_callS C (rmE1 l Z aZ hw b1 (p2 &&& (3 : Int32)) (p0 + (p3 &&& (7 : Int32))) 4 (vM_4 p0 p1 p2 p3) h82 n0 Z82 (own_m3 p2) rfl (AV.congr Vw5_c82 (fun i _ => by first | rfl | ((repeat' split) <;> rfl) | (simp only [vM_4]; done) | (simp only [vM_4]; (repeat' split) <;> rfl)))) iM_232 (hw _ (List.mem_of_getElem? (i := 1) rfl)) (hw _ (List.mem_of_getElem? (i := 2) rfl)) (hw _ (List.mem_of_getElem? (i := 3) rfl)) (hw _ (List.mem_of_getElem? (i := 4) rfl)) (by decide) (argsL := [(.ref b1), (.int (p2 &&& (3 : Int32))), (.int (p0 + (p3 &&& (7 : Int32)))), (.int (1 : Int32))]) (rest := []) rfl rfl pd0 rfl rfl 0 (Nat.le_of_eq rfl) (by decide) (by decide) (by decide) (by decide) rfl rfl ?_
                      rintro _ _ ⟨rfl, he97⟩
                      refine Go.heap he97.symm ?_
                      refine Go.some' ?_
                      refine g_if_eq C iM_235 (fun hc235_1 => ?_) (fun hc235_1 => ?_)
                      · refine g_iconst C (0 : Int32) iM_244 rfl ?_
                        refine g_istore C (Ls' := #[.val (.int p0), .val (.int p1), .val (.int p2), .val (.int p3), .val (.ref b1), .val (.ref b6), .val (.int (p2 &&& (3 : Int32))), .val (.int (p0 + (p3 &&& (7 : Int32)))), .val (.int (0 : Int32)), .unset]) iM_245 rfl ?_
                        have e0 : (vM_11 p0 p1 p2 p3) = (0 : Int32) := by simp only [vM_11, if_neg hc153_1, if_pos hc166_1, if_neg hc178_1, if_pos hc191_1, if_neg hc203_1, if_pos hc216_1, if_pos hc235_1]
                        exact Go.cast J (by rw [e0])
                      · refine g_iconst C (1 : Int32) iM_238 rfl ?_
                        refine g_istore C (Ls' := #[.val (.int p0), .val (.int p1), .val (.int p2), .val (.int p3), .val (.ref b1), .val (.ref b6), .val (.int (p2 &&& (3 : Int32))), .val (.int (p0 + (p3 &&& (7 : Int32)))), .val (.int (1 : Int32)), .unset]) iM_239 rfl ?_
                        refine g_goto C iM_241 ?_
                        have e0 : (vM_11 p0 p1 p2 p3) = (1 : Int32) := by simp only [vM_11, if_neg hc153_1, if_pos hc166_1, if_neg hc178_1, if_pos hc191_1, if_neg hc203_1, if_pos hc216_1, if_neg hc235_1]
                        exact Go.cast J (by rw [e0])
                    · refine g_iconst C (2 : Int32) iM_219 rfl ?_
                      refine g_istore C (Ls' := #[.val (.int p0), .val (.int p1), .val (.int p2), .val (.int p3), .val (.ref b1), .val (.ref b6), .val (.int (p2 &&& (3 : Int32))), .val (.int (p0 + (p3 &&& (7 : Int32)))), .val (.int (2 : Int32)), .unset]) iM_220 rfl ?_
                      refine g_goto C iM_222 ?_
                      have e0 : (vM_11 p0 p1 p2 p3) = (2 : Int32) := by simp only [vM_11, if_neg hc153_1, if_pos hc166_1, if_neg hc178_1, if_pos hc191_1, if_neg hc203_1, if_neg hc216_1]
                      exact Go.cast J (by rw [e0])
                · refine g_iconst C (3 : Int32) iM_194 rfl ?_
                  refine g_istore C (Ls' := #[.val (.int p0), .val (.int p1), .val (.int p2), .val (.int p3), .val (.ref b1), .val (.ref b6), .val (.int (p2 &&& (3 : Int32))), .val (.int (p0 + (p3 &&& (7 : Int32)))), .val (.int (3 : Int32)), .unset]) iM_195 rfl ?_
                  refine g_goto C iM_197 ?_
                  have e0 : (vM_11 p0 p1 p2 p3) = (3 : Int32) := by simp only [vM_11, if_neg hc153_1, if_pos hc166_1, if_neg hc178_1, if_neg hc191_1]
                  exact Go.cast J (by rw [e0])
            · refine g_iconst C (4 : Int32) iM_169 rfl ?_
              refine g_istore C (Ls' := #[.val (.int p0), .val (.int p1), .val (.int p2), .val (.int p3), .val (.ref b1), .val (.ref b6), .val (.int (p2 &&& (3 : Int32))), .val (.int (p0 + (p3 &&& (7 : Int32)))), .val (.int (4 : Int32)), .unset]) iM_170 rfl ?_
              refine g_goto C iM_172 ?_
              have e0 : (vM_11 p0 p1 p2 p3) = (4 : Int32) := by simp only [vM_11, if_neg hc153_1, if_neg hc166_1]
              exact Go.cast J (by rw [e0])
  · refine g_icmp_ne C iM_69 (fun hc69_1 => ?_) (fun hc69_1 => ?_)
    · refine g_iconst C (1 : Int32) iM_72 rfl ?_
      refine g_goto C iM_73 ?_
      have e0 : (vM_3 p0 p1 p2 p3) = (1 : Int32) := by simp only [vM_3, if_pos hc69_1]
      exact Go.cast J (by rw [e0])
    · refine g_iconst C (0 : Int32) iM_76 rfl ?_
      have e0 : (vM_3 p0 p1 p2 p3) = (0 : Int32) := by simp only [vM_3, if_neg hc69_1]
      exact Go.cast J (by rw [e0])
set_option maxRecDepth 65536 in
set_option maxHeartbeats 40000000 in
theorem comes_1 {Post : Tables → Env → Array Value → State → Outcome → State → Prop} (hpost : ∀ tb e args s v u, (limb_1_1.after args s (.returned v) u = true ∧ limb_1_2.after args s (.returned v) u = true ∧ True) → FrameEnd s (.returned v) u (Jvm.fieldLocs frame_1_writes args s ++ Jvm.arrayLocs frame_1_arrays args s ++ Jvm.staticLocs frame_1_statics s) 16 128 → Post tb e args s (.returned v) u) :
    ArmFor flags0 classFile x code maxLocals ret World_1 tables_1 room_1 Calls_1 rest_1 Pre_1 Post := by
  intro l hfl _ _ p e ha hc hk s m args below hf hA hF happ hP
  obtain ⟨hcalls, hrest, hpre⟩ := hP
  obtain ⟨-, -, -, hnamed, -, -, -, hat⟩ := (Spec.applies_iff hf).mp happ
  obtain ⟨hg, hn⟩ := and_e (Cond.before_iff.mp (show (Jvm.Cond.and given_1 narrow_1).before args s = true from hpre))
  obtain ⟨gg1, gg2⟩ := and_e hg
  obtain ⟨gg3, gg4⟩ := and_e gg2
  obtain ⟨gg5, gg6⟩ := and_e gg4
  obtain ⟨gg7, gg8⟩ := and_e gg6
  obtain ⟨w0, w1, w2, w3, rfl⟩ : ∃ w0 w1 w2 w3 : Value, args = #[w0, w1, w2, w3] := by
    have hs : args.size = 4 := by simpa [Cond.value, given_1] using gg1
    obtain ⟨L⟩ := args
    match L, hs with
    | [w0, w1, w2, w3], _ => exact ⟨w0, w1, w2, w3, rfl⟩
  have hw := fun d (hd : d ∈ tables_1) => atoms_spec (ws := Jvm.Cond.code x code maxLocals ret :: tables_1) hat d (List.mem_cons_of_mem _ hd)
  have hfit : Fit s := fun {y c} hc i hi => by
    obtain ⟨ha, rfl⟩ := Array.getElem?_eq_some_iff.mp hc
    have q := List.all_eq_true.mp ((Array.all_eq_true_iff_forall_mem.mp hF) _ (Array.getElem_mem ha)) i (List.mem_range.mpr hi)
    simpa [Array.getElem?_eq_getElem hi] using q
  obtain ⟨i0, ei0⟩ := is_v gg3
  obtain rfl : w0 = (.int i0) := Option.some.inj ei0
  obtain ⟨i1, ei1⟩ := is_v gg5
  obtain rfl : w1 = (.int i1) := Option.some.inj ei1
  obtain ⟨i2, ei2⟩ := is_v gg7
  obtain rfl : w2 = (.int i2) := Option.some.inj ei2
  obtain ⟨i3, ei3⟩ := is_v gg8
  obtain rfl : w3 = (.int i3) := Option.some.inj ei3
  obtain ⟨n, o, h1, h2, h3, _, L, rfl, ⟨rfl, N⟩, hq⟩ := rmM l s _ hw i0 i1 i2 i3 s.heap s.heap.size (Nat.le_refl _) tables_1 p e ha hc hk s m _ below hf ((Spec.applies_iff_loose hf).mp happ).1 ⟨rfl, State.Warmed39.refl s, rfl⟩ trivial
  refine ⟨n, _, h1, h2, h3, hpost _ _ _ _ _ _ ⟨Cond.after_iff.mpr rfl, Cond.after_iff.mpr (eq_i res_at (Term.int_eval (1)) rfl), trivial⟩ ⟨hq.1, hq.2.1, (hq.2.2.sift fun y hy => Or.inr (N y hy)).mono (by decide) (by decide)⟩⟩
theorem main_1_1 : Claimed_1_1 := comes_1 fun _ _ _ _ _ _ h hF => ⟨h.1, hF⟩
theorem main_1_2 : Claimed_1_2 := comes_1 fun _ _ _ _ _ _ h hF => ⟨h.2.1, hF⟩
end Jvm.Pilot.@@N@@
namespace Jvm.Pilot.@@N@@
open Jvm Jvm.ClassFile Sem Op Lib Jvm.Free Jvm.Stand Jvm.Pilot.@@N@@.Jvm.D
/-! MADE BY PROGRAM (witnessworld.py) out of the Statement's table words and the real class files: 9 classes; the members and pool entries that the words name. The judged class is class 1, her method 2. -/
namespace start1
open Jvm.ClassFile
def u (s : String) : CpInfo := .utf8 (stringToUtf16 s)
/-- a pool by its gaps: so many unusable entries, then the entry; so many at the end -/
def gap : Nat → List CpInfo → List CpInfo
  | 0, r => r
  | n + 1, r => .unusable :: gap n r
def poolList (es : List (Nat × CpInfo)) (last : Nat) : List CpInfo := es.foldr (fun e r => gap e.1 (e.2 :: r)) (gap last [])
def pool (es : List (Nat × CpInfo)) (last : Nat) : Array CpInfo := ⟨poolList es last⟩
def fileOf (pool : Array CpInfo) (this : Nat) (attrs : Array Attribute := #[]) (ms : Array MethodInfo := #[]) (fl : Nat := 33) (sup : Nat := 0) (ifs : Array Nat := #[]) (fds : Array FieldInfo := #[]) : ClassFile where
  minorVersion := 0
  majorVersion := 65
  constantPool := pool
  accessFlags := fl
  thisClass := this
  superClass := sup
  interfaces := ifs
  fields := fds
  methods := ms
  attributes := attrs
def plain (name : String) (sup : Option ClassId) : Class where
  name := name
  kind := .ordinary
  loader := none
  accessFlags := 33
  super := sup
  interfaces := #[]
  cf := none
  fields := #[]
  methods := #[]
  instanceTypes := #[]
  staticTypes := #[]
  resolved := #[]
  callSites := []
  init := .initialized
  statics := none
  mirror := none

def pool0 : Array CpInfo := pool [(5, u "<init>"), (0, u "()V"), (1, .class_ 10), (1, u "java/lang/Object")] 113

def k0m0 : Method := { name := "<init>", desc := "()V", sig := { parameters := [], returnType := none }, accessFlags := 1, code := none }
/-- java/lang/Object -/
def k0 : Class := { plain "java/lang/Object" none with
  accessFlags := 33
  interfaces := #[]
  cf := some (fileOf pool0 8 #[] #[{ accessFlags := 1, nameIndex := 5, descriptorIndex := 6, attributes := #[] }] 33 0 #[] #[])
  fields := #[]
  methods := #[k0m0]
  instanceTypes := #[]
  staticTypes := #[]
  resolved := Array.replicate 124 none
  statics := none }

def pool1 : Array CpInfo := pool [(2, .class_ 4), (1, u "java/lang/Object"), (0, u "<init>"), (0, u "()V"), (0, .methodref 8 9), (0, .class_ 10), (0, .nameAndType 11 12), (0, u "com/example/ends2/ends2/PrefixTableExtendPinLaw"), (0, u "ends"), (0, u "([IIII)Z"), (0, .methodref 14 15), (0, .class_ 16), (0, .nameAndType 17 18), (0, u "com/example/ends2/ends2/PrefixTable"), (0, u "extend"), (0, u "([I[III)I"), (3, u "law"), (0, u "(IIII)Z")] 4

def k1m0 : Method := { name := "<init>", desc := "()V", sig := { parameters := [], returnType := none }, accessFlags := 2, code := none }
def k1c1 : Code := { maxStack := 4, maxLocals := 5, code := method_2_code, exceptionTable := #[], attributes := #[] }
def k1m1 : Method := { name := "ends", desc := "([IIII)Z", sig := { parameters := [(.array .int), .int, .int, .int], returnType := some .boolean }, accessFlags := 10, code := some k1c1 }
def k1c2 : Code := { maxStack := 5, maxLocals := 10, code := code, exceptionTable := #[], attributes := #[] }
def k1m2 : Method := { name := "law", desc := "(IIII)Z", sig := { parameters := [.int, .int, .int, .int], returnType := some .boolean }, accessFlags := 9, code := some k1c2 }
/-- com/example/ends2/ends2/PrefixTableExtendPinLaw -/
def k1 : Class := { plain "com/example/ends2/ends2/PrefixTableExtendPinLaw" (some 0) with
  accessFlags := 49
  interfaces := #[]
  cf := some (fileOf pool1 8 #[] #[{ accessFlags := 2, nameIndex := 5, descriptorIndex := 6, attributes := #[] }, { accessFlags := 10, nameIndex := 11, descriptorIndex := 12, attributes := #[] }, { accessFlags := 9, nameIndex := 22, descriptorIndex := 23, attributes := #[] }] 49 2 #[] #[])
  fields := #[]
  methods := #[k1m0, k1m1, k1m2]
  instanceTypes := #[]
  staticTypes := #[]
  resolved := Array.replicate 28 none
  statics := none }

def pool2 : Array CpInfo := pool [(2, .class_ 4), (1, u "java/lang/Object"), (0, u "<init>"), (0, u "()V"), (11, .class_ 20), (1, u "com/example/ends2/ends2/PrefixTable"), (0, u "extend"), (0, u "([I[III)I")] 12

def k2m0 : Method := { name := "<init>", desc := "()V", sig := { parameters := [], returnType := none }, accessFlags := 2, code := none }
def k2c1 : Code := { maxStack := 3, maxLocals := 6, code := prog_9_method_5_code, exceptionTable := #[], attributes := #[] }
def k2m1 : Method := { name := "extend", desc := "([I[III)I", sig := { parameters := [(.array .int), (.array .int), .int, .int], returnType := some .int }, accessFlags := 8, code := some k2c1 }
/-- com/example/ends2/ends2/PrefixTable -/
def k2 : Class := { plain "com/example/ends2/ends2/PrefixTable" (some 0) with
  accessFlags := 32
  interfaces := #[]
  cf := some (fileOf pool2 18 #[] #[{ accessFlags := 2, nameIndex := 5, descriptorIndex := 6, attributes := #[] }, { accessFlags := 8, nameIndex := 21, descriptorIndex := 22, attributes := #[] }] 32 2 #[] #[])
  fields := #[]
  methods := #[k2m0, k2m1]
  instanceTypes := #[]
  staticTypes := #[]
  resolved := Array.replicate 35 none
  statics := none }

def pool3 : Array CpInfo := pool [(1, u "java/lang/Cloneable"), (0, .class_ 1), (0, u "java/lang/Object"), (0, .class_ 3)] 3

/-- java/lang/Cloneable -/
def k3 : Class := { plain "java/lang/Cloneable" (some 0) with
  accessFlags := 1537
  interfaces := #[]
  cf := some (fileOf pool3 2 #[] #[] 1537 4 #[] #[])
  fields := #[]
  methods := #[]
  instanceTypes := #[]
  staticTypes := #[]
  resolved := Array.replicate 8 none
  statics := none }

def pool4 : Array CpInfo := pool [(1, u "java/io/Serializable"), (0, .class_ 1), (0, u "java/lang/Object"), (0, .class_ 3)] 3

/-- java/io/Serializable -/
def k4 : Class := { plain "java/io/Serializable" (some 0) with
  accessFlags := 1537
  interfaces := #[]
  cf := some (fileOf pool4 2 #[] #[] 1537 4 #[] #[])
  fields := #[]
  methods := #[]
  instanceTypes := #[]
  staticTypes := #[]
  resolved := Array.replicate 8 none
  statics := none }

/-- the primitive byte -/
def k5 : Class := { plain "byte" none with kind := .primitive 'B', accessFlags := 0x411 }
/-- [B -/
def k6 : Class := { plain "[B" (some 0) with kind := .array 5 .byte, interfaces := #[3, 4], accessFlags := 1041 }

/-- the primitive int -/
def k7 : Class := { plain "int" none with kind := .primitive 'I', accessFlags := 0x411 }
/-- [I -/
def k8 : Class := { plain "[I" (some 0) with kind := .array 7 .int, interfaces := #[3, 4], accessFlags := 1041 }

def heap : Heap := #[]
def classes : Array Class := #[k0, k1, k2, k3, k4, k5, k6, k7, k8]
def interned : List (Array UInt16 × Addr) := []
def slotsUsed : Nat := 0
def theMethod : MethodId := ⟨1, 2⟩
def args0 : Array Value := #[.int 5, .int 6, .int 7, .int 8]
def aboutOver (below : List Frame) : State where
  vm := { classes := classes, interned := interned.toArray }
  heap := heap
  slotsUsed := slotsUsed
  threads := #[{ frames := .invoking theMethod args0 :: below }]
def below0 : List Frame := [.native { method := ⟨0, 0⟩, args := #[] }]
def about1 : State := aboutOver below0
def p0 : Program := .bare "" "" ""
def e0 : Env := launch0.env 0 0 0
theorem w_frames : about1.frames = Frame.invoking theMethod args0 :: below0 := rfl
set_option maxRecDepth 65536 in
theorem w_args : argsFit about1.vm theMethod args0 = true := by decide +kernel
set_option maxRecDepth 65536 in
theorem w_heap : heapFits about1 = true := by decide +kernel
set_option maxRecDepth 65536 in
theorem w_runnable : about1.curStatus? = some .runnable := by decide +kernel
set_option maxRecDepth 65536 in
theorem w_alone : about1.alone = true := by decide +kernel
set_option maxRecDepth 65536 in
theorem w_named : about1.methodNamed? x = some theMethod := by decide +kernel
set_option maxRecDepth 65536 in
theorem w_hears : about1.hears theMethod below0 = true := by decide +kernel
set_option maxRecDepth 65536 in
theorem w_ripe : about1.ripe theMethod args0 below0 = true := by decide +kernel
theorem w_running : about1.status = .running := rfl
set_option maxRecDepth 65536 in
theorem w_room : about1.hasRoom e0.platform room_1 = true :=
  launch0.hasRoom_least _ room_1 (by decide +kernel) (by decide +kernel) (by decide +kernel) (by decide +kernel) (by decide +kernel) (by decide +kernel)
theorem allAtoms_all (ts : List Jvm.Cond) (a : Array Jvm.Value) (st : Jvm.State) : (allAtoms ts).before a st = ts.all (fun c => c.before a st) := by
  induction ts with
  | nil => rfl
  | cons c t ih =>
    show (Jvm.Cond.and c (allAtoms t)).before a st = _
    rw [Jvm.Cond.before_and, ih, List.all_cons]
def words1 : List Jvm.Cond := Jvm.Cond.code x code maxLocals ret :: tables_1
/-- a 'code' word, met by the world's own term for the bytes: nothing is compared byte by byte -/
theorem code_word {y : MethodName} {bytes : ByteArray} {mx : Nat} {rt : Option FieldType} {a : Array Value} {s : State} {m : MethodId} {meth : Method} {c : Code} (h1 : s.methodNamed? y = some m) (h2 : s.vm.method? m = some meth) (h3 : meth.code = some c) (h4 : c.code = bytes)
    (h5 : (c.maxLocals == mx && c.exceptionTable.isEmpty && decide (c.maxStack ≤ mostOperands) && decide (meth.sig.returnType = rt) && !meth.locks && decide (parseMethodDescriptor y.desc = some meth.sig)) = true) : (Jvm.Cond.code y bytes mx rt).before a s = true := by
  simp only [Bool.and_eq_true, beq_iff_eq, Bool.not_eq_true', decide_eq_true_eq] at h5
  obtain ⟨⟨⟨⟨⟨g1, g2⟩, g3⟩, g4⟩, g5⟩, g6⟩ := h5
  simp [Cond.before, Cond.holds, Cond.value, h1, h2, h3, h4, g1, g2, g3, g4, g5, g6]
def isCode : Jvm.Cond → Bool
  | .code _ _ _ _ => true
  | _ => false
theorem all_split {L : List Jvm.Cond} {P : Jvm.Cond → Bool} (h1 : L.all (fun c => isCode c || P c) = true) (h2 : ∀ c ∈ L.filter isCode, P c = true) : L.all P = true := by
  refine List.all_eq_true.mpr fun c hc => ?_
  have h := List.all_eq_true.mp h1 c hc
  rcases Bool.eq_false_or_eq_true (isCode c) with hi | hi
  · exact h2 c (List.mem_filter.mpr ⟨hc, hi⟩)
  · simpa [hi] using h
set_option maxRecDepth 65536 in
theorem w_c0 : (Jvm.Cond.code x code maxLocals ret).before args0 about1 = true := code_word (m := ⟨1, 2⟩) (meth := k1m2) (c := k1c2) (by decide +kernel) rfl rfl rfl (by decide +kernel)
set_option maxRecDepth 65536 in
theorem w_c1 : (Jvm.Cond.code ({ cls := "com/example/ends2/ends2/PrefixTableExtendPinLaw", name := "ends", desc := "([IIII)Z" } : Jvm.MethodName) method_2_code (5 : Nat) (Option.some Jvm.ClassFile.FieldType.boolean)).before args0 about1 = true := code_word (m := ⟨1, 1⟩) (meth := k1m1) (c := k1c1) (by decide +kernel) rfl rfl rfl (by decide +kernel)
set_option maxRecDepth 65536 in
theorem w_c2 : (Jvm.Cond.code ({ cls := "com/example/ends2/ends2/PrefixTable", name := "extend", desc := "([I[III)I" } : Jvm.MethodName) prog_9_method_5_code (6 : Nat) (Option.some Jvm.ClassFile.FieldType.int)).before args0 about1 = true := code_word (m := ⟨2, 1⟩) (meth := k2m1) (c := k2c1) (by decide +kernel) rfl rfl rfl (by decide +kernel)
def codes1 : List Jvm.Cond := [Jvm.Cond.code x code maxLocals ret, Jvm.Cond.code ({ cls := "com/example/ends2/ends2/PrefixTableExtendPinLaw", name := "ends", desc := "([IIII)Z" } : Jvm.MethodName) method_2_code (5 : Nat) (Option.some Jvm.ClassFile.FieldType.boolean), Jvm.Cond.code ({ cls := "com/example/ends2/ends2/PrefixTable", name := "extend", desc := "([I[III)I" } : Jvm.MethodName) prog_9_method_5_code (6 : Nat) (Option.some Jvm.ClassFile.FieldType.int)]
set_option maxRecDepth 65536 in
theorem codes_eq : words1.filter isCode = codes1 := rfl
theorem w_codes : ∀ c ∈ words1.filter isCode, c.before args0 about1 = true := by
  rw [codes_eq]
  intro c hc
  simp only [codes1, List.mem_cons, List.not_mem_nil, or_false] at hc
  rcases hc with rfl | rfl | rfl
  · exact w_c0
  · exact w_c1
  · exact w_c2
set_option maxRecDepth 65536 in
theorem w_t1 : words1.all (fun c => isCode c || c.before args0 about1) = true := by decide +kernel
theorem w_tables : (allAtoms (Jvm.Cond.code x code maxLocals ret :: tables_1)).before args0 about1 = true := by
  rw [allAtoms_all]
  show words1.all (fun c => c.before args0 about1) = true
  refine all_split ?_ w_codes
  rw [w_t1]
set_option maxRecDepth 65536 in
theorem w_case : (Jvm.Cond.and given_1 narrow_1).before args0 about1 = true := by decide +kernel
theorem w_applies : (headSpec (Jvm.Cond.code x code maxLocals ret :: tables_1) room_1).applies x e0.platform about1 = true :=
  (Spec.applies_iff w_frames).mpr ⟨w_running, w_runnable, w_alone, w_named, w_hears, w_ripe, w_room, w_tables⟩
theorem atStart : AtStart classFile x code maxLocals ret World_1 tables_1 room_1 Calls_1 rest_1 Pre_1 launch0 p0 e0 about1 theMethod args0 below0 :=
  ⟨lists_1, trivial, launch0.admits_env _ _ _, launch0.least_env, fairChoices_fair.cas, fairChoices_fair.clock, w_frames, w_args, w_heap, w_applies, trivial, trivial, w_case⟩
end start1
theorem witness_1 : WitnessClaimed_1 := ⟨start1.p0, start1.e0, start1.about1, start1.theMethod, start1.args0, start1.below0, start1.atStart⟩
end Jvm.Pilot.@@N@@
