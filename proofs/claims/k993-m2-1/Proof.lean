import JvmDerived
import JvmDerived.Pilot.@@N@@Statement
import JvmDerived.Pilot.@@N@@Code
set_option linter.unusedVariables false
set_option linter.unusedSimpArgs false
namespace Jvm.OwnGo
open Sem ClassFile Op Lib Jvm.Stand Jvm.Free Jvm.LawKit Jvm.RoadKit
/-- one instruction: where it stands, what it is, its length, the next pc -/
def I1 (code : ByteArray) (pc : Nat) (i : Instr) (len pc' : Nat) : Prop := decode code pc = .ok (i, len) ∧ pc + len = pc'
/-- a branch: besides, where it leads -/
def B1 (code : ByteArray) (pc : Nat) (i : Instr) (o : Int) (pcT pcF : Nat) : Prop := decode code pc = .ok (i, 3) ∧ pc + 3 = pcF ∧ 0 ≤ (pc : Int) + o ∧ ((pc : Int) + o).toNat = pcT
/-- what is fixed while a body runs -/
def Cx (p : Program) (s : State) (m : MethodId) (meth : Method) (c : Code) (Z : State) (code : ByteArray) (maxL : Nat) (own : String) (ret : Option FieldType) : Prop :=
  p.tables.exec = Jvm.exec ∧ c.code = code ∧ c.maxLocals = maxL ∧ Z.Warmed39 s.vm ∧ s.vm.findClass own = some m.cls ∧ meth.sig.returnType = ret ∧ meth.locks = false
/-- from the frame g, over every state that stands there with the heap h, the body ends, and ends in Q -/
def Go (p : Program) (l : Launch) (e : Env) (R : Room) (s : State) (m : MethodId) (args : Array Value) (below : List Frame) (meth : Method) (c : Code) (n0 K N : Nat) (Q : Option Value → Heap → Prop) (h : Heap) (ck cn : Nat) (g : JFrame) : Prop :=
  ∀ (T : State) (locs : List Loc), Stand p l e R s m args below meth c T locs ck cn → T.heap = h → Fr n0 locs →
    ∃ s₂ o, Steps p.tables e below (T.setTop g) s₂ ∧ s₂.status = .running ∧ Ended s₂ below o ∧ ∃ v L, o = .returned v ∧ (Q v s₂.heap ∧ Fr n0 L) ∧ FrameEnd s o s₂ L K N
/-- a body's contract: from these arguments over this heap it returns as Q says, and writes nothing below n0 -/
def Ctr (l : Launch) (Z : State) (y : MethodName) (code : ByteArray) (maxL : Nat) (ret : Option FieldType) (rm : Room) (as' : Array Value) (h0 : Heap) (n0 : Nat) (Q : Option Value → Heap → Prop) : Prop :=
  ∀ ws : List Cond, MetFree l y (head1 (Cond.code y code maxL ret :: ws) rm) (fun a U => a = as' ∧ Z.Warmed39 U.vm ∧ U.heap = h0) (fun _ _ _ _ _ => True)
    (fun _ U o U' => ∃ v L, o = .returned v ∧ (Q v U'.heap ∧ Fr n0 L) ∧ FrameEnd U o U' L rm.cells rm.slots)
section
variable {p : Program} {l : Launch} {e : Env} {R : Room} {s : State} {m : MethodId} {args : Array Value} {below : List Frame} {meth : Method} {c : Code} {n0 K N : Nat} {Q : Option Value → Heap → Prop} {h : Heap} {ck cn : Nat} {Z : State} {a0 : Array Value} {code : ByteArray} {maxL : Nat} {own : String} {ret : Option FieldType}
theorem Ctr.of_go {y : MethodName} {rm : Room} {as' : Array Value} {h0 : Heap} {Ls : Array Slot} (hpl : plainFor y = true) (hef : ∀ m, entryFrame m as' maxL = mkF m 0 Ls [])
    (hgo : ∀ p e s m below meth c, meth.name = y.name → Cx p s m meth c Z code maxL y.cls ret → Go p l e rm s m as' below meth c n0 rm.cells rm.slots Q h0 0 0 (mkF m 0 Ls [])) : Ctr l Z y code maxL ret rm as' h0 n0 Q := fun ws => by
  refine MetFree.of_bodySF hpl hisR ?_
  intro p e s m args below meth c s₁ Bd hml0 hP hK
  obtain ⟨rfl, hZ, hh⟩ := hP
  have X0 : Stand p l e rm s m args below meth c s₁ [] 0 0 := Stand.of_body Bd
  have e0 : s₁.heap = h0 := by rw [← hh, Bd.state]; rfl
  obtain ⟨s₂, o, g1, g2, g3, v, L, g4, g5, g6⟩ := hgo p e s m below meth c (name_of_methodNamed Bd.named Bd.method).1 ⟨Bd.exec, Bd.bytes, hml0, hZ, findClass_of_methodNamed Bd.named, Bd.returns, Bd.notSynchronized⟩ s₁ [] X0 e0 (Fr.nil n0)
  exact ⟨s₂, o, castTop (hef m) g1, g2, g3, v, L, g4, g5, g6⟩
theorem Go.step {g g' : JFrame} (st : ∀ (T : State) (locs : List Loc), Stand p l e R s m args below meth c T locs ck cn → T.heap = h → ∀ target, Steps p.tables e below (T.setTop g') target → Steps p.tables e below (T.setTop g) target)
    (k : Go p l e R s m args below meth c n0 K N Q h ck cn g') : Go p l e R s m args below meth c n0 K N Q h ck cn g := fun T locs X eT hN => by
  obtain ⟨s₂, o, h1, r⟩ := k T locs X eT hN
  exact ⟨s₂, o, st T locs X eT _ h1, r⟩
/-- a step that moves the state: heap, counts -/
theorem Go.move {g g' : JFrame} {h' : Heap} {ck' cn' : Nat} {T : State} {locs : List Loc} (hN : Fr n0 locs) {T' : State} {locs' : List Loc} (X' : Stand p l e R s m args below meth c T' locs' ck' cn') (e' : T'.heap = h') (hN' : Fr n0 locs')
    (st : ∀ target, Steps p.tables e below (T'.setTop g') target → Steps p.tables e below (T.setTop g) target) (k : Go p l e R s m args below meth c n0 K N Q h' ck' cn' g') :
    ∃ s₂ o, Steps p.tables e below (T.setTop g) s₂ ∧ s₂.status = .running ∧ Ended s₂ below o ∧ ∃ v L, o = .returned v ∧ (Q v s₂.heap ∧ Fr n0 L) ∧ FrameEnd s o s₂ L K N := by
  obtain ⟨s₂, o, h1, r⟩ := k T' locs' X' e' hN'
  exact ⟨s₂, o, st _ h1, r⟩
theorem Go.join {g : JFrame} (g' : JFrame) (J : Go p l e R s m args below meth c n0 K N Q h ck cn g') (k : Go p l e R s m args below meth c n0 K N Q h ck cn g' → Go p l e R s m args below meth c n0 K N Q h ck cn g) : Go p l e R s m args below meth c n0 K N Q h ck cn g := k J
theorem Go.cast {g g' : JFrame} (k : Go p l e R s m args below meth c n0 K N Q h ck cn g') (q : g = g') : Go p l e R s m args below meth c n0 K N Q h ck cn g := q ▸ k
theorem Go.more {g : JFrame} {ck' cn' : Nat} (hc : ck ≤ ck') (hs : cn ≤ cn') (k : Go p l e R s m args below meth c n0 K N Q h ck' cn' g) : Go p l e R s m args below meth c n0 K N Q h ck cn g := fun T locs X eT hN => k T locs (X.more hc hs) eT hN
theorem Go.heap {g : JFrame} {h' : Heap} (q : h' = h) (k : Go p l e R s m args below meth c n0 K N Q h' ck cn g) : Go p l e R s m args below meth c n0 K N Q h ck cn g := q ▸ k
theorem Go.some' {v : Value} {pc : Nat} {Ls : Array Slot} {st : List Value} (k : Go p l e R s m args below meth c n0 K N Q h ck cn (mkF m pc Ls (v :: st))) : Go p l e R s m args below meth c n0 K N Q h ck cn (mkF m pc Ls ((some v).toList ++ st)) := k
theorem Go.none' {pc : Nat} {Ls : Array Slot} {st : List Value} (k : Go p l e R s m args below meth c n0 K N Q h ck cn (mkF m pc Ls st)) : Go p l e R s m args below meth c n0 K N Q h ck cn (mkF m pc Ls ((none : Option Value).toList ++ st)) := k
theorem g_iadd (C : Cx p s m meth c Z code maxL own ret) {pc pc' : Nat} {Ls : Array Slot} {st : List Value} {x y : Int32} (hd : I1 code pc (.iadd) 1 pc') (k : Go p l e R s m args below meth c n0 K N Q h ck cn (mkF m pc' Ls (.int (x + y) :: st))) : Go p l e R s m args below meth c n0 K N Q h ck cn (mkF m pc Ls (.int y :: .int x :: st)) := by
  obtain ⟨hd, rfl⟩ := hd
  exact Go.step (fun T locs X _ t k => XS.iadd X.here C.1 rfl (hb C.2.1 hd) rfl k) k
theorem g_isub (C : Cx p s m meth c Z code maxL own ret) {pc pc' : Nat} {Ls : Array Slot} {st : List Value} {x y : Int32} (hd : I1 code pc (.isub) 1 pc') (k : Go p l e R s m args below meth c n0 K N Q h ck cn (mkF m pc' Ls (.int (x - y) :: st))) : Go p l e R s m args below meth c n0 K N Q h ck cn (mkF m pc Ls (.int y :: .int x :: st)) := by
  obtain ⟨hd, rfl⟩ := hd
  exact Go.step (fun T locs X _ t k => XS.isub X.here C.1 rfl (hb C.2.1 hd) rfl k) k
theorem g_imul (C : Cx p s m meth c Z code maxL own ret) {pc pc' : Nat} {Ls : Array Slot} {st : List Value} {x y : Int32} (hd : I1 code pc (.imul) 1 pc') (k : Go p l e R s m args below meth c n0 K N Q h ck cn (mkF m pc' Ls (.int (x * y) :: st))) : Go p l e R s m args below meth c n0 K N Q h ck cn (mkF m pc Ls (.int y :: .int x :: st)) := by
  obtain ⟨hd, rfl⟩ := hd
  exact Go.step (fun T locs X _ t k => XS.imul X.here C.1 rfl (hb C.2.1 hd) rfl k) k
theorem g_iand (C : Cx p s m meth c Z code maxL own ret) {pc pc' : Nat} {Ls : Array Slot} {st : List Value} {x y : Int32} (hd : I1 code pc (.iand) 1 pc') (k : Go p l e R s m args below meth c n0 K N Q h ck cn (mkF m pc' Ls (.int (x &&& y) :: st))) : Go p l e R s m args below meth c n0 K N Q h ck cn (mkF m pc Ls (.int y :: .int x :: st)) := by
  obtain ⟨hd, rfl⟩ := hd
  exact Go.step (fun T locs X _ t k => XS.iand X.here C.1 rfl (hb C.2.1 hd) rfl k) k
theorem g_ior (C : Cx p s m meth c Z code maxL own ret) {pc pc' : Nat} {Ls : Array Slot} {st : List Value} {x y : Int32} (hd : I1 code pc (.ior) 1 pc') (k : Go p l e R s m args below meth c n0 K N Q h ck cn (mkF m pc' Ls (.int (x ||| y) :: st))) : Go p l e R s m args below meth c n0 K N Q h ck cn (mkF m pc Ls (.int y :: .int x :: st)) := by
  obtain ⟨hd, rfl⟩ := hd
  exact Go.step (fun T locs X _ t k => XS.ior X.here C.1 rfl (hb C.2.1 hd) rfl k) k
theorem g_ixor (C : Cx p s m meth c Z code maxL own ret) {pc pc' : Nat} {Ls : Array Slot} {st : List Value} {x y : Int32} (hd : I1 code pc (.ixor) 1 pc') (k : Go p l e R s m args below meth c n0 K N Q h ck cn (mkF m pc' Ls (.int (x ^^^ y) :: st))) : Go p l e R s m args below meth c n0 K N Q h ck cn (mkF m pc Ls (.int y :: .int x :: st)) := by
  obtain ⟨hd, rfl⟩ := hd
  exact Go.step (fun T locs X _ t k => XS.ixor X.here C.1 rfl (hb C.2.1 hd) rfl k) k
theorem g_ishl (C : Cx p s m meth c Z code maxL own ret) {pc pc' : Nat} {Ls : Array Slot} {st : List Value} {x y : Int32} (hd : I1 code pc (.ishl) 1 pc') (k : Go p l e R s m args below meth c n0 K N Q h ck cn (mkF m pc' Ls (.int (x <<< (y &&& 31)) :: st))) : Go p l e R s m args below meth c n0 K N Q h ck cn (mkF m pc Ls (.int y :: .int x :: st)) := by
  obtain ⟨hd, rfl⟩ := hd
  exact Go.step (fun T locs X _ t k => XS.ishl X.here C.1 rfl (hb C.2.1 hd) rfl k) k
theorem g_ishr (C : Cx p s m meth c Z code maxL own ret) {pc pc' : Nat} {Ls : Array Slot} {st : List Value} {x y : Int32} (hd : I1 code pc (.ishr) 1 pc') (k : Go p l e R s m args below meth c n0 K N Q h ck cn (mkF m pc' Ls (.int (x >>> (y &&& 31)) :: st))) : Go p l e R s m args below meth c n0 K N Q h ck cn (mkF m pc Ls (.int y :: .int x :: st)) := by
  obtain ⟨hd, rfl⟩ := hd
  exact Go.step (fun T locs X _ t k => XS.ishr X.here C.1 rfl (hb C.2.1 hd) rfl k) k
theorem g_iushr (C : Cx p s m meth c Z code maxL own ret) {pc pc' : Nat} {Ls : Array Slot} {st : List Value} {x y : Int32} (hd : I1 code pc (.iushr) 1 pc') (k : Go p l e R s m args below meth c n0 K N Q h ck cn (mkF m pc' Ls (.int ((x.toUInt32 >>> (y &&& 31).toUInt32).toInt32) :: st))) : Go p l e R s m args below meth c n0 K N Q h ck cn (mkF m pc Ls (.int y :: .int x :: st)) := by
  obtain ⟨hd, rfl⟩ := hd
  exact Go.step (fun T locs X _ t k => XS.iushr X.here C.1 rfl (hb C.2.1 hd) rfl k) k
theorem g_ladd (C : Cx p s m meth c Z code maxL own ret) {pc pc' : Nat} {Ls : Array Slot} {st : List Value} {x y : Int64} (hd : I1 code pc (.ladd) 1 pc') (k : Go p l e R s m args below meth c n0 K N Q h ck cn (mkF m pc' Ls (.long (x + y) :: st))) : Go p l e R s m args below meth c n0 K N Q h ck cn (mkF m pc Ls (.long y :: .long x :: st)) := by
  obtain ⟨hd, rfl⟩ := hd
  exact Go.step (fun T locs X _ t k => XS.ladd X.here C.1 rfl (hb C.2.1 hd) rfl k) k
theorem g_lsub (C : Cx p s m meth c Z code maxL own ret) {pc pc' : Nat} {Ls : Array Slot} {st : List Value} {x y : Int64} (hd : I1 code pc (.lsub) 1 pc') (k : Go p l e R s m args below meth c n0 K N Q h ck cn (mkF m pc' Ls (.long (x - y) :: st))) : Go p l e R s m args below meth c n0 K N Q h ck cn (mkF m pc Ls (.long y :: .long x :: st)) := by
  obtain ⟨hd, rfl⟩ := hd
  exact Go.step (fun T locs X _ t k => XS.lsub X.here C.1 rfl (hb C.2.1 hd) rfl k) k
theorem g_lmul (C : Cx p s m meth c Z code maxL own ret) {pc pc' : Nat} {Ls : Array Slot} {st : List Value} {x y : Int64} (hd : I1 code pc (.lmul) 1 pc') (k : Go p l e R s m args below meth c n0 K N Q h ck cn (mkF m pc' Ls (.long (x * y) :: st))) : Go p l e R s m args below meth c n0 K N Q h ck cn (mkF m pc Ls (.long y :: .long x :: st)) := by
  obtain ⟨hd, rfl⟩ := hd
  exact Go.step (fun T locs X _ t k => XS.lmul X.here C.1 rfl (hb C.2.1 hd) rfl k) k
theorem g_land (C : Cx p s m meth c Z code maxL own ret) {pc pc' : Nat} {Ls : Array Slot} {st : List Value} {x y : Int64} (hd : I1 code pc (.land) 1 pc') (k : Go p l e R s m args below meth c n0 K N Q h ck cn (mkF m pc' Ls (.long (x &&& y) :: st))) : Go p l e R s m args below meth c n0 K N Q h ck cn (mkF m pc Ls (.long y :: .long x :: st)) := by
  obtain ⟨hd, rfl⟩ := hd
  exact Go.step (fun T locs X _ t k => XS.land X.here C.1 rfl (hb C.2.1 hd) rfl k) k
theorem g_lor (C : Cx p s m meth c Z code maxL own ret) {pc pc' : Nat} {Ls : Array Slot} {st : List Value} {x y : Int64} (hd : I1 code pc (.lor) 1 pc') (k : Go p l e R s m args below meth c n0 K N Q h ck cn (mkF m pc' Ls (.long (x ||| y) :: st))) : Go p l e R s m args below meth c n0 K N Q h ck cn (mkF m pc Ls (.long y :: .long x :: st)) := by
  obtain ⟨hd, rfl⟩ := hd
  exact Go.step (fun T locs X _ t k => XS.lor X.here C.1 rfl (hb C.2.1 hd) rfl k) k
theorem g_lxor (C : Cx p s m meth c Z code maxL own ret) {pc pc' : Nat} {Ls : Array Slot} {st : List Value} {x y : Int64} (hd : I1 code pc (.lxor) 1 pc') (k : Go p l e R s m args below meth c n0 K N Q h ck cn (mkF m pc' Ls (.long (x ^^^ y) :: st))) : Go p l e R s m args below meth c n0 K N Q h ck cn (mkF m pc Ls (.long y :: .long x :: st)) := by
  obtain ⟨hd, rfl⟩ := hd
  exact Go.step (fun T locs X _ t k => XS.lxor X.here C.1 rfl (hb C.2.1 hd) rfl k) k
theorem g_lshl (C : Cx p s m meth c Z code maxL own ret) {pc pc' : Nat} {Ls : Array Slot} {st : List Value} {x : Int64} {y : Int32} (hd : I1 code pc (.lshl) 1 pc') (k : Go p l e R s m args below meth c n0 K N Q h ck cn (mkF m pc' Ls (.long (x <<< (y &&& 0x3f).toInt64) :: st))) : Go p l e R s m args below meth c n0 K N Q h ck cn (mkF m pc Ls (.int y :: .long x :: st)) := by
  obtain ⟨hd, rfl⟩ := hd
  exact Go.step (fun T locs X _ t k => XS.lshl X.here C.1 rfl (hb C.2.1 hd) rfl k) k
theorem g_lshr (C : Cx p s m meth c Z code maxL own ret) {pc pc' : Nat} {Ls : Array Slot} {st : List Value} {x : Int64} {y : Int32} (hd : I1 code pc (.lshr) 1 pc') (k : Go p l e R s m args below meth c n0 K N Q h ck cn (mkF m pc' Ls (.long (x >>> (y &&& 0x3f).toInt64) :: st))) : Go p l e R s m args below meth c n0 K N Q h ck cn (mkF m pc Ls (.int y :: .long x :: st)) := by
  obtain ⟨hd, rfl⟩ := hd
  exact Go.step (fun T locs X _ t k => XS.lshr X.here C.1 rfl (hb C.2.1 hd) rfl k) k
theorem g_lushr (C : Cx p s m meth c Z code maxL own ret) {pc pc' : Nat} {Ls : Array Slot} {st : List Value} {x : Int64} {y : Int32} (hd : I1 code pc (.lushr) 1 pc') (k : Go p l e R s m args below meth c n0 K N Q h ck cn (mkF m pc' Ls (.long ((x.toUInt64 >>> (y &&& 0x3f).toInt64.toUInt64).toInt64) :: st))) : Go p l e R s m args below meth c n0 K N Q h ck cn (mkF m pc Ls (.int y :: .long x :: st)) := by
  obtain ⟨hd, rfl⟩ := hd
  exact Go.step (fun T locs X _ t k => XS.lushr X.here C.1 rfl (hb C.2.1 hd) rfl k) k
theorem g_lcmp (C : Cx p s m meth c Z code maxL own ret) {pc pc' : Nat} {Ls : Array Slot} {st : List Value} {x y : Int64} (hd : I1 code pc (.lcmp) 1 pc') (k : Go p l e R s m args below meth c n0 K N Q h ck cn (mkF m pc' Ls (.int (lcmpW x y) :: st))) : Go p l e R s m args below meth c n0 K N Q h ck cn (mkF m pc Ls (.long y :: .long x :: st)) := by
  obtain ⟨hd, rfl⟩ := hd
  exact Go.step (fun T locs X _ t k => XS.lcmp X.here C.1 rfl (hb C.2.1 hd) rfl k) k
theorem g_ineg (C : Cx p s m meth c Z code maxL own ret) {pc pc' : Nat} {Ls : Array Slot} {st : List Value} {x : Int32} (hd : I1 code pc (.ineg) 1 pc') (k : Go p l e R s m args below meth c n0 K N Q h ck cn (mkF m pc' Ls (.int (-x) :: st))) : Go p l e R s m args below meth c n0 K N Q h ck cn (mkF m pc Ls (.int x :: st)) := by
  obtain ⟨hd, rfl⟩ := hd
  exact Go.step (fun T locs X _ t k => XS.ineg X.here C.1 rfl (hb C.2.1 hd) rfl k) k
theorem g_lneg (C : Cx p s m meth c Z code maxL own ret) {pc pc' : Nat} {Ls : Array Slot} {st : List Value} {x : Int64} (hd : I1 code pc (.lneg) 1 pc') (k : Go p l e R s m args below meth c n0 K N Q h ck cn (mkF m pc' Ls (.long (-x) :: st))) : Go p l e R s m args below meth c n0 K N Q h ck cn (mkF m pc Ls (.long x :: st)) := by
  obtain ⟨hd, rfl⟩ := hd
  exact Go.step (fun T locs X _ t k => XS.lneg X.here C.1 rfl (hb C.2.1 hd) rfl k) k
theorem g_i2l (C : Cx p s m meth c Z code maxL own ret) {pc pc' : Nat} {Ls : Array Slot} {st : List Value} {x : Int32} (hd : I1 code pc (.i2l) 1 pc') (k : Go p l e R s m args below meth c n0 K N Q h ck cn (mkF m pc' Ls (.long x.toInt64 :: st))) : Go p l e R s m args below meth c n0 K N Q h ck cn (mkF m pc Ls (.int x :: st)) := by
  obtain ⟨hd, rfl⟩ := hd
  exact Go.step (fun T locs X _ t k => XS.i2l X.here C.1 rfl (hb C.2.1 hd) rfl k) k
theorem g_l2i (C : Cx p s m meth c Z code maxL own ret) {pc pc' : Nat} {Ls : Array Slot} {st : List Value} {x : Int64} (hd : I1 code pc (.l2i) 1 pc') (k : Go p l e R s m args below meth c n0 K N Q h ck cn (mkF m pc' Ls (.int x.toInt32 :: st))) : Go p l e R s m args below meth c n0 K N Q h ck cn (mkF m pc Ls (.long x :: st)) := by
  obtain ⟨hd, rfl⟩ := hd
  exact Go.step (fun T locs X _ t k => XS.l2i X.here C.1 rfl (hb C.2.1 hd) rfl k) k
theorem g_i2b (C : Cx p s m meth c Z code maxL own ret) {pc pc' : Nat} {Ls : Array Slot} {st : List Value} {x : Int32} (hd : I1 code pc (.i2b) 1 pc') (k : Go p l e R s m args below meth c n0 K N Q h ck cn (mkF m pc' Ls (.int x.toInt8.toInt32 :: st))) : Go p l e R s m args below meth c n0 K N Q h ck cn (mkF m pc Ls (.int x :: st)) := by
  obtain ⟨hd, rfl⟩ := hd
  exact Go.step (fun T locs X _ t k => XS.i2b X.here C.1 rfl (hb C.2.1 hd) rfl k) k
theorem g_i2s (C : Cx p s m meth c Z code maxL own ret) {pc pc' : Nat} {Ls : Array Slot} {st : List Value} {x : Int32} (hd : I1 code pc (.i2s) 1 pc') (k : Go p l e R s m args below meth c n0 K N Q h ck cn (mkF m pc' Ls (.int x.toInt16.toInt32 :: st))) : Go p l e R s m args below meth c n0 K N Q h ck cn (mkF m pc Ls (.int x :: st)) := by
  obtain ⟨hd, rfl⟩ := hd
  exact Go.step (fun T locs X _ t k => XS.i2s X.here C.1 rfl (hb C.2.1 hd) rfl k) k
theorem g_i2c (C : Cx p s m meth c Z code maxL own ret) {pc pc' : Nat} {Ls : Array Slot} {st : List Value} {x : Int32} (hd : I1 code pc (.i2c) 1 pc') (k : Go p l e R s m args below meth c n0 K N Q h ck cn (mkF m pc' Ls (.int x.toUInt32.toUInt16.toUInt32.toInt32 :: st))) : Go p l e R s m args below meth c n0 K N Q h ck cn (mkF m pc Ls (.int x :: st)) := by
  obtain ⟨hd, rfl⟩ := hd
  exact Go.step (fun T locs X _ t k => XS.i2c X.here C.1 rfl (hb C.2.1 hd) rfl k) k
theorem g_idiv (C : Cx p s m meth c Z code maxL own ret) {pc pc' : Nat} {Ls : Array Slot} {st : List Value} {x y : Int32} (hd : I1 code pc (.idiv) 1 pc') (hy : y ≠ 0) (k : Go p l e R s m args below meth c n0 K N Q h ck cn (mkF m pc' Ls (.int (x / y) :: st))) : Go p l e R s m args below meth c n0 K N Q h ck cn (mkF m pc Ls (.int y :: .int x :: st)) := by
  obtain ⟨hd, rfl⟩ := hd
  exact Go.step (fun T locs X _ t k => XS.idiv X.here C.1 rfl (hb C.2.1 hd) rfl hy k) k
theorem g_ldiv (C : Cx p s m meth c Z code maxL own ret) {pc pc' : Nat} {Ls : Array Slot} {st : List Value} {x y : Int64} (hd : I1 code pc (.ldiv) 1 pc') (hy : y ≠ 0) (k : Go p l e R s m args below meth c n0 K N Q h ck cn (mkF m pc' Ls (.long (x / y) :: st))) : Go p l e R s m args below meth c n0 K N Q h ck cn (mkF m pc Ls (.long y :: .long x :: st)) := by
  obtain ⟨hd, rfl⟩ := hd
  exact Go.step (fun T locs X _ t k => XS.ldiv X.here C.1 rfl (hb C.2.1 hd) rfl hy k) k
theorem g_irem (C : Cx p s m meth c Z code maxL own ret) {pc pc' : Nat} {Ls : Array Slot} {st : List Value} {x y : Int32} (hd : I1 code pc .irem 1 pc') (hy : y ≠ 0) (k : Go p l e R s m args below meth c n0 K N Q h ck cn (mkF m pc' Ls (.int (x % y) :: st))) : Go p l e R s m args below meth c n0 K N Q h ck cn (mkF m pc Ls (.int y :: .int x :: st)) := by
  obtain ⟨hd, rfl⟩ := hd
  exact Go.step (fun T locs X _ t k => iremM X C.1 rfl (hb C.2.1 hd) rfl hy k) k
theorem g_lrem (C : Cx p s m meth c Z code maxL own ret) {pc pc' : Nat} {Ls : Array Slot} {st : List Value} {x y : Int64} (hd : I1 code pc .lrem 1 pc') (hy : y ≠ 0) (k : Go p l e R s m args below meth c n0 K N Q h ck cn (mkF m pc' Ls (.long (x % y) :: st))) : Go p l e R s m args below meth c n0 K N Q h ck cn (mkF m pc Ls (.long y :: .long x :: st)) := by
  obtain ⟨hd, rfl⟩ := hd
  exact Go.step (fun T locs X _ t k => XS.lrem X.here C.1 rfl (hb C.2.1 hd) rfl hy (by rw [lrem_mod]; exact k)) k
theorem g_iloadN (C : Cx p s m meth c Z code maxL own ret) {pc pc' : Nat} {Ls : Array Slot} {st : List Value} {k : Fin 4} {v : Int32} (hd : I1 code pc (.iload_n k) 1 pc') (hl : Ls[k.val]? = some (.val (.int v))) (k : Go p l e R s m args below meth c n0 K N Q h ck cn (mkF m pc' Ls (.int v :: st))) : Go p l e R s m args below meth c n0 K N Q h ck cn (mkF m pc Ls (st)) := by
  obtain ⟨hd, rfl⟩ := hd
  exact Go.step (fun T locs X _ t k => XS.iloadN X.here C.1 rfl (hb C.2.1 hd) hl k) k
theorem g_iload (C : Cx p s m meth c Z code maxL own ret) {pc pc' : Nat} {Ls : Array Slot} {st : List Value} {k : Nat} {v : Int32} (hd : I1 code pc (.iload k) 2 pc') (hl : Ls[k]? = some (.val (.int v))) (k : Go p l e R s m args below meth c n0 K N Q h ck cn (mkF m pc' Ls (.int v :: st))) : Go p l e R s m args below meth c n0 K N Q h ck cn (mkF m pc Ls (st)) := by
  obtain ⟨hd, rfl⟩ := hd
  exact Go.step (fun T locs X _ t k => XS.iload X.here C.1 rfl (hb C.2.1 hd) hl k) k
theorem g_istoreN (C : Cx p s m meth c Z code maxL own ret) {pc pc' : Nat} {Ls : Array Slot} {st : List Value} {k : Fin 4} {x : Int32} {Ls' : Array Slot} (hd : I1 code pc (.istore_n k) 1 pc') (hl : storeLocals Ls k.val (.int x) = some Ls') (k : Go p l e R s m args below meth c n0 K N Q h ck cn (mkF m pc' Ls' (st))) : Go p l e R s m args below meth c n0 K N Q h ck cn (mkF m pc Ls (.int x :: st)) := by
  obtain ⟨hd, rfl⟩ := hd
  exact Go.step (fun T locs X _ t k => XS.istoreN X.here C.1 rfl (hb C.2.1 hd) rfl hl k) k
theorem g_istore (C : Cx p s m meth c Z code maxL own ret) {pc pc' : Nat} {Ls : Array Slot} {st : List Value} {k : Nat} {x : Int32} {Ls' : Array Slot} (hd : I1 code pc (.istore k) 2 pc') (hl : storeLocals Ls k (.int x) = some Ls') (k : Go p l e R s m args below meth c n0 K N Q h ck cn (mkF m pc' Ls' (st))) : Go p l e R s m args below meth c n0 K N Q h ck cn (mkF m pc Ls (.int x :: st)) := by
  obtain ⟨hd, rfl⟩ := hd
  exact Go.step (fun T locs X _ t k => XS.istore X.here C.1 rfl (hb C.2.1 hd) rfl hl k) k
theorem g_lloadN (C : Cx p s m meth c Z code maxL own ret) {pc pc' : Nat} {Ls : Array Slot} {st : List Value} {k : Fin 4} {v : Int64} (hd : I1 code pc (.lload_n k) 1 pc') (hl : Ls[k.val]? = some (.val (.long v))) (k : Go p l e R s m args below meth c n0 K N Q h ck cn (mkF m pc' Ls (.long v :: st))) : Go p l e R s m args below meth c n0 K N Q h ck cn (mkF m pc Ls (st)) := by
  obtain ⟨hd, rfl⟩ := hd
  exact Go.step (fun T locs X _ t k => XS.lloadN X.here C.1 rfl (hb C.2.1 hd) hl k) k
theorem g_lload (C : Cx p s m meth c Z code maxL own ret) {pc pc' : Nat} {Ls : Array Slot} {st : List Value} {k : Nat} {v : Int64} (hd : I1 code pc (.lload k) 2 pc') (hl : Ls[k]? = some (.val (.long v))) (k : Go p l e R s m args below meth c n0 K N Q h ck cn (mkF m pc' Ls (.long v :: st))) : Go p l e R s m args below meth c n0 K N Q h ck cn (mkF m pc Ls (st)) := by
  obtain ⟨hd, rfl⟩ := hd
  exact Go.step (fun T locs X _ t k => XS.lload X.here C.1 rfl (hb C.2.1 hd) hl k) k
theorem g_lstoreN (C : Cx p s m meth c Z code maxL own ret) {pc pc' : Nat} {Ls : Array Slot} {st : List Value} {k : Fin 4} {x : Int64} {Ls' : Array Slot} (hd : I1 code pc (.lstore_n k) 1 pc') (hl : storeLocals Ls k.val (.long x) = some Ls') (k : Go p l e R s m args below meth c n0 K N Q h ck cn (mkF m pc' Ls' (st))) : Go p l e R s m args below meth c n0 K N Q h ck cn (mkF m pc Ls (.long x :: st)) := by
  obtain ⟨hd, rfl⟩ := hd
  exact Go.step (fun T locs X _ t k => XS.lstoreN X.here C.1 rfl (hb C.2.1 hd) rfl hl k) k
theorem g_lstore (C : Cx p s m meth c Z code maxL own ret) {pc pc' : Nat} {Ls : Array Slot} {st : List Value} {k : Nat} {x : Int64} {Ls' : Array Slot} (hd : I1 code pc (.lstore k) 2 pc') (hl : storeLocals Ls k (.long x) = some Ls') (k : Go p l e R s m args below meth c n0 K N Q h ck cn (mkF m pc' Ls' (st))) : Go p l e R s m args below meth c n0 K N Q h ck cn (mkF m pc Ls (.long x :: st)) := by
  obtain ⟨hd, rfl⟩ := hd
  exact Go.step (fun T locs X _ t k => XS.lstore X.here C.1 rfl (hb C.2.1 hd) rfl hl k) k
theorem g_aloadN (C : Cx p s m meth c Z code maxL own ret) {pc pc' : Nat} {Ls : Array Slot} {st : List Value} {k : Fin 4} {v : Value} (hd : I1 code pc (.aload_n k) 1 pc') (hl : Ls[k.val]? = some (.val v)) (hv : v.isRef = true) (k : Go p l e R s m args below meth c n0 K N Q h ck cn (mkF m pc' Ls (v :: st))) : Go p l e R s m args below meth c n0 K N Q h ck cn (mkF m pc Ls (st)) := by
  obtain ⟨hd, rfl⟩ := hd
  exact Go.step (fun T locs X _ t k => XS.aloadN X.here C.1 rfl (hb C.2.1 hd) hl hv k) k
theorem g_aload (C : Cx p s m meth c Z code maxL own ret) {pc pc' : Nat} {Ls : Array Slot} {st : List Value} {k : Nat} {v : Value} (hd : I1 code pc (.aload k) 2 pc') (hl : Ls[k]? = some (.val v)) (hv : v.isRef = true) (k : Go p l e R s m args below meth c n0 K N Q h ck cn (mkF m pc' Ls (v :: st))) : Go p l e R s m args below meth c n0 K N Q h ck cn (mkF m pc Ls (st)) := by
  obtain ⟨hd, rfl⟩ := hd
  exact Go.step (fun T locs X _ t k => XS.aload X.here C.1 rfl (hb C.2.1 hd) hl hv k) k
theorem g_astoreN (C : Cx p s m meth c Z code maxL own ret) {pc pc' : Nat} {Ls : Array Slot} {st : List Value} {k : Fin 4} {x : Value} {Ls' : Array Slot} (hd : I1 code pc (.astore_n k) 1 pc') (hv : x.isRef = true) (hl : storeLocals Ls k.val x = some Ls') (k : Go p l e R s m args below meth c n0 K N Q h ck cn (mkF m pc' Ls' (st))) : Go p l e R s m args below meth c n0 K N Q h ck cn (mkF m pc Ls (x :: st)) := by
  obtain ⟨hd, rfl⟩ := hd
  exact Go.step (fun T locs X _ t k => XS.astoreN X.here C.1 rfl (hb C.2.1 hd) rfl hv hl k) k
theorem g_astore (C : Cx p s m meth c Z code maxL own ret) {pc pc' : Nat} {Ls : Array Slot} {st : List Value} {k : Nat} {x : Value} {Ls' : Array Slot} (hd : I1 code pc (.astore k) 2 pc') (hv : x.isRef = true) (hl : storeLocals Ls k x = some Ls') (k : Go p l e R s m args below meth c n0 K N Q h ck cn (mkF m pc' Ls' (st))) : Go p l e R s m args below meth c n0 K N Q h ck cn (mkF m pc Ls (x :: st)) := by
  obtain ⟨hd, rfl⟩ := hd
  exact Go.step (fun T locs X _ t k => XS.astore X.here C.1 rfl (hb C.2.1 hd) rfl hv hl k) k
theorem g_iinc (C : Cx p s m meth c Z code maxL own ret) {pc pc' : Nat} {Ls : Array Slot} {st : List Value} {k : Nat} {cst : Int} {x : Int32} {Ls' : Array Slot} (hd : I1 code pc (.iinc k cst) 3 pc') (hl : Ls[k]? = some (.val (.int x))) (hl' : storeLocals Ls k (.int (x + Int32.ofInt cst)) = some Ls') (k : Go p l e R s m args below meth c n0 K N Q h ck cn (mkF m pc' Ls' (st))) : Go p l e R s m args below meth c n0 K N Q h ck cn (mkF m pc Ls (st)) := by
  obtain ⟨hd, rfl⟩ := hd
  exact Go.step (fun T locs X _ t k => XS.iinc X.here C.1 rfl (hb C.2.1 hd) hl hl' k) k
theorem g_iconst (C : Cx p s m meth c Z code maxL own ret) {pc pc' : Nat} {Ls : Array Slot} {st : List Value} {i : Int} (v : Int32) (hd : I1 code pc (.iconst i) 1 pc') (hv : Int32.ofInt i = v) (k : Go p l e R s m args below meth c n0 K N Q h ck cn (mkF m pc' Ls (.int v :: st))) : Go p l e R s m args below meth c n0 K N Q h ck cn (mkF m pc Ls st) := by
  obtain ⟨hd, rfl⟩ := hd
  subst hv
  exact Go.step (fun T locs X _ t k => XS.iconst X.here C.1 rfl (hb C.2.1 hd) k) k
theorem g_bipush (C : Cx p s m meth c Z code maxL own ret) {pc pc' : Nat} {Ls : Array Slot} {st : List Value} {i : Int} (v : Int32) (hd : I1 code pc (.bipush i) 2 pc') (hv : (Int8.ofInt i).toInt32 = v) (k : Go p l e R s m args below meth c n0 K N Q h ck cn (mkF m pc' Ls (.int v :: st))) : Go p l e R s m args below meth c n0 K N Q h ck cn (mkF m pc Ls st) := by
  obtain ⟨hd, rfl⟩ := hd
  subst hv
  exact Go.step (fun T locs X _ t k => XS.bipush X.here C.1 rfl (hb C.2.1 hd) k) k
theorem g_sipush (C : Cx p s m meth c Z code maxL own ret) {pc pc' : Nat} {Ls : Array Slot} {st : List Value} {i : Int} (v : Int32) (hd : I1 code pc (.sipush i) 3 pc') (hv : (Int16.ofInt i).toInt32 = v) (k : Go p l e R s m args below meth c n0 K N Q h ck cn (mkF m pc' Ls (.int v :: st))) : Go p l e R s m args below meth c n0 K N Q h ck cn (mkF m pc Ls st) := by
  obtain ⟨hd, rfl⟩ := hd
  subst hv
  exact Go.step (fun T locs X _ t k => XS.sipush X.here C.1 rfl (hb C.2.1 hd) k) k
theorem g_lconst (C : Cx p s m meth c Z code maxL own ret) {pc pc' : Nat} {Ls : Array Slot} {st : List Value} {i : Fin 2} (v : Int64) (hd : I1 code pc (.lconst i) 1 pc') (hv : Int64.ofNat i = v) (k : Go p l e R s m args below meth c n0 K N Q h ck cn (mkF m pc' Ls (.long v :: st))) : Go p l e R s m args below meth c n0 K N Q h ck cn (mkF m pc Ls st) := by
  obtain ⟨hd, rfl⟩ := hd
  subst hv
  exact Go.step (fun T locs X _ t k => XS.lconst X.here C.1 rfl (hb C.2.1 hd) k) k
theorem g_aconstNull (C : Cx p s m meth c Z code maxL own ret) {pc pc' : Nat} {Ls : Array Slot} {st : List Value}  (hd : I1 code pc (.aconst_null) 1 pc') (k : Go p l e R s m args below meth c n0 K N Q h ck cn (mkF m pc' Ls (.null :: st))) : Go p l e R s m args below meth c n0 K N Q h ck cn (mkF m pc Ls (st)) := by
  obtain ⟨hd, rfl⟩ := hd
  exact Go.step (fun T locs X _ t k => XS.aconstNull X.here C.1 rfl (hb C.2.1 hd)  k) k
theorem g_ldcInt (C : Cx p s m meth c Z code maxL own ret) {pc pc' : Nat} {Ls : Array Slot} {st : List Value} {i : Nat} {v : Int32} (hd : I1 code pc (.ldc i) 2 pc') (w : (Cond.constant own i v).before a0 Z = true) (k : Go p l e R s m args below meth c n0 K N Q h ck cn (mkF m pc' Ls (.int v :: st))) : Go p l e R s m args below meth c n0 K N Q h ck cn (mkF m pc Ls st) := by
  obtain ⟨hd, rfl⟩ := hd
  exact Go.step (fun T locs X _ t k => X.ldcInt C.1 C.2.2.2.2.1 (mvT C.2.2.2.1 w) (g := mkF m pc Ls st) rfl (hb C.2.1 hd) _ k) k
theorem g_ldcwInt (C : Cx p s m meth c Z code maxL own ret) {pc pc' : Nat} {Ls : Array Slot} {st : List Value} {i : Nat} {v : Int32} (hd : I1 code pc (.ldc_w i) 3 pc') (w : (Cond.constant own i v).before a0 Z = true) (k : Go p l e R s m args below meth c n0 K N Q h ck cn (mkF m pc' Ls (.int v :: st))) : Go p l e R s m args below meth c n0 K N Q h ck cn (mkF m pc Ls st) := by
  obtain ⟨hd, rfl⟩ := hd
  exact Go.step (fun T locs X _ t k => X.ldcwInt C.1 C.2.2.2.2.1 (mvT C.2.2.2.1 w) (g := mkF m pc Ls st) rfl (hb C.2.1 hd) _ k) k
theorem g_ldc2Long (C : Cx p s m meth c Z code maxL own ret) {pc pc' : Nat} {Ls : Array Slot} {st : List Value} {i : Nat} {v : Int64} (hd : I1 code pc (.ldc2_w i) 3 pc') (w : (Cond.constantLong own i v).before a0 Z = true) (k : Go p l e R s m args below meth c n0 K N Q h ck cn (mkF m pc' Ls (.long v :: st))) : Go p l e R s m args below meth c n0 K N Q h ck cn (mkF m pc Ls st) := by
  obtain ⟨hd, rfl⟩ := hd
  exact Go.step (fun T locs X _ t k => X.ldc2Long C.1 C.2.2.2.2.1 (mvT C.2.2.2.1 w) (g := mkF m pc Ls st) rfl (hb C.2.1 hd) _ k) k
theorem g_dup (C : Cx p s m meth c Z code maxL own ret) {pc pc' : Nat} {Ls : Array Slot} {st : List Value} {x : Value} (hd : I1 code pc (.dup) 1 pc') (hc : x.category = 1) (k : Go p l e R s m args below meth c n0 K N Q h ck cn (mkF m pc' Ls (x :: x :: st))) : Go p l e R s m args below meth c n0 K N Q h ck cn (mkF m pc Ls (x :: st)) := by
  obtain ⟨hd, rfl⟩ := hd
  exact Go.step (fun T locs X _ t k => XS.dup X.here C.1 rfl (hb C.2.1 hd) rfl hc k) k
theorem g_pop (C : Cx p s m meth c Z code maxL own ret) {pc pc' : Nat} {Ls : Array Slot} {st : List Value} {x : Value} (hd : I1 code pc (.pop) 1 pc') (hc : x.category = 1) (k : Go p l e R s m args below meth c n0 K N Q h ck cn (mkF m pc' Ls (st))) : Go p l e R s m args below meth c n0 K N Q h ck cn (mkF m pc Ls (x :: st)) := by
  obtain ⟨hd, rfl⟩ := hd
  exact Go.step (fun T locs X _ t k => XS.pop X.here C.1 rfl (hb C.2.1 hd) rfl hc k) k
theorem g_dupX1 (C : Cx p s m meth c Z code maxL own ret) {pc pc' : Nat} {Ls : Array Slot} {st : List Value} {x y : Value} (hd : I1 code pc (.dup_x1) 1 pc') (hc : x.category = 1) (hc' : y.category = 1) (k : Go p l e R s m args below meth c n0 K N Q h ck cn (mkF m pc' Ls (x :: y :: x :: st))) : Go p l e R s m args below meth c n0 K N Q h ck cn (mkF m pc Ls (x :: y :: st)) := by
  obtain ⟨hd, rfl⟩ := hd
  exact Go.step (fun T locs X _ t k => XS.dupX1 X.here C.1 rfl (hb C.2.1 hd) rfl hc hc' k) k
theorem g_dup2 (C : Cx p s m meth c Z code maxL own ret) {pc pc' : Nat} {Ls : Array Slot} {st : List Value} {x y : Value} (hd : I1 code pc (.dup2) 1 pc') (hc : x.category = 1) (hc' : y.category = 1) (k : Go p l e R s m args below meth c n0 K N Q h ck cn (mkF m pc' Ls (x :: y :: x :: y :: st))) : Go p l e R s m args below meth c n0 K N Q h ck cn (mkF m pc Ls (x :: y :: st)) := by
  obtain ⟨hd, rfl⟩ := hd
  exact Go.step (fun T locs X _ t k => Jvm.Free.XT.dup2 X.here C.1 rfl (hb C.2.1 hd) rfl hc hc' k) k
theorem g_dup2L (C : Cx p s m meth c Z code maxL own ret) {pc pc' : Nat} {Ls : Array Slot} {st : List Value} {x : Int64} (hd : I1 code pc (.dup2) 1 pc') (k : Go p l e R s m args below meth c n0 K N Q h ck cn (mkF m pc' Ls (.long x :: .long x :: st))) : Go p l e R s m args below meth c n0 K N Q h ck cn (mkF m pc Ls (.long x :: st)) := by
  obtain ⟨hd, rfl⟩ := hd
  exact Go.step (fun T locs X _ t k => Jvm.Free.XT.dup2L X.here C.1 rfl (hb C.2.1 hd) rfl k) k
theorem g_goto (C : Cx p s m meth c Z code maxL own ret) {pc pcT pcF : Nat} {Ls : Array Slot} {st : List Value} {o : Int} (hd : B1 code pc (.goto o) o pcT pcF) (k : Go p l e R s m args below meth c n0 K N Q h ck cn (mkF m pcT Ls st)) : Go p l e R s m args below meth c n0 K N Q h ck cn (mkF m pc Ls st) := by
  obtain ⟨hd, -, ho, hp⟩ := hd
  exact Go.step (fun T locs X _ t k => XS.goto X.here C.1 rfl (pc0 := pc) rfl (hb C.2.1 hd) ho hp k) k
theorem g_icmp_lt (C : Cx p s m meth c Z code maxL own ret) {pc pcT pcF : Nat} {Ls : Array Slot} {st : List Value} {o : Int} {x y : Int32} (hd : B1 code pc (.if_icmp .lt o) o pcT pcF) (kt : x < y → Go p l e R s m args below meth c n0 K N Q h ck cn (mkF m pcT Ls st)) (kf : ¬ (x < y) → Go p l e R s m args below meth c n0 K N Q h ck cn (mkF m pcF Ls st)) : Go p l e R s m args below meth c n0 K N Q h ck cn (mkF m pc Ls (.int y :: .int x :: st)) := by
  obtain ⟨hd, rfl, ho, hp⟩ := hd
  by_cases q : x < y
  · exact Go.step (fun T locs X _ t k => XS.icmpYes X.here C.1 rfl (pc0 := pc) rfl (hb C.2.1 hd) rfl ((tlt q).1) ho hp k) (kt q)
  · exact Go.step (fun T locs X _ t k => XS.icmpNo X.here C.1 rfl (hb C.2.1 hd) rfl ((flt q).1) k) (kf q)
theorem g_if_lt (C : Cx p s m meth c Z code maxL own ret) {pc pcT pcF : Nat} {Ls : Array Slot} {st : List Value} {o : Int} {x : Int32} (hd : B1 code pc (.ifCond .lt o) o pcT pcF) (kt : x < 0 → Go p l e R s m args below meth c n0 K N Q h ck cn (mkF m pcT Ls st)) (kf : ¬ (x < 0) → Go p l e R s m args below meth c n0 K N Q h ck cn (mkF m pcF Ls st)) : Go p l e R s m args below meth c n0 K N Q h ck cn (mkF m pc Ls (.int x :: st)) := by
  obtain ⟨hd, rfl, ho, hp⟩ := hd
  by_cases q : x < 0
  · exact Go.step (fun T locs X _ t k => XS.ifYes X.here C.1 rfl (pc0 := pc) rfl (hb C.2.1 hd) rfl ((if0 _ _).trans (tlt q).1) ho hp k) (kt q)
  · exact Go.step (fun T locs X _ t k => XS.ifNo X.here C.1 rfl (hb C.2.1 hd) rfl ((if0 _ _).trans (flt q).1) k) (kf q)
theorem g_ifl_lt (C : Cx p s m meth c Z code maxL own ret) {pc pcT pcF : Nat} {Ls : Array Slot} {st : List Value} {o : Int} {x y : Int64} (hd : B1 code pc (.ifCond .lt o) o pcT pcF) (kt : x < y → Go p l e R s m args below meth c n0 K N Q h ck cn (mkF m pcT Ls st)) (kf : ¬ (x < y) → Go p l e R s m args below meth c n0 K N Q h ck cn (mkF m pcF Ls st)) : Go p l e R s m args below meth c n0 K N Q h ck cn (mkF m pc Ls (.int (lcmpW x y) :: st)) := by
  obtain ⟨hd, rfl, ho, hp⟩ := hd
  by_cases q : x < y
  · exact Go.step (fun T locs X _ t k => XS.ifYes X.here C.1 rfl (pc0 := pc) rfl (hb C.2.1 hd) rfl ((if0 _ _).trans (tlt ((lw_lt x y).mpr q)).1) ho hp k) (kt q)
  · exact Go.step (fun T locs X _ t k => XS.ifNo X.here C.1 rfl (hb C.2.1 hd) rfl ((if0 _ _).trans (flt (fun z => q ((lw_lt x y).mp z))).1) k) (kf q)
theorem g_icmp_ge (C : Cx p s m meth c Z code maxL own ret) {pc pcT pcF : Nat} {Ls : Array Slot} {st : List Value} {o : Int} {x y : Int32} (hd : B1 code pc (.if_icmp .ge o) o pcT pcF) (kt : x < y → Go p l e R s m args below meth c n0 K N Q h ck cn (mkF m pcF Ls st)) (kf : ¬ (x < y) → Go p l e R s m args below meth c n0 K N Q h ck cn (mkF m pcT Ls st)) : Go p l e R s m args below meth c n0 K N Q h ck cn (mkF m pc Ls (.int y :: .int x :: st)) := by
  obtain ⟨hd, rfl, ho, hp⟩ := hd
  by_cases q : x < y
  · exact Go.step (fun T locs X _ t k => XS.icmpNo X.here C.1 rfl (hb C.2.1 hd) rfl ((tlt q).2.1) k) (kt q)
  · exact Go.step (fun T locs X _ t k => XS.icmpYes X.here C.1 rfl (pc0 := pc) rfl (hb C.2.1 hd) rfl ((flt q).2.1) ho hp k) (kf q)
theorem g_if_ge (C : Cx p s m meth c Z code maxL own ret) {pc pcT pcF : Nat} {Ls : Array Slot} {st : List Value} {o : Int} {x : Int32} (hd : B1 code pc (.ifCond .ge o) o pcT pcF) (kt : x < 0 → Go p l e R s m args below meth c n0 K N Q h ck cn (mkF m pcF Ls st)) (kf : ¬ (x < 0) → Go p l e R s m args below meth c n0 K N Q h ck cn (mkF m pcT Ls st)) : Go p l e R s m args below meth c n0 K N Q h ck cn (mkF m pc Ls (.int x :: st)) := by
  obtain ⟨hd, rfl, ho, hp⟩ := hd
  by_cases q : x < 0
  · exact Go.step (fun T locs X _ t k => XS.ifNo X.here C.1 rfl (hb C.2.1 hd) rfl ((if0 _ _).trans (tlt q).2.1) k) (kt q)
  · exact Go.step (fun T locs X _ t k => XS.ifYes X.here C.1 rfl (pc0 := pc) rfl (hb C.2.1 hd) rfl ((if0 _ _).trans (flt q).2.1) ho hp k) (kf q)
theorem g_ifl_ge (C : Cx p s m meth c Z code maxL own ret) {pc pcT pcF : Nat} {Ls : Array Slot} {st : List Value} {o : Int} {x y : Int64} (hd : B1 code pc (.ifCond .ge o) o pcT pcF) (kt : x < y → Go p l e R s m args below meth c n0 K N Q h ck cn (mkF m pcF Ls st)) (kf : ¬ (x < y) → Go p l e R s m args below meth c n0 K N Q h ck cn (mkF m pcT Ls st)) : Go p l e R s m args below meth c n0 K N Q h ck cn (mkF m pc Ls (.int (lcmpW x y) :: st)) := by
  obtain ⟨hd, rfl, ho, hp⟩ := hd
  by_cases q : x < y
  · exact Go.step (fun T locs X _ t k => XS.ifNo X.here C.1 rfl (hb C.2.1 hd) rfl ((if0 _ _).trans (tlt ((lw_lt x y).mpr q)).2.1) k) (kt q)
  · exact Go.step (fun T locs X _ t k => XS.ifYes X.here C.1 rfl (pc0 := pc) rfl (hb C.2.1 hd) rfl ((if0 _ _).trans (flt (fun z => q ((lw_lt x y).mp z))).2.1) ho hp k) (kf q)
theorem g_icmp_gt (C : Cx p s m meth c Z code maxL own ret) {pc pcT pcF : Nat} {Ls : Array Slot} {st : List Value} {o : Int} {x y : Int32} (hd : B1 code pc (.if_icmp .gt o) o pcT pcF) (kt : y < x → Go p l e R s m args below meth c n0 K N Q h ck cn (mkF m pcT Ls st)) (kf : ¬ (y < x) → Go p l e R s m args below meth c n0 K N Q h ck cn (mkF m pcF Ls st)) : Go p l e R s m args below meth c n0 K N Q h ck cn (mkF m pc Ls (.int y :: .int x :: st)) := by
  obtain ⟨hd, rfl, ho, hp⟩ := hd
  by_cases q : y < x
  · exact Go.step (fun T locs X _ t k => XS.icmpYes X.here C.1 rfl (pc0 := pc) rfl (hb C.2.1 hd) rfl ((tlt q).2.2.1) ho hp k) (kt q)
  · exact Go.step (fun T locs X _ t k => XS.icmpNo X.here C.1 rfl (hb C.2.1 hd) rfl ((flt q).2.2.1) k) (kf q)
theorem g_if_gt (C : Cx p s m meth c Z code maxL own ret) {pc pcT pcF : Nat} {Ls : Array Slot} {st : List Value} {o : Int} {x : Int32} (hd : B1 code pc (.ifCond .gt o) o pcT pcF) (kt : 0 < x → Go p l e R s m args below meth c n0 K N Q h ck cn (mkF m pcT Ls st)) (kf : ¬ (0 < x) → Go p l e R s m args below meth c n0 K N Q h ck cn (mkF m pcF Ls st)) : Go p l e R s m args below meth c n0 K N Q h ck cn (mkF m pc Ls (.int x :: st)) := by
  obtain ⟨hd, rfl, ho, hp⟩ := hd
  by_cases q : 0 < x
  · exact Go.step (fun T locs X _ t k => XS.ifYes X.here C.1 rfl (pc0 := pc) rfl (hb C.2.1 hd) rfl ((if0 _ _).trans (tlt q).2.2.1) ho hp k) (kt q)
  · exact Go.step (fun T locs X _ t k => XS.ifNo X.here C.1 rfl (hb C.2.1 hd) rfl ((if0 _ _).trans (flt q).2.2.1) k) (kf q)
theorem g_ifl_gt (C : Cx p s m meth c Z code maxL own ret) {pc pcT pcF : Nat} {Ls : Array Slot} {st : List Value} {o : Int} {x y : Int64} (hd : B1 code pc (.ifCond .gt o) o pcT pcF) (kt : y < x → Go p l e R s m args below meth c n0 K N Q h ck cn (mkF m pcT Ls st)) (kf : ¬ (y < x) → Go p l e R s m args below meth c n0 K N Q h ck cn (mkF m pcF Ls st)) : Go p l e R s m args below meth c n0 K N Q h ck cn (mkF m pc Ls (.int (lcmpW x y) :: st)) := by
  obtain ⟨hd, rfl, ho, hp⟩ := hd
  by_cases q : y < x
  · exact Go.step (fun T locs X _ t k => XS.ifYes X.here C.1 rfl (pc0 := pc) rfl (hb C.2.1 hd) rfl ((if0 _ _).trans (tlt ((lw_gt x y).mpr q)).2.2.1) ho hp k) (kt q)
  · exact Go.step (fun T locs X _ t k => XS.ifNo X.here C.1 rfl (hb C.2.1 hd) rfl ((if0 _ _).trans (flt (fun z => q ((lw_gt x y).mp z))).2.2.1) k) (kf q)
theorem g_icmp_le (C : Cx p s m meth c Z code maxL own ret) {pc pcT pcF : Nat} {Ls : Array Slot} {st : List Value} {o : Int} {x y : Int32} (hd : B1 code pc (.if_icmp .le o) o pcT pcF) (kt : y < x → Go p l e R s m args below meth c n0 K N Q h ck cn (mkF m pcF Ls st)) (kf : ¬ (y < x) → Go p l e R s m args below meth c n0 K N Q h ck cn (mkF m pcT Ls st)) : Go p l e R s m args below meth c n0 K N Q h ck cn (mkF m pc Ls (.int y :: .int x :: st)) := by
  obtain ⟨hd, rfl, ho, hp⟩ := hd
  by_cases q : y < x
  · exact Go.step (fun T locs X _ t k => XS.icmpNo X.here C.1 rfl (hb C.2.1 hd) rfl ((tlt q).2.2.2) k) (kt q)
  · exact Go.step (fun T locs X _ t k => XS.icmpYes X.here C.1 rfl (pc0 := pc) rfl (hb C.2.1 hd) rfl ((flt q).2.2.2) ho hp k) (kf q)
theorem g_if_le (C : Cx p s m meth c Z code maxL own ret) {pc pcT pcF : Nat} {Ls : Array Slot} {st : List Value} {o : Int} {x : Int32} (hd : B1 code pc (.ifCond .le o) o pcT pcF) (kt : 0 < x → Go p l e R s m args below meth c n0 K N Q h ck cn (mkF m pcF Ls st)) (kf : ¬ (0 < x) → Go p l e R s m args below meth c n0 K N Q h ck cn (mkF m pcT Ls st)) : Go p l e R s m args below meth c n0 K N Q h ck cn (mkF m pc Ls (.int x :: st)) := by
  obtain ⟨hd, rfl, ho, hp⟩ := hd
  by_cases q : 0 < x
  · exact Go.step (fun T locs X _ t k => XS.ifNo X.here C.1 rfl (hb C.2.1 hd) rfl ((if0 _ _).trans (tlt q).2.2.2) k) (kt q)
  · exact Go.step (fun T locs X _ t k => XS.ifYes X.here C.1 rfl (pc0 := pc) rfl (hb C.2.1 hd) rfl ((if0 _ _).trans (flt q).2.2.2) ho hp k) (kf q)
theorem g_ifl_le (C : Cx p s m meth c Z code maxL own ret) {pc pcT pcF : Nat} {Ls : Array Slot} {st : List Value} {o : Int} {x y : Int64} (hd : B1 code pc (.ifCond .le o) o pcT pcF) (kt : y < x → Go p l e R s m args below meth c n0 K N Q h ck cn (mkF m pcF Ls st)) (kf : ¬ (y < x) → Go p l e R s m args below meth c n0 K N Q h ck cn (mkF m pcT Ls st)) : Go p l e R s m args below meth c n0 K N Q h ck cn (mkF m pc Ls (.int (lcmpW x y) :: st)) := by
  obtain ⟨hd, rfl, ho, hp⟩ := hd
  by_cases q : y < x
  · exact Go.step (fun T locs X _ t k => XS.ifNo X.here C.1 rfl (hb C.2.1 hd) rfl ((if0 _ _).trans (tlt ((lw_gt x y).mpr q)).2.2.2) k) (kt q)
  · exact Go.step (fun T locs X _ t k => XS.ifYes X.here C.1 rfl (pc0 := pc) rfl (hb C.2.1 hd) rfl ((if0 _ _).trans (flt (fun z => q ((lw_gt x y).mp z))).2.2.2) ho hp k) (kf q)
theorem g_icmp_eq (C : Cx p s m meth c Z code maxL own ret) {pc pcT pcF : Nat} {Ls : Array Slot} {st : List Value} {o : Int} {x y : Int32} (hd : B1 code pc (.if_icmp .eq o) o pcT pcF) (kt : x = y → Go p l e R s m args below meth c n0 K N Q h ck cn (mkF m pcT Ls st)) (kf : ¬ (x = y) → Go p l e R s m args below meth c n0 K N Q h ck cn (mkF m pcF Ls st)) : Go p l e R s m args below meth c n0 K N Q h ck cn (mkF m pc Ls (.int y :: .int x :: st)) := by
  obtain ⟨hd, rfl, ho, hp⟩ := hd
  by_cases q : x = y
  · exact Go.step (fun T locs X _ t k => XS.icmpYes X.here C.1 rfl (pc0 := pc) rfl (hb C.2.1 hd) rfl ((teq q).1) ho hp k) (kt q)
  · exact Go.step (fun T locs X _ t k => XS.icmpNo X.here C.1 rfl (hb C.2.1 hd) rfl ((feq q).1) k) (kf q)
theorem g_if_eq (C : Cx p s m meth c Z code maxL own ret) {pc pcT pcF : Nat} {Ls : Array Slot} {st : List Value} {o : Int} {x : Int32} (hd : B1 code pc (.ifCond .eq o) o pcT pcF) (kt : x = 0 → Go p l e R s m args below meth c n0 K N Q h ck cn (mkF m pcT Ls st)) (kf : ¬ (x = 0) → Go p l e R s m args below meth c n0 K N Q h ck cn (mkF m pcF Ls st)) : Go p l e R s m args below meth c n0 K N Q h ck cn (mkF m pc Ls (.int x :: st)) := by
  obtain ⟨hd, rfl, ho, hp⟩ := hd
  by_cases q : x = 0
  · exact Go.step (fun T locs X _ t k => XS.ifYes X.here C.1 rfl (pc0 := pc) rfl (hb C.2.1 hd) rfl ((if0 _ _).trans (teq q).1) ho hp k) (kt q)
  · exact Go.step (fun T locs X _ t k => XS.ifNo X.here C.1 rfl (hb C.2.1 hd) rfl ((if0 _ _).trans (feq q).1) k) (kf q)
theorem g_ifl_eq (C : Cx p s m meth c Z code maxL own ret) {pc pcT pcF : Nat} {Ls : Array Slot} {st : List Value} {o : Int} {x y : Int64} (hd : B1 code pc (.ifCond .eq o) o pcT pcF) (kt : x = y → Go p l e R s m args below meth c n0 K N Q h ck cn (mkF m pcT Ls st)) (kf : ¬ (x = y) → Go p l e R s m args below meth c n0 K N Q h ck cn (mkF m pcF Ls st)) : Go p l e R s m args below meth c n0 K N Q h ck cn (mkF m pc Ls (.int (lcmpW x y) :: st)) := by
  obtain ⟨hd, rfl, ho, hp⟩ := hd
  by_cases q : x = y
  · exact Go.step (fun T locs X _ t k => XS.ifYes X.here C.1 rfl (pc0 := pc) rfl (hb C.2.1 hd) rfl ((if0 _ _).trans (teq ((lw_eq x y).mpr q)).1) ho hp k) (kt q)
  · exact Go.step (fun T locs X _ t k => XS.ifNo X.here C.1 rfl (hb C.2.1 hd) rfl ((if0 _ _).trans (feq (fun z => q ((lw_eq x y).mp z))).1) k) (kf q)
theorem g_icmp_ne (C : Cx p s m meth c Z code maxL own ret) {pc pcT pcF : Nat} {Ls : Array Slot} {st : List Value} {o : Int} {x y : Int32} (hd : B1 code pc (.if_icmp .ne o) o pcT pcF) (kt : x = y → Go p l e R s m args below meth c n0 K N Q h ck cn (mkF m pcF Ls st)) (kf : ¬ (x = y) → Go p l e R s m args below meth c n0 K N Q h ck cn (mkF m pcT Ls st)) : Go p l e R s m args below meth c n0 K N Q h ck cn (mkF m pc Ls (.int y :: .int x :: st)) := by
  obtain ⟨hd, rfl, ho, hp⟩ := hd
  by_cases q : x = y
  · exact Go.step (fun T locs X _ t k => XS.icmpNo X.here C.1 rfl (hb C.2.1 hd) rfl ((teq q).2) k) (kt q)
  · exact Go.step (fun T locs X _ t k => XS.icmpYes X.here C.1 rfl (pc0 := pc) rfl (hb C.2.1 hd) rfl ((feq q).2) ho hp k) (kf q)
theorem g_if_ne (C : Cx p s m meth c Z code maxL own ret) {pc pcT pcF : Nat} {Ls : Array Slot} {st : List Value} {o : Int} {x : Int32} (hd : B1 code pc (.ifCond .ne o) o pcT pcF) (kt : x = 0 → Go p l e R s m args below meth c n0 K N Q h ck cn (mkF m pcF Ls st)) (kf : ¬ (x = 0) → Go p l e R s m args below meth c n0 K N Q h ck cn (mkF m pcT Ls st)) : Go p l e R s m args below meth c n0 K N Q h ck cn (mkF m pc Ls (.int x :: st)) := by
  obtain ⟨hd, rfl, ho, hp⟩ := hd
  by_cases q : x = 0
  · exact Go.step (fun T locs X _ t k => XS.ifNo X.here C.1 rfl (hb C.2.1 hd) rfl ((if0 _ _).trans (teq q).2) k) (kt q)
  · exact Go.step (fun T locs X _ t k => XS.ifYes X.here C.1 rfl (pc0 := pc) rfl (hb C.2.1 hd) rfl ((if0 _ _).trans (feq q).2) ho hp k) (kf q)
theorem g_ifl_ne (C : Cx p s m meth c Z code maxL own ret) {pc pcT pcF : Nat} {Ls : Array Slot} {st : List Value} {o : Int} {x y : Int64} (hd : B1 code pc (.ifCond .ne o) o pcT pcF) (kt : x = y → Go p l e R s m args below meth c n0 K N Q h ck cn (mkF m pcF Ls st)) (kf : ¬ (x = y) → Go p l e R s m args below meth c n0 K N Q h ck cn (mkF m pcT Ls st)) : Go p l e R s m args below meth c n0 K N Q h ck cn (mkF m pc Ls (.int (lcmpW x y) :: st)) := by
  obtain ⟨hd, rfl, ho, hp⟩ := hd
  by_cases q : x = y
  · exact Go.step (fun T locs X _ t k => XS.ifNo X.here C.1 rfl (hb C.2.1 hd) rfl ((if0 _ _).trans (teq ((lw_eq x y).mpr q)).2) k) (kt q)
  · exact Go.step (fun T locs X _ t k => XS.ifYes X.here C.1 rfl (pc0 := pc) rfl (hb C.2.1 hd) rfl ((if0 _ _).trans (feq (fun z => q ((lw_eq x y).mp z))).2) ho hp k) (kf q)
theorem g_ifnullN (C : Cx p s m meth c Z code maxL own ret) {pc pcT pcF : Nat} {Ls : Array Slot} {st : List Value} {o : Int} {b : Addr} (hd : B1 code pc (.ifnull o) o pcT pcF) (k : Go p l e R s m args below meth c n0 K N Q h ck cn (mkF m pcF Ls st)) : Go p l e R s m args below meth c n0 K N Q h ck cn (mkF m pc Ls (.ref b :: st)) := by
  obtain ⟨hd, rfl, ho, hp⟩ := hd
  exact Go.step (fun T locs X _ t k => XS.ifnullNo X.here C.1 rfl (hb C.2.1 hd) rfl k) k
theorem g_ifnullY (C : Cx p s m meth c Z code maxL own ret) {pc pcT pcF : Nat} {Ls : Array Slot} {st : List Value} {o : Int} (hd : B1 code pc (.ifnull o) o pcT pcF) (k : Go p l e R s m args below meth c n0 K N Q h ck cn (mkF m pcT Ls st)) : Go p l e R s m args below meth c n0 K N Q h ck cn (mkF m pc Ls (.null :: st)) := by
  obtain ⟨hd, rfl, ho, hp⟩ := hd
  exact Go.step (fun T locs X _ t k => XS.ifnullYes X.here C.1 rfl (pc0 := pc) rfl (hb C.2.1 hd) rfl ho hp k) k
theorem g_ifnonnullY (C : Cx p s m meth c Z code maxL own ret) {pc pcT pcF : Nat} {Ls : Array Slot} {st : List Value} {o : Int} {b : Addr} (hd : B1 code pc (.ifnonnull o) o pcT pcF) (k : Go p l e R s m args below meth c n0 K N Q h ck cn (mkF m pcT Ls st)) : Go p l e R s m args below meth c n0 K N Q h ck cn (mkF m pc Ls (.ref b :: st)) := by
  obtain ⟨hd, rfl, ho, hp⟩ := hd
  exact Go.step (fun T locs X _ t k => XS.ifnonnullYes X.here C.1 rfl (pc0 := pc) rfl (hb C.2.1 hd) rfl ho hp k) k
theorem g_ifnonnullN (C : Cx p s m meth c Z code maxL own ret) {pc pcT pcF : Nat} {Ls : Array Slot} {st : List Value} {o : Int} (hd : B1 code pc (.ifnonnull o) o pcT pcF) (k : Go p l e R s m args below meth c n0 K N Q h ck cn (mkF m pcF Ls st)) : Go p l e R s m args below meth c n0 K N Q h ck cn (mkF m pc Ls (.null :: st)) := by
  obtain ⟨hd, rfl, ho, hp⟩ := hd
  exact Go.step (fun T locs X _ t k => XS.ifnonnullNo X.here C.1 rfl (hb C.2.1 hd) rfl k) k
theorem g_acmp_eq (C : Cx p s m meth c Z code maxL own ret) {pc pcT pcF : Nat} {Ls : Array Slot} {st : List Value} {o : Int} {x y : Value} (h1 : x.isRef = true) (h2 : y.isRef = true) (hd : B1 code pc (.if_acmp .eq o) o pcT pcF) (kt : x = y → Go p l e R s m args below meth c n0 K N Q h ck cn (mkF m pcT Ls st)) (kf : ¬ x = y → Go p l e R s m args below meth c n0 K N Q h ck cn (mkF m pcF Ls st)) : Go p l e R s m args below meth c n0 K N Q h ck cn (mkF m pc Ls (y :: x :: st)) := by
  obtain ⟨hd, rfl, ho, rfl⟩ := hd
  by_cases q : x = y
  · exact Go.step (fun T locs X _ t k => Jvm.RoadKit.acmp X C.1 rfl h1 h2 (pc0 := pc) (same := true) rfl (hb C.2.1 hd) rfl (by simp [q]) ho rfl k) (kt q)
  · exact Go.step (fun T locs X _ t k => Jvm.RoadKit.acmp X C.1 rfl h1 h2 (pc0 := pc) (same := false) rfl (hb C.2.1 hd) rfl (by simp [q]) ho rfl k) (kf q)
theorem g_acmp_ne (C : Cx p s m meth c Z code maxL own ret) {pc pcT pcF : Nat} {Ls : Array Slot} {st : List Value} {o : Int} {x y : Value} (h1 : x.isRef = true) (h2 : y.isRef = true) (hd : B1 code pc (.if_acmp .ne o) o pcT pcF) (kt : x = y → Go p l e R s m args below meth c n0 K N Q h ck cn (mkF m pcF Ls st)) (kf : ¬ x = y → Go p l e R s m args below meth c n0 K N Q h ck cn (mkF m pcT Ls st)) : Go p l e R s m args below meth c n0 K N Q h ck cn (mkF m pc Ls (y :: x :: st)) := by
  obtain ⟨hd, rfl, ho, rfl⟩ := hd
  by_cases q : x = y
  · exact Go.step (fun T locs X _ t k => Jvm.RoadKit.acmp X C.1 rfl h1 h2 (pc0 := pc) (same := true) rfl (hb C.2.1 hd) rfl (by simp [q]) ho rfl k) (kt q)
  · exact Go.step (fun T locs X _ t k => Jvm.RoadKit.acmp X C.1 rfl h1 h2 (pc0 := pc) (same := false) rfl (hb C.2.1 hd) rfl (by simp [q]) ho rfl k) (kf q)
theorem ret0 {v : Option Value} {g : JFrame} (hlk : meth.locks = false) (hret : meth.sig.returnType = none → v = none) (hck : ck ≤ K) (hcn : cn ≤ N) (hQ : Q v h)
    (st : ∀ (T : State) (locs : List Loc) (fs : List Frame), Stand p l e R s m args below meth c T locs ck cn → (∀ (f : JFrame) (acts : List Action), f.method = m → f.locked = none → f.entered = [] → (doReturn e (T.setTop f) acts v).1 = T.setFrames fs) → Steps p.tables e below (T.setTop g) (T.setFrames fs)) :
    Go p l e R s m args below meth c n0 K N Q h ck cn g := fun T locs X eT hN => by
  obtain ⟨fs, hr, hrun, hended, hW, hsame⟩ := X.leave (v := v) hret hlk
  exact ⟨_, _, st T locs fs X hr, hrun, hended, v, locs, rfl, ⟨by show Q v T.heap; rw [eT]; exact hQ, hN⟩, ⟨_, rfl⟩, hW, hsame.mono hck hcn⟩
theorem g_retV (C : Cx p s m meth c Z code maxL own ret) {pc : Nat} {Ls : Array Slot} {pc' : Nat} (hd : I1 code pc .return_ 1 pc') (hret : ret = none) (hck : ck ≤ K) (hcn : cn ≤ N) (hQ : Q none h) : Go p l e R s m args below meth c n0 K N Q h ck cn (mkF m pc Ls []) := by
  obtain ⟨hd, -⟩ := hd
  exact ret0 C.2.2.2.2.2.2 (fun _ => rfl) hck hcn hQ (fun T locs fs X hr => X.returnOut C.1 (C.2.2.2.2.2.1.trans hret) (hb C.2.1 hd) hr)
theorem g_retInt (C : Cx p s m meth c Z code maxL own ret) {pc : Nat} {Ls : Array Slot} {pc' : Nat} {st : List Value} {z : Int32} (hd : I1 code pc .ireturn 1 pc') (hret : ret = some .int) (hck : ck ≤ K) (hcn : cn ≤ N) (hQ : Q (some (.int z)) h) : Go p l e R s m args below meth c n0 K N Q h ck cn (mkF m pc Ls (.int z :: st)) := by
  obtain ⟨hd, -⟩ := hd
  have hr' := C.2.2.2.2.2.1.trans hret
  exact ret0 C.2.2.2.2.2.2 (fun q => by rw [hr'] at q; cases q) hck hcn hQ (fun T locs fs X hr => retOut X C.1 hr' rfl (Or.inl ⟨rfl, Or.inl rfl, z, rfl⟩) (hb C.2.1 hd) hr)
theorem g_retLong (C : Cx p s m meth c Z code maxL own ret) {pc : Nat} {Ls : Array Slot} {pc' : Nat} {st : List Value} {z : Int64} (hd : I1 code pc .lreturn 1 pc') (hret : ret = some .long) (hck : ck ≤ K) (hcn : cn ≤ N) (hQ : Q (some (.long z)) h) : Go p l e R s m args below meth c n0 K N Q h ck cn (mkF m pc Ls (.long z :: st)) := by
  obtain ⟨hd, -⟩ := hd
  have hr' := C.2.2.2.2.2.1.trans hret
  exact ret0 C.2.2.2.2.2.2 (fun q => by rw [hr'] at q; cases q) hck hcn hQ (fun T locs fs X hr => retOut X C.1 hr' rfl (Or.inr (Or.inl ⟨rfl, rfl, z, rfl⟩)) (hb C.2.1 hd) hr)
theorem nar_ref {t : FieldType} {v : Value} (hv : v.isRef = true) : narrow t v = v := by
  rcases ref_cases hv with rfl | ⟨a, rfl⟩ <;> cases t <;> rfl
theorem g_retRef (C : Cx p s m meth c Z code maxL own ret) {pc : Nat} {Ls : Array Slot} {pc' : Nat} {st : List Value} {v : Value} {t : FieldType} (hd : I1 code pc .areturn 1 pc') (hret : ret = some t) (ht : t.isReference = true) (hv : v.isRef = true) (hck : ck ≤ K) (hcn : cn ≤ N) (hQ : Q (some v) h) : Go p l e R s m args below meth c n0 K N Q h ck cn (mkF m pc Ls (v :: st)) := by
  obtain ⟨hd, -⟩ := hd
  have hr' := C.2.2.2.2.2.1.trans hret
  exact ret0 C.2.2.2.2.2.2 (fun q => by rw [hr'] at q; cases q) hck hcn hQ (fun T locs fs X hr => retOut X C.1 hr' (nar_ref hv) (Or.inr (Or.inr (Or.inr (Or.inr ⟨rfl, ht, hv⟩)))) (hb C.2.1 hd) hr)
theorem g_retNar (C : Cx p s m meth c Z code maxL own ret) {pc : Nat} {Ls : Array Slot} {pc' : Nat} {st : List Value} {z : Int32} {t : FieldType} (hd : I1 code pc .ireturn 1 pc') (hret : ret = some t) (ht : t = .boolean ∨ t = .byte ∨ t = .char ∨ t = .short) (hck : ck ≤ K) (hcn : cn ≤ N) (hQ : Q (some (.int (nar t z))) h) : Go p l e R s m args below meth c n0 K N Q h ck cn (mkF m pc Ls (.int z :: st)) := by
  obtain ⟨hd, -⟩ := hd
  have hr' := C.2.2.2.2.2.1.trans hret
  exact ret0 C.2.2.2.2.2.2 (fun q => by rw [hr'] at q; cases q) hck hcn hQ (fun T locs fs X hr => retN X C.1 hr' ht (hb C.2.1 hd) hr)
theorem g_getF (C : Cx p s m meth c Z code maxL own ret) {pc pc' : Nat} {Ls : Array Slot} {st : List Value} {R0 O n d host : String} {index : Nat} {a : Addr} {v : Value} (hd : I1 code pc (.getfield index) 3 pc') (w : (Cond.fieldLink own index R0 n d).before a0 Z = true ∨ (Cond.fieldLinkNest own index R0 n d host).before a0 Z = true) (via : Via Z R0 O n d) (F : Fld Z h a O n d v)
    (k : Go p l e R s m args below meth c n0 K N Q h ck cn (mkF m pc' Ls (v :: st))) : Go p l e R s m args below meth c n0 K N Q h ck cn (mkF m pc Ls (.ref a :: st)) := fun T locs X eT hN => by
  obtain ⟨hd, rfl⟩ := hd
  obtain ⟨T', X', e', st'⟩ := Jvm.RoadKit.getF X C.1 C.2.2.2.1 C.2.2.2.2.1 w via eT F (g := mkF m pc Ls (.ref a :: st)) rfl rfl (hb C.2.1 hd)
  exact Go.move hN X' e' hN st' k
theorem g_getS (C : Cx p s m meth c Z code maxL own ret) {pc pc' : Nat} {Ls : Array Slot} {st : List Value} {R0 O n d host : String} {index : Nat} {v : Value} (hd : I1 code pc (.getstatic index) 3 pc') (w : (Cond.fieldLink own index R0 n d).before a0 Z = true ∨ (Cond.fieldLinkNest own index R0 n d host).before a0 Z = true) (via : Via Z R0 O n d) (F : Sta Z h O n d v)
    (k : Go p l e R s m args below meth c n0 K N Q h ck cn (mkF m pc' Ls (v :: st))) : Go p l e R s m args below meth c n0 K N Q h ck cn (mkF m pc Ls st) := fun T locs X eT hN => by
  obtain ⟨hd, rfl⟩ := hd
  obtain ⟨T', X', e', st'⟩ := Jvm.RoadKit.getS2 X C.1 C.2.2.2.1 C.2.2.2.2.1 w via eT F (g := mkF m pc Ls st) rfl (hb C.2.1 hd)
  exact Go.move hN X' e' hN st' k
theorem g_putF (C : Cx p s m meth c Z code maxL own ret) {pc pc' : Nat} {Ls : Array Slot} {st : List Value} {R0 O n d host Cl : String} {index kk : Nat} {ty : FieldType} {a : Addr} {v old : Value} (hd : I1 code pc (.putfield index) 3 pc') (w : (Cond.fieldLink own index R0 n d).before a0 Z = true ∨ (Cond.fieldLinkNest own index R0 n d host).before a0 Z = true) (via : Via Z R0 O n d) (F : Fld Z h a O n d old) (E : Exa Z h a Cl)
    (L : (Cond.lays Cl O n d).before a0 Z = true ∨ ((Cond.laysFinal Cl O n d).before a0 Z = true ∧ own = O ∧ meth.name = "<init>")) (wi : (Cond.instantiable Cl kk).before a0 Z = true) (hty : parseFieldDescriptor d = some ty) (hn : narrow ty v = v) (hf : fits ty v = true) (ha : n0 ≤ a)
    (k : ∀ h', Wr h h' a (Jvm.RoadKit.slotOf Z O n d) v → Go p l e R s m args below meth c n0 K N Q h' ck cn (mkF m pc' Ls st)) : Go p l e R s m args below meth c n0 K N Q h ck cn (mkF m pc Ls (v :: .ref a :: st)) := fun T locs X eT hN => by
  obtain ⟨hd, rfl⟩ := hd
  obtain ⟨T', h', X', e', W, st'⟩ := Jvm.RoadKit.putF X C.1 C.2.2.2.1 C.2.2.2.2.1 w via eT F E L wi hty hn hf (g := mkF m pc Ls (v :: .ref a :: st)) rfl rfl (hb C.2.1 hd)
  exact Go.move hN X' e' (Fr.snoc X' hN ha) st' (k h' W)
theorem g_putFN (C : Cx p s m meth c Z code maxL own ret) {pc pc' : Nat} {Ls : Array Slot} {st : List Value} {R0 O n d Cl : String} {index kk : Nat} {ty : FieldType} {a : Addr} {v v' old : Value} (hd : I1 code pc (.putfield index) 3 pc') (w : (Cond.fieldLink own index R0 n d).before a0 Z = true) (via : Via Z R0 O n d) (F : Fld Z h a O n d old) (E : Exa Z h a Cl)
    (L : (Cond.lays Cl O n d).before a0 Z = true ∨ ((Cond.laysFinal Cl O n d).before a0 Z = true ∧ own = O ∧ meth.name = "<init>")) (wi : (Cond.instantiable Cl kk).before a0 Z = true) (hty : parseFieldDescriptor d = some ty) (hn : narrow ty v = v') (hf : fits ty v' = true) (ha : n0 ≤ a)
    (k : ∀ h', Wr h h' a (Jvm.RoadKit.slotOf Z O n d) v' → Go p l e R s m args below meth c n0 K N Q h' ck cn (mkF m pc' Ls st)) : Go p l e R s m args below meth c n0 K N Q h ck cn (mkF m pc Ls (v :: .ref a :: st)) := fun T locs X eT hN => by
  obtain ⟨hd, rfl⟩ := hd
  obtain ⟨T', h', X', e', W, st'⟩ := Jvm.RoadKit.putFN X C.1 C.2.2.2.1 C.2.2.2.2.1 w via eT F E L wi hty hn hf (g := mkF m pc Ls (v :: .ref a :: st)) rfl rfl (hb C.2.1 hd)
  exact Go.move hN X' e' (Fr.snoc X' hN ha) st' (k h' W)
theorem g_newO (C : Cx p s m meth c Z code maxL own ret) {pc pc' : Nat} {Ls : Array Slot} {st : List Value} {Cl : String} {index n : Nat} (hd : I1 code pc (.new index) 3 pc') (w : (Cond.classLink own index Cl).before a0 Z = true) (wi : (Cond.instantiable Cl n).before a0 Z = true) (wz : (Cond.initialized Cl).before a0 Z = true) (hc : ck + 1 ≤ R.cells) (hl : cn + n ≤ R.slots) {ck' cn' : Nat} (hck : ck + 1 = ck') (hcn : cn + n = cn')
    (k : ∀ (h' : Heap) (a : Addr), a = h.size → Ext h h' → Exa Z h' a Cl → (∀ {O nm d : String} {ty : FieldType}, Laid Z a0 Cl O nm d → parseFieldDescriptor d = some ty → Fld Z h' a O nm d (defaultValue ty)) → Go p l e R s m args below meth c n0 K N Q h' ck' cn' (mkF m pc' Ls (.ref a :: st))) : Go p l e R s m args below meth c n0 K N Q h ck cn (mkF m pc Ls st) := fun T locs X eT hN => by
  obtain ⟨hd, rfl⟩ := hd
  subst hck hcn
  obtain ⟨T', h', X', e', E, A, D, -, st'⟩ := Jvm.RoadKit.newO X C.1 C.2.2.2.1 C.2.2.2.2.1 w wi wz eT (g := mkF m pc Ls st) rfl (hb C.2.1 hd) hc hl
  exact Go.move hN X' e' hN st' (k h' _ rfl E A D)
theorem g_initO (C : Cx p s m meth c Z code maxL own ret) {pc pc' : Nat} {Ls : Array Slot} {st : List Value} {a : Addr} {idx : Nat} (hd : I1 code pc (.invokespecial idx) 3 pc') (w1 : (Cond.methodLink own idx Lib.objectInit).before a0 Z = true) (w2 : (Cond.instanceMethod Lib.objectInit).before a0 Z = true) (w3 : (Cond.code Lib.objectInit ⟨#[0xb1]⟩ 1 none).before a0 Z = true) (hsz : Ls.size = maxL)
    (hf : 1 ≤ R.frames) (W : Nat) (hW : 2 * 0 + (st.map fun v => v.category).sum ≤ W) (hl : W + 12 ≤ R.locals) (k : Go p l e R s m args below meth c n0 K N Q h ck cn (mkF m pc' Ls st)) : Go p l e R s m args below meth c n0 K N Q h ck cn (mkF m pc Ls (.ref a :: st)) := fun T locs X eT hN => by
  obtain ⟨hd, rfl⟩ := hd
  obtain ⟨T', X', e', st'⟩ := Jvm.RoadKit.initO X C.1 C.2.2.2.1 C.2.2.2.2.1 w1 w2 w3 eT (g := mkF m pc Ls (.ref a :: st)) rfl (hsz.trans C.2.2.1.symm) rfl (hb C.2.1 hd) hf (W := W) hW hl
  exact Go.move hN X' e' hN st' k
theorem g_castY (C : Cx p s m meth c Z code maxL own ret) {pc pc' : Nat} {Ls : Array Slot} {st : List Value} {Kl : String} {index : Nat} {a : Addr} (hd : I1 code pc (.checkcast index) 3 pc') (w : (Cond.classLink own index Kl).before a0 Z = true) (F : Ins Z h a Kl true) (k : Go p l e R s m args below meth c n0 K N Q h ck cn (mkF m pc' Ls (.ref a :: st))) : Go p l e R s m args below meth c n0 K N Q h ck cn (mkF m pc Ls (.ref a :: st)) := fun T locs X eT hN => by
  obtain ⟨hd, rfl⟩ := hd
  obtain ⟨T', X', e', st'⟩ := Jvm.RoadKit.castY X C.1 C.2.2.2.1 C.2.2.2.2.1 w eT F (g := mkF m pc Ls (.ref a :: st)) rfl rfl (hb C.2.1 hd)
  exact Go.move hN X' e' hN st' k
theorem g_castNull (C : Cx p s m meth c Z code maxL own ret) {pc pc' : Nat} {Ls : Array Slot} {st : List Value} {index : Nat} (hd : I1 code pc (.checkcast index) 3 pc') (k : Go p l e R s m args below meth c n0 K N Q h ck cn (mkF m pc' Ls (.null :: st))) : Go p l e R s m args below meth c n0 K N Q h ck cn (mkF m pc Ls (.null :: st)) := by
  obtain ⟨hd, rfl⟩ := hd
  exact Go.step (fun T locs X _ t k => X.checkcastNull C.1 (g := mkF m pc Ls (.null :: st)) rfl rfl (hb C.2.1 hd) _ k) k
theorem g_instY (C : Cx p s m meth c Z code maxL own ret) {pc pc' : Nat} {Ls : Array Slot} {st : List Value} {Kl : String} {index : Nat} {a : Addr} (hd : I1 code pc (.instanceof index) 3 pc') (w : (Cond.classLink own index Kl).before a0 Z = true) (F : Ins Z h a Kl true) (k : Go p l e R s m args below meth c n0 K N Q h ck cn (mkF m pc' Ls (.int 1 :: st))) : Go p l e R s m args below meth c n0 K N Q h ck cn (mkF m pc Ls (.ref a :: st)) := fun T locs X eT hN => by
  obtain ⟨hd, rfl⟩ := hd
  obtain ⟨T', X', e', st'⟩ := Jvm.RoadKit.instY X C.1 C.2.2.2.1 C.2.2.2.2.1 w eT F (g := mkF m pc Ls (.ref a :: st)) rfl rfl (hb C.2.1 hd)
  exact Go.move hN X' e' hN st' k
theorem g_instNull (C : Cx p s m meth c Z code maxL own ret) {pc pc' : Nat} {Ls : Array Slot} {st : List Value} {index : Nat} (hd : I1 code pc (.instanceof index) 3 pc') (k : Go p l e R s m args below meth c n0 K N Q h ck cn (mkF m pc' Ls (.int 0 :: st))) : Go p l e R s m args below meth c n0 K N Q h ck cn (mkF m pc Ls (.null :: st)) := by
  obtain ⟨hd, rfl⟩ := hd
  exact Go.step (fun T locs X _ t k => X.instanceofNull C.1 (g := mkF m pc Ls (.null :: st)) rfl rfl (hb C.2.1 hd) _ k) k
/-- an array of n places: what each holds -/
def AV (Z : State) (h : Heap) (a : Addr) (ty : FieldType) (n : Nat) (f : Nat → Value) : Prop := ∃ c : Cell, Arr Z h a c ty ∧ c.slots.size = n ∧ n < 2 ^ 31 ∧ ∀ i, i < n → c.slots[i]? = some (f i)
theorem AV.lt {a : Addr} {ty : FieldType} {n : Nat} {f : Nat → Value} (F : AV Z h a ty n f) : a < h.size := by obtain ⟨c, A, -⟩ := F; exact A.lt
theorem AV.ext {h' : Heap} {a : Addr} {ty : FieldType} {n : Nat} {f : Nat → Value} (F : AV Z h a ty n f) (E : Ext h h') : AV Z h' a ty n f := by obtain ⟨c, A, r⟩ := F; exact ⟨c, A.ext E, r⟩
theorem AV.other {h' : Heap} {a b : Addr} {sl : Nat} {v : Value} {ty : FieldType} {n : Nat} {f : Nat → Value} (F : AV Z h b ty n f) (W : Wr h h' a sl v) (q : b ≠ a) : AV Z h' b ty n f := by obtain ⟨c, A, r⟩ := F; exact ⟨c, A.other W q, r⟩
theorem AV.keep {h' : Heap} {ws : List Addr} {a : Addr} {ty : FieldType} {n : Nat} {f : Nat → Value} (F : AV Z h a ty n f) (K : Keep h h' ws) (q : a ∉ ws) : AV Z h' a ty n f := by obtain ⟨c, A, r⟩ := F; exact ⟨c, ⟨K.2.1 a c A.1 q, A.2⟩, r⟩
theorem AV.congr {a : Addr} {ty : FieldType} {n : Nat} {f g : Nat → Value} (F : AV Z h a ty n f) (q : ∀ i, i < n → f i = g i) : AV Z h a ty n g := by obtain ⟨c, A, r1, r2, r3⟩ := F; exact ⟨c, A, r1, r2, fun i hi => by rw [← q i hi]; exact r3 i hi⟩
theorem AV.ofNew {a : Addr} {ty : FieldType} {cA : ClassId} {z : Int32} (A : Arr Z h a (newA cA ty z) ty) (q : ¬ z < 0) : AV Z h a ty z.toNatClampNeg (fun _ => defaultValue ty) :=
  ⟨_, A, sz_new _ _ _, (back32 q).2, fun i hi => by simp [newA, hi]⟩
theorem AV.set {h' : Heap} {a : Addr} {ty : FieldType} {n : Nat} {f : Nat → Value} {j : Nat} {v : Value} (F : AV Z h a ty n f) (W : Wr h h' a j v) : AV Z h' a ty n (fun i => if i = j then v else f i) := by
  obtain ⟨c, A, r1, r2, r3⟩ := F
  obtain ⟨cell, w1, w2, w3, w4⟩ := W
  cases w1.symm.trans A.1
  refine ⟨c.setSlot j v, A.same ⟨c, w1, w2, w3, w4⟩, by rw [sz_set, r1], r2, fun i hi => ?_⟩
  by_cases q : i = j
  · subst q; simp [Cell.setSlot, w3]
  · simp only [q, if_false]; rw [← r3 i hi]; exact Array.getElem?_setIfInBounds_ne (Ne.symm q)
/-- the place lies inside -/
def Inb (j : Int32) (n : Nat) : Prop := ¬ j < 0 ∧ j.toNatClampNeg < n
theorem Inb.not {j : Int32} {n : Nat} (q : Inb j n) : ¬ (j < 0 ∨ n ≤ j.toNatClampNeg) := fun r => r.elim q.1 (fun z => Nat.not_lt.mpr z q.2)
theorem inb_int {j : Int32} {n : Nat} (h1 : 0 ≤ j.toInt) (h2 : j.toInt < n) : Inb j n := ⟨by simp only [Int32.lt_iff_toInt_lt, Int32.reduceToInt]; omega, by simp only [Int32.toNatClampNeg]; omega⟩
theorem g_newP (C : Cx p s m meth c Z code maxL own ret) {pc pc' : Nat} {Ls : Array Slot} {st : List Value} {aty : ArrayType} {n : Int32} (hd : I1 code pc (.newarray aty) 2 pc') (w : (Cond.arrayClass (newarray.typeOf aty)).before a0 Z = true) (hn : ¬ n < 0) (cap : Nat) (hcap : n.toNatClampNeg ≤ cap) (hb8 : cap * 8 ≤ 536870912) (hc : ck + 1 ≤ R.cells) (hl : cn + cap ≤ R.slots) {ck' cn' : Nat} (hck : ck + 1 = ck') (hcn : cn + cap = cn')
    (k : ∀ (h' : Heap) (a : Addr), a = h.size → Ext h h' → AV Z h' a (newarray.typeOf aty) n.toNatClampNeg (fun _ => defaultValue (newarray.typeOf aty)) → Go p l e R s m args below meth c n0 K N Q h' ck' cn' (mkF m pc' Ls (.ref a :: st))) : Go p l e R s m args below meth c n0 K N Q h ck cn (mkF m pc Ls (.int n :: st)) := fun T locs X eT hN => by
  obtain ⟨hd, rfl⟩ := hd
  subst hck hcn
  obtain ⟨T', h', cA, X', e', E, A, st'⟩ := Jvm.RoadKit.newP X C.1 C.2.2.2.1 w eT (g := mkF m pc Ls (.int n :: st)) rfl (hb C.2.1 hd) rfl hn hcap hb8 hc hl
  exact Go.move hN X' e' hN st' (k h' _ rfl E (AV.ofNew A hn))
theorem g_alen (C : Cx p s m meth c Z code maxL own ret) {pc pc' : Nat} {Ls : Array Slot} {st : List Value} {a : Addr} {ty : FieldType} {n : Nat} {f : Nat → Value} (z : Int32) (hd : I1 code pc .arraylength 1 pc') (F : AV Z h a ty n f) (hz : n.toInt32 = z) (k : Go p l e R s m args below meth c n0 K N Q h ck cn (mkF m pc' Ls (.int z :: st))) : Go p l e R s m args below meth c n0 K N Q h ck cn (mkF m pc Ls (.ref a :: st)) := by
  obtain ⟨hd, rfl⟩ := hd
  obtain ⟨cl, A, r1, r2, r3⟩ := F
  subst hz
  exact Go.step (fun T locs X eT t k => X.arraylength C.1 (by rw [eT]; exact A.1) (State.isArrayOf_alike C.2.2.2.1.alike A.2.1) (g := mkF m pc Ls (.ref a :: st)) rfl rfl (hb C.2.1 hd) _ (by rw [r1]; exact k)) k
theorem g_iald (C : Cx p s m meth c Z code maxL own ret) {pc pc' : Nat} {Ls : Array Slot} {st : List Value} {a : Addr} {j : Int32} {n : Nat} {f : Nat → Value} (v : Value) (hd : I1 code pc .iaload 1 pc') (F : AV Z h a .int n f) (hj : Inb j n) (hv : f j.toNatClampNeg = v) (k : Go p l e R s m args below meth c n0 K N Q h ck cn (mkF m pc' Ls (v :: st))) : Go p l e R s m args below meth c n0 K N Q h ck cn (mkF m pc Ls (.int j :: .ref a :: st)) := by
  obtain ⟨hd, rfl⟩ := hd
  obtain ⟨cl, A, r1, r2, r3⟩ := F
  subst hv
  exact Go.step (fun T locs X eT t k => X.iaload C.1 (by rw [eT]; exact A.1) (State.isArrayOf_alike C.2.2.2.1.alike A.2.1) A.2.2 (by rw [r1]; exact hj.not) (r3 _ hj.2) (g := mkF m pc Ls (.int j :: .ref a :: st)) rfl rfl (hb C.2.1 hd) _ k) k
theorem g_lald (C : Cx p s m meth c Z code maxL own ret) {pc pc' : Nat} {Ls : Array Slot} {st : List Value} {a : Addr} {j : Int32} {n : Nat} {f : Nat → Value} (v : Value) (hd : I1 code pc .laload 1 pc') (F : AV Z h a .long n f) (hj : Inb j n) (hv : f j.toNatClampNeg = v) (k : Go p l e R s m args below meth c n0 K N Q h ck cn (mkF m pc' Ls (v :: st))) : Go p l e R s m args below meth c n0 K N Q h ck cn (mkF m pc Ls (.int j :: .ref a :: st)) := by
  obtain ⟨hd, rfl⟩ := hd
  obtain ⟨cl, A, r1, r2, r3⟩ := F
  subst hv
  exact Go.step (fun T locs X eT t k => X.laload C.1 (by rw [eT]; exact A.1) (State.isArrayOf_alike C.2.2.2.1.alike A.2.1) A.2.2 (by rw [r1]; exact hj.not) (r3 _ hj.2) (g := mkF m pc Ls (.int j :: .ref a :: st)) rfl rfl (hb C.2.1 hd) _ k) k
theorem g_cald (C : Cx p s m meth c Z code maxL own ret) {pc pc' : Nat} {Ls : Array Slot} {st : List Value} {a : Addr} {j : Int32} {n : Nat} {f : Nat → Value} (v : Value) (hd : I1 code pc .caload 1 pc') (F : AV Z h a .char n f) (hj : Inb j n) (hv : f j.toNatClampNeg = v) (k : Go p l e R s m args below meth c n0 K N Q h ck cn (mkF m pc' Ls (v :: st))) : Go p l e R s m args below meth c n0 K N Q h ck cn (mkF m pc Ls (.int j :: .ref a :: st)) := by
  obtain ⟨hd, rfl⟩ := hd
  obtain ⟨cl, A, r1, r2, r3⟩ := F
  subst hv
  exact Go.step (fun T locs X eT t k => X.caload C.1 (by rw [eT]; exact A.1) (State.isArrayOf_alike C.2.2.2.1.alike A.2.1) A.2.2 (by rw [r1]; exact hj.not) (r3 _ hj.2) (g := mkF m pc Ls (.int j :: .ref a :: st)) rfl rfl (hb C.2.1 hd) _ k) k
theorem g_sald (C : Cx p s m meth c Z code maxL own ret) {pc pc' : Nat} {Ls : Array Slot} {st : List Value} {a : Addr} {j : Int32} {n : Nat} {f : Nat → Value} (v : Value) (hd : I1 code pc .saload 1 pc') (F : AV Z h a .short n f) (hj : Inb j n) (hv : f j.toNatClampNeg = v) (k : Go p l e R s m args below meth c n0 K N Q h ck cn (mkF m pc' Ls (v :: st))) : Go p l e R s m args below meth c n0 K N Q h ck cn (mkF m pc Ls (.int j :: .ref a :: st)) := by
  obtain ⟨hd, rfl⟩ := hd
  obtain ⟨cl, A, r1, r2, r3⟩ := F
  subst hv
  exact Go.step (fun T locs X eT t k => X.saload C.1 (by rw [eT]; exact A.1) (State.isArrayOf_alike C.2.2.2.1.alike A.2.1) A.2.2 (by rw [r1]; exact hj.not) (r3 _ hj.2) (g := mkF m pc Ls (.int j :: .ref a :: st)) rfl rfl (hb C.2.1 hd) _ k) k
theorem g_bald (C : Cx p s m meth c Z code maxL own ret) {pc pc' : Nat} {Ls : Array Slot} {st : List Value} {a : Addr} {j : Int32} {n : Nat} {f : Nat → Value} (v : Value) (hd : I1 code pc .baload 1 pc') (F : AV Z h a .byte n f) (hj : Inb j n) (hv : f j.toNatClampNeg = v) (k : Go p l e R s m args below meth c n0 K N Q h ck cn (mkF m pc' Ls (v :: st))) : Go p l e R s m args below meth c n0 K N Q h ck cn (mkF m pc Ls (.int j :: .ref a :: st)) := by
  obtain ⟨hd, rfl⟩ := hd
  obtain ⟨cl, A, r1, r2, r3⟩ := F
  subst hv
  exact Go.step (fun T locs X eT t k => X.baloadBytes C.1 (by rw [eT]; exact A.1) (State.isArrayOf_alike C.2.2.2.1.alike A.2.1) A.2.2 (by rw [r1]; exact hj.not) (r3 _ hj.2) (g := mkF m pc Ls (.int j :: .ref a :: st)) rfl rfl (hb C.2.1 hd) _ k) k
theorem g_zald (C : Cx p s m meth c Z code maxL own ret) {pc pc' : Nat} {Ls : Array Slot} {st : List Value} {a : Addr} {j : Int32} {n : Nat} {f : Nat → Value} (v : Value) (hd : I1 code pc .baload 1 pc') (F : AV Z h a .boolean n f) (hj : Inb j n) (hv : f j.toNatClampNeg = v) (k : Go p l e R s m args below meth c n0 K N Q h ck cn (mkF m pc' Ls (v :: st))) : Go p l e R s m args below meth c n0 K N Q h ck cn (mkF m pc Ls (.int j :: .ref a :: st)) := by
  obtain ⟨hd, rfl⟩ := hd
  obtain ⟨cl, A, r1, r2, r3⟩ := F
  subst hv
  exact Go.step (fun T locs X eT t k => X.baloadBooleans C.1 (by rw [eT]; exact A.1) (State.isArrayOf_alike C.2.2.2.1.alike A.2.1) A.2.2 (by rw [r1]; exact hj.not) (r3 _ hj.2) (g := mkF m pc Ls (.int j :: .ref a :: st)) rfl rfl (hb C.2.1 hd) _ k) k
theorem g_aald (C : Cx p s m meth c Z code maxL own ret) {pc pc' : Nat} {Ls : Array Slot} {st : List Value} {a : Addr} {j : Int32} {ty : FieldType} {n : Nat} {f : Nat → Value} (v : Value) (hd : I1 code pc .aaload 1 pc') (F : AV Z h a ty n f) (hj : Inb j n) (hv : f j.toNatClampNeg = v) (ht : ty.isReference = true) (k : Go p l e R s m args below meth c n0 K N Q h ck cn (mkF m pc' Ls (v :: st))) : Go p l e R s m args below meth c n0 K N Q h ck cn (mkF m pc Ls (.int j :: .ref a :: st)) := by
  obtain ⟨hd, rfl⟩ := hd
  obtain ⟨cl, A, r1, r2, r3⟩ := F
  subst hv
  exact Go.step (fun T locs X eT t k => X.aaload C.1 (by rw [eT]; exact A.1) (State.isArrayOf_alike C.2.2.2.1.alike A.2.1) ht A.2.2 (by rw [r1]; exact hj.not) (r3 _ hj.2) (g := mkF m pc Ls (.int j :: .ref a :: st)) rfl rfl (hb C.2.1 hd) _ k) k
theorem g_iast (C : Cx p s m meth c Z code maxL own ret) {pc pc' : Nat} {Ls : Array Slot} {st : List Value} {a : Addr} {j : Int32} {x : Int32} {n : Nat} {f : Nat → Value} (hd : I1 code pc .iastore 1 pc') (F : AV Z h a .int n f) (hj : Inb j n) (ha : n0 ≤ a)
    (k : ∀ h', Wr h h' a j.toNatClampNeg (.int x) → AV Z h' a .int n (fun i => if i = j.toNatClampNeg then .int x else f i) → Go p l e R s m args below meth c n0 K N Q h' ck cn (mkF m pc' Ls st)) : Go p l e R s m args below meth c n0 K N Q h ck cn (mkF m pc Ls (.int x :: .int j :: .ref a :: st)) := fun T locs X eT hN => by
  obtain ⟨hd, rfl⟩ := hd
  have F' := F
  obtain ⟨cl, A, r1, r2, r3⟩ := F
  obtain ⟨T', h', X', e', W, st'⟩ := Jvm.RoadKit.stI X C.1 C.2.2.2.1 eT A (by rw [r1]; exact hj.not) (g := mkF m pc Ls (.int x :: .int j :: .ref a :: st)) rfl rfl (hb C.2.1 hd)
  exact Go.move hN X' e' (Fr.snoc X' hN ha) st' (k h' W (F'.set W))
theorem g_last (C : Cx p s m meth c Z code maxL own ret) {pc pc' : Nat} {Ls : Array Slot} {st : List Value} {a : Addr} {j : Int32} {x : Int64} {n : Nat} {f : Nat → Value} (hd : I1 code pc .lastore 1 pc') (F : AV Z h a .long n f) (hj : Inb j n) (ha : n0 ≤ a)
    (k : ∀ h', Wr h h' a j.toNatClampNeg (.long x) → AV Z h' a .long n (fun i => if i = j.toNatClampNeg then .long x else f i) → Go p l e R s m args below meth c n0 K N Q h' ck cn (mkF m pc' Ls st)) : Go p l e R s m args below meth c n0 K N Q h ck cn (mkF m pc Ls (.long x :: .int j :: .ref a :: st)) := fun T locs X eT hN => by
  obtain ⟨hd, rfl⟩ := hd
  have F' := F
  obtain ⟨cl, A, r1, r2, r3⟩ := F
  obtain ⟨T', h', X', e', W, st'⟩ := Jvm.RoadKit.stJ X C.1 C.2.2.2.1 eT A (by rw [r1]; exact hj.not) (g := mkF m pc Ls (.long x :: .int j :: .ref a :: st)) rfl rfl (hb C.2.1 hd)
  exact Go.move hN X' e' (Fr.snoc X' hN ha) st' (k h' W (F'.set W))
theorem g_cast (C : Cx p s m meth c Z code maxL own ret) {pc pc' : Nat} {Ls : Array Slot} {st : List Value} {a : Addr} {j : Int32} {x : Int32} {n : Nat} {f : Nat → Value} (hd : I1 code pc .castore 1 pc') (F : AV Z h a .char n f) (hj : Inb j n) (ha : n0 ≤ a)
    (k : ∀ h', Wr h h' a j.toNatClampNeg (.int (nar .char x)) → AV Z h' a .char n (fun i => if i = j.toNatClampNeg then .int (nar .char x) else f i) → Go p l e R s m args below meth c n0 K N Q h' ck cn (mkF m pc' Ls st)) : Go p l e R s m args below meth c n0 K N Q h ck cn (mkF m pc Ls (.int x :: .int j :: .ref a :: st)) := fun T locs X eT hN => by
  obtain ⟨hd, rfl⟩ := hd
  have F' := F
  obtain ⟨cl, A, r1, r2, r3⟩ := F
  obtain ⟨T', h', X', e', W, st'⟩ := Jvm.RoadKit.stC X C.1 C.2.2.2.1 eT A (by rw [r1]; exact hj.not) (g := mkF m pc Ls (.int x :: .int j :: .ref a :: st)) rfl rfl (hb C.2.1 hd)
  exact Go.move hN X' e' (Fr.snoc X' hN ha) st' (k h' W (F'.set W))
theorem g_sast (C : Cx p s m meth c Z code maxL own ret) {pc pc' : Nat} {Ls : Array Slot} {st : List Value} {a : Addr} {j : Int32} {x : Int32} {n : Nat} {f : Nat → Value} (hd : I1 code pc .sastore 1 pc') (F : AV Z h a .short n f) (hj : Inb j n) (ha : n0 ≤ a)
    (k : ∀ h', Wr h h' a j.toNatClampNeg (.int (nar .short x)) → AV Z h' a .short n (fun i => if i = j.toNatClampNeg then .int (nar .short x) else f i) → Go p l e R s m args below meth c n0 K N Q h' ck cn (mkF m pc' Ls st)) : Go p l e R s m args below meth c n0 K N Q h ck cn (mkF m pc Ls (.int x :: .int j :: .ref a :: st)) := fun T locs X eT hN => by
  obtain ⟨hd, rfl⟩ := hd
  have F' := F
  obtain ⟨cl, A, r1, r2, r3⟩ := F
  obtain ⟨T', h', X', e', W, st'⟩ := Jvm.RoadKit.stS X C.1 C.2.2.2.1 eT A (by rw [r1]; exact hj.not) (g := mkF m pc Ls (.int x :: .int j :: .ref a :: st)) rfl rfl (hb C.2.1 hd)
  exact Go.move hN X' e' (Fr.snoc X' hN ha) st' (k h' W (F'.set W))
theorem g_bast (C : Cx p s m meth c Z code maxL own ret) {pc pc' : Nat} {Ls : Array Slot} {st : List Value} {a : Addr} {j : Int32} {x : Int32} {n : Nat} {f : Nat → Value} (hd : I1 code pc .bastore 1 pc') (F : AV Z h a .byte n f) (hj : Inb j n) (ha : n0 ≤ a)
    (k : ∀ h', Wr h h' a j.toNatClampNeg (.int (nar .byte x)) → AV Z h' a .byte n (fun i => if i = j.toNatClampNeg then .int (nar .byte x) else f i) → Go p l e R s m args below meth c n0 K N Q h' ck cn (mkF m pc' Ls st)) : Go p l e R s m args below meth c n0 K N Q h ck cn (mkF m pc Ls (.int x :: .int j :: .ref a :: st)) := fun T locs X eT hN => by
  obtain ⟨hd, rfl⟩ := hd
  have F' := F
  obtain ⟨cl, A, r1, r2, r3⟩ := F
  obtain ⟨T', h', X', e', W, st'⟩ := Jvm.RoadKit.stB X C.1 C.2.2.2.1 eT A (by rw [r1]; exact hj.not) (g := mkF m pc Ls (.int x :: .int j :: .ref a :: st)) rfl rfl (hb C.2.1 hd)
  exact Go.move hN X' e' (Fr.snoc X' hN ha) st' (k h' W (F'.set W))
theorem g_zast (C : Cx p s m meth c Z code maxL own ret) {pc pc' : Nat} {Ls : Array Slot} {st : List Value} {a : Addr} {j : Int32} {x : Int32} {n : Nat} {f : Nat → Value} (hd : I1 code pc .bastore 1 pc') (F : AV Z h a .boolean n f) (hj : Inb j n) (ha : n0 ≤ a)
    (k : ∀ h', Wr h h' a j.toNatClampNeg (.int (nar .boolean x)) → AV Z h' a .boolean n (fun i => if i = j.toNatClampNeg then .int (nar .boolean x) else f i) → Go p l e R s m args below meth c n0 K N Q h' ck cn (mkF m pc' Ls st)) : Go p l e R s m args below meth c n0 K N Q h ck cn (mkF m pc Ls (.int x :: .int j :: .ref a :: st)) := fun T locs X eT hN => by
  obtain ⟨hd, rfl⟩ := hd
  have F' := F
  obtain ⟨cl, A, r1, r2, r3⟩ := F
  obtain ⟨T', h', X', e', W, st'⟩ := Jvm.RoadKit.stZ X C.1 C.2.2.2.1 eT A (by rw [r1]; exact hj.not) (g := mkF m pc Ls (.int x :: .int j :: .ref a :: st)) rfl rfl (hb C.2.1 hd)
  exact Go.move hN X' e' (Fr.snoc X' hN ha) st' (k h' W (F'.set W))
theorem g_callS (C : Cx p s m meth c Z code maxL own ret) {pc pc' : Nat} {Ls : Array Slot} {y : MethodName} {ycode : ByteArray} {ymax : Nat} {yret : Option FieldType} {rm : Room} {as' : Array Value} {Q' : Option Value → Heap → Prop} {index : Nat} (hC : Ctr l Z y ycode ymax yret rm as' h n0 Q') (hd : I1 code pc (.invokestatic index) 3 pc') (w1 : (Cond.methodLink own index y).before a0 Z = true) (w2 : (Cond.static y).before a0 Z = true) (w3 : (Cond.initialized y.cls).before a0 Z = true) (w4 : (Cond.code y ycode ymax yret).before a0 Z = true) (hy : y.cls ≠ "java/lang/invoke/MethodHandle" ∧ y.cls ≠ "java/lang/invoke/VarHandle")
    {argsL st rest : List Value} (hst : st = argsL.reverse ++ rest) (has : argsL.toArray = as') {ps : List FieldType} {r : Option FieldType} (hpd : parseMethodDescriptor y.desc = some ⟨ps, r⟩) (hlen : argsL.length = ps.length) (hsz : Ls.size = maxL) (W : Nat) (hW : 2 * 0 + (rest.map fun v => v.category).sum ≤ W)
    (hf : rm.frames + 1 ≤ R.frames) (hl : W + (ymax + 11) + rm.locals ≤ R.locals) (hc : ck + rm.cells ≤ R.cells) (hs : cn + rm.slots ≤ R.slots) {ck' cn' : Nat} (hck : ck + rm.cells = ck') (hcn : cn + rm.slots = cn')
    (k : ∀ v h', Q' v h' → Go p l e R s m args below meth c n0 K N Q h' ck' cn' (mkF m pc' Ls (v.toList ++ rest))) : Go p l e R s m args below meth c n0 K N Q h ck cn (mkF m pc Ls st) := fun T locs X eT hN => by
  obtain ⟨hd, rfl⟩ := hd
  subst hck hcn hst
  obtain ⟨v, _, ⟨T', L', k', n'⟩, -, X', ⟨Lc, hQ, l1, l2, l3⟩, st'⟩ := Jvm.LawKit.callS X C.1 C.2.2.2.2.1 (mvT C.2.2.2.1 w1) (mvT C.2.2.2.1 w2) (mvT C.2.2.2.1 w3) (mvT C.2.2.2.1 w4) hy (backOf (W := W) (Q := fun v h L => Q' v h ∧ Fr n0 L) (hC []) C.2.2.2.1 w4 w3 hf hl) (g := mkF m pc Ls (argsL.reverse ++ rest)) rfl (hsz.trans C.2.2.1.symm) (argsL := argsL) (rest := rest) (lenOf hpd hlen) rfl hW (hb C.2.1 hd) (fun _ _ => ⟨has, eT, hc, hs⟩)
  dsimp only [Pt.U, Pt.locs, Pt.cells, Pt.slots] at X' l1 l2 l3 st' hQ
  subst l1 l2 l3
  exact Go.move hN X' rfl (Fr.app hN hQ.2) st' (k v _ hQ.1)
theorem g_callI (C : Cx p s m meth c Z code maxL own ret) {pc pc' : Nat} {Ls : Array Slot} {y : MethodName} {ycode : ByteArray} {ymax : Nat} {yret : Option FieldType} {rm : Room} {as' : Array Value} {Q' : Option Value → Heap → Prop} {index : Nat} (hC : Ctr l Z y ycode ymax yret rm as' h n0 Q') {a : Addr} (hd : I1 code pc (.invokespecial index) 3 pc') (hy1 : y.name = "<init>") (w1 : (Cond.methodLink own index y).before a0 Z = true) (w2 : (Cond.instanceMethod y).before a0 Z = true) (w3 : (Cond.initialized y.cls).before a0 Z = true) (w4 : (Cond.code y ycode ymax none).before a0 Z = true) (hyr : yret = none) (hy : y.cls ≠ "java/lang/invoke/MethodHandle" ∧ y.cls ≠ "java/lang/invoke/VarHandle")
    {argsL st rest : List Value} (hst : st = argsL.reverse ++ .ref a :: rest) (has : (.ref a :: argsL).toArray = as') {ps : List FieldType} {r : Option FieldType} (hpd : parseMethodDescriptor y.desc = some ⟨ps, r⟩) (hlen : argsL.length = ps.length) (hsz : Ls.size = maxL) (W : Nat) (hW : 2 * 0 + (rest.map fun v => v.category).sum ≤ W)
    (hf : rm.frames + 1 ≤ R.frames) (hl : W + (ymax + 11) + rm.locals ≤ R.locals) (hc : ck + rm.cells ≤ R.cells) (hs : cn + rm.slots ≤ R.slots) {ck' cn' : Nat} (hck : ck + rm.cells = ck') (hcn : cn + rm.slots = cn')
    (k : ∀ v h', Q' v h' → Go p l e R s m args below meth c n0 K N Q h' ck' cn' (mkF m pc' Ls (v.toList ++ rest))) : Go p l e R s m args below meth c n0 K N Q h ck cn (mkF m pc Ls st) := fun T locs X eT hN => by
  obtain ⟨hd, rfl⟩ := hd
  subst hck hcn hst
  subst hyr
  obtain ⟨v, _, ⟨T', L', k', n'⟩, -, X', ⟨Lc, hQ, l1, l2, l3⟩, st'⟩ := X.specialBack C.1 hy1 C.2.2.2.2.1 (mvT C.2.2.2.1 w1) (mvT C.2.2.2.1 w2) (mvT C.2.2.2.1 w4) hy (backOf (W := W) (Q := fun v h L => Q' v h ∧ Fr n0 L) (hC []) C.2.2.2.1 w4 w3 hf hl) (g := mkF m pc Ls (argsL.reverse ++ .ref a :: rest)) rfl (hsz.trans C.2.2.1.symm) (Steps.refl _) (a := a) (argsL := argsL) (rest := rest) (lenOf hpd hlen) rfl hW (hb C.2.1 hd) (fun _ _ => ⟨has, eT, hc, hs⟩)
  dsimp only [Pt.U, Pt.locs, Pt.cells, Pt.slots] at X' l1 l2 l3 st' hQ
  subst l1 l2 l3
  exact Go.move hN X' rfl (Fr.app hN hQ.2) (fun _ z => st'.trans z) (k v _ hQ.1)
theorem g_callV (C : Cx p s m meth c Z code maxL own ret) {pc pc' : Nat} {Ls : Array Slot} {y : MethodName} {ycode : ByteArray} {ymax : Nat} {yret : Option FieldType} {rm : Room} {as' : Array Value} {Q' : Option Value → Heap → Prop} {index : Nat} (hC : Ctr l Z y ycode ymax yret rm as' h n0 Q') {a : Addr} {x : MethodName} {Cl : String} (hd : I1 code pc (.invokevirtual index) 3 pc') (w1 : (Cond.methodLink own index x).before a0 Z = true) (w2 : (Cond.declares x).before a0 Z = true) (hnf : ∀ s : State, Z.Warmed39 s.vm → NotFace s x) (w5 : (Cond.selects Cl x y).before a0 Z = true) (w6 : (Cond.instanceMethod y).before a0 Z = true) (w3 : (Cond.initialized y.cls).before a0 Z = true) (w4 : (Cond.code y ycode ymax yret).before a0 Z = true) (hy : x.cls ≠ "java/lang/invoke/MethodHandle" ∧ x.cls ≠ "java/lang/invoke/VarHandle") (E : Exa Z h a Cl)
    {argsL st rest : List Value} (hst : st = argsL.reverse ++ .ref a :: rest) (has : (.ref a :: argsL).toArray = as') {ps : List FieldType} {r : Option FieldType} (hpd : parseMethodDescriptor x.desc = some ⟨ps, r⟩) (hlen : argsL.length = ps.length) (hsz : Ls.size = maxL) (W : Nat) (hW : 2 * 0 + (rest.map fun v => v.category).sum ≤ W)
    (hf : rm.frames + 1 ≤ R.frames) (hl : W + (ymax + 11) + rm.locals ≤ R.locals) (hc : ck + rm.cells ≤ R.cells) (hs : cn + rm.slots ≤ R.slots) {ck' cn' : Nat} (hck : ck + rm.cells = ck') (hcn : cn + rm.slots = cn')
    (k : ∀ v h', Q' v h' → Go p l e R s m args below meth c n0 K N Q h' ck' cn' (mkF m pc' Ls (v.toList ++ rest))) : Go p l e R s m args below meth c n0 K N Q h ck cn (mkF m pc Ls st) := fun T locs X eT hN => by
  obtain ⟨hd, rfl⟩ := hd
  subst hck hcn hst
  obtain ⟨cq, kq, q1, q2, q3⟩ := isOf C.2.2.2.1 eT E
  obtain ⟨v, _, ⟨T', L', k', n'⟩, -, X', ⟨Lc, hQ, l1, l2, l3⟩, st'⟩ := X.virtualBack C.1 (y := x) (z := y) C.2.2.2.2.1 (mvT C.2.2.2.1 w1) (mvT C.2.2.2.1 w2) (hnf s C.2.2.2.1) (mvT C.2.2.2.1 w5) (mvT C.2.2.2.1 w6) hy (backOf (W := W) (Q := fun v h L => Q' v h ∧ Fr n0 L) (hC []) C.2.2.2.1 w4 w3 hf hl) q1 q3 (g := mkF m pc Ls (argsL.reverse ++ .ref a :: rest)) rfl (hsz.trans C.2.2.1.symm) (Steps.refl _) (argsL := argsL) (rest := rest) (lenOf hpd hlen) rfl hW (hb C.2.1 hd) (fun _ _ => ⟨has, eT, hc, hs⟩)
  dsimp only [Pt.U, Pt.locs, Pt.cells, Pt.slots] at X' l1 l2 l3 st' hQ
  subst l1 l2 l3
  exact Go.move hN X' rfl (Fr.app hN hQ.2) (fun _ z => st'.trans z) (k v _ hQ.1)
theorem g_callP (C : Cx p s m meth c Z code maxL own ret) {pc pc' : Nat} {Ls : Array Slot} {y : MethodName} {ycode : ByteArray} {ymax : Nat} {yret : Option FieldType} {rm : Room} {as' : Array Value} {Q' : Option Value → Heap → Prop} {index : Nat} (hC : Ctr l Z y ycode ymax yret rm as' h n0 Q') {a : Addr} {Cl : String} (hd : I1 code pc (.invokevirtual index) 3 pc') (w1 : (Cond.methodLink own index y).before a0 Z = true) (w2 : (Cond.instanceMethod y).before a0 Z = true) (w5 : (Cond.selects y.cls y y).before a0 Z = true) (w6 : (Cond.privateMethod y).before a0 Z = true) (w3 : (Cond.initialized y.cls).before a0 Z = true) (w4 : (Cond.code y ycode ymax yret).before a0 Z = true) (hy : y.cls ≠ "java/lang/invoke/MethodHandle" ∧ y.cls ≠ "java/lang/invoke/VarHandle") (E : Exa Z h a Cl)
    {argsL st rest : List Value} (hst : st = argsL.reverse ++ .ref a :: rest) (has : (.ref a :: argsL).toArray = as') {ps : List FieldType} {r : Option FieldType} (hpd : parseMethodDescriptor y.desc = some ⟨ps, r⟩) (hlen : argsL.length = ps.length) (hsz : Ls.size = maxL) (W : Nat) (hW : 2 * 0 + (rest.map fun v => v.category).sum ≤ W)
    (hf : rm.frames + 1 ≤ R.frames) (hl : W + (ymax + 11) + rm.locals ≤ R.locals) (hc : ck + rm.cells ≤ R.cells) (hs : cn + rm.slots ≤ R.slots) {ck' cn' : Nat} (hck : ck + rm.cells = ck') (hcn : cn + rm.slots = cn')
    (k : ∀ v h', Q' v h' → Go p l e R s m args below meth c n0 K N Q h' ck' cn' (mkF m pc' Ls (v.toList ++ rest))) : Go p l e R s m args below meth c n0 K N Q h ck cn (mkF m pc Ls st) := fun T locs X eT hN => by
  obtain ⟨hd, rfl⟩ := hd
  subst hck hcn hst
  obtain ⟨cq, q1, q2⟩ := E.cell
  obtain ⟨v, _, ⟨T', L', k', n'⟩, -, X', ⟨Lc, hQ, l1, l2, l3⟩, st'⟩ := X.privateBack C.1 (y := y) C.2.2.2.2.1 (mvT C.2.2.2.1 w1) (mvT C.2.2.2.1 w2) (mvT C.2.2.2.1 w5) (Cond.privateMethod_at (mvP C.2.2.2.1 w6 (args := #[]))) (mvT C.2.2.2.1 w4) hy (backOf (W := W) (Q := fun v h L => Q' v h ∧ Fr n0 L) (hC []) C.2.2.2.1 w4 w3 hf hl) (g := mkF m pc Ls (argsL.reverse ++ .ref a :: rest)) rfl (hsz.trans C.2.2.1.symm) (Steps.refl _) (a := a) (by rw [eT]; exact q1) q2 (argsL := argsL) (rest := rest) (lenOf hpd hlen) rfl hW (hb C.2.1 hd) (fun _ _ => ⟨has, eT, hc, hs⟩)
  dsimp only [Pt.U, Pt.locs, Pt.cells, Pt.slots] at X' l1 l2 l3 st' hQ
  subst l1 l2 l3
  exact Go.move hN X' rfl (Fr.app hN hQ.2) (fun _ z => st'.trans z) (k v _ hQ.1)
end
end Jvm.OwnGo
namespace Jvm.OwnGo
open Jvm.RoadKit
theorem nar_b (x : Int32) : nar .boolean x = x &&& 1 := rfl
theorem nbT {P : Prop} [Decidable P] : nar .boolean (if P then (1 : Int32) else (0 : Int32)) = 1 ↔ P := by
  by_cases h : P
  · simp only [if_pos h]; exact ⟨fun _ => h, fun _ => rfl⟩
  · simp only [if_neg h]; exact ⟨fun q => absurd q (by decide), fun q => absurd q h⟩
theorem own_nat {i : Nat} (h : i < 2147483648) : i.toInt32.toInt = i := len_toInt h
theorem own_cl {i : Nat} (h : i < 2147483648) : i.toInt32.toNatClampNeg = i := by simp only [Int32.toNatClampNeg, own_nat h]; omega
theorem own_lt {i n : Nat} (hi : i < 2147483648) (hn : n < 2147483648) : i.toInt32 < n.toInt32 ↔ i < n := by
  rw [Int32.lt_iff_toInt_lt, own_nat hi, own_nat hn]; omega
theorem own_inN {i n : Nat} (hi : i < 2147483648) (h : i < n) : Inb i.toInt32 n := inb_int (by rw [own_nat hi]; omega) (by rw [own_nat hi]; omega)
theorem own_rd {α : Type} (F : Nat → α) {i : Nat} (h : i < 2147483648) : F i.toInt32.toNatClampNeg = F i := by rw [own_cl h]
theorem own_succ {i : Nat} (h : i < 2147483647) : i.toInt32 + (1 : Int32) = (i + 1).toInt32 := by
  rw [← Int32.toInt_inj]
  have h1 := c_iadd i.toInt32 1
  have h2 := rng32 (i.toInt32 + 1)
  have h3 : (1 : Int32).toInt = 1 := rfl
  rw [own_nat (by omega), h3] at h1
  rw [own_nat (by omega)]
  omega
theorem AV.small {Z : State} {h : Heap} {a : Addr} {ty : ClassFile.FieldType} {n : Nat} {f : Nat → Value} (V : AV Z h a ty n f) : n < 2147483648 := by
  obtain ⟨c, -, -, r, -⟩ := V; exact r
theorem own_inb {Z : State} {h : Heap} {a : Addr} {ty : ClassFile.FieldType} {n : Nat} {f : Nat → Value} (V : AV Z h a ty n f) {j : Int32} (h0 : ¬ (j < (0 : Int32))) (h1 : j < n.toInt32) : Inb j n := by
  have hn := V.small
  have e0 : (0 : Int32).toInt = 0 := rfl
  rw [Int32.lt_iff_toInt_lt] at h0 h1
  rw [own_nat hn] at h1
  exact inb_int (by omega) (by omega)
end Jvm.OwnGo
namespace Jvm.Pilot.@@N@@
open Jvm Jvm.ClassFile Sem Op Lib Jvm.Free Jvm.Stand Jvm.LawKit Jvm.RoadKit Bundle Jvm.Pilot.@@N@@.Jvm.D
open Jvm.OwnGo
theorem pn0 : plainFor (⟨"com/example/ends2/ends2/OfCharsCopyPinLaw", "pick", "(JI)B"⟩ : MethodName) = true := by decide +kernel
theorem iK_0 : I1 method_3_code 0 (.lload_n 0) 1 1 := ⟨(by decide +kernel), rfl⟩
theorem iK_1 : I1 method_3_code 1 (.bipush 8) 2 3 := ⟨(by decide +kernel), rfl⟩
theorem iK_3 : I1 method_3_code 3 (.iload_n 2) 1 4 := ⟨(by decide +kernel), rfl⟩
theorem iK_4 : I1 method_3_code 4 (.imul) 1 5 := ⟨(by decide +kernel), rfl⟩
theorem iK_5 : I1 method_3_code 5 (.lushr) 1 6 := ⟨(by decide +kernel), rfl⟩
theorem iK_6 : I1 method_3_code 6 (.l2i) 1 7 := ⟨(by decide +kernel), rfl⟩
theorem iK_7 : I1 method_3_code 7 (.i2b) 1 8 := ⟨(by decide +kernel), rfl⟩
theorem iK_8 : I1 method_3_code 8 (.ireturn) 1 9 := ⟨(by decide +kernel), rfl⟩
def ret_K (q0 : Int64) (p1 : Int32) : Int32 := (nar .byte ((((q0.toUInt64 >>> (((8 : Int32) * p1) &&& 0x3f).toInt64.toUInt64).toInt64).toInt32).toInt8.toInt32))
theorem efK (m : MethodId) (q0 : Int64) (p1 : Int32) : entryFrame m #[(.long q0), (.int p1)] 3 = mkF m 0 #[.val (.long q0), .second, .val (.int p1)] [] := by first | (simp [entryFrame, mkF, argsToLocals, Value.category]; done) | rfl
def QK (Z : State) (q0 : Int64) (p1 : Int32) (h0 : Heap) (n0 : Nat) (v : Option Value) (h : Heap) : Prop := v = some (.int (ret_K q0 p1)) ∧ h = h0
set_option maxRecDepth 65536 in
set_option maxHeartbeats 40000000 in
theorem rmK (l : Launch) (Z : State) (aZ : Array Value) (hw : ∀ d ∈ tables_1, d.before aZ Z = true) (q0 : Int64) (p1 : Int32) (h0 : Heap) (n0 : Nat) (Z0 : n0 ≤ h0.size) :
    Ctr l Z (⟨"com/example/ends2/ends2/OfCharsCopyPinLaw", "pick", "(JI)B"⟩ : MethodName) method_3_code 3 (some .byte) ({ frames := 0, cells := 0, slots := 0, locals := 0 } : Room) #[(.long q0), (.int p1)] h0 n0 (QK Z q0 p1 h0 n0) := by
  refine Ctr.of_go pn0 (fun m => efK m q0 p1) ?_
  intro p e s m below meth c hnm C
  refine g_lloadN C iK_0 rfl ?_
  refine g_bipush C (8 : Int32) iK_1 rfl ?_
  refine g_iloadN C iK_3 rfl ?_
  refine g_imul C iK_4 ?_
  refine g_lushr C iK_5 ?_
  refine g_l2i C iK_6 ?_
  refine g_i2b C iK_7 ?_
  have r0 : (ret_K q0 p1) = (nar .byte ((((q0.toUInt64 >>> (((8 : Int32) * p1) &&& 0x3f).toInt64.toUInt64).toInt64).toInt32).toInt8.toInt32)) := by simp only [ret_K]
  exact g_retNar C (t := .byte) iK_8 rfl (by simp) (by decide) (by decide) (show QK Z q0 p1 h0 n0 _ _ from by unfold QK; rw [r0]; exact ⟨rfl, rfl⟩)
theorem pn1 : plainFor (⟨"com/example/ends2/ends2/ProbeBlock", "<init>", "()V"⟩ : MethodName) = true := by decide +kernel
theorem iI0_0 : I1 prog_11_method_1_code 0 (.aload_n 0) 1 1 := ⟨(by decide +kernel), rfl⟩
theorem iI0_1 : I1 prog_11_method_1_code 1 (.invokespecial 1) 3 4 := ⟨(by decide +kernel), rfl⟩
theorem iI0_4 : I1 prog_11_method_1_code 4 (.return_) 1 5 := ⟨(by decide +kernel), rfl⟩
theorem efI0 (m : MethodId) (a0 : Addr) : entryFrame m #[(.ref a0)] 1 = mkF m 0 #[.val (.ref a0)] [] := by first | (simp [entryFrame, mkF, argsToLocals, Value.category]; done) | rfl
def QI0 (Z : State) (a0 : Addr) (h0 : Heap) (n0 : Nat) (v : Option Value) (h : Heap) : Prop := v = none ∧ h = h0
set_option maxRecDepth 65536 in
set_option maxHeartbeats 40000000 in
theorem rmI0 (l : Launch) (Z : State) (aZ : Array Value) (hw : ∀ d ∈ tables_1, d.before aZ Z = true) (a0 : Addr) (h0 : Heap) (n0 : Nat) (Z0 : n0 ≤ h0.size) :
    Ctr l Z (⟨"com/example/ends2/ends2/ProbeBlock", "<init>", "()V"⟩ : MethodName) prog_11_method_1_code 1 none ({ frames := 1, cells := 0, slots := 0, locals := 12 } : Room) #[(.ref a0)] h0 n0 (QI0 Z a0 h0 n0) := by
  refine Ctr.of_go pn1 (fun m => efI0 m a0) ?_
  intro p e s m below meth c hnm C
  refine g_aloadN C iI0_0 rfl rfl ?_
  refine g_initO C iI0_1 (hw _ (List.mem_of_getElem? (i := 22) rfl)) (hw _ (List.mem_of_getElem? (i := 23) rfl)) (hw _ (List.mem_of_getElem? (i := 24) rfl)) rfl (by decide) 0 (Nat.le_of_eq rfl) (by decide) ?_
  exact g_retV C iI0_4 rfl (by decide) (by decide) ⟨rfl, rfl⟩
theorem pd0 : parseMethodDescriptor "()V" = some ⟨[], none⟩ := by decide +kernel
theorem pn2 : plainFor (⟨"com/example/ends2/ends2/ProbeBlock$Copied", "<init>", "(II)V"⟩ : MethodName) = true := by decide +kernel
theorem iI1_0 : I1 prog_12_method_1_code 0 (.aload_n 0) 1 1 := ⟨(by decide +kernel), rfl⟩
theorem iI1_1 : I1 prog_12_method_1_code 1 (.invokespecial 1) 3 4 := ⟨(by decide +kernel), rfl⟩
theorem iI1_4 : I1 prog_12_method_1_code 4 (.aload_n 0) 1 5 := ⟨(by decide +kernel), rfl⟩
theorem iI1_5 : I1 prog_12_method_1_code 5 (.iload_n 1) 1 6 := ⟨(by decide +kernel), rfl⟩
theorem iI1_6 : I1 prog_12_method_1_code 6 (.putfield 7) 3 9 := ⟨(by decide +kernel), rfl⟩
theorem iI1_9 : I1 prog_12_method_1_code 9 (.aload_n 0) 1 10 := ⟨(by decide +kernel), rfl⟩
theorem iI1_10 : I1 prog_12_method_1_code 10 (.iload_n 2) 1 11 := ⟨(by decide +kernel), rfl⟩
theorem iI1_11 : I1 prog_12_method_1_code 11 (.putfield 13) 3 14 := ⟨(by decide +kernel), rfl⟩
theorem iI1_14 : I1 prog_12_method_1_code 14 (.return_) 1 15 := ⟨(by decide +kernel), rfl⟩
theorem efI1 (m : MethodId) (a0 : Addr) (p1 : Int32) (p2 : Int32) : entryFrame m #[(.ref a0), (.int p1), (.int p2)] 3 = mkF m 0 #[.val (.ref a0), .val (.int p1), .val (.int p2)] [] := by first | (simp [entryFrame, mkF, argsToLocals, Value.category]; done) | rfl
def QI1 (Z : State) (a0 : Addr) (p1 : Int32) (p2 : Int32) (w_reach_a0 : Int32) (w_near_a0 : Int32) (w_text_a0 : Value) (w_bytes_a0 : Value) (h0 : Heap) (n0 : Nat) (v : Option Value) (h : Heap) : Prop := v = none ∧ Keep h0 h [a0] ∧ Exa Z h a0 "com/example/ends2/ends2/ProbeBlock$OfChars" ∧ Fld Z h a0 "com/example/ends2/ends2/ProbeBlock$Copied" "reach" "I" (.int p1) ∧ Fld Z h a0 "com/example/ends2/ends2/ProbeBlock$Copied" "near" "I" (.int p2) ∧ Fld Z h a0 "com/example/ends2/ends2/ProbeBlock$OfChars" "text" "[C" w_text_a0 ∧ Fld Z h a0 "com/example/ends2/ends2/ProbeBlock" "bytes" "[B" w_bytes_a0
set_option maxRecDepth 65536 in
set_option maxHeartbeats 40000000 in
theorem rmI1 (l : Launch) (Z : State) (aZ : Array Value) (hw : ∀ d ∈ tables_1, d.before aZ Z = true) (a0 : Addr) (p1 : Int32) (p2 : Int32) (w_reach_a0 : Int32) (w_near_a0 : Int32) (w_text_a0 : Value) (w_bytes_a0 : Value) (h0 : Heap) (n0 : Nat) (Z0 : n0 ≤ h0.size) (E_a0 : Exa Z h0 a0 "com/example/ends2/ends2/ProbeBlock$OfChars") (F_reach_a0 : Fld Z h0 a0 "com/example/ends2/ends2/ProbeBlock$Copied" "reach" "I" (.int w_reach_a0)) (g_a0 : n0 ≤ a0) (F_near_a0 : Fld Z h0 a0 "com/example/ends2/ends2/ProbeBlock$Copied" "near" "I" (.int w_near_a0)) (F_text_a0 : Fld Z h0 a0 "com/example/ends2/ends2/ProbeBlock$OfChars" "text" "[C" w_text_a0) (F_bytes_a0 : Fld Z h0 a0 "com/example/ends2/ends2/ProbeBlock" "bytes" "[B" w_bytes_a0) :
    Ctr l Z (⟨"com/example/ends2/ends2/ProbeBlock$Copied", "<init>", "(II)V"⟩ : MethodName) prog_12_method_1_code 3 none ({ frames := 2, cells := 0, slots := 0, locals := 24 } : Room) #[(.ref a0), (.int p1), (.int p2)] h0 n0 (QI1 Z a0 p1 p2 w_reach_a0 w_near_a0 w_text_a0 w_bytes_a0 h0 n0) := by
  refine Ctr.of_go pn2 (fun m => efI1 m a0 p1 p2) ?_
  intro p e s m below meth c hnm C
  refine g_aloadN C iI1_0 rfl rfl ?_
  refine g_callI C (rmI0 l Z aZ hw a0 h0 n0 Z0) (a := a0) iI1_1 rfl (hw _ (List.mem_of_getElem? (i := 17) rfl)) (hw _ (List.mem_of_getElem? (i := 18) rfl)) (hw _ (List.mem_of_getElem? (i := 20) rfl)) (hw _ (List.mem_of_getElem? (i := 21) rfl)) rfl (by decide) (argsL := []) (rest := []) rfl rfl pd0 rfl rfl 0 (Nat.le_of_eq rfl) (by decide) (by decide) (by decide) (by decide) rfl rfl ?_
  rintro _ _ ⟨rfl, he2⟩
  refine Go.heap he2.symm ?_
  refine Go.none' ?_
  refine g_aloadN C iI1_4 rfl rfl ?_
  refine g_iloadN C iI1_5 rfl ?_
  refine g_putF C iI1_6 (host := "") (Or.inl (hw _ (List.mem_of_getElem? (i := 25) rfl))) Via.refl F_reach_a0 E_a0 (Or.inr ⟨(hw _ (List.mem_of_getElem? (i := 26) rfl)), rfl, hnm⟩) (hw _ (List.mem_of_getElem? (i := 7) rfl)) (ty := .int) (by decide) rfl rfl g_a0 (fun h3 W3 => ?_)
  have F_near_a0_c3 := Fld.other W3 F_near_a0 (Or.inr (slot_ne (a0 := aZ) (Or.inr (hw _ (List.mem_of_getElem? (i := 28) rfl))) (Or.inr (hw _ (List.mem_of_getElem? (i := 26) rfl))) (by decide) (t := .int) (t' := .int) (by decide) (by decide)))
  have F_text_a0_c3 := Fld.other W3 F_text_a0 (Or.inr (slot_ne (a0 := aZ) (Or.inr (hw _ (List.mem_of_getElem? (i := 30) rfl))) (Or.inr (hw _ (List.mem_of_getElem? (i := 26) rfl))) (by decide) (t := (.array .char)) (t' := .int) (by decide) (by decide)))
  have F_bytes_a0_c3 := Fld.other W3 F_bytes_a0 (Or.inr (slot_ne (a0 := aZ) (Or.inl (hw _ (List.mem_of_getElem? (i := 33) rfl))) (Or.inr (hw _ (List.mem_of_getElem? (i := 26) rfl))) (by decide) (t := (.array .byte)) (t' := .int) (by decide) (by decide)))
  have E_a0_c3 := Exa.wr W3 E_a0
  have Fw3 := Fld.same W3 F_reach_a0
  have K3 := Keep.wr (Keep.refl h0 [a0]) W3 (Or.inl (List.mem_of_getElem? (i := 0) rfl))
  have Z3 : n0 ≤ h3.size := Nat.le_trans Z0 (Keep.of_wr W3).1
  refine g_aloadN C iI1_9 rfl rfl ?_
  refine g_iloadN C iI1_10 rfl ?_
  refine g_putF C iI1_11 (host := "") (Or.inl (hw _ (List.mem_of_getElem? (i := 27) rfl))) Via.refl F_near_a0_c3 E_a0_c3 (Or.inr ⟨(hw _ (List.mem_of_getElem? (i := 28) rfl)), rfl, hnm⟩) (hw _ (List.mem_of_getElem? (i := 7) rfl)) (ty := .int) (by decide) rfl rfl g_a0 (fun h4 W4 => ?_)
  have F_text_a0_c4 := Fld.other W4 F_text_a0_c3 (Or.inr (slot_ne (a0 := aZ) (Or.inr (hw _ (List.mem_of_getElem? (i := 30) rfl))) (Or.inr (hw _ (List.mem_of_getElem? (i := 28) rfl))) (by decide) (t := (.array .char)) (t' := .int) (by decide) (by decide)))
  have F_bytes_a0_c4 := Fld.other W4 F_bytes_a0_c3 (Or.inr (slot_ne (a0 := aZ) (Or.inl (hw _ (List.mem_of_getElem? (i := 33) rfl))) (Or.inr (hw _ (List.mem_of_getElem? (i := 28) rfl))) (by decide) (t := (.array .byte)) (t' := .int) (by decide) (by decide)))
  have E_a0_c4 := Exa.wr W4 E_a0_c3
  have F_reach_a0_c4 := Fld.other W4 Fw3 (Or.inr (slot_ne (a0 := aZ) (Or.inr (hw _ (List.mem_of_getElem? (i := 26) rfl))) (Or.inr (hw _ (List.mem_of_getElem? (i := 28) rfl))) (by decide) (t := .int) (t' := .int) (by decide) (by decide)))
  have Fw4 := Fld.same W4 F_near_a0_c3
  have K4 := Keep.wr K3 W4 (Or.inl (List.mem_of_getElem? (i := 0) rfl))
  have Z4 : n0 ≤ h4.size := Nat.le_trans Z3 (Keep.of_wr W4).1
  exact g_retV C iI1_14 rfl (by decide) (by decide) ⟨rfl, K4, E_a0_c4, F_reach_a0_c4, Fw4, F_text_a0_c4, F_bytes_a0_c4⟩
theorem pd1 : parseMethodDescriptor "(II)V" = some ⟨[.int, .int], none⟩ := by decide +kernel
theorem pn3 : plainFor (⟨"com/example/ends2/ends2/ProbeBlock$OfChars", "<init>", "([CII)V"⟩ : MethodName) = true := by decide +kernel
theorem iI2_0 : I1 prog_15_method_1_code 0 (.aload_n 0) 1 1 := ⟨(by decide +kernel), rfl⟩
theorem iI2_1 : I1 prog_15_method_1_code 1 (.iload_n 2) 1 2 := ⟨(by decide +kernel), rfl⟩
theorem iI2_2 : I1 prog_15_method_1_code 2 (.iload_n 3) 1 3 := ⟨(by decide +kernel), rfl⟩
theorem iI2_3 : I1 prog_15_method_1_code 3 (.invokespecial 1) 3 6 := ⟨(by decide +kernel), rfl⟩
theorem iI2_6 : I1 prog_15_method_1_code 6 (.aload_n 0) 1 7 := ⟨(by decide +kernel), rfl⟩
theorem iI2_7 : I1 prog_15_method_1_code 7 (.aload_n 1) 1 8 := ⟨(by decide +kernel), rfl⟩
theorem iI2_8 : I1 prog_15_method_1_code 8 (.putfield 7) 3 11 := ⟨(by decide +kernel), rfl⟩
theorem iI2_11 : I1 prog_15_method_1_code 11 (.return_) 1 12 := ⟨(by decide +kernel), rfl⟩
theorem efI2 (m : MethodId) (a0 : Addr) (a1 : Addr) (p2 : Int32) (p3 : Int32) : entryFrame m #[(.ref a0), (.ref a1), (.int p2), (.int p3)] 4 = mkF m 0 #[.val (.ref a0), .val (.ref a1), .val (.int p2), .val (.int p3)] [] := by first | (simp [entryFrame, mkF, argsToLocals, Value.category]; done) | rfl
def QI2 (Z : State) (a0 : Addr) (a1 : Addr) (p2 : Int32) (p3 : Int32) (w_reach_a0 : Int32) (w_near_a0 : Int32) (w_text_a0 : Value) (w_bytes_a0 : Value) (h0 : Heap) (n0 : Nat) (v : Option Value) (h : Heap) : Prop := v = none ∧ Keep h0 h [a0] ∧ Exa Z h a0 "com/example/ends2/ends2/ProbeBlock$OfChars" ∧ Fld Z h a0 "com/example/ends2/ends2/ProbeBlock$Copied" "reach" "I" (.int p2) ∧ Fld Z h a0 "com/example/ends2/ends2/ProbeBlock$Copied" "near" "I" (.int p3) ∧ Fld Z h a0 "com/example/ends2/ends2/ProbeBlock$OfChars" "text" "[C" (.ref a1) ∧ Fld Z h a0 "com/example/ends2/ends2/ProbeBlock" "bytes" "[B" w_bytes_a0
set_option maxRecDepth 65536 in
set_option maxHeartbeats 40000000 in
theorem rmI2 (l : Launch) (Z : State) (aZ : Array Value) (hw : ∀ d ∈ tables_1, d.before aZ Z = true) (a0 : Addr) (a1 : Addr) (p2 : Int32) (p3 : Int32) (w_reach_a0 : Int32) (w_near_a0 : Int32) (w_text_a0 : Value) (w_bytes_a0 : Value) (h0 : Heap) (n0 : Nat) (Z0 : n0 ≤ h0.size) (E_a0 : Exa Z h0 a0 "com/example/ends2/ends2/ProbeBlock$OfChars") (F_reach_a0 : Fld Z h0 a0 "com/example/ends2/ends2/ProbeBlock$Copied" "reach" "I" (.int w_reach_a0)) (g_a0 : n0 ≤ a0) (F_near_a0 : Fld Z h0 a0 "com/example/ends2/ends2/ProbeBlock$Copied" "near" "I" (.int w_near_a0)) (F_text_a0 : Fld Z h0 a0 "com/example/ends2/ends2/ProbeBlock$OfChars" "text" "[C" w_text_a0) (F_bytes_a0 : Fld Z h0 a0 "com/example/ends2/ends2/ProbeBlock" "bytes" "[B" w_bytes_a0) :
    Ctr l Z (⟨"com/example/ends2/ends2/ProbeBlock$OfChars", "<init>", "([CII)V"⟩ : MethodName) prog_15_method_1_code 4 none ({ frames := 3, cells := 0, slots := 0, locals := 38 } : Room) #[(.ref a0), (.ref a1), (.int p2), (.int p3)] h0 n0 (QI2 Z a0 a1 p2 p3 w_reach_a0 w_near_a0 w_text_a0 w_bytes_a0 h0 n0) := by
  refine Ctr.of_go pn3 (fun m => efI2 m a0 a1 p2 p3) ?_
  intro p e s m below meth c hnm C
  refine g_aloadN C iI2_0 rfl rfl ?_
  refine g_iloadN C iI2_1 rfl ?_
  refine g_iloadN C iI2_2 rfl ?_
  refine g_callI C (rmI1 l Z aZ hw a0 p2 p3 w_reach_a0 w_near_a0 w_text_a0 w_bytes_a0 h0 n0 Z0 E_a0 F_reach_a0 g_a0 F_near_a0 F_text_a0 F_bytes_a0) (a := a0) iI2_3 rfl (hw _ (List.mem_of_getElem? (i := 12) rfl)) (hw _ (List.mem_of_getElem? (i := 13) rfl)) (hw _ (List.mem_of_getElem? (i := 15) rfl)) (hw _ (List.mem_of_getElem? (i := 16) rfl)) rfl (by decide) (argsL := [(.int p2), (.int p3)]) (rest := []) rfl rfl pd1 rfl rfl 0 (Nat.le_of_eq rfl) (by decide) (by decide) (by decide) (by decide) rfl rfl ?_
  rintro _ h5 ⟨rfl, KC5, P5_0, P5_1, P5_2, P5_3, P5_4⟩
  refine Go.none' ?_
  have KK5 := KC5
  have E_a0_cC5 := Exa.keep E_a0 KC5
  have K5 := Keep.trans (Keep.refl h0 [a0]) KC5 (allS (Or.inl (List.mem_of_getElem? (i := 0) rfl)) all0)
  have Z5 : n0 ≤ h5.size := Nat.le_trans Z0 KC5.1
  have P5_1 : Fld Z h5 a0 "com/example/ends2/ends2/ProbeBlock$Copied" "reach" "I" (.int p2) := P5_1
  have P5_2 : Fld Z h5 a0 "com/example/ends2/ends2/ProbeBlock$Copied" "near" "I" (.int p3) := P5_2
  refine g_aloadN C iI2_6 rfl rfl ?_
  refine g_aloadN C iI2_7 rfl rfl ?_
  refine g_putF C iI2_8 (host := "") (Or.inl (hw _ (List.mem_of_getElem? (i := 29) rfl))) Via.refl P5_3 P5_0 (Or.inr ⟨(hw _ (List.mem_of_getElem? (i := 30) rfl)), rfl, hnm⟩) (hw _ (List.mem_of_getElem? (i := 7) rfl)) (ty := (.array .char)) (by decide) rfl rfl g_a0 (fun h6 W6 => ?_)
  have E_a0_c6 := Exa.wr W6 P5_0
  have F_reach_a0_c6 := Fld.other W6 P5_1 (Or.inr (slot_ne (a0 := aZ) (Or.inr (hw _ (List.mem_of_getElem? (i := 26) rfl))) (Or.inr (hw _ (List.mem_of_getElem? (i := 30) rfl))) (by decide) (t := .int) (t' := (.array .char)) (by decide) (by decide)))
  have F_near_a0_c6 := Fld.other W6 P5_2 (Or.inr (slot_ne (a0 := aZ) (Or.inr (hw _ (List.mem_of_getElem? (i := 28) rfl))) (Or.inr (hw _ (List.mem_of_getElem? (i := 30) rfl))) (by decide) (t := .int) (t' := (.array .char)) (by decide) (by decide)))
  have F_bytes_a0_c6 := Fld.other W6 P5_4 (Or.inr (slot_ne (a0 := aZ) (Or.inl (hw _ (List.mem_of_getElem? (i := 33) rfl))) (Or.inr (hw _ (List.mem_of_getElem? (i := 30) rfl))) (by decide) (t := (.array .byte)) (t' := (.array .char)) (by decide) (by decide)))
  have Fw6 := Fld.same W6 P5_3
  have K6 := Keep.wr K5 W6 (Or.inl (List.mem_of_getElem? (i := 0) rfl))
  have Z6 : n0 ≤ h6.size := Nat.le_trans Z5 (Keep.of_wr W6).1
  exact g_retV C iI2_11 rfl (by decide) (by decide) ⟨rfl, K6, E_a0_c6, F_reach_a0_c6, F_near_a0_c6, Fw6, F_bytes_a0_c6⟩
/-- the bytes behind i turns -/
def cpF (F i A : Nat) (ft fb : Nat → Int32) (j : Nat) : Int32 := if A ≤ j ∧ j < A + (i - F) then nar .byte (ft (F + j - A)).toInt8.toInt32 else fb j
def QC (Z : State) (a0 : Addr) (p1 p2 p3 : Int32) (wb wt : Addr) (fb ft : Nat → Int32) (h0 : Heap) (n0 : Nat) (v : Option Value) (h : Heap) : Prop := v = none ∧ Keep h0 h [wb] ∧ AV Z h wb .byte 6 (fun i => .int (cpF p1.toNatClampNeg p2.toNatClampNeg p3.toNatClampNeg ft fb i))
theorem own_idx {A i F : Nat} (hA : A < 100) (hi : i < 100) (hF : F ≤ i) : ((A.toInt32 + i.toInt32) - F.toInt32).toInt = ((A + i - F : Nat) : Int) := by
  have h1 := c_iadd A.toInt32 i.toInt32
  have h2 := rng32 (A.toInt32 + i.toInt32)
  have h3 := c_isub (A.toInt32 + i.toInt32) F.toInt32
  have h4 := rng32 (A.toInt32 + i.toInt32 - F.toInt32)
  rw [own_nat (by omega), own_nat (by omega)] at h1
  rw [own_nat (by omega)] at h3
  omega
theorem own_cp {A i F j : Nat} (ft fb : Nat → Int32) (hA : A < 100) (hi : i < 100) (hF : F ≤ i) : (if j = ((A.toInt32 + i.toInt32) - F.toInt32).toNatClampNeg then Value.int (nar .byte (ft i).toInt8.toInt32) else Value.int (cpF F i A ft fb j)) = .int (cpF F (i + 1) A ft fb j) := by
  have e : ((A.toInt32 + i.toInt32) - F.toInt32).toNatClampNeg = A + i - F := by simp only [Int32.toNatClampNeg, own_idx hA hi hF]; omega
  rw [e]
  simp only [cpF]
  by_cases h : j = A + i - F
  · have h1 : A ≤ j ∧ j < A + (i + 1 - F) := by omega
    have h2 : F + j - A = i := by omega
    rw [if_pos h, if_pos h1, h2]
  · rw [if_neg h]
    by_cases h1 : A ≤ j ∧ j < A + (i - F)
    · have h2 : A ≤ j ∧ j < A + (i + 1 - F) := by omega
      rw [if_pos h1, if_pos h2]
    · have h2 : ¬ (A ≤ j ∧ j < A + (i + 1 - F)) := by omega
      rw [if_neg h1, if_neg h2]
theorem iC_3 : I1 prog_15_method_2_code 3 (.iload 4) 2 5 := ⟨(by decide +kernel), rfl⟩
theorem iC_5 : I1 prog_15_method_2_code 5 (.iload_n 2) 1 6 := ⟨(by decide +kernel), rfl⟩
theorem iC_6 : B1 prog_15_method_2_code 6 (.if_icmp .ge 28) 28 34 9 := ⟨(by decide +kernel), rfl, by decide, by decide⟩
theorem iC_9 : I1 prog_15_method_2_code 9 (.aload_n 0) 1 10 := ⟨(by decide +kernel), rfl⟩
theorem iC_10 : I1 prog_15_method_2_code 10 (.getfield 13) 3 13 := ⟨(by decide +kernel), rfl⟩
theorem iC_13 : I1 prog_15_method_2_code 13 (.iload_n 3) 1 14 := ⟨(by decide +kernel), rfl⟩
theorem iC_14 : I1 prog_15_method_2_code 14 (.iload 4) 2 16 := ⟨(by decide +kernel), rfl⟩
theorem iC_16 : I1 prog_15_method_2_code 16 (.iadd) 1 17 := ⟨(by decide +kernel), rfl⟩
theorem iC_17 : I1 prog_15_method_2_code 17 (.iload_n 1) 1 18 := ⟨(by decide +kernel), rfl⟩
theorem iC_18 : I1 prog_15_method_2_code 18 (.isub) 1 19 := ⟨(by decide +kernel), rfl⟩
theorem iC_19 : I1 prog_15_method_2_code 19 (.aload_n 0) 1 20 := ⟨(by decide +kernel), rfl⟩
theorem iC_20 : I1 prog_15_method_2_code 20 (.getfield 7) 3 23 := ⟨(by decide +kernel), rfl⟩
theorem iC_23 : I1 prog_15_method_2_code 23 (.iload 4) 2 25 := ⟨(by decide +kernel), rfl⟩
theorem iC_25 : I1 prog_15_method_2_code 25 (.caload) 1 26 := ⟨(by decide +kernel), rfl⟩
theorem iC_26 : I1 prog_15_method_2_code 26 (.i2b) 1 27 := ⟨(by decide +kernel), rfl⟩
theorem iC_27 : I1 prog_15_method_2_code 27 (.bastore) 1 28 := ⟨(by decide +kernel), rfl⟩
theorem iC_28 : I1 prog_15_method_2_code 28 (.iinc 4 1) 3 31 := ⟨(by decide +kernel), rfl⟩
theorem iC_31 : B1 prog_15_method_2_code 31 (.goto (-28)) (-28) 3 34 := ⟨(by decide +kernel), rfl, by decide, by decide⟩
theorem iC_34 : I1 prog_15_method_2_code 34 (.return_) 1 35 := ⟨(by decide +kernel), rfl⟩
set_option maxRecDepth 65536 in
set_option maxHeartbeats 40000000 in
theorem loopC (l : Launch) (Z : State) (aZ : Array Value) (hw : ∀ d ∈ tables_1, d.before aZ Z = true) (a0 : Addr) (F T A : Nat) (wb wt : Addr) (fb ft : Nat → Int32) (h0 : Heap) (n0 : Nat) (Z0 : n0 ≤ h0.size) (hT : F ≤ T) (hT4 : T ≤ 4) (hA : A + (T - F) ≤ 6) (ge_wb : n0 ≤ wb) (ne1 : a0 ≠ wb) (ne2 : wt ≠ wb)
    (F_b : Fld Z h0 a0 "com/example/ends2/ends2/ProbeBlock" "bytes" "[B" (.ref wb)) (F_t : Fld Z h0 a0 "com/example/ends2/ends2/ProbeBlock$OfChars" "text" "[C" (.ref wt)) (V_t : AV Z h0 wt .char 4 (fun i => .int (ft i)))
    {p : Program} {e : Env} {s : State} {m : MethodId} {below : List Frame} {meth : Method} {c : Code} (C : Cx p s m meth c Z prog_15_method_2_code 5 "com/example/ends2/ends2/ProbeBlock$OfChars" none) :
    ∀ (k i : Nat) (h : Heap), T - i < k → F ≤ i → i ≤ T → Keep h0 h [wb] → AV Z h wb .byte 6 (fun j => .int (cpF F i A ft fb j)) → Go p l e ({ frames := 0, cells := 0, slots := 0, locals := 0 } : Room) s m #[(.ref a0), (.int F.toInt32), (.int T.toInt32), (.int A.toInt32)] below meth c n0 0 0 (fun v h => v = none ∧ Keep h0 h [wb] ∧ AV Z h wb .byte 6 (fun i => .int (cpF F T A ft fb i))) h 0 0 (mkF m 3 #[.val (.ref a0), .val (.int F.toInt32), .val (.int T.toInt32), .val (.int A.toInt32), .val (.int i.toInt32)] []) := by
  intro k
  induction k with
  | zero => intro i h hk; exact absurd hk (Nat.not_lt_zero _)
  | succ k ih =>
    intro i h hk hF hi K V
    have Zh : n0 ≤ h.size := Nat.le_trans Z0 K.1
    refine g_iload C iC_3 rfl ?_
    refine g_iloadN C iC_5 rfl ?_
    refine g_icmp_ge C iC_6 (fun hc6_1 => ?_) (fun hc6_1 => ?_)
    · refine g_aloadN C iC_9 rfl rfl ?_
      refine g_getF C iC_10 (host := "") (Or.inl (hw _ (List.mem_of_getElem? (i := 42) rfl))) (Via.of (hw _ (List.mem_of_getElem? (i := 32) rfl))) (Fld.keep F_b K (ninS ne1 nin0)) ?_
      refine g_iloadN C iC_13 rfl ?_
      refine g_iload C iC_14 rfl ?_
      refine g_iadd C iC_16 ?_
      refine g_iloadN C iC_17 rfl ?_
      refine g_isub C iC_18 ?_
      refine g_aloadN C iC_19 rfl rfl ?_
      refine g_getF C iC_20 (host := "") (Or.inl (hw _ (List.mem_of_getElem? (i := 29) rfl))) Via.refl (Fld.keep F_t K (ninS ne1 nin0)) ?_
      refine g_iload C iC_23 rfl ?_
      refine g_cald C (.int (ft i)) iC_25 (AV.keep V_t K (ninS ne2 nin0)) (own_inN (by omega) (by have := ((own_lt (i := i) (n := T) (by omega) (by omega)).mp hc6_1); omega)) (own_rd (fun i => Value.int (ft i)) (by omega)) ?_
      refine g_i2b C iC_26 ?_
      refine g_bast C iC_27 V (inb_int (by rw [own_idx (by omega) (by omega) (by omega)]; omega) (by have := ((own_lt (i := i) (n := T) (by omega) (by omega)).mp hc6_1); rw [own_idx (by omega) (by omega) (by omega)]; omega)) ge_wb (fun h7 W7 V7 => ?_)
      have F_bytes_a0_c7 := Fld.other W7 (Fld.keep F_b K (ninS ne1 nin0)) (Or.inl ne1)
      have F_text_a0_c7 := Fld.other W7 (Fld.keep F_t K (ninS ne1 nin0)) (Or.inl ne1)
      have V_wt_c7 := AV.other (AV.keep V_t K (ninS ne2 nin0)) W7 ne2
      have Vw7 : AV Z h7 wb .byte 6 (fun ix => if ix = ((((A.toInt32) + (i.toInt32)) - (F.toInt32))).toNatClampNeg then (.int (nar .byte ((ft i).toInt8.toInt32))) else (fun ix => .int ((cpF F i A ft fb) ix)) ix) := V7
      have K7 := Keep.wr K W7 (Or.inl (List.mem_of_getElem? (i := 0) rfl))
      have Z7 : n0 ≤ h7.size := Nat.le_trans Zh (Keep.of_wr W7).1
      refine g_iinc C (Ls' := #[.val (.ref a0), .val (.int (F.toInt32)), .val (.int (T.toInt32)), .val (.int (A.toInt32)), .val (.int ((i.toInt32) + (1 : Int32)))]) iC_28 rfl rfl ?_
      refine g_goto C iC_31 ?_
      have hI := ((own_lt (i := i) (n := T) (by omega) (by omega)).mp hc6_1)
      exact Go.cast (ih (i + 1) h7 (by omega) (by omega) (by omega) K7 (AV.congr Vw7 (fun j _ => own_cp ft fb (by omega) (by omega) (by omega)))) (by rw [own_succ (by omega)])
    · have hI : i = T := by have q : ¬ i < T := fun q => hc6_1 ((own_lt (by omega) (by omega)).mpr q); omega
      subst hI
      exact g_retV C iC_34 rfl (by decide) (by decide) ⟨rfl, K, V⟩
theorem iC_0 : I1 prog_15_method_2_code 0 (.iload_n 1) 1 1 := ⟨(by decide +kernel), rfl⟩
theorem iC_1 : I1 prog_15_method_2_code 1 (.istore 4) 2 3 := ⟨(by decide +kernel), rfl⟩
theorem pn4 : plainFor (⟨"com/example/ends2/ends2/ProbeBlock$OfChars", "copy", "(III)V"⟩ : MethodName) = true := by decide +kernel
theorem own_c0 (F A : Nat) (ft fb : Nat → Int32) (j : Nat) : cpF F F A ft fb j = fb j := by
  simp only [cpF]; rw [if_neg (by omega)]
theorem efC (m : MethodId) (a0 : Addr) (p1 p2 p3 : Int32) : entryFrame m #[(.ref a0), (.int p1), (.int p2), (.int p3)] 5 = mkF m 0 #[.val (.ref a0), .val (.int p1), .val (.int p2), .val (.int p3), .unset] [] := by first | (simp [entryFrame, mkF, argsToLocals, Value.category]; done) | rfl
theorem own_asNat {p : Int32} (h : 0 ≤ p.toInt) : ∃ n : Nat, p = n.toInt32 ∧ p.toNatClampNeg = n ∧ p.toInt = n := by
  refine ⟨p.toNatClampNeg, (back32 (by rw [Int32.lt_iff_toInt_lt]; have e0 : (0 : Int32).toInt = 0 := rfl; omega)).1.symm, rfl, ?_⟩
  simp only [Int32.toNatClampNeg]; omega
set_option maxRecDepth 65536 in
set_option maxHeartbeats 40000000 in
theorem rmC (l : Launch) (Z : State) (aZ : Array Value) (hw : ∀ d ∈ tables_1, d.before aZ Z = true) (a0 : Addr) (p1 p2 p3 : Int32) (wb wt : Addr) (fb ft : Nat → Int32) (h0 : Heap) (n0 : Nat) (Z0 : n0 ≤ h0.size)
    (hb : 0 ≤ p1.toInt ∧ p1.toInt ≤ p2.toInt ∧ p2.toInt ≤ 4 ∧ 0 ≤ p3.toInt ∧ p3.toInt + (p2.toInt - p1.toInt) ≤ 6) (F_b : Fld Z h0 a0 "com/example/ends2/ends2/ProbeBlock" "bytes" "[B" (.ref wb)) (F_t : Fld Z h0 a0 "com/example/ends2/ends2/ProbeBlock$OfChars" "text" "[C" (.ref wt)) (V_t : AV Z h0 wt .char 4 (fun i => .int (ft i))) (V_b : AV Z h0 wb .byte 6 (fun i => .int (fb i))) (ge_wb : n0 ≤ wb) (ne1 : a0 ≠ wb) (ne2 : wt ≠ wb) :
    Ctr l Z (⟨"com/example/ends2/ends2/ProbeBlock$OfChars", "copy", "(III)V"⟩ : MethodName) prog_15_method_2_code 5 none ({ frames := 0, cells := 0, slots := 0, locals := 0 } : Room) #[(.ref a0), (.int p1), (.int p2), (.int p3)] h0 n0 (QC Z a0 p1 p2 p3 wb wt fb ft h0 n0) := by
  refine Ctr.of_go pn4 (fun m => efC m a0 p1 p2 p3) ?_
  intro p e s m below meth c hnm C
  obtain ⟨F, e1, f1, g1⟩ := own_asNat hb.1
  obtain ⟨T, e2, f2, g2⟩ := own_asNat (p := p2) (by omega)
  obtain ⟨A, e3, f3, g3⟩ := own_asNat hb.2.2.2.1
  unfold QC
  rw [f1, f2, f3]
  subst e1 e2 e3
  have K0 := Keep.refl h0 [wb]
  refine g_iloadN C iC_0 rfl ?_
  refine g_istore C (Ls' := #[.val (.ref a0), .val (.int (F.toInt32)), .val (.int (T.toInt32)), .val (.int (A.toInt32)), .val (.int (F.toInt32))]) iC_1 rfl ?_
  exact loopC l Z aZ hw a0 F T A wb wt fb ft h0 n0 Z0 (by omega) (by omega) (by omega) ge_wb ne1 ne2 F_b F_t V_t C 5 F h0 (by omega) (Nat.le_refl _) (by omega) (Keep.refl _ _) (AV.congr V_b (fun j _ => by rw [own_c0]))
theorem own_cin {p3 p4 p5 p6 : Int32} (hb : 0 ≤ p3.toInt ∧ p3.toInt < 6 ∧ 0 ≤ p4.toInt ∧ 0 ≤ p5.toInt ∧ 0 ≤ p6.toInt ∧ p4.toInt + p6.toInt ≤ 4 ∧ p5.toInt + p6.toInt ≤ 6) (h1 : ¬ (p3 < p5)) (h2 : p3 < (p5 + p6)) : Inb ((p4 + p3) - p5) 4 ∧ ((p4 + p3) - p5).toInt = p4.toInt + p3.toInt - p5.toInt := by
  have g1 := c_iadd p4 p3
  have g2 := rng32 (p4 + p3)
  have g3 := c_isub (p4 + p3) p5
  have g4 := rng32 (p4 + p3 - p5)
  have g5 := c_iadd p5 p6
  have g6 := rng32 (p5 + p6)
  rw [Int32.lt_iff_toInt_lt] at h1 h2
  exact ⟨inb_int (by omega) (by omega), by omega⟩
theorem pn5 : plainFor (⟨"com/example/ends2/ends2/OfCharsCopyPinLaw", "cell", "([B[B[CIIII)Z"⟩ : MethodName) = true := by decide +kernel
theorem iL_0 : I1 method_2_code 0 (.iload_n 3) 1 1 := ⟨(by decide +kernel), rfl⟩
theorem iL_1 : I1 method_2_code 1 (.iload 5) 2 3 := ⟨(by decide +kernel), rfl⟩
theorem iL_3 : B1 method_2_code 3 (.if_icmp .lt 31) 31 34 6 := ⟨(by decide +kernel), rfl, by decide, by decide⟩
theorem iL_6 : I1 method_2_code 6 (.iload_n 3) 1 7 := ⟨(by decide +kernel), rfl⟩
theorem iL_7 : I1 method_2_code 7 (.iload 5) 2 9 := ⟨(by decide +kernel), rfl⟩
theorem iL_9 : I1 method_2_code 9 (.iload 6) 2 11 := ⟨(by decide +kernel), rfl⟩
theorem iL_11 : I1 method_2_code 11 (.iadd) 1 12 := ⟨(by decide +kernel), rfl⟩
theorem iL_12 : B1 method_2_code 12 (.if_icmp .ge 22) 22 34 15 := ⟨(by decide +kernel), rfl, by decide, by decide⟩
theorem iL_15 : I1 method_2_code 15 (.aload_n 2) 1 16 := ⟨(by decide +kernel), rfl⟩
theorem iL_16 : I1 method_2_code 16 (.iload 4) 2 18 := ⟨(by decide +kernel), rfl⟩
theorem iL_18 : I1 method_2_code 18 (.iload_n 3) 1 19 := ⟨(by decide +kernel), rfl⟩
theorem iL_19 : I1 method_2_code 19 (.iadd) 1 20 := ⟨(by decide +kernel), rfl⟩
theorem iL_20 : I1 method_2_code 20 (.iload 5) 2 22 := ⟨(by decide +kernel), rfl⟩
theorem iL_22 : I1 method_2_code 22 (.isub) 1 23 := ⟨(by decide +kernel), rfl⟩
theorem iL_23 : I1 method_2_code 23 (.caload) 1 24 := ⟨(by decide +kernel), rfl⟩
theorem iL_24 : I1 method_2_code 24 (.sipush 255) 3 27 := ⟨(by decide +kernel), rfl⟩
theorem iL_27 : I1 method_2_code 27 (.iand) 1 28 := ⟨(by decide +kernel), rfl⟩
theorem iL_28 : I1 method_2_code 28 (.i2b) 1 29 := ⟨(by decide +kernel), rfl⟩
theorem iL_29 : I1 method_2_code 29 (.istore 7) 2 31 := ⟨(by decide +kernel), rfl⟩
theorem iL_31 : B1 method_2_code 31 (.goto 8) 8 39 34 := ⟨(by decide +kernel), rfl, by decide, by decide⟩
theorem iL_34 : I1 method_2_code 34 (.aload_n 1) 1 35 := ⟨(by decide +kernel), rfl⟩
theorem iL_35 : I1 method_2_code 35 (.iload_n 3) 1 36 := ⟨(by decide +kernel), rfl⟩
theorem iL_36 : I1 method_2_code 36 (.baload) 1 37 := ⟨(by decide +kernel), rfl⟩
theorem iL_37 : I1 method_2_code 37 (.istore 7) 2 39 := ⟨(by decide +kernel), rfl⟩
theorem iL_39 : I1 method_2_code 39 (.aload_n 0) 1 40 := ⟨(by decide +kernel), rfl⟩
theorem iL_40 : I1 method_2_code 40 (.iload_n 3) 1 41 := ⟨(by decide +kernel), rfl⟩
theorem iL_41 : I1 method_2_code 41 (.baload) 1 42 := ⟨(by decide +kernel), rfl⟩
theorem iL_42 : I1 method_2_code 42 (.iload 7) 2 44 := ⟨(by decide +kernel), rfl⟩
theorem iL_44 : B1 method_2_code 44 (.if_icmp .ne 7) 7 51 47 := ⟨(by decide +kernel), rfl, by decide, by decide⟩
theorem iL_47 : I1 method_2_code 47 (.iconst 1) 1 48 := ⟨(by decide +kernel), rfl⟩
theorem iL_48 : B1 method_2_code 48 (.goto 4) 4 52 51 := ⟨(by decide +kernel), rfl, by decide, by decide⟩
theorem iL_51 : I1 method_2_code 51 (.iconst 0) 1 52 := ⟨(by decide +kernel), rfl⟩
theorem iL_52 : I1 method_2_code 52 (.ireturn) 1 53 := ⟨(by decide +kernel), rfl⟩
def vL_0 (p3 : Int32) (p4 : Int32) (p5 : Int32) (p6 : Int32) (n_a0 : Nat) (f_a0 : Nat → Int32) (n_a1 : Nat) (f_a1 : Nat → Int32) (n_a2 : Nat) (f_a2 : Nat → Int32) : Int32 := (((f_a2 (((p4 + p3) - p5)).toNatClampNeg) &&& (255 : Int32)).toInt8.toInt32)
def vL_1 (p3 : Int32) (p4 : Int32) (p5 : Int32) (p6 : Int32) (n_a0 : Nat) (f_a0 : Nat → Int32) (n_a1 : Nat) (f_a1 : Nat → Int32) (n_a2 : Nat) (f_a2 : Nat → Int32) : Int32 := (if p3 < (p5 + p6) then (vL_0 p3 p4 p5 p6 n_a0 f_a0 n_a1 f_a1 n_a2 f_a2) else (f_a1 (p3).toNatClampNeg))
def vL_2 (p3 : Int32) (p4 : Int32) (p5 : Int32) (p6 : Int32) (n_a0 : Nat) (f_a0 : Nat → Int32) (n_a1 : Nat) (f_a1 : Nat → Int32) (n_a2 : Nat) (f_a2 : Nat → Int32) : Int32 := (if p3 < p5 then (f_a1 (p3).toNatClampNeg) else (if p3 < (p5 + p6) then (vL_0 p3 p4 p5 p6 n_a0 f_a0 n_a1 f_a1 n_a2 f_a2) else (f_a1 (p3).toNatClampNeg)))
def vL_3 (p3 : Int32) (p4 : Int32) (p5 : Int32) (p6 : Int32) (n_a0 : Nat) (f_a0 : Nat → Int32) (n_a1 : Nat) (f_a1 : Nat → Int32) (n_a2 : Nat) (f_a2 : Nat → Int32) : Int32 := (if (f_a0 (p3).toNatClampNeg) = (vL_2 p3 p4 p5 p6 n_a0 f_a0 n_a1 f_a1 n_a2 f_a2) then (1 : Int32) else (0 : Int32))
def ret_L (p3 : Int32) (p4 : Int32) (p5 : Int32) (p6 : Int32) (n_a0 : Nat) (f_a0 : Nat → Int32) (n_a1 : Nat) (f_a1 : Nat → Int32) (n_a2 : Nat) (f_a2 : Nat → Int32) : Int32 := (nar .boolean (vL_3 p3 p4 p5 p6 n_a0 f_a0 n_a1 f_a1 n_a2 f_a2))
theorem efL (m : MethodId) (a0 : Addr) (a1 : Addr) (a2 : Addr) (p3 : Int32) (p4 : Int32) (p5 : Int32) (p6 : Int32) : entryFrame m #[(.ref a0), (.ref a1), (.ref a2), (.int p3), (.int p4), (.int p5), (.int p6)] 8 = mkF m 0 #[.val (.ref a0), .val (.ref a1), .val (.ref a2), .val (.int p3), .val (.int p4), .val (.int p5), .val (.int p6), .unset] [] := by first | (simp [entryFrame, mkF, argsToLocals, Value.category]; done) | rfl
def QL (Z : State) (a0 : Addr) (a1 : Addr) (a2 : Addr) (p3 : Int32) (p4 : Int32) (p5 : Int32) (p6 : Int32) (n_a0 : Nat) (f_a0 : Nat → Int32) (n_a1 : Nat) (f_a1 : Nat → Int32) (n_a2 : Nat) (f_a2 : Nat → Int32) (h0 : Heap) (n0 : Nat) (v : Option Value) (h : Heap) : Prop := v = some (.int (ret_L p3 p4 p5 p6 n_a0 f_a0 n_a1 f_a1 n_a2 f_a2)) ∧ h = h0
set_option maxRecDepth 65536 in
set_option maxHeartbeats 40000000 in
theorem rmL (l : Launch) (Z : State) (aZ : Array Value) (hw : ∀ d ∈ tables_1, d.before aZ Z = true) (a0 : Addr) (a1 : Addr) (a2 : Addr) (p3 : Int32) (p4 : Int32) (p5 : Int32) (p6 : Int32) (n_a0 : Nat) (f_a0 : Nat → Int32) (n_a1 : Nat) (f_a1 : Nat → Int32) (n_a2 : Nat) (f_a2 : Nat → Int32) (h0 : Heap) (n0 : Nat) (Z0 : n0 ≤ h0.size) (hb : 0 ≤ p3.toInt ∧ p3.toInt < 6 ∧ 0 ≤ p4.toInt ∧ 0 ≤ p5.toInt ∧ 0 ≤ p6.toInt ∧ p4.toInt + p6.toInt ≤ 4 ∧ p5.toInt + p6.toInt ≤ 6) (hn0 : n_a0 = 6) (hn1 : n_a1 = 6) (hn2 : n_a2 = 4) (V_a1 : AV Z h0 a1 .byte n_a1 (fun ix => .int (f_a1 ix))) (V_a2 : AV Z h0 a2 .char n_a2 (fun ix => .int (f_a2 ix))) (V_a0 : AV Z h0 a0 .byte n_a0 (fun ix => .int (f_a0 ix))) :
    Ctr l Z (⟨"com/example/ends2/ends2/OfCharsCopyPinLaw", "cell", "([B[B[CIIII)Z"⟩ : MethodName) method_2_code 8 (some .boolean) ({ frames := 0, cells := 0, slots := 0, locals := 0 } : Room) #[(.ref a0), (.ref a1), (.ref a2), (.int p3), (.int p4), (.int p5), (.int p6)] h0 n0 (QL Z a0 a1 a2 p3 p4 p5 p6 n_a0 f_a0 n_a1 f_a1 n_a2 f_a2 h0 n0) := by
  refine Ctr.of_go pn5 (fun m => efL m a0 a1 a2 p3 p4 p5 p6) ?_
  intro p e s m below meth c hnm C
  refine g_iloadN C iL_0 rfl ?_
  refine g_iload C iL_1 rfl ?_
  refine Go.join (mkF m 39 #[.val (.ref a0), .val (.ref a1), .val (.ref a2), .val (.int p3), .val (.int p4), .val (.int p5), .val (.int p6), .val (.int (vL_2 p3 p4 p5 p6 n_a0 f_a0 n_a1 f_a1 n_a2 f_a2))] []) ?_ (fun J => ?_)
  · refine g_aloadN C iL_39 rfl rfl ?_
    refine g_iloadN C iL_40 rfl ?_
    refine g_bald C (.int (f_a0 (p3).toNatClampNeg)) iL_41 V_a0 (by subst hn0; exact inb_int (by omega) (by omega)) rfl ?_
    refine g_iload C iL_42 rfl ?_
    refine Go.join (mkF m 52 #[.val (.ref a0), .val (.ref a1), .val (.ref a2), .val (.int p3), .val (.int p4), .val (.int p5), .val (.int p6), .val (.int (vL_2 p3 p4 p5 p6 n_a0 f_a0 n_a1 f_a1 n_a2 f_a2))] [(.int (vL_3 p3 p4 p5 p6 n_a0 f_a0 n_a1 f_a1 n_a2 f_a2))]) ?_ (fun J => ?_)
    · have r0 : (ret_L p3 p4 p5 p6 n_a0 f_a0 n_a1 f_a1 n_a2 f_a2) = (nar .boolean (vL_3 p3 p4 p5 p6 n_a0 f_a0 n_a1 f_a1 n_a2 f_a2)) := by simp only [ret_L]
      exact g_retNar C (t := .boolean) iL_52 rfl (by simp) (by decide) (by decide) (show QL Z a0 a1 a2 p3 p4 p5 p6 n_a0 f_a0 n_a1 f_a1 n_a2 f_a2 h0 n0 _ _ from by unfold QL; rw [r0]; exact ⟨rfl, rfl⟩)
    · refine g_icmp_ne C iL_44 (fun hc44_1 => ?_) (fun hc44_1 => ?_)
      · refine g_iconst C (1 : Int32) iL_47 rfl ?_
        refine g_goto C iL_48 ?_
        have e0 : (vL_3 p3 p4 p5 p6 n_a0 f_a0 n_a1 f_a1 n_a2 f_a2) = (1 : Int32) := by simp only [vL_3, if_pos hc44_1]
        exact Go.cast J (by rw [e0])
      · refine g_iconst C (0 : Int32) iL_51 rfl ?_
        have e0 : (vL_3 p3 p4 p5 p6 n_a0 f_a0 n_a1 f_a1 n_a2 f_a2) = (0 : Int32) := by simp only [vL_3, if_neg hc44_1]
        exact Go.cast J (by rw [e0])
  · refine g_icmp_lt C iL_3 (fun hc3_1 => ?_) (fun hc3_1 => ?_)
    · refine g_aloadN C iL_34 rfl rfl ?_
      refine g_iloadN C iL_35 rfl ?_
      refine g_bald C (.int (f_a1 (p3).toNatClampNeg)) iL_36 V_a1 (by subst hn1; exact inb_int (by omega) (by omega)) rfl ?_
      refine g_istore C (Ls' := #[.val (.ref a0), .val (.ref a1), .val (.ref a2), .val (.int p3), .val (.int p4), .val (.int p5), .val (.int p6), .val (.int (f_a1 (p3).toNatClampNeg))]) iL_37 rfl ?_
      have e0 : (vL_2 p3 p4 p5 p6 n_a0 f_a0 n_a1 f_a1 n_a2 f_a2) = (f_a1 (p3).toNatClampNeg) := by simp only [vL_2, if_pos hc3_1]
      exact Go.cast J (by rw [e0])
    · refine g_iloadN C iL_6 rfl ?_
      refine g_iload C iL_7 rfl ?_
      refine g_iload C iL_9 rfl ?_
      refine g_iadd C iL_11 ?_
      refine g_icmp_ge C iL_12 (fun hc12_1 => ?_) (fun hc12_1 => ?_)
      · refine g_aloadN C iL_15 rfl rfl ?_
        refine g_iload C iL_16 rfl ?_
        refine g_iloadN C iL_18 rfl ?_
        refine g_iadd C iL_19 ?_
        refine g_iload C iL_20 rfl ?_
        refine g_isub C iL_22 ?_
        refine g_cald C (.int (f_a2 (((p4 + p3) - p5)).toNatClampNeg)) iL_23 V_a2 (by subst hn2; exact (own_cin hb hc3_1 hc12_1).1) rfl ?_
        refine g_sipush C (255 : Int32) iL_24 rfl ?_
        refine g_iand C iL_27 ?_
        refine g_i2b C iL_28 ?_
        refine g_istore C (Ls' := #[.val (.ref a0), .val (.ref a1), .val (.ref a2), .val (.int p3), .val (.int p4), .val (.int p5), .val (.int p6), .val (.int (vL_0 p3 p4 p5 p6 n_a0 f_a0 n_a1 f_a1 n_a2 f_a2))]) iL_29 rfl ?_
        refine g_goto C iL_31 ?_
        have e0 : (vL_2 p3 p4 p5 p6 n_a0 f_a0 n_a1 f_a1 n_a2 f_a2) = (vL_0 p3 p4 p5 p6 n_a0 f_a0 n_a1 f_a1 n_a2 f_a2) := by simp only [vL_2, if_neg hc3_1, if_pos hc12_1]
        exact Go.cast J (by rw [e0])
      · refine g_aloadN C iL_34 rfl rfl ?_
        refine g_iloadN C iL_35 rfl ?_
        refine g_bald C (.int (f_a1 (p3).toNatClampNeg)) iL_36 V_a1 (by subst hn1; exact inb_int (by omega) (by omega)) rfl ?_
        refine g_istore C (Ls' := #[.val (.ref a0), .val (.ref a1), .val (.ref a2), .val (.int p3), .val (.int p4), .val (.int p5), .val (.int p6), .val (.int (f_a1 (p3).toNatClampNeg))]) iL_37 rfl ?_
        have e0 : (vL_2 p3 p4 p5 p6 n_a0 f_a0 n_a1 f_a1 n_a2 f_a2) = (f_a1 (p3).toNatClampNeg) := by simp only [vL_2, if_neg hc3_1, if_neg hc12_1]
        exact Go.cast J (by rw [e0])
theorem own_b8 (x : Int32) : nar .byte x.toInt8.toInt32 = (x &&& (255 : Int32)).toInt8.toInt32 := by
  show (x.toInt8.toInt32).toInt8.toInt32 = (x &&& (255 : Int32)).toInt8.toInt32
  have h1 := c_i2b x
  have h2 := c_i2b x.toInt8.toInt32
  have h3 := c_i2b (x &&& 255)
  have h4 := c_mask x 255 8 (by decide) (by decide)
  rw [← Int32.toInt_inj]
  omega
theorem own_nc (x : Int32) : nar .char (x.toUInt32.toUInt16.toUInt32.toInt32) = x.toUInt32.toUInt16.toUInt32.toInt32 := Value.int.inj (Jvm.Free.XT.narrow_c x)
theorem own_cell (p3 p4 p5 p6 pT : Int32) (f0 f1 fb ft : Nat → Int32) (h0 : f0 = cpF p4.toNatClampNeg pT.toNatClampNeg p5.toNatClampNeg ft fb) (hf : f1 = fb)
    (hb : 0 ≤ p3.toInt ∧ p3.toInt < 6 ∧ 0 ≤ p4.toInt ∧ 0 ≤ p5.toInt ∧ 0 ≤ p6.toInt ∧ p4.toInt + p6.toInt ≤ 4 ∧ p5.toInt + p6.toInt ≤ 6) (hT : pT.toInt = p4.toInt + p6.toInt) : ret_L p3 p4 p5 p6 6 f0 6 f1 4 ft = 1 := by
  subst h0 hf
  refine nbT.mpr ?_
  have g5 := c_iadd p5 p6
  have g6 := rng32 (p5 + p6)
  simp only [vL_2, vL_0]
  by_cases a1 : p3 < p5
  · rw [if_pos a1]
    rw [Int32.lt_iff_toInt_lt] at a1
    simp only [cpF]
    rw [if_neg (by simp only [Int32.toNatClampNeg]; omega)]
  · rw [if_neg a1]
    by_cases a2 : p3 < p5 + p6
    · have q := (own_cin hb a1 a2).2
      rw [if_pos a2]
      rw [Int32.lt_iff_toInt_lt] at a1 a2
      have e : ((p4 + p3) - p5).toNatClampNeg = p4.toNatClampNeg + p3.toNatClampNeg - p5.toNatClampNeg := by simp only [Int32.toNatClampNeg, q]; omega
      simp only [cpF]
      rw [if_pos (by simp only [Int32.toNatClampNeg]; omega), e, own_b8]
    · rw [if_neg a2]
      rw [Int32.lt_iff_toInt_lt] at a1 a2
      simp only [cpF]
      rw [if_neg (by simp only [Int32.toNatClampNeg]; omega)]
theorem own_m7 (x : Int32) : 0 ≤ (x &&& (7 : Int32)).toInt ∧ (x &&& (7 : Int32)).toInt ≤ 7 := c_and x 7 (by decide)
theorem own_from (p2 : Int32) : 0 ≤ ((p2 &&& (7 : Int32)) % (5 : Int32)).toInt ∧ ((p2 &&& (7 : Int32)) % (5 : Int32)).toInt ≤ 4 := by
  have h := own_m7 p2
  have h2 := (c_irem (p2 &&& (7 : Int32)) 5 5 rfl).1
  omega
theorem own_f5 (p2 : Int32) : ((5 : Int32) - ((p2 &&& (7 : Int32)) % (5 : Int32))).toInt = 5 - ((p2 &&& (7 : Int32)) % (5 : Int32)).toInt := by
  have h := own_from p2
  have g1 := c_isub 5 ((p2 &&& (7 : Int32)) % (5 : Int32))
  have g2 := rng32 ((5 : Int32) - ((p2 &&& (7 : Int32)) % (5 : Int32)))
  have g3 : (5 : Int32).toInt = 5 := rfl
  omega
theorem own_nz5 (p2 : Int32) : ((5 : Int32) - ((p2 &&& (7 : Int32)) % (5 : Int32))) ≠ 0 := fun q => by
  have h := own_from p2
  have h2 := own_f5 p2
  rw [q] at h2
  have g3 : (0 : Int32).toInt = 0 := rfl
  omega
theorem pd2 : parseMethodDescriptor "(JI)B" = some ⟨[.long, .int], some .byte⟩ := by decide +kernel
theorem pd3 : parseMethodDescriptor "([CII)V" = some ⟨[(.array .char), .int, .int], none⟩ := by decide +kernel
theorem pd4 : parseMethodDescriptor "(III)V" = some ⟨[.int, .int, .int], none⟩ := by decide +kernel
theorem pd5 : parseMethodDescriptor "([B[B[CIIII)Z" = some ⟨[(.array .byte), (.array .byte), (.array .char), .int, .int, .int, .int], some .boolean⟩ := by decide +kernel
theorem pn6 : plainFor (⟨"com/example/ends2/ends2/OfCharsCopyPinLaw", "law", "(IIIJ)Z"⟩ : MethodName) = true := by decide +kernel
theorem iM_0 : I1 code 0 (.iconst 4) 1 1 := ⟨at_0, rfl⟩
theorem iM_1 : I1 code 1 (.newarray .char) 2 3 := ⟨at_1, rfl⟩
theorem iM_3 : I1 code 3 (.astore 5) 2 5 := ⟨at_3, rfl⟩
theorem iM_5 : I1 code 5 (.aload 5) 2 7 := ⟨at_5, rfl⟩
theorem iM_7 : I1 code 7 (.iconst 0) 1 8 := ⟨at_7, rfl⟩
theorem iM_8 : I1 code 8 (.iload_n 0) 1 9 := ⟨at_8, rfl⟩
theorem iM_9 : I1 code 9 (.i2c) 1 10 := ⟨at_9, rfl⟩
theorem iM_10 : I1 code 10 (.castore) 1 11 := ⟨at_10, rfl⟩
theorem iM_11 : I1 code 11 (.aload 5) 2 13 := ⟨at_11, rfl⟩
theorem iM_13 : I1 code 13 (.iconst 1) 1 14 := ⟨at_13, rfl⟩
theorem iM_14 : I1 code 14 (.iload_n 0) 1 15 := ⟨at_14, rfl⟩
theorem iM_15 : I1 code 15 (.bipush 16) 2 17 := ⟨at_15, rfl⟩
theorem iM_17 : I1 code 17 (.iushr) 1 18 := ⟨at_17, rfl⟩
theorem iM_18 : I1 code 18 (.i2c) 1 19 := ⟨at_18, rfl⟩
theorem iM_19 : I1 code 19 (.castore) 1 20 := ⟨at_19, rfl⟩
theorem iM_20 : I1 code 20 (.aload 5) 2 22 := ⟨at_20, rfl⟩
theorem iM_22 : I1 code 22 (.iconst 2) 1 23 := ⟨at_22, rfl⟩
theorem iM_23 : I1 code 23 (.iload_n 1) 1 24 := ⟨at_23, rfl⟩
theorem iM_24 : I1 code 24 (.i2c) 1 25 := ⟨at_24, rfl⟩
theorem iM_25 : I1 code 25 (.castore) 1 26 := ⟨at_25, rfl⟩
theorem iM_26 : I1 code 26 (.aload 5) 2 28 := ⟨at_26, rfl⟩
theorem iM_28 : I1 code 28 (.iconst 3) 1 29 := ⟨at_28, rfl⟩
theorem iM_29 : I1 code 29 (.iload_n 1) 1 30 := ⟨at_29, rfl⟩
theorem iM_30 : I1 code 30 (.bipush 16) 2 32 := ⟨at_30, rfl⟩
theorem iM_32 : I1 code 32 (.iushr) 1 33 := ⟨at_32, rfl⟩
theorem iM_33 : I1 code 33 (.i2c) 1 34 := ⟨at_33, rfl⟩
theorem iM_34 : I1 code 34 (.castore) 1 35 := ⟨at_34, rfl⟩
theorem iM_35 : I1 code 35 (.bipush 6) 2 37 := ⟨at_35, rfl⟩
theorem iM_37 : I1 code 37 (.newarray .byte) 2 39 := ⟨at_37, rfl⟩
theorem iM_39 : I1 code 39 (.astore 6) 2 41 := ⟨at_39, rfl⟩
theorem iM_41 : I1 code 41 (.bipush 6) 2 43 := ⟨at_41, rfl⟩
theorem iM_43 : I1 code 43 (.newarray .byte) 2 45 := ⟨at_43, rfl⟩
theorem iM_45 : I1 code 45 (.astore 7) 2 47 := ⟨at_45, rfl⟩
theorem iM_47 : I1 code 47 (.aload 6) 2 49 := ⟨at_47, rfl⟩
theorem iM_49 : I1 code 49 (.iconst 0) 1 50 := ⟨at_49, rfl⟩
theorem iM_50 : I1 code 50 (.lload_n 3) 1 51 := ⟨at_50, rfl⟩
theorem iM_51 : I1 code 51 (.iconst 0) 1 52 := ⟨at_51, rfl⟩
theorem iM_52 : I1 code 52 (.invokestatic 7) 3 55 := ⟨at_52, rfl⟩
theorem iM_55 : I1 code 55 (.bastore) 1 56 := ⟨at_55, rfl⟩
theorem iM_56 : I1 code 56 (.aload 7) 2 58 := ⟨at_56, rfl⟩
theorem iM_58 : I1 code 58 (.iconst 0) 1 59 := ⟨at_58, rfl⟩
theorem iM_59 : I1 code 59 (.lload_n 3) 1 60 := ⟨at_59, rfl⟩
theorem iM_60 : I1 code 60 (.iconst 0) 1 61 := ⟨at_60, rfl⟩
theorem iM_61 : I1 code 61 (.invokestatic 7) 3 64 := ⟨at_61, rfl⟩
theorem iM_64 : I1 code 64 (.bastore) 1 65 := ⟨at_64, rfl⟩
theorem iM_65 : I1 code 65 (.aload 6) 2 67 := ⟨at_65, rfl⟩
theorem iM_67 : I1 code 67 (.iconst 1) 1 68 := ⟨at_67, rfl⟩
theorem iM_68 : I1 code 68 (.lload_n 3) 1 69 := ⟨at_68, rfl⟩
theorem iM_69 : I1 code 69 (.iconst 1) 1 70 := ⟨at_69, rfl⟩
theorem iM_70 : I1 code 70 (.invokestatic 7) 3 73 := ⟨at_70, rfl⟩
theorem iM_73 : I1 code 73 (.bastore) 1 74 := ⟨at_73, rfl⟩
theorem iM_74 : I1 code 74 (.aload 7) 2 76 := ⟨at_74, rfl⟩
theorem iM_76 : I1 code 76 (.iconst 1) 1 77 := ⟨at_76, rfl⟩
theorem iM_77 : I1 code 77 (.lload_n 3) 1 78 := ⟨at_77, rfl⟩
theorem iM_78 : I1 code 78 (.iconst 1) 1 79 := ⟨at_78, rfl⟩
theorem iM_79 : I1 code 79 (.invokestatic 7) 3 82 := ⟨at_79, rfl⟩
theorem iM_82 : I1 code 82 (.bastore) 1 83 := ⟨at_82, rfl⟩
theorem iM_83 : I1 code 83 (.aload 6) 2 85 := ⟨at_83, rfl⟩
theorem iM_85 : I1 code 85 (.iconst 2) 1 86 := ⟨at_85, rfl⟩
theorem iM_86 : I1 code 86 (.lload_n 3) 1 87 := ⟨at_86, rfl⟩
theorem iM_87 : I1 code 87 (.iconst 2) 1 88 := ⟨at_87, rfl⟩
theorem iM_88 : I1 code 88 (.invokestatic 7) 3 91 := ⟨at_88, rfl⟩
theorem iM_91 : I1 code 91 (.bastore) 1 92 := ⟨at_91, rfl⟩
theorem iM_92 : I1 code 92 (.aload 7) 2 94 := ⟨at_92, rfl⟩
theorem iM_94 : I1 code 94 (.iconst 2) 1 95 := ⟨at_94, rfl⟩
theorem iM_95 : I1 code 95 (.lload_n 3) 1 96 := ⟨at_95, rfl⟩
theorem iM_96 : I1 code 96 (.iconst 2) 1 97 := ⟨at_96, rfl⟩
theorem iM_97 : I1 code 97 (.invokestatic 7) 3 100 := ⟨at_97, rfl⟩
theorem iM_100 : I1 code 100 (.bastore) 1 101 := ⟨at_100, rfl⟩
theorem iM_101 : I1 code 101 (.aload 6) 2 103 := ⟨at_101, rfl⟩
theorem iM_103 : I1 code 103 (.iconst 3) 1 104 := ⟨at_103, rfl⟩
theorem iM_104 : I1 code 104 (.lload_n 3) 1 105 := ⟨at_104, rfl⟩
theorem iM_105 : I1 code 105 (.iconst 3) 1 106 := ⟨at_105, rfl⟩
theorem iM_106 : I1 code 106 (.invokestatic 7) 3 109 := ⟨at_106, rfl⟩
theorem iM_109 : I1 code 109 (.bastore) 1 110 := ⟨at_109, rfl⟩
theorem iM_110 : I1 code 110 (.aload 7) 2 112 := ⟨at_110, rfl⟩
theorem iM_112 : I1 code 112 (.iconst 3) 1 113 := ⟨at_112, rfl⟩
theorem iM_113 : I1 code 113 (.lload_n 3) 1 114 := ⟨at_113, rfl⟩
theorem iM_114 : I1 code 114 (.iconst 3) 1 115 := ⟨at_114, rfl⟩
theorem iM_115 : I1 code 115 (.invokestatic 7) 3 118 := ⟨at_115, rfl⟩
theorem iM_118 : I1 code 118 (.bastore) 1 119 := ⟨at_118, rfl⟩
theorem iM_119 : I1 code 119 (.aload 6) 2 121 := ⟨at_119, rfl⟩
theorem iM_121 : I1 code 121 (.iconst 4) 1 122 := ⟨at_121, rfl⟩
theorem iM_122 : I1 code 122 (.lload_n 3) 1 123 := ⟨at_122, rfl⟩
theorem iM_123 : I1 code 123 (.iconst 4) 1 124 := ⟨at_123, rfl⟩
theorem iM_124 : I1 code 124 (.invokestatic 7) 3 127 := ⟨at_124, rfl⟩
theorem iM_127 : I1 code 127 (.bastore) 1 128 := ⟨at_127, rfl⟩
theorem iM_128 : I1 code 128 (.aload 7) 2 130 := ⟨at_128, rfl⟩
theorem iM_130 : I1 code 130 (.iconst 4) 1 131 := ⟨at_130, rfl⟩
theorem iM_131 : I1 code 131 (.lload_n 3) 1 132 := ⟨at_131, rfl⟩
theorem iM_132 : I1 code 132 (.iconst 4) 1 133 := ⟨at_132, rfl⟩
theorem iM_133 : I1 code 133 (.invokestatic 7) 3 136 := ⟨at_133, rfl⟩
theorem iM_136 : I1 code 136 (.bastore) 1 137 := ⟨at_136, rfl⟩
theorem iM_137 : I1 code 137 (.aload 6) 2 139 := ⟨at_137, rfl⟩
theorem iM_139 : I1 code 139 (.iconst 5) 1 140 := ⟨at_139, rfl⟩
theorem iM_140 : I1 code 140 (.lload_n 3) 1 141 := ⟨at_140, rfl⟩
theorem iM_141 : I1 code 141 (.iconst 5) 1 142 := ⟨at_141, rfl⟩
theorem iM_142 : I1 code 142 (.invokestatic 7) 3 145 := ⟨at_142, rfl⟩
theorem iM_145 : I1 code 145 (.bastore) 1 146 := ⟨at_145, rfl⟩
theorem iM_146 : I1 code 146 (.aload 7) 2 148 := ⟨at_146, rfl⟩
theorem iM_148 : I1 code 148 (.iconst 5) 1 149 := ⟨at_148, rfl⟩
theorem iM_149 : I1 code 149 (.lload_n 3) 1 150 := ⟨at_149, rfl⟩
theorem iM_150 : I1 code 150 (.iconst 5) 1 151 := ⟨at_150, rfl⟩
theorem iM_151 : I1 code 151 (.invokestatic 7) 3 154 := ⟨at_151, rfl⟩
theorem iM_154 : I1 code 154 (.bastore) 1 155 := ⟨at_154, rfl⟩
theorem iM_155 : I1 code 155 (.iload_n 2) 1 156 := ⟨at_155, rfl⟩
theorem iM_156 : I1 code 156 (.bipush 7) 2 158 := ⟨at_156, rfl⟩
theorem iM_158 : I1 code 158 (.iand) 1 159 := ⟨at_158, rfl⟩
theorem iM_159 : I1 code 159 (.iconst 5) 1 160 := ⟨at_159, rfl⟩
theorem iM_160 : I1 code 160 (.irem) 1 161 := ⟨at_160, rfl⟩
theorem iM_161 : I1 code 161 (.istore 8) 2 163 := ⟨at_161, rfl⟩
theorem iM_163 : I1 code 163 (.iload_n 2) 1 164 := ⟨at_163, rfl⟩
theorem iM_164 : I1 code 164 (.iconst 3) 1 165 := ⟨at_164, rfl⟩
theorem iM_165 : I1 code 165 (.iushr) 1 166 := ⟨at_165, rfl⟩
theorem iM_166 : I1 code 166 (.bipush 7) 2 168 := ⟨at_166, rfl⟩
theorem iM_168 : I1 code 168 (.iand) 1 169 := ⟨at_168, rfl⟩
theorem iM_169 : I1 code 169 (.iconst 5) 1 170 := ⟨at_169, rfl⟩
theorem iM_170 : I1 code 170 (.iload 8) 2 172 := ⟨at_170, rfl⟩
theorem iM_172 : I1 code 172 (.isub) 1 173 := ⟨at_172, rfl⟩
theorem iM_173 : I1 code 173 (.irem) 1 174 := ⟨at_173, rfl⟩
theorem iM_174 : I1 code 174 (.istore 9) 2 176 := ⟨at_174, rfl⟩
theorem iM_176 : I1 code 176 (.iload 8) 2 178 := ⟨at_176, rfl⟩
theorem iM_178 : I1 code 178 (.iload 9) 2 180 := ⟨at_178, rfl⟩
theorem iM_180 : I1 code 180 (.iadd) 1 181 := ⟨at_180, rfl⟩
theorem iM_181 : I1 code 181 (.istore 10) 2 183 := ⟨at_181, rfl⟩
theorem iM_183 : I1 code 183 (.iload_n 2) 1 184 := ⟨at_183, rfl⟩
theorem iM_184 : I1 code 184 (.bipush 6) 2 186 := ⟨at_184, rfl⟩
theorem iM_186 : I1 code 186 (.iushr) 1 187 := ⟨at_186, rfl⟩
theorem iM_187 : I1 code 187 (.bipush 7) 2 189 := ⟨at_187, rfl⟩
theorem iM_189 : I1 code 189 (.iand) 1 190 := ⟨at_189, rfl⟩
theorem iM_190 : I1 code 190 (.bipush 7) 2 192 := ⟨at_190, rfl⟩
theorem iM_192 : I1 code 192 (.iload 9) 2 194 := ⟨at_192, rfl⟩
theorem iM_194 : I1 code 194 (.isub) 1 195 := ⟨at_194, rfl⟩
theorem iM_195 : I1 code 195 (.irem) 1 196 := ⟨at_195, rfl⟩
theorem iM_196 : I1 code 196 (.istore 11) 2 198 := ⟨at_196, rfl⟩
theorem iM_198 : I1 code 198 (.new 13) 3 201 := ⟨at_198, rfl⟩
theorem iM_201 : I1 code 201 (.dup) 1 202 := ⟨at_201, rfl⟩
theorem iM_202 : I1 code 202 (.aload 5) 2 204 := ⟨at_202, rfl⟩
theorem iM_204 : I1 code 204 (.iconst 0) 1 205 := ⟨at_204, rfl⟩
theorem iM_205 : I1 code 205 (.iconst 0) 1 206 := ⟨at_205, rfl⟩
theorem iM_206 : I1 code 206 (.invokespecial 15) 3 209 := ⟨at_206, rfl⟩
theorem iM_209 : I1 code 209 (.astore 12) 2 211 := ⟨at_209, rfl⟩
theorem iM_211 : I1 code 211 (.aload 12) 2 213 := ⟨at_211, rfl⟩
theorem iM_213 : I1 code 213 (.aload 7) 2 215 := ⟨at_213, rfl⟩
theorem iM_215 : I1 code 215 (.putfield 18) 3 218 := ⟨at_215, rfl⟩
theorem iM_218 : I1 code 218 (.aload 12) 2 220 := ⟨at_218, rfl⟩
theorem iM_220 : I1 code 220 (.iload 8) 2 222 := ⟨at_220, rfl⟩
theorem iM_222 : I1 code 222 (.iload 10) 2 224 := ⟨at_222, rfl⟩
theorem iM_224 : I1 code 224 (.iload 11) 2 226 := ⟨at_224, rfl⟩
theorem iM_226 : I1 code 226 (.invokevirtual 22) 3 229 := ⟨at_226, rfl⟩
theorem iM_229 : I1 code 229 (.aload 5) 2 231 := ⟨at_229, rfl⟩
theorem iM_231 : I1 code 231 (.iconst 0) 1 232 := ⟨at_231, rfl⟩
theorem iM_232 : I1 code 232 (.caload) 1 233 := ⟨at_232, rfl⟩
theorem iM_233 : I1 code 233 (.iload_n 0) 1 234 := ⟨at_233, rfl⟩
theorem iM_234 : I1 code 234 (.i2c) 1 235 := ⟨at_234, rfl⟩
theorem iM_235 : B1 code 235 (.if_icmp .ne 40) 40 275 238 := ⟨at_235, rfl, by decide, by decide⟩
theorem iM_238 : I1 code 238 (.aload 5) 2 240 := ⟨at_238, rfl⟩
theorem iM_240 : I1 code 240 (.iconst 1) 1 241 := ⟨at_240, rfl⟩
theorem iM_241 : I1 code 241 (.caload) 1 242 := ⟨at_241, rfl⟩
theorem iM_242 : I1 code 242 (.iload_n 0) 1 243 := ⟨at_242, rfl⟩
theorem iM_243 : I1 code 243 (.bipush 16) 2 245 := ⟨at_243, rfl⟩
theorem iM_245 : I1 code 245 (.iushr) 1 246 := ⟨at_245, rfl⟩
theorem iM_246 : I1 code 246 (.i2c) 1 247 := ⟨at_246, rfl⟩
theorem iM_247 : B1 code 247 (.if_icmp .ne 28) 28 275 250 := ⟨at_247, rfl, by decide, by decide⟩
theorem iM_250 : I1 code 250 (.aload 5) 2 252 := ⟨at_250, rfl⟩
theorem iM_252 : I1 code 252 (.iconst 2) 1 253 := ⟨at_252, rfl⟩
theorem iM_253 : I1 code 253 (.caload) 1 254 := ⟨at_253, rfl⟩
theorem iM_254 : I1 code 254 (.iload_n 1) 1 255 := ⟨at_254, rfl⟩
theorem iM_255 : I1 code 255 (.i2c) 1 256 := ⟨at_255, rfl⟩
theorem iM_256 : B1 code 256 (.if_icmp .ne 19) 19 275 259 := ⟨at_256, rfl, by decide, by decide⟩
theorem iM_259 : I1 code 259 (.aload 5) 2 261 := ⟨at_259, rfl⟩
theorem iM_261 : I1 code 261 (.iconst 3) 1 262 := ⟨at_261, rfl⟩
theorem iM_262 : I1 code 262 (.caload) 1 263 := ⟨at_262, rfl⟩
theorem iM_263 : I1 code 263 (.iload_n 1) 1 264 := ⟨at_263, rfl⟩
theorem iM_264 : I1 code 264 (.bipush 16) 2 266 := ⟨at_264, rfl⟩
theorem iM_266 : I1 code 266 (.iushr) 1 267 := ⟨at_266, rfl⟩
theorem iM_267 : I1 code 267 (.i2c) 1 268 := ⟨at_267, rfl⟩
theorem iM_268 : B1 code 268 (.if_icmp .ne 7) 7 275 271 := ⟨at_268, rfl, by decide, by decide⟩
theorem iM_271 : I1 code 271 (.iconst 1) 1 272 := ⟨at_271, rfl⟩
theorem iM_272 : B1 code 272 (.goto 4) 4 276 275 := ⟨at_272, rfl, by decide, by decide⟩
theorem iM_275 : I1 code 275 (.iconst 0) 1 276 := ⟨at_275, rfl⟩
theorem iM_276 : I1 code 276 (.istore 13) 2 278 := ⟨at_276, rfl⟩
theorem iM_278 : I1 code 278 (.iload 13) 2 280 := ⟨at_278, rfl⟩
theorem iM_280 : B1 code 280 (.ifCond .eq 131) 131 411 283 := ⟨at_280, rfl, by decide, by decide⟩
theorem iM_283 : I1 code 283 (.aload 12) 2 285 := ⟨at_283, rfl⟩
theorem iM_285 : I1 code 285 (.getfield 18) 3 288 := ⟨at_285, rfl⟩
theorem iM_288 : I1 code 288 (.aload 7) 2 290 := ⟨at_288, rfl⟩
theorem iM_290 : B1 code 290 (.if_acmp .ne 121) 121 411 293 := ⟨at_290, rfl, by decide, by decide⟩
theorem iM_293 : I1 code 293 (.aload 7) 2 295 := ⟨at_293, rfl⟩
theorem iM_295 : I1 code 295 (.aload 6) 2 297 := ⟨at_295, rfl⟩
theorem iM_297 : I1 code 297 (.aload 5) 2 299 := ⟨at_297, rfl⟩
theorem iM_299 : I1 code 299 (.iconst 0) 1 300 := ⟨at_299, rfl⟩
theorem iM_300 : I1 code 300 (.iload 8) 2 302 := ⟨at_300, rfl⟩
theorem iM_302 : I1 code 302 (.iload 11) 2 304 := ⟨at_302, rfl⟩
theorem iM_304 : I1 code 304 (.iload 9) 2 306 := ⟨at_304, rfl⟩
theorem iM_306 : I1 code 306 (.invokestatic 26) 3 309 := ⟨at_306, rfl⟩
theorem iM_309 : B1 code 309 (.ifCond .eq 102) 102 411 312 := ⟨at_309, rfl, by decide, by decide⟩
theorem iM_312 : I1 code 312 (.aload 7) 2 314 := ⟨at_312, rfl⟩
theorem iM_314 : I1 code 314 (.aload 6) 2 316 := ⟨at_314, rfl⟩
theorem iM_316 : I1 code 316 (.aload 5) 2 318 := ⟨at_316, rfl⟩
theorem iM_318 : I1 code 318 (.iconst 1) 1 319 := ⟨at_318, rfl⟩
theorem iM_319 : I1 code 319 (.iload 8) 2 321 := ⟨at_319, rfl⟩
theorem iM_321 : I1 code 321 (.iload 11) 2 323 := ⟨at_321, rfl⟩
theorem iM_323 : I1 code 323 (.iload 9) 2 325 := ⟨at_323, rfl⟩
theorem iM_325 : I1 code 325 (.invokestatic 26) 3 328 := ⟨at_325, rfl⟩
theorem iM_328 : B1 code 328 (.ifCond .eq 83) 83 411 331 := ⟨at_328, rfl, by decide, by decide⟩
theorem iM_331 : I1 code 331 (.aload 7) 2 333 := ⟨at_331, rfl⟩
theorem iM_333 : I1 code 333 (.aload 6) 2 335 := ⟨at_333, rfl⟩
theorem iM_335 : I1 code 335 (.aload 5) 2 337 := ⟨at_335, rfl⟩
theorem iM_337 : I1 code 337 (.iconst 2) 1 338 := ⟨at_337, rfl⟩
theorem iM_338 : I1 code 338 (.iload 8) 2 340 := ⟨at_338, rfl⟩
theorem iM_340 : I1 code 340 (.iload 11) 2 342 := ⟨at_340, rfl⟩
theorem iM_342 : I1 code 342 (.iload 9) 2 344 := ⟨at_342, rfl⟩
theorem iM_344 : I1 code 344 (.invokestatic 26) 3 347 := ⟨at_344, rfl⟩
theorem iM_347 : B1 code 347 (.ifCond .eq 64) 64 411 350 := ⟨at_347, rfl, by decide, by decide⟩
theorem iM_350 : I1 code 350 (.aload 7) 2 352 := ⟨at_350, rfl⟩
theorem iM_352 : I1 code 352 (.aload 6) 2 354 := ⟨at_352, rfl⟩
theorem iM_354 : I1 code 354 (.aload 5) 2 356 := ⟨at_354, rfl⟩
theorem iM_356 : I1 code 356 (.iconst 3) 1 357 := ⟨at_356, rfl⟩
theorem iM_357 : I1 code 357 (.iload 8) 2 359 := ⟨at_357, rfl⟩
theorem iM_359 : I1 code 359 (.iload 11) 2 361 := ⟨at_359, rfl⟩
theorem iM_361 : I1 code 361 (.iload 9) 2 363 := ⟨at_361, rfl⟩
theorem iM_363 : I1 code 363 (.invokestatic 26) 3 366 := ⟨at_363, rfl⟩
theorem iM_366 : B1 code 366 (.ifCond .eq 45) 45 411 369 := ⟨at_366, rfl, by decide, by decide⟩
theorem iM_369 : I1 code 369 (.aload 7) 2 371 := ⟨at_369, rfl⟩
theorem iM_371 : I1 code 371 (.aload 6) 2 373 := ⟨at_371, rfl⟩
theorem iM_373 : I1 code 373 (.aload 5) 2 375 := ⟨at_373, rfl⟩
theorem iM_375 : I1 code 375 (.iconst 4) 1 376 := ⟨at_375, rfl⟩
theorem iM_376 : I1 code 376 (.iload 8) 2 378 := ⟨at_376, rfl⟩
theorem iM_378 : I1 code 378 (.iload 11) 2 380 := ⟨at_378, rfl⟩
theorem iM_380 : I1 code 380 (.iload 9) 2 382 := ⟨at_380, rfl⟩
theorem iM_382 : I1 code 382 (.invokestatic 26) 3 385 := ⟨at_382, rfl⟩
theorem iM_385 : B1 code 385 (.ifCond .eq 26) 26 411 388 := ⟨at_385, rfl, by decide, by decide⟩
theorem iM_388 : I1 code 388 (.aload 7) 2 390 := ⟨at_388, rfl⟩
theorem iM_390 : I1 code 390 (.aload 6) 2 392 := ⟨at_390, rfl⟩
theorem iM_392 : I1 code 392 (.aload 5) 2 394 := ⟨at_392, rfl⟩
theorem iM_394 : I1 code 394 (.iconst 5) 1 395 := ⟨at_394, rfl⟩
theorem iM_395 : I1 code 395 (.iload 8) 2 397 := ⟨at_395, rfl⟩
theorem iM_397 : I1 code 397 (.iload 11) 2 399 := ⟨at_397, rfl⟩
theorem iM_399 : I1 code 399 (.iload 9) 2 401 := ⟨at_399, rfl⟩
theorem iM_401 : I1 code 401 (.invokestatic 26) 3 404 := ⟨at_401, rfl⟩
theorem iM_404 : B1 code 404 (.ifCond .eq 7) 7 411 407 := ⟨at_404, rfl, by decide, by decide⟩
theorem iM_407 : I1 code 407 (.iconst 1) 1 408 := ⟨at_407, rfl⟩
theorem iM_408 : B1 code 408 (.goto 4) 4 412 411 := ⟨at_408, rfl, by decide, by decide⟩
theorem iM_411 : I1 code 411 (.iconst 0) 1 412 := ⟨at_411, rfl⟩
theorem iM_412 : I1 code 412 (.ireturn) 1 413 := ⟨at_412, rfl⟩
def vM_0 (p0 : Int32) (p1 : Int32) (p2 : Int32) (q3 : Int64) : Int32 := (((p0.toUInt32 >>> ((16 : Int32) &&& 31).toUInt32).toInt32).toUInt32.toUInt16.toUInt32.toInt32)
def vM_1 (p0 : Int32) (p1 : Int32) (p2 : Int32) (q3 : Int64) : Int32 := (((p1.toUInt32 >>> ((16 : Int32) &&& 31).toUInt32).toInt32).toUInt32.toUInt16.toUInt32.toInt32)
def vM_2 (p0 : Int32) (p1 : Int32) (p2 : Int32) (q3 : Int64) : Int32 := ((((p2.toUInt32 >>> ((3 : Int32) &&& 31).toUInt32).toInt32) &&& (7 : Int32)) % ((5 : Int32) - ((p2 &&& (7 : Int32)) % (5 : Int32))))
def vM_3 (p0 : Int32) (p1 : Int32) (p2 : Int32) (q3 : Int64) : Int32 := ((((p2.toUInt32 >>> ((6 : Int32) &&& 31).toUInt32).toInt32) &&& (7 : Int32)) % ((7 : Int32) - (vM_2 p0 p1 p2 q3)))
def vM_4 (p0 : Int32) (p1 : Int32) (p2 : Int32) (q3 : Int64) : Nat → Int32 := (fun ix => (if ix = 3 then (nar .char (vM_1 p0 p1 p2 q3)) else (if ix = 2 then (nar .char (p1.toUInt32.toUInt16.toUInt32.toInt32)) else (if ix = 1 then (nar .char (vM_0 p0 p1 p2 q3)) else (if ix = 0 then (nar .char (p0.toUInt32.toUInt16.toUInt32.toInt32)) else (0 : Int32))))))
def vM_5 (p0 : Int32) (p1 : Int32) (p2 : Int32) (q3 : Int64) : Nat → Int32 := (fun ix => (if ix = 5 then (nar .byte (ret_K q3 (5 : Int32))) else (if ix = 4 then (nar .byte (ret_K q3 (4 : Int32))) else (if ix = 3 then (nar .byte (ret_K q3 (3 : Int32))) else (if ix = 2 then (nar .byte (ret_K q3 (2 : Int32))) else (if ix = 1 then (nar .byte (ret_K q3 (1 : Int32))) else (if ix = 0 then (nar .byte (ret_K q3 (0 : Int32))) else (0 : Int32))))))))
def vM_6 (p0 : Int32) (p1 : Int32) (p2 : Int32) (q3 : Int64) : Int32 := (if (nar .char (vM_1 p0 p1 p2 q3)) = (((p1.toUInt32 >>> ((16 : Int32) &&& 31).toUInt32).toInt32).toUInt32.toUInt16.toUInt32.toInt32) then (1 : Int32) else (0 : Int32))
def vM_7 (p0 : Int32) (p1 : Int32) (p2 : Int32) (q3 : Int64) : Int32 := (if (nar .char (p1.toUInt32.toUInt16.toUInt32.toInt32)) = (p1.toUInt32.toUInt16.toUInt32.toInt32) then (if (nar .char (vM_1 p0 p1 p2 q3)) = (((p1.toUInt32 >>> ((16 : Int32) &&& 31).toUInt32).toInt32).toUInt32.toUInt16.toUInt32.toInt32) then (1 : Int32) else (0 : Int32)) else (0 : Int32))
def vM_8 (p0 : Int32) (p1 : Int32) (p2 : Int32) (q3 : Int64) : Int32 := (if (nar .char (vM_0 p0 p1 p2 q3)) = (((p0.toUInt32 >>> ((16 : Int32) &&& 31).toUInt32).toInt32).toUInt32.toUInt16.toUInt32.toInt32) then (if (nar .char (p1.toUInt32.toUInt16.toUInt32.toInt32)) = (p1.toUInt32.toUInt16.toUInt32.toInt32) then (if (nar .char (vM_1 p0 p1 p2 q3)) = (((p1.toUInt32 >>> ((16 : Int32) &&& 31).toUInt32).toInt32).toUInt32.toUInt16.toUInt32.toInt32) then (1 : Int32) else (0 : Int32)) else (0 : Int32)) else (0 : Int32))
def vM_9 (p0 : Int32) (p1 : Int32) (p2 : Int32) (q3 : Int64) : Int32 := (if (nar .char (p0.toUInt32.toUInt16.toUInt32.toInt32)) = (p0.toUInt32.toUInt16.toUInt32.toInt32) then (if (nar .char (vM_0 p0 p1 p2 q3)) = (((p0.toUInt32 >>> ((16 : Int32) &&& 31).toUInt32).toInt32).toUInt32.toUInt16.toUInt32.toInt32) then (if (nar .char (p1.toUInt32.toUInt16.toUInt32.toInt32)) = (p1.toUInt32.toUInt16.toUInt32.toInt32) then (if (nar .char (vM_1 p0 p1 p2 q3)) = (((p1.toUInt32 >>> ((16 : Int32) &&& 31).toUInt32).toInt32).toUInt32.toUInt16.toUInt32.toInt32) then (1 : Int32) else (0 : Int32)) else (0 : Int32)) else (0 : Int32)) else (0 : Int32))
def vM_10 (p0 : Int32) (p1 : Int32) (p2 : Int32) (q3 : Int64) : Int32 := (if (ret_L (5 : Int32) ((p2 &&& (7 : Int32)) % (5 : Int32)) (vM_3 p0 p1 p2 q3) (vM_2 p0 p1 p2 q3) 6 (cpF ((p2 &&& (7 : Int32)) % (5 : Int32)).toNatClampNeg (((p2 &&& (7 : Int32)) % (5 : Int32)) + (vM_2 p0 p1 p2 q3)).toNatClampNeg (vM_3 p0 p1 p2 q3).toNatClampNeg (vM_4 p0 p1 p2 q3) (vM_5 p0 p1 p2 q3)) 6 (vM_5 p0 p1 p2 q3) 4 (vM_4 p0 p1 p2 q3)) = (0 : Int32) then (0 : Int32) else (1 : Int32))
def vM_11 (p0 : Int32) (p1 : Int32) (p2 : Int32) (q3 : Int64) : Int32 := (if (ret_L (4 : Int32) ((p2 &&& (7 : Int32)) % (5 : Int32)) (vM_3 p0 p1 p2 q3) (vM_2 p0 p1 p2 q3) 6 (cpF ((p2 &&& (7 : Int32)) % (5 : Int32)).toNatClampNeg (((p2 &&& (7 : Int32)) % (5 : Int32)) + (vM_2 p0 p1 p2 q3)).toNatClampNeg (vM_3 p0 p1 p2 q3).toNatClampNeg (vM_4 p0 p1 p2 q3) (vM_5 p0 p1 p2 q3)) 6 (vM_5 p0 p1 p2 q3) 4 (vM_4 p0 p1 p2 q3)) = (0 : Int32) then (0 : Int32) else (if (ret_L (5 : Int32) ((p2 &&& (7 : Int32)) % (5 : Int32)) (vM_3 p0 p1 p2 q3) (vM_2 p0 p1 p2 q3) 6 (cpF ((p2 &&& (7 : Int32)) % (5 : Int32)).toNatClampNeg (((p2 &&& (7 : Int32)) % (5 : Int32)) + (vM_2 p0 p1 p2 q3)).toNatClampNeg (vM_3 p0 p1 p2 q3).toNatClampNeg (vM_4 p0 p1 p2 q3) (vM_5 p0 p1 p2 q3)) 6 (vM_5 p0 p1 p2 q3) 4 (vM_4 p0 p1 p2 q3)) = (0 : Int32) then (0 : Int32) else (1 : Int32)))
def vM_12 (p0 : Int32) (p1 : Int32) (p2 : Int32) (q3 : Int64) : Int32 := (if (ret_L (3 : Int32) ((p2 &&& (7 : Int32)) % (5 : Int32)) (vM_3 p0 p1 p2 q3) (vM_2 p0 p1 p2 q3) 6 (cpF ((p2 &&& (7 : Int32)) % (5 : Int32)).toNatClampNeg (((p2 &&& (7 : Int32)) % (5 : Int32)) + (vM_2 p0 p1 p2 q3)).toNatClampNeg (vM_3 p0 p1 p2 q3).toNatClampNeg (vM_4 p0 p1 p2 q3) (vM_5 p0 p1 p2 q3)) 6 (vM_5 p0 p1 p2 q3) 4 (vM_4 p0 p1 p2 q3)) = (0 : Int32) then (0 : Int32) else (if (ret_L (4 : Int32) ((p2 &&& (7 : Int32)) % (5 : Int32)) (vM_3 p0 p1 p2 q3) (vM_2 p0 p1 p2 q3) 6 (cpF ((p2 &&& (7 : Int32)) % (5 : Int32)).toNatClampNeg (((p2 &&& (7 : Int32)) % (5 : Int32)) + (vM_2 p0 p1 p2 q3)).toNatClampNeg (vM_3 p0 p1 p2 q3).toNatClampNeg (vM_4 p0 p1 p2 q3) (vM_5 p0 p1 p2 q3)) 6 (vM_5 p0 p1 p2 q3) 4 (vM_4 p0 p1 p2 q3)) = (0 : Int32) then (0 : Int32) else (if (ret_L (5 : Int32) ((p2 &&& (7 : Int32)) % (5 : Int32)) (vM_3 p0 p1 p2 q3) (vM_2 p0 p1 p2 q3) 6 (cpF ((p2 &&& (7 : Int32)) % (5 : Int32)).toNatClampNeg (((p2 &&& (7 : Int32)) % (5 : Int32)) + (vM_2 p0 p1 p2 q3)).toNatClampNeg (vM_3 p0 p1 p2 q3).toNatClampNeg (vM_4 p0 p1 p2 q3) (vM_5 p0 p1 p2 q3)) 6 (vM_5 p0 p1 p2 q3) 4 (vM_4 p0 p1 p2 q3)) = (0 : Int32) then (0 : Int32) else (1 : Int32))))
def vM_13 (p0 : Int32) (p1 : Int32) (p2 : Int32) (q3 : Int64) : Int32 := (if (ret_L (2 : Int32) ((p2 &&& (7 : Int32)) % (5 : Int32)) (vM_3 p0 p1 p2 q3) (vM_2 p0 p1 p2 q3) 6 (cpF ((p2 &&& (7 : Int32)) % (5 : Int32)).toNatClampNeg (((p2 &&& (7 : Int32)) % (5 : Int32)) + (vM_2 p0 p1 p2 q3)).toNatClampNeg (vM_3 p0 p1 p2 q3).toNatClampNeg (vM_4 p0 p1 p2 q3) (vM_5 p0 p1 p2 q3)) 6 (vM_5 p0 p1 p2 q3) 4 (vM_4 p0 p1 p2 q3)) = (0 : Int32) then (0 : Int32) else (if (ret_L (3 : Int32) ((p2 &&& (7 : Int32)) % (5 : Int32)) (vM_3 p0 p1 p2 q3) (vM_2 p0 p1 p2 q3) 6 (cpF ((p2 &&& (7 : Int32)) % (5 : Int32)).toNatClampNeg (((p2 &&& (7 : Int32)) % (5 : Int32)) + (vM_2 p0 p1 p2 q3)).toNatClampNeg (vM_3 p0 p1 p2 q3).toNatClampNeg (vM_4 p0 p1 p2 q3) (vM_5 p0 p1 p2 q3)) 6 (vM_5 p0 p1 p2 q3) 4 (vM_4 p0 p1 p2 q3)) = (0 : Int32) then (0 : Int32) else (if (ret_L (4 : Int32) ((p2 &&& (7 : Int32)) % (5 : Int32)) (vM_3 p0 p1 p2 q3) (vM_2 p0 p1 p2 q3) 6 (cpF ((p2 &&& (7 : Int32)) % (5 : Int32)).toNatClampNeg (((p2 &&& (7 : Int32)) % (5 : Int32)) + (vM_2 p0 p1 p2 q3)).toNatClampNeg (vM_3 p0 p1 p2 q3).toNatClampNeg (vM_4 p0 p1 p2 q3) (vM_5 p0 p1 p2 q3)) 6 (vM_5 p0 p1 p2 q3) 4 (vM_4 p0 p1 p2 q3)) = (0 : Int32) then (0 : Int32) else (if (ret_L (5 : Int32) ((p2 &&& (7 : Int32)) % (5 : Int32)) (vM_3 p0 p1 p2 q3) (vM_2 p0 p1 p2 q3) 6 (cpF ((p2 &&& (7 : Int32)) % (5 : Int32)).toNatClampNeg (((p2 &&& (7 : Int32)) % (5 : Int32)) + (vM_2 p0 p1 p2 q3)).toNatClampNeg (vM_3 p0 p1 p2 q3).toNatClampNeg (vM_4 p0 p1 p2 q3) (vM_5 p0 p1 p2 q3)) 6 (vM_5 p0 p1 p2 q3) 4 (vM_4 p0 p1 p2 q3)) = (0 : Int32) then (0 : Int32) else (1 : Int32)))))
def vM_14 (p0 : Int32) (p1 : Int32) (p2 : Int32) (q3 : Int64) : Int32 := (if (ret_L (1 : Int32) ((p2 &&& (7 : Int32)) % (5 : Int32)) (vM_3 p0 p1 p2 q3) (vM_2 p0 p1 p2 q3) 6 (cpF ((p2 &&& (7 : Int32)) % (5 : Int32)).toNatClampNeg (((p2 &&& (7 : Int32)) % (5 : Int32)) + (vM_2 p0 p1 p2 q3)).toNatClampNeg (vM_3 p0 p1 p2 q3).toNatClampNeg (vM_4 p0 p1 p2 q3) (vM_5 p0 p1 p2 q3)) 6 (vM_5 p0 p1 p2 q3) 4 (vM_4 p0 p1 p2 q3)) = (0 : Int32) then (0 : Int32) else (if (ret_L (2 : Int32) ((p2 &&& (7 : Int32)) % (5 : Int32)) (vM_3 p0 p1 p2 q3) (vM_2 p0 p1 p2 q3) 6 (cpF ((p2 &&& (7 : Int32)) % (5 : Int32)).toNatClampNeg (((p2 &&& (7 : Int32)) % (5 : Int32)) + (vM_2 p0 p1 p2 q3)).toNatClampNeg (vM_3 p0 p1 p2 q3).toNatClampNeg (vM_4 p0 p1 p2 q3) (vM_5 p0 p1 p2 q3)) 6 (vM_5 p0 p1 p2 q3) 4 (vM_4 p0 p1 p2 q3)) = (0 : Int32) then (0 : Int32) else (if (ret_L (3 : Int32) ((p2 &&& (7 : Int32)) % (5 : Int32)) (vM_3 p0 p1 p2 q3) (vM_2 p0 p1 p2 q3) 6 (cpF ((p2 &&& (7 : Int32)) % (5 : Int32)).toNatClampNeg (((p2 &&& (7 : Int32)) % (5 : Int32)) + (vM_2 p0 p1 p2 q3)).toNatClampNeg (vM_3 p0 p1 p2 q3).toNatClampNeg (vM_4 p0 p1 p2 q3) (vM_5 p0 p1 p2 q3)) 6 (vM_5 p0 p1 p2 q3) 4 (vM_4 p0 p1 p2 q3)) = (0 : Int32) then (0 : Int32) else (if (ret_L (4 : Int32) ((p2 &&& (7 : Int32)) % (5 : Int32)) (vM_3 p0 p1 p2 q3) (vM_2 p0 p1 p2 q3) 6 (cpF ((p2 &&& (7 : Int32)) % (5 : Int32)).toNatClampNeg (((p2 &&& (7 : Int32)) % (5 : Int32)) + (vM_2 p0 p1 p2 q3)).toNatClampNeg (vM_3 p0 p1 p2 q3).toNatClampNeg (vM_4 p0 p1 p2 q3) (vM_5 p0 p1 p2 q3)) 6 (vM_5 p0 p1 p2 q3) 4 (vM_4 p0 p1 p2 q3)) = (0 : Int32) then (0 : Int32) else (if (ret_L (5 : Int32) ((p2 &&& (7 : Int32)) % (5 : Int32)) (vM_3 p0 p1 p2 q3) (vM_2 p0 p1 p2 q3) 6 (cpF ((p2 &&& (7 : Int32)) % (5 : Int32)).toNatClampNeg (((p2 &&& (7 : Int32)) % (5 : Int32)) + (vM_2 p0 p1 p2 q3)).toNatClampNeg (vM_3 p0 p1 p2 q3).toNatClampNeg (vM_4 p0 p1 p2 q3) (vM_5 p0 p1 p2 q3)) 6 (vM_5 p0 p1 p2 q3) 4 (vM_4 p0 p1 p2 q3)) = (0 : Int32) then (0 : Int32) else (1 : Int32))))))
def vM_15 (p0 : Int32) (p1 : Int32) (p2 : Int32) (q3 : Int64) : Int32 := (if (ret_L (0 : Int32) ((p2 &&& (7 : Int32)) % (5 : Int32)) (vM_3 p0 p1 p2 q3) (vM_2 p0 p1 p2 q3) 6 (cpF ((p2 &&& (7 : Int32)) % (5 : Int32)).toNatClampNeg (((p2 &&& (7 : Int32)) % (5 : Int32)) + (vM_2 p0 p1 p2 q3)).toNatClampNeg (vM_3 p0 p1 p2 q3).toNatClampNeg (vM_4 p0 p1 p2 q3) (vM_5 p0 p1 p2 q3)) 6 (vM_5 p0 p1 p2 q3) 4 (vM_4 p0 p1 p2 q3)) = (0 : Int32) then (0 : Int32) else (if (ret_L (1 : Int32) ((p2 &&& (7 : Int32)) % (5 : Int32)) (vM_3 p0 p1 p2 q3) (vM_2 p0 p1 p2 q3) 6 (cpF ((p2 &&& (7 : Int32)) % (5 : Int32)).toNatClampNeg (((p2 &&& (7 : Int32)) % (5 : Int32)) + (vM_2 p0 p1 p2 q3)).toNatClampNeg (vM_3 p0 p1 p2 q3).toNatClampNeg (vM_4 p0 p1 p2 q3) (vM_5 p0 p1 p2 q3)) 6 (vM_5 p0 p1 p2 q3) 4 (vM_4 p0 p1 p2 q3)) = (0 : Int32) then (0 : Int32) else (if (ret_L (2 : Int32) ((p2 &&& (7 : Int32)) % (5 : Int32)) (vM_3 p0 p1 p2 q3) (vM_2 p0 p1 p2 q3) 6 (cpF ((p2 &&& (7 : Int32)) % (5 : Int32)).toNatClampNeg (((p2 &&& (7 : Int32)) % (5 : Int32)) + (vM_2 p0 p1 p2 q3)).toNatClampNeg (vM_3 p0 p1 p2 q3).toNatClampNeg (vM_4 p0 p1 p2 q3) (vM_5 p0 p1 p2 q3)) 6 (vM_5 p0 p1 p2 q3) 4 (vM_4 p0 p1 p2 q3)) = (0 : Int32) then (0 : Int32) else (if (ret_L (3 : Int32) ((p2 &&& (7 : Int32)) % (5 : Int32)) (vM_3 p0 p1 p2 q3) (vM_2 p0 p1 p2 q3) 6 (cpF ((p2 &&& (7 : Int32)) % (5 : Int32)).toNatClampNeg (((p2 &&& (7 : Int32)) % (5 : Int32)) + (vM_2 p0 p1 p2 q3)).toNatClampNeg (vM_3 p0 p1 p2 q3).toNatClampNeg (vM_4 p0 p1 p2 q3) (vM_5 p0 p1 p2 q3)) 6 (vM_5 p0 p1 p2 q3) 4 (vM_4 p0 p1 p2 q3)) = (0 : Int32) then (0 : Int32) else (if (ret_L (4 : Int32) ((p2 &&& (7 : Int32)) % (5 : Int32)) (vM_3 p0 p1 p2 q3) (vM_2 p0 p1 p2 q3) 6 (cpF ((p2 &&& (7 : Int32)) % (5 : Int32)).toNatClampNeg (((p2 &&& (7 : Int32)) % (5 : Int32)) + (vM_2 p0 p1 p2 q3)).toNatClampNeg (vM_3 p0 p1 p2 q3).toNatClampNeg (vM_4 p0 p1 p2 q3) (vM_5 p0 p1 p2 q3)) 6 (vM_5 p0 p1 p2 q3) 4 (vM_4 p0 p1 p2 q3)) = (0 : Int32) then (0 : Int32) else (if (ret_L (5 : Int32) ((p2 &&& (7 : Int32)) % (5 : Int32)) (vM_3 p0 p1 p2 q3) (vM_2 p0 p1 p2 q3) 6 (cpF ((p2 &&& (7 : Int32)) % (5 : Int32)).toNatClampNeg (((p2 &&& (7 : Int32)) % (5 : Int32)) + (vM_2 p0 p1 p2 q3)).toNatClampNeg (vM_3 p0 p1 p2 q3).toNatClampNeg (vM_4 p0 p1 p2 q3) (vM_5 p0 p1 p2 q3)) 6 (vM_5 p0 p1 p2 q3) 4 (vM_4 p0 p1 p2 q3)) = (0 : Int32) then (0 : Int32) else (1 : Int32)))))))
def vM_16 (p0 : Int32) (p1 : Int32) (p2 : Int32) (q3 : Int64) : Int32 := (if (vM_9 p0 p1 p2 q3) = (0 : Int32) then (0 : Int32) else (if (ret_L (0 : Int32) ((p2 &&& (7 : Int32)) % (5 : Int32)) (vM_3 p0 p1 p2 q3) (vM_2 p0 p1 p2 q3) 6 (cpF ((p2 &&& (7 : Int32)) % (5 : Int32)).toNatClampNeg (((p2 &&& (7 : Int32)) % (5 : Int32)) + (vM_2 p0 p1 p2 q3)).toNatClampNeg (vM_3 p0 p1 p2 q3).toNatClampNeg (vM_4 p0 p1 p2 q3) (vM_5 p0 p1 p2 q3)) 6 (vM_5 p0 p1 p2 q3) 4 (vM_4 p0 p1 p2 q3)) = (0 : Int32) then (0 : Int32) else (if (ret_L (1 : Int32) ((p2 &&& (7 : Int32)) % (5 : Int32)) (vM_3 p0 p1 p2 q3) (vM_2 p0 p1 p2 q3) 6 (cpF ((p2 &&& (7 : Int32)) % (5 : Int32)).toNatClampNeg (((p2 &&& (7 : Int32)) % (5 : Int32)) + (vM_2 p0 p1 p2 q3)).toNatClampNeg (vM_3 p0 p1 p2 q3).toNatClampNeg (vM_4 p0 p1 p2 q3) (vM_5 p0 p1 p2 q3)) 6 (vM_5 p0 p1 p2 q3) 4 (vM_4 p0 p1 p2 q3)) = (0 : Int32) then (0 : Int32) else (if (ret_L (2 : Int32) ((p2 &&& (7 : Int32)) % (5 : Int32)) (vM_3 p0 p1 p2 q3) (vM_2 p0 p1 p2 q3) 6 (cpF ((p2 &&& (7 : Int32)) % (5 : Int32)).toNatClampNeg (((p2 &&& (7 : Int32)) % (5 : Int32)) + (vM_2 p0 p1 p2 q3)).toNatClampNeg (vM_3 p0 p1 p2 q3).toNatClampNeg (vM_4 p0 p1 p2 q3) (vM_5 p0 p1 p2 q3)) 6 (vM_5 p0 p1 p2 q3) 4 (vM_4 p0 p1 p2 q3)) = (0 : Int32) then (0 : Int32) else (if (ret_L (3 : Int32) ((p2 &&& (7 : Int32)) % (5 : Int32)) (vM_3 p0 p1 p2 q3) (vM_2 p0 p1 p2 q3) 6 (cpF ((p2 &&& (7 : Int32)) % (5 : Int32)).toNatClampNeg (((p2 &&& (7 : Int32)) % (5 : Int32)) + (vM_2 p0 p1 p2 q3)).toNatClampNeg (vM_3 p0 p1 p2 q3).toNatClampNeg (vM_4 p0 p1 p2 q3) (vM_5 p0 p1 p2 q3)) 6 (vM_5 p0 p1 p2 q3) 4 (vM_4 p0 p1 p2 q3)) = (0 : Int32) then (0 : Int32) else (if (ret_L (4 : Int32) ((p2 &&& (7 : Int32)) % (5 : Int32)) (vM_3 p0 p1 p2 q3) (vM_2 p0 p1 p2 q3) 6 (cpF ((p2 &&& (7 : Int32)) % (5 : Int32)).toNatClampNeg (((p2 &&& (7 : Int32)) % (5 : Int32)) + (vM_2 p0 p1 p2 q3)).toNatClampNeg (vM_3 p0 p1 p2 q3).toNatClampNeg (vM_4 p0 p1 p2 q3) (vM_5 p0 p1 p2 q3)) 6 (vM_5 p0 p1 p2 q3) 4 (vM_4 p0 p1 p2 q3)) = (0 : Int32) then (0 : Int32) else (if (ret_L (5 : Int32) ((p2 &&& (7 : Int32)) % (5 : Int32)) (vM_3 p0 p1 p2 q3) (vM_2 p0 p1 p2 q3) 6 (cpF ((p2 &&& (7 : Int32)) % (5 : Int32)).toNatClampNeg (((p2 &&& (7 : Int32)) % (5 : Int32)) + (vM_2 p0 p1 p2 q3)).toNatClampNeg (vM_3 p0 p1 p2 q3).toNatClampNeg (vM_4 p0 p1 p2 q3) (vM_5 p0 p1 p2 q3)) 6 (vM_5 p0 p1 p2 q3) 4 (vM_4 p0 p1 p2 q3)) = (0 : Int32) then (0 : Int32) else (1 : Int32))))))))
theorem own_len (p0 p1 p2 : Int32) (q3 : Int64) : 0 ≤ (vM_2 p0 p1 p2 q3).toInt ∧ (vM_2 p0 p1 p2 q3).toInt + ((p2 &&& (7 : Int32)) % (5 : Int32)).toInt ≤ 4 := by
  have h := own_from p2
  have h2 := own_f5 p2
  have h3 := own_m7 ((p2.toUInt32 >>> ((3 : Int32) &&& 31).toUInt32).toInt32)
  have h4 := (c_iremV (((p2.toUInt32 >>> ((3 : Int32) &&& 31).toUInt32).toInt32) &&& (7 : Int32)) ((5 : Int32) - ((p2 &&& (7 : Int32)) % (5 : Int32)))).1 h3.1 (by omega)
  have e : vM_2 p0 p1 p2 q3 = ((((p2.toUInt32 >>> ((3 : Int32) &&& 31).toUInt32).toInt32) &&& (7 : Int32)) % ((5 : Int32) - ((p2 &&& (7 : Int32)) % (5 : Int32)))) := rfl
  rw [e]
  omega
theorem own_f7 (p0 p1 p2 : Int32) (q3 : Int64) : ((7 : Int32) - (vM_2 p0 p1 p2 q3)).toInt = 7 - (vM_2 p0 p1 p2 q3).toInt := by
  have h := own_len p0 p1 p2 q3
  have h' := own_from p2
  have g1 := c_isub 7 (vM_2 p0 p1 p2 q3)
  have g2 := rng32 ((7 : Int32) - (vM_2 p0 p1 p2 q3))
  have g3 : (7 : Int32).toInt = 7 := rfl
  omega
theorem own_nz7 (p0 p1 p2 : Int32) (q3 : Int64) : ((7 : Int32) - (vM_2 p0 p1 p2 q3)) ≠ 0 := fun q => by
  have h := own_len p0 p1 p2 q3
  have h' := own_from p2
  have h2 := own_f7 p0 p1 p2 q3
  rw [q] at h2
  have g3 : (0 : Int32).toInt = 0 := rfl
  omega
theorem own_at (p0 p1 p2 : Int32) (q3 : Int64) : 0 ≤ (vM_3 p0 p1 p2 q3).toInt ∧ (vM_3 p0 p1 p2 q3).toInt + (vM_2 p0 p1 p2 q3).toInt ≤ 6 := by
  have h := own_len p0 p1 p2 q3
  have h' := own_from p2
  have h2 := own_f7 p0 p1 p2 q3
  have h3 := own_m7 ((p2.toUInt32 >>> ((6 : Int32) &&& 31).toUInt32).toInt32)
  have h4 := (c_iremV (((p2.toUInt32 >>> ((6 : Int32) &&& 31).toUInt32).toInt32) &&& (7 : Int32)) ((7 : Int32) - (vM_2 p0 p1 p2 q3))).1 h3.1 (by omega)
  have e : vM_3 p0 p1 p2 q3 = ((((p2.toUInt32 >>> ((6 : Int32) &&& 31).toUInt32).toInt32) &&& (7 : Int32)) % ((7 : Int32) - (vM_2 p0 p1 p2 q3))) := rfl
  rw [e]
  omega
theorem own_to (p0 p1 p2 : Int32) (q3 : Int64) : (((p2 &&& (7 : Int32)) % (5 : Int32)) + (vM_2 p0 p1 p2 q3)).toInt = ((p2 &&& (7 : Int32)) % (5 : Int32)).toInt + (vM_2 p0 p1 p2 q3).toInt := by
  have h := own_len p0 p1 p2 q3
  have h' := own_from p2
  have g1 := c_iadd ((p2 &&& (7 : Int32)) % (5 : Int32)) (vM_2 p0 p1 p2 q3)
  have g2 := rng32 (((p2 &&& (7 : Int32)) % (5 : Int32)) + (vM_2 p0 p1 p2 q3))
  omega
theorem own_hb (p0 p1 p2 : Int32) (q3 : Int64) : 0 ≤ ((p2 &&& (7 : Int32)) % (5 : Int32)).toInt ∧ ((p2 &&& (7 : Int32)) % (5 : Int32)).toInt ≤ (((p2 &&& (7 : Int32)) % (5 : Int32)) + (vM_2 p0 p1 p2 q3)).toInt ∧ (((p2 &&& (7 : Int32)) % (5 : Int32)) + (vM_2 p0 p1 p2 q3)).toInt ≤ 4 ∧ 0 ≤ (vM_3 p0 p1 p2 q3).toInt ∧ (vM_3 p0 p1 p2 q3).toInt + ((((p2 &&& (7 : Int32)) % (5 : Int32)) + (vM_2 p0 p1 p2 q3)).toInt - ((p2 &&& (7 : Int32)) % (5 : Int32)).toInt) ≤ 6 := by
  have h := own_len p0 p1 p2 q3
  have h' := own_from p2
  have h2 := own_at p0 p1 p2 q3
  have h3 := own_to p0 p1 p2 q3
  omega
theorem own_hc (p0 p1 p2 : Int32) (q3 : Int64) (k : Int32) (hk : 0 ≤ k.toInt ∧ k.toInt < 6) : 0 ≤ k.toInt ∧ k.toInt < 6 ∧ 0 ≤ ((p2 &&& (7 : Int32)) % (5 : Int32)).toInt ∧ 0 ≤ (vM_3 p0 p1 p2 q3).toInt ∧ 0 ≤ (vM_2 p0 p1 p2 q3).toInt ∧ ((p2 &&& (7 : Int32)) % (5 : Int32)).toInt + (vM_2 p0 p1 p2 q3).toInt ≤ 4 ∧ (vM_3 p0 p1 p2 q3).toInt + (vM_2 p0 p1 p2 q3).toInt ≤ 6 := by
  have h := own_len p0 p1 p2 q3
  have h' := own_from p2
  have h2 := own_at p0 p1 p2 q3
  omega
theorem leafM_0 (p0 : Int32) (p1 : Int32) (p2 : Int32) (q3 : Int64) : nar .boolean (vM_16 p0 p1 p2 q3) = 1 := by
  have s0 : (ret_L (0 : Int32) ((p2 &&& (7 : Int32)) % (5 : Int32)) (vM_3 p0 p1 p2 q3) (vM_2 p0 p1 p2 q3) 6 (cpF ((p2 &&& (7 : Int32)) % (5 : Int32)).toNatClampNeg (((p2 &&& (7 : Int32)) % (5 : Int32)) + (vM_2 p0 p1 p2 q3)).toNatClampNeg (vM_3 p0 p1 p2 q3).toNatClampNeg (vM_4 p0 p1 p2 q3) (vM_5 p0 p1 p2 q3)) 6 (vM_5 p0 p1 p2 q3) 4 (vM_4 p0 p1 p2 q3)) = 1 := own_cell _ _ _ _ _ _ _ _ _ rfl rfl (own_hc p0 p1 p2 q3 _ (by decide)) (own_to p0 p1 p2 q3)
  have s1 : (ret_L (1 : Int32) ((p2 &&& (7 : Int32)) % (5 : Int32)) (vM_3 p0 p1 p2 q3) (vM_2 p0 p1 p2 q3) 6 (cpF ((p2 &&& (7 : Int32)) % (5 : Int32)).toNatClampNeg (((p2 &&& (7 : Int32)) % (5 : Int32)) + (vM_2 p0 p1 p2 q3)).toNatClampNeg (vM_3 p0 p1 p2 q3).toNatClampNeg (vM_4 p0 p1 p2 q3) (vM_5 p0 p1 p2 q3)) 6 (vM_5 p0 p1 p2 q3) 4 (vM_4 p0 p1 p2 q3)) = 1 := own_cell _ _ _ _ _ _ _ _ _ rfl rfl (own_hc p0 p1 p2 q3 _ (by decide)) (own_to p0 p1 p2 q3)
  have s2 : (ret_L (2 : Int32) ((p2 &&& (7 : Int32)) % (5 : Int32)) (vM_3 p0 p1 p2 q3) (vM_2 p0 p1 p2 q3) 6 (cpF ((p2 &&& (7 : Int32)) % (5 : Int32)).toNatClampNeg (((p2 &&& (7 : Int32)) % (5 : Int32)) + (vM_2 p0 p1 p2 q3)).toNatClampNeg (vM_3 p0 p1 p2 q3).toNatClampNeg (vM_4 p0 p1 p2 q3) (vM_5 p0 p1 p2 q3)) 6 (vM_5 p0 p1 p2 q3) 4 (vM_4 p0 p1 p2 q3)) = 1 := own_cell _ _ _ _ _ _ _ _ _ rfl rfl (own_hc p0 p1 p2 q3 _ (by decide)) (own_to p0 p1 p2 q3)
  have s3 : (ret_L (3 : Int32) ((p2 &&& (7 : Int32)) % (5 : Int32)) (vM_3 p0 p1 p2 q3) (vM_2 p0 p1 p2 q3) 6 (cpF ((p2 &&& (7 : Int32)) % (5 : Int32)).toNatClampNeg (((p2 &&& (7 : Int32)) % (5 : Int32)) + (vM_2 p0 p1 p2 q3)).toNatClampNeg (vM_3 p0 p1 p2 q3).toNatClampNeg (vM_4 p0 p1 p2 q3) (vM_5 p0 p1 p2 q3)) 6 (vM_5 p0 p1 p2 q3) 4 (vM_4 p0 p1 p2 q3)) = 1 := own_cell _ _ _ _ _ _ _ _ _ rfl rfl (own_hc p0 p1 p2 q3 _ (by decide)) (own_to p0 p1 p2 q3)
  have s4 : (ret_L (4 : Int32) ((p2 &&& (7 : Int32)) % (5 : Int32)) (vM_3 p0 p1 p2 q3) (vM_2 p0 p1 p2 q3) 6 (cpF ((p2 &&& (7 : Int32)) % (5 : Int32)).toNatClampNeg (((p2 &&& (7 : Int32)) % (5 : Int32)) + (vM_2 p0 p1 p2 q3)).toNatClampNeg (vM_3 p0 p1 p2 q3).toNatClampNeg (vM_4 p0 p1 p2 q3) (vM_5 p0 p1 p2 q3)) 6 (vM_5 p0 p1 p2 q3) 4 (vM_4 p0 p1 p2 q3)) = 1 := own_cell _ _ _ _ _ _ _ _ _ rfl rfl (own_hc p0 p1 p2 q3 _ (by decide)) (own_to p0 p1 p2 q3)
  have s5 : (ret_L (5 : Int32) ((p2 &&& (7 : Int32)) % (5 : Int32)) (vM_3 p0 p1 p2 q3) (vM_2 p0 p1 p2 q3) 6 (cpF ((p2 &&& (7 : Int32)) % (5 : Int32)).toNatClampNeg (((p2 &&& (7 : Int32)) % (5 : Int32)) + (vM_2 p0 p1 p2 q3)).toNatClampNeg (vM_3 p0 p1 p2 q3).toNatClampNeg (vM_4 p0 p1 p2 q3) (vM_5 p0 p1 p2 q3)) 6 (vM_5 p0 p1 p2 q3) 4 (vM_4 p0 p1 p2 q3)) = 1 := own_cell _ _ _ _ _ _ _ _ _ rfl rfl (own_hc p0 p1 p2 q3 _ (by decide)) (own_to p0 p1 p2 q3)
  have e9 : vM_9 p0 p1 p2 q3 = 1 := (if_pos (own_nc _)).trans ((if_pos (own_nc _)).trans ((if_pos (own_nc _)).trans (if_pos (own_nc _))))
  rw [vM_16, e9, s0, s1, s2, s3, s4, s5]; decide
theorem efM (m : MethodId) (p0 : Int32) (p1 : Int32) (p2 : Int32) (q3 : Int64) : entryFrame m #[(.int p0), (.int p1), (.int p2), (.long q3)] maxLocals = mkF m 0 #[.val (.int p0), .val (.int p1), .val (.int p2), .val (.long q3), .second, .unset, .unset, .unset, .unset, .unset, .unset, .unset, .unset, .unset] [] := by first | (simp [entryFrame, mkF, argsToLocals, Value.category, maxLocals]; done) | rfl
def QM (Z : State) (p0 : Int32) (p1 : Int32) (p2 : Int32) (q3 : Int64) (h0 : Heap) (n0 : Nat) (v : Option Value) (h : Heap) : Prop := v = some (.int 1)
set_option maxRecDepth 65536 in
set_option maxHeartbeats 40000000 in
theorem rmM (l : Launch) (Z : State) (aZ : Array Value) (hw : ∀ d ∈ tables_1, d.before aZ Z = true) (p0 : Int32) (p1 : Int32) (p2 : Int32) (q3 : Int64) (h0 : Heap) (n0 : Nat) (Z0 : n0 ≤ h0.size) :
    Ctr l Z x code maxLocals ret room_1 #[(.int p0), (.int p1), (.int p2), (.long q3)] h0 n0 (QM Z p0 p1 p2 q3 h0 n0) := by
  refine Ctr.of_go pn6 (fun m => efM m p0 p1 p2 q3) ?_
  intro p e s m below meth c hnm C
  refine g_iconst C (4 : Int32) iM_0 rfl ?_
  refine g_newP C iM_1 (hw _ (List.mem_of_getElem? (i := 0) rfl)) (by decide) 4 (by decide) (by decide) (by decide) (by decide) rfl rfl (fun h8 b8 g8 E8 A8 => ?_)
  have ge8 : n0 ≤ b8 := Nat.le_trans Z0 (Nat.le_of_eq g8.symm)
  have fr8 : h0.size ≤ b8 := Nat.le_trans (Keep.refl h0 []).1 (Nat.le_of_eq g8.symm)
  have K8 := Keep.ext (Keep.refl h0 []) E8
  have Z8 : n0 ≤ h8.size := Nat.le_trans Z0 E8.1
  have V8 : AV Z h8 b8 .char 4 (fun _ => (.int (0 : Int32))) := A8
  refine g_astore C (Ls' := #[.val (.int p0), .val (.int p1), .val (.int p2), .val (.long q3), .second, .val (.ref b8), .unset, .unset, .unset, .unset, .unset, .unset, .unset, .unset]) iM_3 rfl rfl ?_
  refine g_aload C iM_5 rfl rfl ?_
  refine g_iconst C (0 : Int32) iM_7 rfl ?_
  refine g_iloadN C iM_8 rfl ?_
  refine g_i2c C iM_9 ?_
  refine g_cast C iM_10 V8 ⟨by decide, by decide⟩ ge8 (fun h9 W9 V9 => ?_)
  have Vw9 : AV Z h9 b8 .char 4 (fun ix => if ix = 0 then (.int (nar .char (p0.toUInt32.toUInt16.toUInt32.toInt32))) else (fun _ => (.int (0 : Int32))) ix) := V9
  have K9 := Keep.wr K8 W9 (Or.inr fr8)
  have Z9 : n0 ≤ h9.size := Nat.le_trans Z8 (Keep.of_wr W9).1
  refine g_aload C iM_11 rfl rfl ?_
  refine g_iconst C (1 : Int32) iM_13 rfl ?_
  refine g_iloadN C iM_14 rfl ?_
  refine g_bipush C (16 : Int32) iM_15 rfl ?_
  refine g_iushr C iM_17 ?_
  refine g_i2c C iM_18 ?_
  refine g_cast C iM_19 Vw9 ⟨by decide, by decide⟩ ge8 (fun h10 W10 V10 => ?_)
  have Vw10 : AV Z h10 b8 .char 4 (fun ix => if ix = 1 then (.int (nar .char (vM_0 p0 p1 p2 q3))) else (fun ix => if ix = 0 then (.int (nar .char (p0.toUInt32.toUInt16.toUInt32.toInt32))) else (fun _ => (.int (0 : Int32))) ix) ix) := V10
  have K10 := Keep.wr K9 W10 (Or.inr fr8)
  have Z10 : n0 ≤ h10.size := Nat.le_trans Z9 (Keep.of_wr W10).1
  refine g_aload C iM_20 rfl rfl ?_
  refine g_iconst C (2 : Int32) iM_22 rfl ?_
  refine g_iloadN C iM_23 rfl ?_
  refine g_i2c C iM_24 ?_
  refine g_cast C iM_25 Vw10 ⟨by decide, by decide⟩ ge8 (fun h11 W11 V11 => ?_)
  have Vw11 : AV Z h11 b8 .char 4 (fun ix => if ix = 2 then (.int (nar .char (p1.toUInt32.toUInt16.toUInt32.toInt32))) else (fun ix => if ix = 1 then (.int (nar .char (vM_0 p0 p1 p2 q3))) else (fun ix => if ix = 0 then (.int (nar .char (p0.toUInt32.toUInt16.toUInt32.toInt32))) else (fun _ => (.int (0 : Int32))) ix) ix) ix) := V11
  have K11 := Keep.wr K10 W11 (Or.inr fr8)
  have Z11 : n0 ≤ h11.size := Nat.le_trans Z10 (Keep.of_wr W11).1
  refine g_aload C iM_26 rfl rfl ?_
  refine g_iconst C (3 : Int32) iM_28 rfl ?_
  refine g_iloadN C iM_29 rfl ?_
  refine g_bipush C (16 : Int32) iM_30 rfl ?_
  refine g_iushr C iM_32 ?_
  refine g_i2c C iM_33 ?_
  refine g_cast C iM_34 Vw11 ⟨by decide, by decide⟩ ge8 (fun h12 W12 V12 => ?_)
  have Vw12 : AV Z h12 b8 .char 4 (fun ix => if ix = 3 then (.int (nar .char (vM_1 p0 p1 p2 q3))) else (fun ix => if ix = 2 then (.int (nar .char (p1.toUInt32.toUInt16.toUInt32.toInt32))) else (fun ix => if ix = 1 then (.int (nar .char (vM_0 p0 p1 p2 q3))) else (fun ix => if ix = 0 then (.int (nar .char (p0.toUInt32.toUInt16.toUInt32.toInt32))) else (fun _ => (.int (0 : Int32))) ix) ix) ix) ix) := V12
  have K12 := Keep.wr K11 W12 (Or.inr fr8)
  have Z12 : n0 ≤ h12.size := Nat.le_trans Z11 (Keep.of_wr W12).1
  refine g_bipush C (6 : Int32) iM_35 rfl ?_
  refine g_newP C iM_37 (hw _ (List.mem_of_getElem? (i := 1) rfl)) (by decide) 6 (by decide) (by decide) (by decide) (by decide) rfl rfl (fun h13 b13 g13 E13 A13 => ?_)
  have ne_b8_b13 : b8 ≠ b13 := Nat.ne_of_lt (Nat.lt_of_lt_of_le Vw12.lt (Nat.le_of_eq g13.symm))
  have ge13 : n0 ≤ b13 := Nat.le_trans Z12 (Nat.le_of_eq g13.symm)
  have fr13 : h0.size ≤ b13 := Nat.le_trans K12.1 (Nat.le_of_eq g13.symm)
  have K13 := Keep.ext K12 E13
  have Z13 : n0 ≤ h13.size := Nat.le_trans Z12 E13.1
  have V_b8_c13 := Vw12.ext E13
  have V13 : AV Z h13 b13 .byte 6 (fun _ => (.int (0 : Int32))) := A13
  refine g_astore C (Ls' := #[.val (.int p0), .val (.int p1), .val (.int p2), .val (.long q3), .second, .val (.ref b8), .val (.ref b13), .unset, .unset, .unset, .unset, .unset, .unset, .unset]) iM_39 rfl rfl ?_
  refine g_bipush C (6 : Int32) iM_41 rfl ?_
  refine g_newP C iM_43 (hw _ (List.mem_of_getElem? (i := 1) rfl)) (by decide) 6 (by decide) (by decide) (by decide) (by decide) rfl rfl (fun h14 b14 g14 E14 A14 => ?_)
  have ne_b13_b14 : b13 ≠ b14 := Nat.ne_of_lt (Nat.lt_of_lt_of_le V13.lt (Nat.le_of_eq g14.symm))
  have ne_b8_b14 : b8 ≠ b14 := Nat.ne_of_lt (Nat.lt_of_lt_of_le V_b8_c13.lt (Nat.le_of_eq g14.symm))
  have ge14 : n0 ≤ b14 := Nat.le_trans Z13 (Nat.le_of_eq g14.symm)
  have fr14 : h0.size ≤ b14 := Nat.le_trans K13.1 (Nat.le_of_eq g14.symm)
  have K14 := Keep.ext K13 E14
  have Z14 : n0 ≤ h14.size := Nat.le_trans Z13 E14.1
  have V_b8_c14 := V_b8_c13.ext E14
  have V_b13_c14 := V13.ext E14
  have V14 : AV Z h14 b14 .byte 6 (fun _ => (.int (0 : Int32))) := A14
  refine g_astore C (Ls' := #[.val (.int p0), .val (.int p1), .val (.int p2), .val (.long q3), .second, .val (.ref b8), .val (.ref b13), .val (.ref b14), .unset, .unset, .unset, .unset, .unset, .unset]) iM_45 rfl rfl ?_
  refine g_aload C iM_47 rfl rfl ?_
  refine g_iconst C (0 : Int32) iM_49 rfl ?_
  refine g_lloadN C iM_50 rfl ?_
  refine g_iconst C (0 : Int32) iM_51 rfl ?_
  refine g_callS C (rmK l Z aZ hw q3 (0 : Int32) h14 n0 Z14) iM_52 (hw _ (List.mem_of_getElem? (i := 2) rfl)) (hw _ (List.mem_of_getElem? (i := 3) rfl)) (hw _ (List.mem_of_getElem? (i := 4) rfl)) (hw _ (List.mem_of_getElem? (i := 5) rfl)) (by decide) (argsL := [(.long q3), (.int (0 : Int32))]) (rest := [(.int (0 : Int32)), (.ref b13)]) rfl rfl pd2 rfl rfl 2 (Nat.le_of_eq rfl) (by decide) (by decide) (by decide) (by decide) rfl rfl ?_
  rintro _ _ ⟨rfl, he15⟩
  refine Go.heap he15.symm ?_
  refine Go.some' ?_
  refine g_bast C iM_55 V_b13_c14 ⟨by decide, by decide⟩ ge13 (fun h16 W16 V16 => ?_)
  have V_b8_c16 := AV.other V_b8_c14 W16 ne_b8_b13
  have V_b14_c16 := AV.other V14 W16 (Ne.symm ne_b13_b14)
  have Vw16 : AV Z h16 b13 .byte 6 (fun ix => if ix = 0 then (.int (nar .byte (ret_K q3 (0 : Int32)))) else (fun _ => (.int (0 : Int32))) ix) := V16
  have K16 := Keep.wr K14 W16 (Or.inr fr13)
  have Z16 : n0 ≤ h16.size := Nat.le_trans Z14 (Keep.of_wr W16).1
  refine g_aload C iM_56 rfl rfl ?_
  refine g_iconst C (0 : Int32) iM_58 rfl ?_
  refine g_lloadN C iM_59 rfl ?_
  refine g_iconst C (0 : Int32) iM_60 rfl ?_
  refine g_callS C (rmK l Z aZ hw q3 (0 : Int32) h16 n0 Z16) iM_61 (hw _ (List.mem_of_getElem? (i := 2) rfl)) (hw _ (List.mem_of_getElem? (i := 3) rfl)) (hw _ (List.mem_of_getElem? (i := 4) rfl)) (hw _ (List.mem_of_getElem? (i := 5) rfl)) (by decide) (argsL := [(.long q3), (.int (0 : Int32))]) (rest := [(.int (0 : Int32)), (.ref b14)]) rfl rfl pd2 rfl rfl 2 (Nat.le_of_eq rfl) (by decide) (by decide) (by decide) (by decide) rfl rfl ?_
  rintro _ _ ⟨rfl, he17⟩
  refine Go.heap he17.symm ?_
  refine Go.some' ?_
  refine g_bast C iM_64 V_b14_c16 ⟨by decide, by decide⟩ ge14 (fun h18 W18 V18 => ?_)
  have V_b8_c18 := AV.other V_b8_c16 W18 ne_b8_b14
  have V_b13_c18 := AV.other Vw16 W18 ne_b13_b14
  have Vw18 : AV Z h18 b14 .byte 6 (fun ix => if ix = 0 then (.int (nar .byte (ret_K q3 (0 : Int32)))) else (fun _ => (.int (0 : Int32))) ix) := V18
  have K18 := Keep.wr K16 W18 (Or.inr fr14)
  have Z18 : n0 ≤ h18.size := Nat.le_trans Z16 (Keep.of_wr W18).1
  refine g_aload C iM_65 rfl rfl ?_
  refine g_iconst C (1 : Int32) iM_67 rfl ?_
  refine g_lloadN C iM_68 rfl ?_
  refine g_iconst C (1 : Int32) iM_69 rfl ?_
  refine g_callS C (rmK l Z aZ hw q3 (1 : Int32) h18 n0 Z18) iM_70 (hw _ (List.mem_of_getElem? (i := 2) rfl)) (hw _ (List.mem_of_getElem? (i := 3) rfl)) (hw _ (List.mem_of_getElem? (i := 4) rfl)) (hw _ (List.mem_of_getElem? (i := 5) rfl)) (by decide) (argsL := [(.long q3), (.int (1 : Int32))]) (rest := [(.int (1 : Int32)), (.ref b13)]) rfl rfl pd2 rfl rfl 2 (Nat.le_of_eq rfl) (by decide) (by decide) (by decide) (by decide) rfl rfl ?_
  rintro _ _ ⟨rfl, he19⟩
  refine Go.heap he19.symm ?_
  refine Go.some' ?_
  refine g_bast C iM_73 V_b13_c18 ⟨by decide, by decide⟩ ge13 (fun h20 W20 V20 => ?_)
  have V_b8_c20 := AV.other V_b8_c18 W20 ne_b8_b13
  have V_b14_c20 := AV.other Vw18 W20 (Ne.symm ne_b13_b14)
  have Vw20 : AV Z h20 b13 .byte 6 (fun ix => if ix = 1 then (.int (nar .byte (ret_K q3 (1 : Int32)))) else (fun ix => if ix = 0 then (.int (nar .byte (ret_K q3 (0 : Int32)))) else (fun _ => (.int (0 : Int32))) ix) ix) := V20
  have K20 := Keep.wr K18 W20 (Or.inr fr13)
  have Z20 : n0 ≤ h20.size := Nat.le_trans Z18 (Keep.of_wr W20).1
  refine g_aload C iM_74 rfl rfl ?_
  refine g_iconst C (1 : Int32) iM_76 rfl ?_
  refine g_lloadN C iM_77 rfl ?_
  refine g_iconst C (1 : Int32) iM_78 rfl ?_
  refine g_callS C (rmK l Z aZ hw q3 (1 : Int32) h20 n0 Z20) iM_79 (hw _ (List.mem_of_getElem? (i := 2) rfl)) (hw _ (List.mem_of_getElem? (i := 3) rfl)) (hw _ (List.mem_of_getElem? (i := 4) rfl)) (hw _ (List.mem_of_getElem? (i := 5) rfl)) (by decide) (argsL := [(.long q3), (.int (1 : Int32))]) (rest := [(.int (1 : Int32)), (.ref b14)]) rfl rfl pd2 rfl rfl 2 (Nat.le_of_eq rfl) (by decide) (by decide) (by decide) (by decide) rfl rfl ?_
  rintro _ _ ⟨rfl, he21⟩
  refine Go.heap he21.symm ?_
  refine Go.some' ?_
  refine g_bast C iM_82 V_b14_c20 ⟨by decide, by decide⟩ ge14 (fun h22 W22 V22 => ?_)
  have V_b8_c22 := AV.other V_b8_c20 W22 ne_b8_b14
  have V_b13_c22 := AV.other Vw20 W22 ne_b13_b14
  have Vw22 : AV Z h22 b14 .byte 6 (fun ix => if ix = 1 then (.int (nar .byte (ret_K q3 (1 : Int32)))) else (fun ix => if ix = 0 then (.int (nar .byte (ret_K q3 (0 : Int32)))) else (fun _ => (.int (0 : Int32))) ix) ix) := V22
  have K22 := Keep.wr K20 W22 (Or.inr fr14)
  have Z22 : n0 ≤ h22.size := Nat.le_trans Z20 (Keep.of_wr W22).1
  refine g_aload C iM_83 rfl rfl ?_
  refine g_iconst C (2 : Int32) iM_85 rfl ?_
  refine g_lloadN C iM_86 rfl ?_
  refine g_iconst C (2 : Int32) iM_87 rfl ?_
  refine g_callS C (rmK l Z aZ hw q3 (2 : Int32) h22 n0 Z22) iM_88 (hw _ (List.mem_of_getElem? (i := 2) rfl)) (hw _ (List.mem_of_getElem? (i := 3) rfl)) (hw _ (List.mem_of_getElem? (i := 4) rfl)) (hw _ (List.mem_of_getElem? (i := 5) rfl)) (by decide) (argsL := [(.long q3), (.int (2 : Int32))]) (rest := [(.int (2 : Int32)), (.ref b13)]) rfl rfl pd2 rfl rfl 2 (Nat.le_of_eq rfl) (by decide) (by decide) (by decide) (by decide) rfl rfl ?_
  rintro _ _ ⟨rfl, he23⟩
  refine Go.heap he23.symm ?_
  refine Go.some' ?_
  refine g_bast C iM_91 V_b13_c22 ⟨by decide, by decide⟩ ge13 (fun h24 W24 V24 => ?_)
  have V_b8_c24 := AV.other V_b8_c22 W24 ne_b8_b13
  have V_b14_c24 := AV.other Vw22 W24 (Ne.symm ne_b13_b14)
  have Vw24 : AV Z h24 b13 .byte 6 (fun ix => if ix = 2 then (.int (nar .byte (ret_K q3 (2 : Int32)))) else (fun ix => if ix = 1 then (.int (nar .byte (ret_K q3 (1 : Int32)))) else (fun ix => if ix = 0 then (.int (nar .byte (ret_K q3 (0 : Int32)))) else (fun _ => (.int (0 : Int32))) ix) ix) ix) := V24
  have K24 := Keep.wr K22 W24 (Or.inr fr13)
  have Z24 : n0 ≤ h24.size := Nat.le_trans Z22 (Keep.of_wr W24).1
  refine g_aload C iM_92 rfl rfl ?_
  refine g_iconst C (2 : Int32) iM_94 rfl ?_
  refine g_lloadN C iM_95 rfl ?_
  refine g_iconst C (2 : Int32) iM_96 rfl ?_
  refine g_callS C (rmK l Z aZ hw q3 (2 : Int32) h24 n0 Z24) iM_97 (hw _ (List.mem_of_getElem? (i := 2) rfl)) (hw _ (List.mem_of_getElem? (i := 3) rfl)) (hw _ (List.mem_of_getElem? (i := 4) rfl)) (hw _ (List.mem_of_getElem? (i := 5) rfl)) (by decide) (argsL := [(.long q3), (.int (2 : Int32))]) (rest := [(.int (2 : Int32)), (.ref b14)]) rfl rfl pd2 rfl rfl 2 (Nat.le_of_eq rfl) (by decide) (by decide) (by decide) (by decide) rfl rfl ?_
  rintro _ _ ⟨rfl, he25⟩
  refine Go.heap he25.symm ?_
  refine Go.some' ?_
  refine g_bast C iM_100 V_b14_c24 ⟨by decide, by decide⟩ ge14 (fun h26 W26 V26 => ?_)
  have V_b8_c26 := AV.other V_b8_c24 W26 ne_b8_b14
  have V_b13_c26 := AV.other Vw24 W26 ne_b13_b14
  have Vw26 : AV Z h26 b14 .byte 6 (fun ix => if ix = 2 then (.int (nar .byte (ret_K q3 (2 : Int32)))) else (fun ix => if ix = 1 then (.int (nar .byte (ret_K q3 (1 : Int32)))) else (fun ix => if ix = 0 then (.int (nar .byte (ret_K q3 (0 : Int32)))) else (fun _ => (.int (0 : Int32))) ix) ix) ix) := V26
  have K26 := Keep.wr K24 W26 (Or.inr fr14)
  have Z26 : n0 ≤ h26.size := Nat.le_trans Z24 (Keep.of_wr W26).1
  refine g_aload C iM_101 rfl rfl ?_
  refine g_iconst C (3 : Int32) iM_103 rfl ?_
  refine g_lloadN C iM_104 rfl ?_
  refine g_iconst C (3 : Int32) iM_105 rfl ?_
  refine g_callS C (rmK l Z aZ hw q3 (3 : Int32) h26 n0 Z26) iM_106 (hw _ (List.mem_of_getElem? (i := 2) rfl)) (hw _ (List.mem_of_getElem? (i := 3) rfl)) (hw _ (List.mem_of_getElem? (i := 4) rfl)) (hw _ (List.mem_of_getElem? (i := 5) rfl)) (by decide) (argsL := [(.long q3), (.int (3 : Int32))]) (rest := [(.int (3 : Int32)), (.ref b13)]) rfl rfl pd2 rfl rfl 2 (Nat.le_of_eq rfl) (by decide) (by decide) (by decide) (by decide) rfl rfl ?_
  rintro _ _ ⟨rfl, he27⟩
  refine Go.heap he27.symm ?_
  refine Go.some' ?_
  refine g_bast C iM_109 V_b13_c26 ⟨by decide, by decide⟩ ge13 (fun h28 W28 V28 => ?_)
  have V_b8_c28 := AV.other V_b8_c26 W28 ne_b8_b13
  have V_b14_c28 := AV.other Vw26 W28 (Ne.symm ne_b13_b14)
  have Vw28 : AV Z h28 b13 .byte 6 (fun ix => if ix = 3 then (.int (nar .byte (ret_K q3 (3 : Int32)))) else (fun ix => if ix = 2 then (.int (nar .byte (ret_K q3 (2 : Int32)))) else (fun ix => if ix = 1 then (.int (nar .byte (ret_K q3 (1 : Int32)))) else (fun ix => if ix = 0 then (.int (nar .byte (ret_K q3 (0 : Int32)))) else (fun _ => (.int (0 : Int32))) ix) ix) ix) ix) := V28
  have K28 := Keep.wr K26 W28 (Or.inr fr13)
  have Z28 : n0 ≤ h28.size := Nat.le_trans Z26 (Keep.of_wr W28).1
  refine g_aload C iM_110 rfl rfl ?_
  refine g_iconst C (3 : Int32) iM_112 rfl ?_
  refine g_lloadN C iM_113 rfl ?_
  refine g_iconst C (3 : Int32) iM_114 rfl ?_
  refine g_callS C (rmK l Z aZ hw q3 (3 : Int32) h28 n0 Z28) iM_115 (hw _ (List.mem_of_getElem? (i := 2) rfl)) (hw _ (List.mem_of_getElem? (i := 3) rfl)) (hw _ (List.mem_of_getElem? (i := 4) rfl)) (hw _ (List.mem_of_getElem? (i := 5) rfl)) (by decide) (argsL := [(.long q3), (.int (3 : Int32))]) (rest := [(.int (3 : Int32)), (.ref b14)]) rfl rfl pd2 rfl rfl 2 (Nat.le_of_eq rfl) (by decide) (by decide) (by decide) (by decide) rfl rfl ?_
  rintro _ _ ⟨rfl, he29⟩
  refine Go.heap he29.symm ?_
  refine Go.some' ?_
  refine g_bast C iM_118 V_b14_c28 ⟨by decide, by decide⟩ ge14 (fun h30 W30 V30 => ?_)
  have V_b8_c30 := AV.other V_b8_c28 W30 ne_b8_b14
  have V_b13_c30 := AV.other Vw28 W30 ne_b13_b14
  have Vw30 : AV Z h30 b14 .byte 6 (fun ix => if ix = 3 then (.int (nar .byte (ret_K q3 (3 : Int32)))) else (fun ix => if ix = 2 then (.int (nar .byte (ret_K q3 (2 : Int32)))) else (fun ix => if ix = 1 then (.int (nar .byte (ret_K q3 (1 : Int32)))) else (fun ix => if ix = 0 then (.int (nar .byte (ret_K q3 (0 : Int32)))) else (fun _ => (.int (0 : Int32))) ix) ix) ix) ix) := V30
  have K30 := Keep.wr K28 W30 (Or.inr fr14)
  have Z30 : n0 ≤ h30.size := Nat.le_trans Z28 (Keep.of_wr W30).1
  refine g_aload C iM_119 rfl rfl ?_
  refine g_iconst C (4 : Int32) iM_121 rfl ?_
  refine g_lloadN C iM_122 rfl ?_
  refine g_iconst C (4 : Int32) iM_123 rfl ?_
  refine g_callS C (rmK l Z aZ hw q3 (4 : Int32) h30 n0 Z30) iM_124 (hw _ (List.mem_of_getElem? (i := 2) rfl)) (hw _ (List.mem_of_getElem? (i := 3) rfl)) (hw _ (List.mem_of_getElem? (i := 4) rfl)) (hw _ (List.mem_of_getElem? (i := 5) rfl)) (by decide) (argsL := [(.long q3), (.int (4 : Int32))]) (rest := [(.int (4 : Int32)), (.ref b13)]) rfl rfl pd2 rfl rfl 2 (Nat.le_of_eq rfl) (by decide) (by decide) (by decide) (by decide) rfl rfl ?_
  rintro _ _ ⟨rfl, he31⟩
  refine Go.heap he31.symm ?_
  refine Go.some' ?_
  refine g_bast C iM_127 V_b13_c30 ⟨by decide, by decide⟩ ge13 (fun h32 W32 V32 => ?_)
  have V_b8_c32 := AV.other V_b8_c30 W32 ne_b8_b13
  have V_b14_c32 := AV.other Vw30 W32 (Ne.symm ne_b13_b14)
  have Vw32 : AV Z h32 b13 .byte 6 (fun ix => if ix = 4 then (.int (nar .byte (ret_K q3 (4 : Int32)))) else (fun ix => if ix = 3 then (.int (nar .byte (ret_K q3 (3 : Int32)))) else (fun ix => if ix = 2 then (.int (nar .byte (ret_K q3 (2 : Int32)))) else (fun ix => if ix = 1 then (.int (nar .byte (ret_K q3 (1 : Int32)))) else (fun ix => if ix = 0 then (.int (nar .byte (ret_K q3 (0 : Int32)))) else (fun _ => (.int (0 : Int32))) ix) ix) ix) ix) ix) := V32
  have K32 := Keep.wr K30 W32 (Or.inr fr13)
  have Z32 : n0 ≤ h32.size := Nat.le_trans Z30 (Keep.of_wr W32).1
  refine g_aload C iM_128 rfl rfl ?_
  refine g_iconst C (4 : Int32) iM_130 rfl ?_
  refine g_lloadN C iM_131 rfl ?_
  refine g_iconst C (4 : Int32) iM_132 rfl ?_
  refine g_callS C (rmK l Z aZ hw q3 (4 : Int32) h32 n0 Z32) iM_133 (hw _ (List.mem_of_getElem? (i := 2) rfl)) (hw _ (List.mem_of_getElem? (i := 3) rfl)) (hw _ (List.mem_of_getElem? (i := 4) rfl)) (hw _ (List.mem_of_getElem? (i := 5) rfl)) (by decide) (argsL := [(.long q3), (.int (4 : Int32))]) (rest := [(.int (4 : Int32)), (.ref b14)]) rfl rfl pd2 rfl rfl 2 (Nat.le_of_eq rfl) (by decide) (by decide) (by decide) (by decide) rfl rfl ?_
  rintro _ _ ⟨rfl, he33⟩
  refine Go.heap he33.symm ?_
  refine Go.some' ?_
  refine g_bast C iM_136 V_b14_c32 ⟨by decide, by decide⟩ ge14 (fun h34 W34 V34 => ?_)
  have V_b8_c34 := AV.other V_b8_c32 W34 ne_b8_b14
  have V_b13_c34 := AV.other Vw32 W34 ne_b13_b14
  have Vw34 : AV Z h34 b14 .byte 6 (fun ix => if ix = 4 then (.int (nar .byte (ret_K q3 (4 : Int32)))) else (fun ix => if ix = 3 then (.int (nar .byte (ret_K q3 (3 : Int32)))) else (fun ix => if ix = 2 then (.int (nar .byte (ret_K q3 (2 : Int32)))) else (fun ix => if ix = 1 then (.int (nar .byte (ret_K q3 (1 : Int32)))) else (fun ix => if ix = 0 then (.int (nar .byte (ret_K q3 (0 : Int32)))) else (fun _ => (.int (0 : Int32))) ix) ix) ix) ix) ix) := V34
  have K34 := Keep.wr K32 W34 (Or.inr fr14)
  have Z34 : n0 ≤ h34.size := Nat.le_trans Z32 (Keep.of_wr W34).1
  refine g_aload C iM_137 rfl rfl ?_
  refine g_iconst C (5 : Int32) iM_139 rfl ?_
  refine g_lloadN C iM_140 rfl ?_
  refine g_iconst C (5 : Int32) iM_141 rfl ?_
  refine g_callS C (rmK l Z aZ hw q3 (5 : Int32) h34 n0 Z34) iM_142 (hw _ (List.mem_of_getElem? (i := 2) rfl)) (hw _ (List.mem_of_getElem? (i := 3) rfl)) (hw _ (List.mem_of_getElem? (i := 4) rfl)) (hw _ (List.mem_of_getElem? (i := 5) rfl)) (by decide) (argsL := [(.long q3), (.int (5 : Int32))]) (rest := [(.int (5 : Int32)), (.ref b13)]) rfl rfl pd2 rfl rfl 2 (Nat.le_of_eq rfl) (by decide) (by decide) (by decide) (by decide) rfl rfl ?_
  rintro _ _ ⟨rfl, he35⟩
  refine Go.heap he35.symm ?_
  refine Go.some' ?_
  refine g_bast C iM_145 V_b13_c34 ⟨by decide, by decide⟩ ge13 (fun h36 W36 V36 => ?_)
  have V_b8_c36 := AV.other V_b8_c34 W36 ne_b8_b13
  have V_b14_c36 := AV.other Vw34 W36 (Ne.symm ne_b13_b14)
  have Vw36 : AV Z h36 b13 .byte 6 (fun ix => if ix = 5 then (.int (nar .byte (ret_K q3 (5 : Int32)))) else (fun ix => if ix = 4 then (.int (nar .byte (ret_K q3 (4 : Int32)))) else (fun ix => if ix = 3 then (.int (nar .byte (ret_K q3 (3 : Int32)))) else (fun ix => if ix = 2 then (.int (nar .byte (ret_K q3 (2 : Int32)))) else (fun ix => if ix = 1 then (.int (nar .byte (ret_K q3 (1 : Int32)))) else (fun ix => if ix = 0 then (.int (nar .byte (ret_K q3 (0 : Int32)))) else (fun _ => (.int (0 : Int32))) ix) ix) ix) ix) ix) ix) := V36
  have K36 := Keep.wr K34 W36 (Or.inr fr13)
  have Z36 : n0 ≤ h36.size := Nat.le_trans Z34 (Keep.of_wr W36).1
  refine g_aload C iM_146 rfl rfl ?_
  refine g_iconst C (5 : Int32) iM_148 rfl ?_
  refine g_lloadN C iM_149 rfl ?_
  refine g_iconst C (5 : Int32) iM_150 rfl ?_
  refine g_callS C (rmK l Z aZ hw q3 (5 : Int32) h36 n0 Z36) iM_151 (hw _ (List.mem_of_getElem? (i := 2) rfl)) (hw _ (List.mem_of_getElem? (i := 3) rfl)) (hw _ (List.mem_of_getElem? (i := 4) rfl)) (hw _ (List.mem_of_getElem? (i := 5) rfl)) (by decide) (argsL := [(.long q3), (.int (5 : Int32))]) (rest := [(.int (5 : Int32)), (.ref b14)]) rfl rfl pd2 rfl rfl 2 (Nat.le_of_eq rfl) (by decide) (by decide) (by decide) (by decide) rfl rfl ?_
  rintro _ _ ⟨rfl, he37⟩
  refine Go.heap he37.symm ?_
  refine Go.some' ?_
  refine g_bast C iM_154 V_b14_c36 ⟨by decide, by decide⟩ ge14 (fun h38 W38 V38 => ?_)
  have V_b8_c38 := AV.other V_b8_c36 W38 ne_b8_b14
  have V_b13_c38 := AV.other Vw36 W38 ne_b13_b14
  have Vw38 : AV Z h38 b14 .byte 6 (fun ix => if ix = 5 then (.int (nar .byte (ret_K q3 (5 : Int32)))) else (fun ix => if ix = 4 then (.int (nar .byte (ret_K q3 (4 : Int32)))) else (fun ix => if ix = 3 then (.int (nar .byte (ret_K q3 (3 : Int32)))) else (fun ix => if ix = 2 then (.int (nar .byte (ret_K q3 (2 : Int32)))) else (fun ix => if ix = 1 then (.int (nar .byte (ret_K q3 (1 : Int32)))) else (fun ix => if ix = 0 then (.int (nar .byte (ret_K q3 (0 : Int32)))) else (fun _ => (.int (0 : Int32))) ix) ix) ix) ix) ix) ix) := V38
  have K38 := Keep.wr K36 W38 (Or.inr fr14)
  have Z38 : n0 ≤ h38.size := Nat.le_trans Z36 (Keep.of_wr W38).1
  refine g_iloadN C iM_155 rfl ?_
  refine g_bipush C (7 : Int32) iM_156 rfl ?_
  refine g_iand C iM_158 ?_
  refine g_iconst C (5 : Int32) iM_159 rfl ?_
  refine g_irem C iM_160 (by decide) ?_
  refine g_istore C (Ls' := #[.val (.int p0), .val (.int p1), .val (.int p2), .val (.long q3), .second, .val (.ref b8), .val (.ref b13), .val (.ref b14), .val (.int ((p2 &&& (7 : Int32)) % (5 : Int32))), .unset, .unset, .unset, .unset, .unset]) iM_161 rfl ?_
  refine g_iloadN C iM_163 rfl ?_
  refine g_iconst C (3 : Int32) iM_164 rfl ?_
  refine g_iushr C iM_165 ?_
  refine g_bipush C (7 : Int32) iM_166 rfl ?_
  refine g_iand C iM_168 ?_
  refine g_iconst C (5 : Int32) iM_169 rfl ?_
  refine g_iload C iM_170 rfl ?_
  refine g_isub C iM_172 ?_
  refine g_irem C iM_173 (own_nz5 p2) ?_
  refine g_istore C (Ls' := #[.val (.int p0), .val (.int p1), .val (.int p2), .val (.long q3), .second, .val (.ref b8), .val (.ref b13), .val (.ref b14), .val (.int ((p2 &&& (7 : Int32)) % (5 : Int32))), .val (.int (vM_2 p0 p1 p2 q3)), .unset, .unset, .unset, .unset]) iM_174 rfl ?_
  refine g_iload C iM_176 rfl ?_
  refine g_iload C iM_178 rfl ?_
  refine g_iadd C iM_180 ?_
  refine g_istore C (Ls' := #[.val (.int p0), .val (.int p1), .val (.int p2), .val (.long q3), .second, .val (.ref b8), .val (.ref b13), .val (.ref b14), .val (.int ((p2 &&& (7 : Int32)) % (5 : Int32))), .val (.int (vM_2 p0 p1 p2 q3)), .val (.int (((p2 &&& (7 : Int32)) % (5 : Int32)) + (vM_2 p0 p1 p2 q3))), .unset, .unset, .unset]) iM_181 rfl ?_
  refine g_iloadN C iM_183 rfl ?_
  refine g_bipush C (6 : Int32) iM_184 rfl ?_
  refine g_iushr C iM_186 ?_
  refine g_bipush C (7 : Int32) iM_187 rfl ?_
  refine g_iand C iM_189 ?_
  refine g_bipush C (7 : Int32) iM_190 rfl ?_
  refine g_iload C iM_192 rfl ?_
  refine g_isub C iM_194 ?_
  refine g_irem C iM_195 (own_nz7 p0 p1 p2 q3) ?_
  refine g_istore C (Ls' := #[.val (.int p0), .val (.int p1), .val (.int p2), .val (.long q3), .second, .val (.ref b8), .val (.ref b13), .val (.ref b14), .val (.int ((p2 &&& (7 : Int32)) % (5 : Int32))), .val (.int (vM_2 p0 p1 p2 q3)), .val (.int (((p2 &&& (7 : Int32)) % (5 : Int32)) + (vM_2 p0 p1 p2 q3))), .val (.int (vM_3 p0 p1 p2 q3)), .unset, .unset]) iM_196 rfl ?_
  refine g_newO C iM_198 (hw _ (List.mem_of_getElem? (i := 6) rfl)) (hw _ (List.mem_of_getElem? (i := 7) rfl)) (hw _ (List.mem_of_getElem? (i := 8) rfl)) (by decide) (by decide) rfl rfl (fun h39 b39 g39 E39 A39 D39 => ?_)
  have ne_b13_b39 : b13 ≠ b39 := Nat.ne_of_lt (Nat.lt_of_lt_of_le V_b13_c38.lt (Nat.le_of_eq g39.symm))
  have ne_b14_b39 : b14 ≠ b39 := Nat.ne_of_lt (Nat.lt_of_lt_of_le Vw38.lt (Nat.le_of_eq g39.symm))
  have ne_b8_b39 : b8 ≠ b39 := Nat.ne_of_lt (Nat.lt_of_lt_of_le V_b8_c38.lt (Nat.le_of_eq g39.symm))
  have ge39 : n0 ≤ b39 := Nat.le_trans Z38 (Nat.le_of_eq g39.symm)
  have fr39 : h0.size ≤ b39 := Nat.le_trans K38.1 (Nat.le_of_eq g39.symm)
  have K39 := Keep.ext K38 E39
  have Z39 : n0 ≤ h39.size := Nat.le_trans Z38 E39.1
  have V_b8_c39 := V_b8_c38.ext E39
  have V_b13_c39 := V_b13_c38.ext E39
  have V_b14_c39 := Vw38.ext E39
  have F39_reach : Fld Z h39 b39 "com/example/ends2/ends2/ProbeBlock$Copied" "reach" "I" (.int (0 : Int32)) := D39 (Or.inr (hw _ (List.mem_of_getElem? (i := 26) rfl))) (ty := .int) (by decide)
  have F39_near : Fld Z h39 b39 "com/example/ends2/ends2/ProbeBlock$Copied" "near" "I" (.int (0 : Int32)) := D39 (Or.inr (hw _ (List.mem_of_getElem? (i := 28) rfl))) (ty := .int) (by decide)
  have F39_text : Fld Z h39 b39 "com/example/ends2/ends2/ProbeBlock$OfChars" "text" "[C" .null := D39 (Or.inr (hw _ (List.mem_of_getElem? (i := 30) rfl))) (ty := (.array .char)) (by decide)
  have F39_bytes : Fld Z h39 b39 "com/example/ends2/ends2/ProbeBlock" "bytes" "[B" .null := D39 (Or.inl (hw _ (List.mem_of_getElem? (i := 33) rfl))) (ty := (.array .byte)) (by decide)
  refine g_dup C iM_201 rfl ?_
  refine g_aload C iM_202 rfl rfl ?_
  refine g_iconst C (0 : Int32) iM_204 rfl ?_
  refine g_iconst C (0 : Int32) iM_205 rfl ?_
  refine g_callI C (rmI2 l Z aZ hw b39 b8 (0 : Int32) (0 : Int32) (0 : Int32) (0 : Int32) .null .null h39 n0 Z39 A39 F39_reach ge39 F39_near F39_text F39_bytes) (a := b39) iM_206 rfl (hw _ (List.mem_of_getElem? (i := 9) rfl)) (hw _ (List.mem_of_getElem? (i := 10) rfl)) (hw _ (List.mem_of_getElem? (i := 8) rfl)) (hw _ (List.mem_of_getElem? (i := 11) rfl)) rfl (by decide) (argsL := [(.ref b8), (.int (0 : Int32)), (.int (0 : Int32))]) (rest := [(.ref b39)]) rfl rfl pd3 rfl rfl 1 (Nat.le_of_eq rfl) (by decide) (by decide) (by decide) (by decide) rfl rfl ?_
  rintro _ h40 ⟨rfl, KC40, P40_0, P40_1, P40_2, P40_3, P40_4⟩
  refine Go.none' ?_
  have KK40 := KC40
  have V_b8_cC40 := AV.keep V_b8_c39 KC40 (ninS ne_b8_b39 nin0)
  have V_b13_cC40 := AV.keep V_b13_c39 KC40 (ninS ne_b13_b39 nin0)
  have V_b14_cC40 := AV.keep V_b14_c39 KC40 (ninS ne_b14_b39 nin0)
  have E_b39_cC40 := Exa.keep A39 KC40
  have K40 := Keep.trans K39 KC40 (allS (Or.inr fr39) all0)
  have Z40 : n0 ≤ h40.size := Nat.le_trans Z39 KC40.1
  have P40_1 : Fld Z h40 b39 "com/example/ends2/ends2/ProbeBlock$Copied" "reach" "I" (.int (0 : Int32)) := P40_1
  have P40_2 : Fld Z h40 b39 "com/example/ends2/ends2/ProbeBlock$Copied" "near" "I" (.int (0 : Int32)) := P40_2
  refine g_astore C (Ls' := #[.val (.int p0), .val (.int p1), .val (.int p2), .val (.long q3), .second, .val (.ref b8), .val (.ref b13), .val (.ref b14), .val (.int ((p2 &&& (7 : Int32)) % (5 : Int32))), .val (.int (vM_2 p0 p1 p2 q3)), .val (.int (((p2 &&& (7 : Int32)) % (5 : Int32)) + (vM_2 p0 p1 p2 q3))), .val (.int (vM_3 p0 p1 p2 q3)), .val (.ref b39), .unset]) iM_209 rfl rfl ?_
  refine g_aload C iM_211 rfl rfl ?_
  refine g_aload C iM_213 rfl rfl ?_
  refine g_putF C iM_215 (host := "") (Or.inl (hw _ (List.mem_of_getElem? (i := 31) rfl))) (Via.of (hw _ (List.mem_of_getElem? (i := 32) rfl))) P40_4 P40_0 (Or.inl (hw _ (List.mem_of_getElem? (i := 33) rfl))) (hw _ (List.mem_of_getElem? (i := 7) rfl)) (ty := (.array .byte)) (by decide) rfl rfl ge39 (fun h41 W41 => ?_)
  have V_b8_c41 := AV.other V_b8_cC40 W41 ne_b8_b39
  have V_b13_c41 := AV.other V_b13_cC40 W41 ne_b13_b39
  have V_b14_c41 := AV.other V_b14_cC40 W41 ne_b14_b39
  have E_b39_c41 := Exa.wr W41 P40_0
  have F_reach_b39_c41 := Fld.other W41 P40_1 (Or.inr (slot_ne (a0 := aZ) (Or.inr (hw _ (List.mem_of_getElem? (i := 26) rfl))) (Or.inl (hw _ (List.mem_of_getElem? (i := 33) rfl))) (by decide) (t := .int) (t' := (.array .byte)) (by decide) (by decide)))
  have F_near_b39_c41 := Fld.other W41 P40_2 (Or.inr (slot_ne (a0 := aZ) (Or.inr (hw _ (List.mem_of_getElem? (i := 28) rfl))) (Or.inl (hw _ (List.mem_of_getElem? (i := 33) rfl))) (by decide) (t := .int) (t' := (.array .byte)) (by decide) (by decide)))
  have F_text_b39_c41 := Fld.other W41 P40_3 (Or.inr (slot_ne (a0 := aZ) (Or.inr (hw _ (List.mem_of_getElem? (i := 30) rfl))) (Or.inl (hw _ (List.mem_of_getElem? (i := 33) rfl))) (by decide) (t := (.array .char)) (t' := (.array .byte)) (by decide) (by decide)))
  have Fw41 := Fld.same W41 P40_4
  have K41 := Keep.wr K40 W41 (Or.inr fr39)
  have Z41 : n0 ≤ h41.size := Nat.le_trans Z40 (Keep.of_wr W41).1
  refine g_aload C iM_218 rfl rfl ?_
  refine g_iload C iM_220 rfl ?_
  refine g_iload C iM_222 rfl ?_
  refine g_iload C iM_224 rfl ?_
  refine g_callV C (rmC l Z aZ hw b39 ((p2 &&& (7 : Int32)) % (5 : Int32)) (((p2 &&& (7 : Int32)) % (5 : Int32)) + (vM_2 p0 p1 p2 q3)) (vM_3 p0 p1 p2 q3) b14 b8 (vM_5 p0 p1 p2 q3) (vM_4 p0 p1 p2 q3) h41 n0 Z41 (own_hb p0 p1 p2 q3) Fw41 F_text_b39_c41 (AV.congr V_b8_c41 (fun i _ => by first | rfl | ((repeat' split) <;> rfl) | (simp only [vM_4]; done) | (simp only [vM_4]; (repeat' split) <;> rfl))) (AV.congr V_b14_c41 (fun i _ => by first | rfl | ((repeat' split) <;> rfl) | (simp only [vM_5]; done) | (simp only [vM_5]; (repeat' split) <;> rfl))) ge14 (Ne.symm ne_b14_b39) ne_b8_b14) (a := b39) iM_226 (hw _ (List.mem_of_getElem? (i := 34) rfl)) (hw _ (List.mem_of_getElem? (i := 35) rfl)) (fun s hZ => notFace_of_selects (args := #[]) (mvT hZ (hw _ (List.mem_of_getElem? (i := 37) rfl)))) (hw _ (List.mem_of_getElem? (i := 37) rfl)) (hw _ (List.mem_of_getElem? (i := 36) rfl)) (hw _ (List.mem_of_getElem? (i := 8) rfl)) (hw _ (List.mem_of_getElem? (i := 38) rfl)) (by decide) E_b39_c41 (argsL := [(.int ((p2 &&& (7 : Int32)) % (5 : Int32))), (.int (((p2 &&& (7 : Int32)) % (5 : Int32)) + (vM_2 p0 p1 p2 q3))), (.int (vM_3 p0 p1 p2 q3))]) (rest := []) rfl rfl pd4 rfl rfl 0 (Nat.le_of_eq rfl) (by decide) (by decide) (by decide) (by decide) rfl rfl ?_
  rintro _ h42 ⟨rfl, KC42, P42_0⟩
  refine Go.none' ?_
  have KK42 := KC42
  have V_b8_cC42 := AV.keep V_b8_c41 KC42 (ninS ne_b8_b14 nin0)
  have V_b13_cC42 := AV.keep V_b13_c41 KC42 (ninS ne_b13_b14 nin0)
  have E_b39_cC42 := Exa.keep E_b39_c41 KC42
  have F_reach_b39_cC42 := Fld.keep F_reach_b39_c41 KC42 (ninS (Ne.symm ne_b14_b39) nin0)
  have F_near_b39_cC42 := Fld.keep F_near_b39_c41 KC42 (ninS (Ne.symm ne_b14_b39) nin0)
  have F_text_b39_cC42 := Fld.keep F_text_b39_c41 KC42 (ninS (Ne.symm ne_b14_b39) nin0)
  have F_bytes_b39_cC42 := Fld.keep Fw41 KC42 (ninS (Ne.symm ne_b14_b39) nin0)
  have K42 := Keep.trans K41 KC42 (allS (Or.inr fr14) all0)
  have Z42 : n0 ≤ h42.size := Nat.le_trans Z41 KC42.1
  refine g_aload C iM_229 rfl rfl ?_
  refine g_iconst C (0 : Int32) iM_231 rfl ?_
  refine g_cald C (.int (nar .char (p0.toUInt32.toUInt16.toUInt32.toInt32))) iM_232 V_b8_cC42 ⟨by decide, by decide⟩ rfl ?_
  refine g_iloadN C iM_233 rfl ?_
  refine g_i2c C iM_234 ?_
  refine Go.join (mkF m 276 #[.val (.int p0), .val (.int p1), .val (.int p2), .val (.long q3), .second, .val (.ref b8), .val (.ref b13), .val (.ref b14), .val (.int ((p2 &&& (7 : Int32)) % (5 : Int32))), .val (.int (vM_2 p0 p1 p2 q3)), .val (.int (((p2 &&& (7 : Int32)) % (5 : Int32)) + (vM_2 p0 p1 p2 q3))), .val (.int (vM_3 p0 p1 p2 q3)), .val (.ref b39), .unset] [(.int (vM_9 p0 p1 p2 q3))]) ?_ (fun J => ?_)
  · refine g_istore C (Ls' := #[.val (.int p0), .val (.int p1), .val (.int p2), .val (.long q3), .second, .val (.ref b8), .val (.ref b13), .val (.ref b14), .val (.int ((p2 &&& (7 : Int32)) % (5 : Int32))), .val (.int (vM_2 p0 p1 p2 q3)), .val (.int (((p2 &&& (7 : Int32)) % (5 : Int32)) + (vM_2 p0 p1 p2 q3))), .val (.int (vM_3 p0 p1 p2 q3)), .val (.ref b39), .val (.int (vM_9 p0 p1 p2 q3))]) iM_276 rfl ?_
    refine g_iload C iM_278 rfl ?_
    refine Go.join (mkF m 412 #[.val (.int p0), .val (.int p1), .val (.int p2), .val (.long q3), .second, .val (.ref b8), .val (.ref b13), .val (.ref b14), .val (.int ((p2 &&& (7 : Int32)) % (5 : Int32))), .val (.int (vM_2 p0 p1 p2 q3)), .val (.int (((p2 &&& (7 : Int32)) % (5 : Int32)) + (vM_2 p0 p1 p2 q3))), .val (.int (vM_3 p0 p1 p2 q3)), .val (.ref b39), .val (.int (vM_9 p0 p1 p2 q3))] [(.int (vM_16 p0 p1 p2 q3))]) ?_ (fun J => ?_)
    · exact g_retNar C (t := .boolean) iM_412 rfl (by simp) (by decide) (by decide) (show _ = _ from congrArg (fun z => some (Value.int z)) (leafM_0 p0 p1 p2 q3))
    · refine g_if_eq C iM_280 (fun hc280_1 => ?_) (fun hc280_1 => ?_)
      · refine g_iconst C (0 : Int32) iM_411 rfl ?_
        have e0 : (vM_16 p0 p1 p2 q3) = (0 : Int32) := by simp only [vM_16, if_pos hc280_1]
        exact Go.cast J (by rw [e0])
      · refine g_aload C iM_283 rfl rfl ?_
        refine g_getF C iM_285 (host := "") (Or.inl (hw _ (List.mem_of_getElem? (i := 31) rfl))) (Via.of (hw _ (List.mem_of_getElem? (i := 32) rfl))) F_bytes_b39_cC42 ?_
        refine g_aload C iM_288 rfl rfl ?_
        refine g_acmp_ne C rfl rfl iM_290 (fun _ => ?_) (fun q => absurd rfl q)
        refine g_aload C iM_293 rfl rfl ?_
        refine g_aload C iM_295 rfl rfl ?_
        refine g_aload C iM_297 rfl rfl ?_
        refine g_iconst C (0 : Int32) iM_299 rfl ?_
        refine g_iload C iM_300 rfl ?_
        refine g_iload C iM_302 rfl ?_
        refine g_iload C iM_304 rfl ?_
        refine g_callS C (rmL l Z aZ hw b14 b13 b8 (0 : Int32) ((p2 &&& (7 : Int32)) % (5 : Int32)) (vM_3 p0 p1 p2 q3) (vM_2 p0 p1 p2 q3) 6 (cpF ((p2 &&& (7 : Int32)) % (5 : Int32)).toNatClampNeg (((p2 &&& (7 : Int32)) % (5 : Int32)) + (vM_2 p0 p1 p2 q3)).toNatClampNeg (vM_3 p0 p1 p2 q3).toNatClampNeg (vM_4 p0 p1 p2 q3) (vM_5 p0 p1 p2 q3)) 6 (vM_5 p0 p1 p2 q3) 4 (vM_4 p0 p1 p2 q3) h42 n0 Z42 (own_hc p0 p1 p2 q3 _ (by decide)) rfl rfl rfl (AV.congr V_b13_cC42 (fun i _ => by first | rfl | ((repeat' split) <;> rfl) | (simp only [vM_5]; done) | (simp only [vM_5]; (repeat' split) <;> rfl))) (AV.congr V_b8_cC42 (fun i _ => by first | rfl | ((repeat' split) <;> rfl) | (simp only [vM_4]; done) | (simp only [vM_4]; (repeat' split) <;> rfl))) P42_0) iM_306 (hw _ (List.mem_of_getElem? (i := 39) rfl)) (hw _ (List.mem_of_getElem? (i := 40) rfl)) (hw _ (List.mem_of_getElem? (i := 4) rfl)) (hw _ (List.mem_of_getElem? (i := 41) rfl)) (by decide) (argsL := [(.ref b14), (.ref b13), (.ref b8), (.int (0 : Int32)), (.int ((p2 &&& (7 : Int32)) % (5 : Int32))), (.int (vM_3 p0 p1 p2 q3)), (.int (vM_2 p0 p1 p2 q3))]) (rest := []) rfl rfl pd5 rfl rfl 0 (Nat.le_of_eq rfl) (by decide) (by decide) (by decide) (by decide) rfl rfl ?_
        rintro _ _ ⟨rfl, he43⟩
        refine Go.heap he43.symm ?_
        refine Go.some' ?_
        refine g_if_eq C iM_309 (fun hc309_1 => ?_) (fun hc309_1 => ?_)
        · refine g_iconst C (0 : Int32) iM_411 rfl ?_
          have e0 : (vM_16 p0 p1 p2 q3) = (0 : Int32) := by simp only [vM_16, if_neg hc280_1, if_pos hc309_1]
          exact Go.cast J (by rw [e0])
        · refine g_aload C iM_312 rfl rfl ?_
          refine g_aload C iM_314 rfl rfl ?_
          refine g_aload C iM_316 rfl rfl ?_
          refine g_iconst C (1 : Int32) iM_318 rfl ?_
          refine g_iload C iM_319 rfl ?_
          refine g_iload C iM_321 rfl ?_
          refine g_iload C iM_323 rfl ?_
          refine g_callS C (rmL l Z aZ hw b14 b13 b8 (1 : Int32) ((p2 &&& (7 : Int32)) % (5 : Int32)) (vM_3 p0 p1 p2 q3) (vM_2 p0 p1 p2 q3) 6 (cpF ((p2 &&& (7 : Int32)) % (5 : Int32)).toNatClampNeg (((p2 &&& (7 : Int32)) % (5 : Int32)) + (vM_2 p0 p1 p2 q3)).toNatClampNeg (vM_3 p0 p1 p2 q3).toNatClampNeg (vM_4 p0 p1 p2 q3) (vM_5 p0 p1 p2 q3)) 6 (vM_5 p0 p1 p2 q3) 4 (vM_4 p0 p1 p2 q3) h42 n0 Z42 (own_hc p0 p1 p2 q3 _ (by decide)) rfl rfl rfl (AV.congr V_b13_cC42 (fun i _ => by first | rfl | ((repeat' split) <;> rfl) | (simp only [vM_5]; done) | (simp only [vM_5]; (repeat' split) <;> rfl))) (AV.congr V_b8_cC42 (fun i _ => by first | rfl | ((repeat' split) <;> rfl) | (simp only [vM_4]; done) | (simp only [vM_4]; (repeat' split) <;> rfl))) P42_0) iM_325 (hw _ (List.mem_of_getElem? (i := 39) rfl)) (hw _ (List.mem_of_getElem? (i := 40) rfl)) (hw _ (List.mem_of_getElem? (i := 4) rfl)) (hw _ (List.mem_of_getElem? (i := 41) rfl)) (by decide) (argsL := [(.ref b14), (.ref b13), (.ref b8), (.int (1 : Int32)), (.int ((p2 &&& (7 : Int32)) % (5 : Int32))), (.int (vM_3 p0 p1 p2 q3)), (.int (vM_2 p0 p1 p2 q3))]) (rest := []) rfl rfl pd5 rfl rfl 0 (Nat.le_of_eq rfl) (by decide) (by decide) (by decide) (by decide) rfl rfl ?_
          rintro _ _ ⟨rfl, he44⟩
          refine Go.heap he44.symm ?_
          refine Go.some' ?_
          refine g_if_eq C iM_328 (fun hc328_1 => ?_) (fun hc328_1 => ?_)
          · refine g_iconst C (0 : Int32) iM_411 rfl ?_
            have e0 : (vM_16 p0 p1 p2 q3) = (0 : Int32) := by simp only [vM_16, if_neg hc280_1, if_neg hc309_1, if_pos hc328_1]
            exact Go.cast J (by rw [e0])
          · refine g_aload C iM_331 rfl rfl ?_
            refine g_aload C iM_333 rfl rfl ?_
            refine g_aload C iM_335 rfl rfl ?_
            refine g_iconst C (2 : Int32) iM_337 rfl ?_
            refine g_iload C iM_338 rfl ?_
            refine g_iload C iM_340 rfl ?_
            refine g_iload C iM_342 rfl ?_
            refine g_callS C (rmL l Z aZ hw b14 b13 b8 (2 : Int32) ((p2 &&& (7 : Int32)) % (5 : Int32)) (vM_3 p0 p1 p2 q3) (vM_2 p0 p1 p2 q3) 6 (cpF ((p2 &&& (7 : Int32)) % (5 : Int32)).toNatClampNeg (((p2 &&& (7 : Int32)) % (5 : Int32)) + (vM_2 p0 p1 p2 q3)).toNatClampNeg (vM_3 p0 p1 p2 q3).toNatClampNeg (vM_4 p0 p1 p2 q3) (vM_5 p0 p1 p2 q3)) 6 (vM_5 p0 p1 p2 q3) 4 (vM_4 p0 p1 p2 q3) h42 n0 Z42 (own_hc p0 p1 p2 q3 _ (by decide)) rfl rfl rfl (AV.congr V_b13_cC42 (fun i _ => by first | rfl | ((repeat' split) <;> rfl) | (simp only [vM_5]; done) | (simp only [vM_5]; (repeat' split) <;> rfl))) (AV.congr V_b8_cC42 (fun i _ => by first | rfl | ((repeat' split) <;> rfl) | (simp only [vM_4]; done) | (simp only [vM_4]; (repeat' split) <;> rfl))) P42_0) iM_344 (hw _ (List.mem_of_getElem? (i := 39) rfl)) (hw _ (List.mem_of_getElem? (i := 40) rfl)) (hw _ (List.mem_of_getElem? (i := 4) rfl)) (hw _ (List.mem_of_getElem? (i := 41) rfl)) (by decide) (argsL := [(.ref b14), (.ref b13), (.ref b8), (.int (2 : Int32)), (.int ((p2 &&& (7 : Int32)) % (5 : Int32))), (.int (vM_3 p0 p1 p2 q3)), (.int (vM_2 p0 p1 p2 q3))]) (rest := []) rfl rfl pd5 rfl rfl 0 (Nat.le_of_eq rfl) (by decide) (by decide) (by decide) (by decide) rfl rfl ?_
            rintro _ _ ⟨rfl, he45⟩
            refine Go.heap he45.symm ?_
            refine Go.some' ?_
            refine g_if_eq C iM_347 (fun hc347_1 => ?_) (fun hc347_1 => ?_)
            · refine g_iconst C (0 : Int32) iM_411 rfl ?_
              have e0 : (vM_16 p0 p1 p2 q3) = (0 : Int32) := by simp only [vM_16, if_neg hc280_1, if_neg hc309_1, if_neg hc328_1, if_pos hc347_1]
              exact Go.cast J (by rw [e0])
            · refine g_aload C iM_350 rfl rfl ?_
              refine g_aload C iM_352 rfl rfl ?_
              refine g_aload C iM_354 rfl rfl ?_
              refine g_iconst C (3 : Int32) iM_356 rfl ?_
              refine g_iload C iM_357 rfl ?_
              refine g_iload C iM_359 rfl ?_
              refine g_iload C iM_361 rfl ?_
              refine g_callS C (rmL l Z aZ hw b14 b13 b8 (3 : Int32) ((p2 &&& (7 : Int32)) % (5 : Int32)) (vM_3 p0 p1 p2 q3) (vM_2 p0 p1 p2 q3) 6 (cpF ((p2 &&& (7 : Int32)) % (5 : Int32)).toNatClampNeg (((p2 &&& (7 : Int32)) % (5 : Int32)) + (vM_2 p0 p1 p2 q3)).toNatClampNeg (vM_3 p0 p1 p2 q3).toNatClampNeg (vM_4 p0 p1 p2 q3) (vM_5 p0 p1 p2 q3)) 6 (vM_5 p0 p1 p2 q3) 4 (vM_4 p0 p1 p2 q3) h42 n0 Z42 (own_hc p0 p1 p2 q3 _ (by decide)) rfl rfl rfl (AV.congr V_b13_cC42 (fun i _ => by first | rfl | ((repeat' split) <;> rfl) | (simp only [vM_5]; done) | (simp only [vM_5]; (repeat' split) <;> rfl))) (AV.congr V_b8_cC42 (fun i _ => by first | rfl | ((repeat' split) <;> rfl) | (simp only [vM_4]; done) | (simp only [vM_4]; (repeat' split) <;> rfl))) P42_0) iM_363 (hw _ (List.mem_of_getElem? (i := 39) rfl)) (hw _ (List.mem_of_getElem? (i := 40) rfl)) (hw _ (List.mem_of_getElem? (i := 4) rfl)) (hw _ (List.mem_of_getElem? (i := 41) rfl)) (by decide) (argsL := [(.ref b14), (.ref b13), (.ref b8), (.int (3 : Int32)), (.int ((p2 &&& (7 : Int32)) % (5 : Int32))), (.int (vM_3 p0 p1 p2 q3)), (.int (vM_2 p0 p1 p2 q3))]) (rest := []) rfl rfl pd5 rfl rfl 0 (Nat.le_of_eq rfl) (by decide) (by decide) (by decide) (by decide) rfl rfl ?_
              rintro _ _ ⟨rfl, he46⟩
              refine Go.heap he46.symm ?_
              refine Go.some' ?_
              refine g_if_eq C iM_366 (fun hc366_1 => ?_) (fun hc366_1 => ?_)
              · refine g_iconst C (0 : Int32) iM_411 rfl ?_
                have e0 : (vM_16 p0 p1 p2 q3) = (0 : Int32) := by simp only [vM_16, if_neg hc280_1, if_neg hc309_1, if_neg hc328_1, if_neg hc347_1, if_pos hc366_1]
                exact Go.cast J (by rw [e0])
              · refine g_aload C iM_369 rfl rfl ?_
                refine g_aload C iM_371 rfl rfl ?_
                refine g_aload C iM_373 rfl rfl ?_
                refine g_iconst C (4 : Int32) iM_375 rfl ?_
                refine g_iload C iM_376 rfl ?_
                refine g_iload C iM_378 rfl ?_
                refine g_iload C iM_380 rfl ?_
                refine g_callS C (rmL l Z aZ hw b14 b13 b8 (4 : Int32) ((p2 &&& (7 : Int32)) % (5 : Int32)) (vM_3 p0 p1 p2 q3) (vM_2 p0 p1 p2 q3) 6 (cpF ((p2 &&& (7 : Int32)) % (5 : Int32)).toNatClampNeg (((p2 &&& (7 : Int32)) % (5 : Int32)) + (vM_2 p0 p1 p2 q3)).toNatClampNeg (vM_3 p0 p1 p2 q3).toNatClampNeg (vM_4 p0 p1 p2 q3) (vM_5 p0 p1 p2 q3)) 6 (vM_5 p0 p1 p2 q3) 4 (vM_4 p0 p1 p2 q3) h42 n0 Z42 (own_hc p0 p1 p2 q3 _ (by decide)) rfl rfl rfl (AV.congr V_b13_cC42 (fun i _ => by first | rfl | ((repeat' split) <;> rfl) | (simp only [vM_5]; done) | (simp only [vM_5]; (repeat' split) <;> rfl))) (AV.congr V_b8_cC42 (fun i _ => by first | rfl | ((repeat' split) <;> rfl) | (simp only [vM_4]; done) | (simp only [vM_4]; (repeat' split) <;> rfl))) P42_0) iM_382 (hw _ (List.mem_of_getElem? (i := 39) rfl)) (hw _ (List.mem_of_getElem? (i := 40) rfl)) (hw _ (List.mem_of_getElem? (i := 4) rfl)) (hw _ (List.mem_of_getElem? (i := 41) rfl)) (by decide) (argsL := [(.ref b14), (.ref b13), (.ref b8), (.int (4 : Int32)), (.int ((p2 &&& (7 : Int32)) % (5 : Int32))), (.int (vM_3 p0 p1 p2 q3)), (.int (vM_2 p0 p1 p2 q3))]) (rest := []) rfl rfl pd5 rfl rfl 0 (Nat.le_of_eq rfl) (by decide) (by decide) (by decide) (by decide) rfl rfl ?_
                rintro _ _ ⟨rfl, he47⟩
                refine Go.heap he47.symm ?_
                refine Go.some' ?_
                refine g_if_eq C iM_385 (fun hc385_1 => ?_) (fun hc385_1 => ?_)
                · refine g_iconst C (0 : Int32) iM_411 rfl ?_
                  have e0 : (vM_16 p0 p1 p2 q3) = (0 : Int32) := by simp only [vM_16, if_neg hc280_1, if_neg hc309_1, if_neg hc328_1, if_neg hc347_1, if_neg hc366_1, if_pos hc385_1]
                  exact Go.cast J (by rw [e0])
                · refine g_aload C iM_388 rfl rfl ?_
                  refine g_aload C iM_390 rfl rfl ?_
                  refine g_aload C iM_392 rfl rfl ?_
                  refine g_iconst C (5 : Int32) iM_394 rfl ?_
                  refine g_iload C iM_395 rfl ?_
                  refine g_iload C iM_397 rfl ?_
                  refine g_iload C iM_399 rfl ?_
                  refine g_callS C (rmL l Z aZ hw b14 b13 b8 (5 : Int32) ((p2 &&& (7 : Int32)) % (5 : Int32)) (vM_3 p0 p1 p2 q3) (vM_2 p0 p1 p2 q3) 6 (cpF ((p2 &&& (7 : Int32)) % (5 : Int32)).toNatClampNeg (((p2 &&& (7 : Int32)) % (5 : Int32)) + (vM_2 p0 p1 p2 q3)).toNatClampNeg (vM_3 p0 p1 p2 q3).toNatClampNeg (vM_4 p0 p1 p2 q3) (vM_5 p0 p1 p2 q3)) 6 (vM_5 p0 p1 p2 q3) 4 (vM_4 p0 p1 p2 q3) h42 n0 Z42 (own_hc p0 p1 p2 q3 _ (by decide)) rfl rfl rfl (AV.congr V_b13_cC42 (fun i _ => by first | rfl | ((repeat' split) <;> rfl) | (simp only [vM_5]; done) | (simp only [vM_5]; (repeat' split) <;> rfl))) (AV.congr V_b8_cC42 (fun i _ => by first | rfl | ((repeat' split) <;> rfl) | (simp only [vM_4]; done) | (simp only [vM_4]; (repeat' split) <;> rfl))) P42_0) iM_401 (hw _ (List.mem_of_getElem? (i := 39) rfl)) (hw _ (List.mem_of_getElem? (i := 40) rfl)) (hw _ (List.mem_of_getElem? (i := 4) rfl)) (hw _ (List.mem_of_getElem? (i := 41) rfl)) (by decide) (argsL := [(.ref b14), (.ref b13), (.ref b8), (.int (5 : Int32)), (.int ((p2 &&& (7 : Int32)) % (5 : Int32))), (.int (vM_3 p0 p1 p2 q3)), (.int (vM_2 p0 p1 p2 q3))]) (rest := []) rfl rfl pd5 rfl rfl 0 (Nat.le_of_eq rfl) (by decide) (by decide) (by decide) (by decide) rfl rfl ?_
                  rintro _ _ ⟨rfl, he48⟩
                  refine Go.heap he48.symm ?_
                  refine Go.some' ?_
                  refine g_if_eq C iM_404 (fun hc404_1 => ?_) (fun hc404_1 => ?_)
                  · refine g_iconst C (0 : Int32) iM_411 rfl ?_
                    have e0 : (vM_16 p0 p1 p2 q3) = (0 : Int32) := by simp only [vM_16, if_neg hc280_1, if_neg hc309_1, if_neg hc328_1, if_neg hc347_1, if_neg hc366_1, if_neg hc385_1, if_pos hc404_1]
                    exact Go.cast J (by rw [e0])
                  · refine g_iconst C (1 : Int32) iM_407 rfl ?_
                    refine g_goto C iM_408 ?_
                    have e0 : (vM_16 p0 p1 p2 q3) = (1 : Int32) := by simp only [vM_16, if_neg hc280_1, if_neg hc309_1, if_neg hc328_1, if_neg hc347_1, if_neg hc366_1, if_neg hc385_1, if_neg hc404_1]
                    exact Go.cast J (by rw [e0])
  · refine g_icmp_ne C iM_235 (fun hc235_1 => ?_) (fun hc235_1 => ?_)
    · refine g_aload C iM_238 rfl rfl ?_
      refine g_iconst C (1 : Int32) iM_240 rfl ?_
      refine g_cald C (.int (nar .char (vM_0 p0 p1 p2 q3))) iM_241 V_b8_cC42 ⟨by decide, by decide⟩ rfl ?_
      refine g_iloadN C iM_242 rfl ?_
      refine g_bipush C (16 : Int32) iM_243 rfl ?_
      refine g_iushr C iM_245 ?_
      refine g_i2c C iM_246 ?_
      refine g_icmp_ne C iM_247 (fun hc247_1 => ?_) (fun hc247_1 => ?_)
      · refine g_aload C iM_250 rfl rfl ?_
        refine g_iconst C (2 : Int32) iM_252 rfl ?_
        refine g_cald C (.int (nar .char (p1.toUInt32.toUInt16.toUInt32.toInt32))) iM_253 V_b8_cC42 ⟨by decide, by decide⟩ rfl ?_
        refine g_iloadN C iM_254 rfl ?_
        refine g_i2c C iM_255 ?_
        refine g_icmp_ne C iM_256 (fun hc256_1 => ?_) (fun hc256_1 => ?_)
        · refine g_aload C iM_259 rfl rfl ?_
          refine g_iconst C (3 : Int32) iM_261 rfl ?_
          refine g_cald C (.int (nar .char (vM_1 p0 p1 p2 q3))) iM_262 V_b8_cC42 ⟨by decide, by decide⟩ rfl ?_
          refine g_iloadN C iM_263 rfl ?_
          refine g_bipush C (16 : Int32) iM_264 rfl ?_
          refine g_iushr C iM_266 ?_
          refine g_i2c C iM_267 ?_
          refine g_icmp_ne C iM_268 (fun hc268_1 => ?_) (fun hc268_1 => ?_)
          · refine g_iconst C (1 : Int32) iM_271 rfl ?_
            refine g_goto C iM_272 ?_
            have e0 : (vM_9 p0 p1 p2 q3) = (1 : Int32) := by simp only [vM_9, if_pos hc235_1, if_pos hc247_1, if_pos hc256_1, if_pos hc268_1]
            exact Go.cast J (by rw [e0])
          · refine g_iconst C (0 : Int32) iM_275 rfl ?_
            have e0 : (vM_9 p0 p1 p2 q3) = (0 : Int32) := by simp only [vM_9, if_pos hc235_1, if_pos hc247_1, if_pos hc256_1, if_neg hc268_1]
            exact Go.cast J (by rw [e0])
        · refine g_iconst C (0 : Int32) iM_275 rfl ?_
          have e0 : (vM_9 p0 p1 p2 q3) = (0 : Int32) := by simp only [vM_9, if_pos hc235_1, if_pos hc247_1, if_neg hc256_1]
          exact Go.cast J (by rw [e0])
      · refine g_iconst C (0 : Int32) iM_275 rfl ?_
        have e0 : (vM_9 p0 p1 p2 q3) = (0 : Int32) := by simp only [vM_9, if_pos hc235_1, if_neg hc247_1]
        exact Go.cast J (by rw [e0])
    · refine g_iconst C (0 : Int32) iM_275 rfl ?_
      have e0 : (vM_9 p0 p1 p2 q3) = (0 : Int32) := by simp only [vM_9, if_neg hc235_1]
      exact Go.cast J (by rw [e0])
set_option maxRecDepth 65536 in
set_option maxHeartbeats 40000000 in
theorem comes_1 {Post : Tables → Env → Array Value → State → Outcome → State → Prop} (hpost : ∀ tb e args s v u, (limb_1_1.after args s (.returned v) u = true ∧ limb_1_2.after args s (.returned v) u = true ∧ True) → FrameEnd s (.returned v) u (Jvm.fieldLocs frame_1_writes args s ++ Jvm.arrayLocs frame_1_arrays args s ++ Jvm.staticLocs frame_1_statics s) 16 128 → Post tb e args s (.returned v) u) :
    ArmFor flags0 classFile x code maxLocals ret World_1 tables_1 room_1 Calls_1 rest_1 Pre_1 Post := by
  intro l hfl _ _ p e ha hc hk s m args below hf hA hF happ hP
  obtain ⟨hcalls, hrest, hpre⟩ := hP
  obtain ⟨-, -, -, hnamed, -, -, -, hat⟩ := (Spec.applies_iff hf).mp happ
  obtain ⟨hg, hn⟩ := and_e (Cond.before_iff.mp (show (Jvm.Cond.and given_1 narrow_1).before args s = true from hpre))
  obtain ⟨gg1, gg2⟩ := and_e hg
  obtain ⟨gg3, gg4⟩ := and_e gg2
  obtain ⟨gg5, gg6⟩ := and_e gg4
  obtain ⟨gg7, gg8⟩ := and_e gg6
  obtain ⟨w0, w1, w2, w3, rfl⟩ : ∃ w0 w1 w2 w3 : Value, args = #[w0, w1, w2, w3] := by
    have hs : args.size = 4 := by simpa [Cond.value, given_1] using gg1
    obtain ⟨L⟩ := args
    match L, hs with
    | [w0, w1, w2, w3], _ => exact ⟨w0, w1, w2, w3, rfl⟩
  have hw := fun d (hd : d ∈ tables_1) => atoms_spec (ws := Jvm.Cond.code x code maxLocals ret :: tables_1) hat d (List.mem_cons_of_mem _ hd)
  have hfit : Fit s := fun {y c} hc i hi => by
    obtain ⟨ha, rfl⟩ := Array.getElem?_eq_some_iff.mp hc
    have q := List.all_eq_true.mp ((Array.all_eq_true_iff_forall_mem.mp hF) _ (Array.getElem_mem ha)) i (List.mem_range.mpr hi)
    simpa [Array.getElem?_eq_getElem hi] using q
  obtain ⟨i0, ei0⟩ := is_v gg3
  obtain rfl : w0 = (.int i0) := Option.some.inj ei0
  obtain ⟨i1, ei1⟩ := is_v gg5
  obtain rfl : w1 = (.int i1) := Option.some.inj ei1
  obtain ⟨i2, ei2⟩ := is_v gg7
  obtain rfl : w2 = (.int i2) := Option.some.inj ei2
  obtain ⟨i3, ei3⟩ := isL_v gg8
  obtain rfl : w3 = (.long i3) := Option.some.inj ei3
  obtain ⟨n, o, h1, h2, h3, _, L, rfl, ⟨rfl, N⟩, hq⟩ := rmM l s _ hw i0 i1 i2 i3 s.heap s.heap.size (Nat.le_refl _) tables_1 p e ha hc hk s m _ below hf ((Spec.applies_iff_loose hf).mp happ).1 ⟨rfl, State.Warmed39.refl s, rfl⟩ trivial
  refine ⟨n, _, h1, h2, h3, hpost _ _ _ _ _ _ ⟨Cond.after_iff.mpr rfl, Cond.after_iff.mpr (eq_i res_at (Term.int_eval (1)) rfl), trivial⟩ ⟨hq.1, hq.2.1, (hq.2.2.sift fun y hy => Or.inr (N y hy)).mono (by decide) (by decide)⟩⟩
theorem main_1_1 : Claimed_1_1 := comes_1 fun _ _ _ _ _ _ h hF => ⟨h.1, hF⟩
theorem main_1_2 : Claimed_1_2 := comes_1 fun _ _ _ _ _ _ h hF => ⟨h.2.1, hF⟩
end Jvm.Pilot.@@N@@
namespace Jvm.Pilot.@@N@@
open Jvm Jvm.ClassFile Sem Op Lib Jvm.Free Jvm.Stand Jvm.Pilot.@@N@@.Jvm.D
/-! MADE BY PROGRAM (witnessworld.py) out of the Statement's table words and the real class files: 13 classes; the members and pool entries that the words name. The judged class is class 1, her method 3. -/
namespace start1
open Jvm.ClassFile
def u (s : String) : CpInfo := .utf8 (stringToUtf16 s)
/-- a pool by its gaps: so many unusable entries, then the entry; so many at the end -/
def gap : Nat → List CpInfo → List CpInfo
  | 0, r => r
  | n + 1, r => .unusable :: gap n r
def poolList (es : List (Nat × CpInfo)) (last : Nat) : List CpInfo := es.foldr (fun e r => gap e.1 (e.2 :: r)) (gap last [])
def pool (es : List (Nat × CpInfo)) (last : Nat) : Array CpInfo := ⟨poolList es last⟩
def fileOf (pool : Array CpInfo) (this : Nat) (attrs : Array Attribute := #[]) (ms : Array MethodInfo := #[]) (fl : Nat := 33) (sup : Nat := 0) (ifs : Array Nat := #[]) (fds : Array FieldInfo := #[]) : ClassFile where
  minorVersion := 0
  majorVersion := 65
  constantPool := pool
  accessFlags := fl
  thisClass := this
  superClass := sup
  interfaces := ifs
  fields := fds
  methods := ms
  attributes := attrs
def plain (name : String) (sup : Option ClassId) : Class where
  name := name
  kind := .ordinary
  loader := none
  accessFlags := 33
  super := sup
  interfaces := #[]
  cf := none
  fields := #[]
  methods := #[]
  instanceTypes := #[]
  staticTypes := #[]
  resolved := #[]
  callSites := []
  init := .initialized
  statics := none
  mirror := none

def pool0 : Array CpInfo := pool [(5, u "<init>"), (0, u "()V"), (1, .class_ 10), (1, u "java/lang/Object")] 113

def k0c0 : Code := { maxStack := 0, maxLocals := 1, code := object_method_1_code, exceptionTable := #[], attributes := #[] }
def k0m0 : Method := { name := "<init>", desc := "()V", sig := { parameters := [], returnType := none }, accessFlags := 1, code := some k0c0 }
/-- java/lang/Object -/
def k0 : Class := { plain "java/lang/Object" none with
  accessFlags := 33
  interfaces := #[]
  cf := some (fileOf pool0 8 #[] #[{ accessFlags := 1, nameIndex := 5, descriptorIndex := 6, attributes := #[] }] 33 0 #[] #[])
  fields := #[]
  methods := #[k0m0]
  instanceTypes := #[]
  staticTypes := #[]
  resolved := Array.replicate 124 none
  statics := none }

def pool1 : Array CpInfo := pool [(2, .class_ 4), (1, u "java/lang/Object"), (0, u "<init>"), (0, u "()V"), (0, .methodref 8 9), (0, .class_ 10), (0, .nameAndType 11 12), (0, u "com/example/ends2/ends2/OfCharsCopyPinLaw"), (0, u "pick"), (0, u "(JI)B"), (0, .class_ 14), (0, u "com/example/ends2/ends2/ProbeBlock$OfChars"), (0, .methodref 13 16), (0, .nameAndType 5 17), (0, u "([CII)V"), (0, .fieldref 13 19), (0, .nameAndType 20 21), (0, u "bytes"), (0, u "[B"), (0, .methodref 13 23), (0, .nameAndType 24 25), (0, u "copy"), (0, u "(III)V"), (0, .methodref 8 27), (0, .nameAndType 28 29), (0, u "cell"), (0, u "([B[B[CIIII)Z"), (3, u "law"), (0, u "(IIIJ)Z")] 9

def k1m0 : Method := { name := "<init>", desc := "()V", sig := { parameters := [], returnType := none }, accessFlags := 1, code := none }
def k1c1 : Code := { maxStack := 3, maxLocals := 8, code := method_2_code, exceptionTable := #[], attributes := #[] }
def k1m1 : Method := { name := "cell", desc := "([B[B[CIIII)Z", sig := { parameters := [(.array .byte), (.array .byte), (.array .char), .int, .int, .int, .int], returnType := some .boolean }, accessFlags := 10, code := some k1c1 }
def k1c2 : Code := { maxStack := 4, maxLocals := 3, code := method_3_code, exceptionTable := #[], attributes := #[] }
def k1m2 : Method := { name := "pick", desc := "(JI)B", sig := { parameters := [.long, .int], returnType := some .byte }, accessFlags := 10, code := some k1c2 }
def k1c3 : Code := { maxStack := 7, maxLocals := 14, code := code, exceptionTable := #[], attributes := #[] }
def k1m3 : Method := { name := "law", desc := "(IIIJ)Z", sig := { parameters := [.int, .int, .int, .long], returnType := some .boolean }, accessFlags := 9, code := some k1c3 }
/-- com/example/ends2/ends2/OfCharsCopyPinLaw -/
def k1 : Class := { plain "com/example/ends2/ends2/OfCharsCopyPinLaw" (some 0) with
  accessFlags := 49
  interfaces := #[]
  cf := some (fileOf pool1 8 #[] #[{ accessFlags := 1, nameIndex := 5, descriptorIndex := 6, attributes := #[] }, { accessFlags := 10, nameIndex := 28, descriptorIndex := 29, attributes := #[] }, { accessFlags := 10, nameIndex := 11, descriptorIndex := 12, attributes := #[] }, { accessFlags := 9, nameIndex := 33, descriptorIndex := 34, attributes := #[] }] 49 2 #[] #[])
  fields := #[]
  methods := #[k1m0, k1m1, k1m2, k1m3]
  instanceTypes := #[]
  staticTypes := #[]
  resolved := Array.replicate 44 none
  statics := none }

def pool2 : Array CpInfo := pool [(1, .methodref 2 3), (0, .class_ 4), (0, .nameAndType 5 6), (0, u "java/lang/Object"), (0, u "<init>"), (0, u "()V"), (1, .class_ 10), (1, u "com/example/ends2/ends2/ProbeBlock"), (0, u "bytes"), (0, u "[B"), (6, u "lastOffset"), (0, u "I"), (0, u "readFrom"), (0, u "readTo"), (13, .class_ 37), (0, u "com/example/ends2/ends2/ProbeBlock$OfBuffer"), (0, .class_ 39), (0, u "com/example/ends2/ends2/ProbeBlock$OfChars"), (0, .class_ 41), (0, u "com/example/ends2/ends2/ProbeBlock$OfString"), (0, .class_ 43), (0, u "com/example/ends2/ends2/ProbeBlock$Copied"), (0, .class_ 45), (0, u "com/example/ends2/ends2/ProbeBlock$InPlace")] 7

def k2c0 : Code := { maxStack := 1, maxLocals := 1, code := prog_11_method_1_code, exceptionTable := #[], attributes := #[] }
def k2m0 : Method := { name := "<init>", desc := "()V", sig := { parameters := [], returnType := none }, accessFlags := 0, code := some k2c0 }
/-- com/example/ends2/ends2/ProbeBlock -/
def k2 : Class := { plain "com/example/ends2/ends2/ProbeBlock" (some 0) with
  accessFlags := 1056
  interfaces := #[]
  cf := some (fileOf pool2 8 #[.nestMembers #[36, 38, 40, 42, 44]] #[{ accessFlags := 0, nameIndex := 5, descriptorIndex := 6, attributes := #[] }] 1056 2 #[] #[{ accessFlags := 0, nameIndex := 11, descriptorIndex := 12, attributes := #[] }, { accessFlags := 0, nameIndex := 19, descriptorIndex := 20, attributes := #[] }, { accessFlags := 0, nameIndex := 21, descriptorIndex := 20, attributes := #[] }, { accessFlags := 0, nameIndex := 22, descriptorIndex := 20, attributes := #[] }])
  fields := #[{ name := "bytes", type := (.array .byte), accessFlags := 0, slot := 0, constantValue := 0 }, { name := "lastOffset", type := .int, accessFlags := 0, slot := 1, constantValue := 0 }, { name := "readFrom", type := .int, accessFlags := 0, slot := 2, constantValue := 0 }, { name := "readTo", type := .int, accessFlags := 0, slot := 3, constantValue := 0 }]
  methods := #[k2m0]
  instanceTypes := #[(.array .byte), .int, .int, .int]
  staticTypes := #[]
  resolved := Array.replicate 53 none
  statics := none }

def pool3 : Array CpInfo := pool [(1, .methodref 2 3), (0, .class_ 4), (0, .nameAndType 5 6), (0, u "com/example/ends2/ends2/ProbeBlock"), (0, u "<init>"), (0, u "()V"), (0, .fieldref 8 9), (0, .class_ 10), (0, .nameAndType 11 12), (0, u "com/example/ends2/ends2/ProbeBlock$Copied"), (0, u "reach"), (0, u "I"), (0, .fieldref 8 14), (0, .nameAndType 15 12), (0, u "near"), (18, u "index"), (8, u "(II)V")] 24

def k3c0 : Code := { maxStack := 2, maxLocals := 3, code := prog_12_method_1_code, exceptionTable := #[], attributes := #[] }
def k3m0 : Method := { name := "<init>", desc := "(II)V", sig := { parameters := [.int, .int], returnType := none }, accessFlags := 0, code := some k3c0 }
/-- com/example/ends2/ends2/ProbeBlock$Copied -/
def k3 : Class := { plain "com/example/ends2/ends2/ProbeBlock$Copied" (some 2) with
  accessFlags := 1056
  interfaces := #[]
  cf := some (fileOf pool3 8 #[.nestHost 2] #[{ accessFlags := 0, nameIndex := 5, descriptorIndex := 43, attributes := #[] }] 1056 2 #[] #[{ accessFlags := 18, nameIndex := 11, descriptorIndex := 12, attributes := #[] }, { accessFlags := 18, nameIndex := 15, descriptorIndex := 12, attributes := #[] }, { accessFlags := 2, nameIndex := 34, descriptorIndex := 12, attributes := #[] }])
  fields := #[{ name := "reach", type := .int, accessFlags := 18, slot := 4, constantValue := 0 }, { name := "near", type := .int, accessFlags := 18, slot := 5, constantValue := 0 }, { name := "index", type := .int, accessFlags := 2, slot := 6, constantValue := 0 }]
  methods := #[k3m0]
  instanceTypes := #[(.array .byte), .int, .int, .int, .int, .int, .int]
  staticTypes := #[]
  resolved := Array.replicate 68 none
  statics := none }

def pool4 : Array CpInfo := pool [(1, .methodref 2 3), (0, .class_ 4), (0, .nameAndType 5 6), (0, u "com/example/ends2/ends2/ProbeBlock$Copied"), (0, u "<init>"), (0, u "(II)V"), (0, .fieldref 8 9), (0, .class_ 10), (0, .nameAndType 11 12), (0, u "com/example/ends2/ends2/ProbeBlock$OfChars"), (0, u "text"), (0, u "[C"), (0, .fieldref 8 14), (0, .nameAndType 15 16), (0, u "bytes"), (0, u "[B"), (0, u "([CII)V"), (2, u "copy"), (0, u "(III)V"), (4, .class_ 27), (0, u "com/example/ends2/ends2/ProbeBlock")] 3

def k4c0 : Code := { maxStack := 3, maxLocals := 4, code := prog_15_method_1_code, exceptionTable := #[], attributes := #[] }
def k4m0 : Method := { name := "<init>", desc := "([CII)V", sig := { parameters := [(.array .char), .int, .int], returnType := none }, accessFlags := 0, code := some k4c0 }
def k4c1 : Code := { maxStack := 4, maxLocals := 5, code := prog_15_method_2_code, exceptionTable := #[], attributes := #[] }
def k4m1 : Method := { name := "copy", desc := "(III)V", sig := { parameters := [.int, .int, .int], returnType := none }, accessFlags := 0, code := some k4c1 }
/-- com/example/ends2/ends2/ProbeBlock$OfChars -/
def k4 : Class := { plain "com/example/ends2/ends2/ProbeBlock$OfChars" (some 3) with
  accessFlags := 48
  interfaces := #[]
  cf := some (fileOf pool4 8 #[.nestHost 26] #[{ accessFlags := 0, nameIndex := 5, descriptorIndex := 17, attributes := #[] }, { accessFlags := 0, nameIndex := 20, descriptorIndex := 21, attributes := #[] }] 48 2 #[] #[{ accessFlags := 18, nameIndex := 11, descriptorIndex := 12, attributes := #[] }])
  fields := #[{ name := "text", type := (.array .char), accessFlags := 18, slot := 7, constantValue := 0 }]
  methods := #[k4m0, k4m1]
  instanceTypes := #[(.array .byte), .int, .int, .int, .int, .int, .int, (.array .char)]
  staticTypes := #[]
  resolved := Array.replicate 31 none
  statics := none }

def pool5 : Array CpInfo := pool [(1, u "java/lang/Cloneable"), (0, .class_ 1), (0, u "java/lang/Object"), (0, .class_ 3)] 3

/-- java/lang/Cloneable -/
def k5 : Class := { plain "java/lang/Cloneable" (some 0) with
  accessFlags := 1537
  interfaces := #[]
  cf := some (fileOf pool5 2 #[] #[] 1537 4 #[] #[])
  fields := #[]
  methods := #[]
  instanceTypes := #[]
  staticTypes := #[]
  resolved := Array.replicate 8 none
  statics := none }

def pool6 : Array CpInfo := pool [(1, u "java/io/Serializable"), (0, .class_ 1), (0, u "java/lang/Object"), (0, .class_ 3)] 3

/-- java/io/Serializable -/
def k6 : Class := { plain "java/io/Serializable" (some 0) with
  accessFlags := 1537
  interfaces := #[]
  cf := some (fileOf pool6 2 #[] #[] 1537 4 #[] #[])
  fields := #[]
  methods := #[]
  instanceTypes := #[]
  staticTypes := #[]
  resolved := Array.replicate 8 none
  statics := none }

/-- the primitive byte -/
def k7 : Class := { plain "byte" none with kind := .primitive 'B', accessFlags := 0x411 }
/-- [B -/
def k8 : Class := { plain "[B" (some 0) with kind := .array 7 .byte, interfaces := #[5, 6], accessFlags := 1041 }

/-- the primitive char -/
def k9 : Class := { plain "char" none with kind := .primitive 'C', accessFlags := 0x411 }
/-- [C -/
def k10 : Class := { plain "[C" (some 0) with kind := .array 9 .char, interfaces := #[5, 6], accessFlags := 1041 }

/-- the primitive int -/
def k11 : Class := { plain "int" none with kind := .primitive 'I', accessFlags := 0x411 }
/-- [I -/
def k12 : Class := { plain "[I" (some 0) with kind := .array 11 .int, interfaces := #[5, 6], accessFlags := 1041 }

def heap : Heap := #[]
def classes : Array Class := #[k0, k1, k2, k3, k4, k5, k6, k7, k8, k9, k10, k11, k12]
def interned : List (Array UInt16 × Addr) := []
def slotsUsed : Nat := 0
def theMethod : MethodId := ⟨1, 3⟩
def args0 : Array Value := #[.int 5, .int 6, .int 7, .long 8]
def aboutOver (below : List Frame) : State where
  vm := { classes := classes, interned := interned.toArray }
  heap := heap
  slotsUsed := slotsUsed
  threads := #[{ frames := .invoking theMethod args0 :: below }]
def below0 : List Frame := [.native { method := ⟨0, 0⟩, args := #[] }]
def about1 : State := aboutOver below0
def p0 : Program := .bare "" "" ""
def e0 : Env := launch0.env 0 0 0
theorem w_frames : about1.frames = Frame.invoking theMethod args0 :: below0 := rfl
set_option maxRecDepth 65536 in
theorem w_args : argsFit about1.vm theMethod args0 = true := by decide +kernel
set_option maxRecDepth 65536 in
theorem w_heap : heapFits about1 = true := by decide +kernel
set_option maxRecDepth 65536 in
theorem w_runnable : about1.curStatus? = some .runnable := by decide +kernel
set_option maxRecDepth 65536 in
theorem w_alone : about1.alone = true := by decide +kernel
set_option maxRecDepth 65536 in
theorem w_named : about1.methodNamed? x = some theMethod := by decide +kernel
set_option maxRecDepth 65536 in
theorem w_hears : about1.hears theMethod below0 = true := by decide +kernel
set_option maxRecDepth 65536 in
theorem w_ripe : about1.ripe theMethod args0 below0 = true := by decide +kernel
theorem w_running : about1.status = .running := rfl
set_option maxRecDepth 65536 in
theorem w_room : about1.hasRoom e0.platform room_1 = true :=
  launch0.hasRoom_least _ room_1 (by decide +kernel) (by decide +kernel) (by decide +kernel) (by decide +kernel) (by decide +kernel) (by decide +kernel)
theorem allAtoms_all (ts : List Jvm.Cond) (a : Array Jvm.Value) (st : Jvm.State) : (allAtoms ts).before a st = ts.all (fun c => c.before a st) := by
  induction ts with
  | nil => rfl
  | cons c t ih =>
    show (Jvm.Cond.and c (allAtoms t)).before a st = _
    rw [Jvm.Cond.before_and, ih, List.all_cons]
def words1 : List Jvm.Cond := Jvm.Cond.code x code maxLocals ret :: tables_1
/-- a 'code' word, met by the world's own term for the bytes: nothing is compared byte by byte -/
theorem code_word {y : MethodName} {bytes : ByteArray} {mx : Nat} {rt : Option FieldType} {a : Array Value} {s : State} {m : MethodId} {meth : Method} {c : Code} (h1 : s.methodNamed? y = some m) (h2 : s.vm.method? m = some meth) (h3 : meth.code = some c) (h4 : c.code = bytes)
    (h5 : (c.maxLocals == mx && c.exceptionTable.isEmpty && decide (c.maxStack ≤ mostOperands) && decide (meth.sig.returnType = rt) && !meth.locks && decide (parseMethodDescriptor y.desc = some meth.sig)) = true) : (Jvm.Cond.code y bytes mx rt).before a s = true := by
  simp only [Bool.and_eq_true, beq_iff_eq, Bool.not_eq_true', decide_eq_true_eq] at h5
  obtain ⟨⟨⟨⟨⟨g1, g2⟩, g3⟩, g4⟩, g5⟩, g6⟩ := h5
  simp [Cond.before, Cond.holds, Cond.value, h1, h2, h3, h4, g1, g2, g3, g4, g5, g6]
def isCode : Jvm.Cond → Bool
  | .code _ _ _ _ => true
  | _ => false
theorem all_split {L : List Jvm.Cond} {P : Jvm.Cond → Bool} (h1 : L.all (fun c => isCode c || P c) = true) (h2 : ∀ c ∈ L.filter isCode, P c = true) : L.all P = true := by
  refine List.all_eq_true.mpr fun c hc => ?_
  have h := List.all_eq_true.mp h1 c hc
  rcases Bool.eq_false_or_eq_true (isCode c) with hi | hi
  · exact h2 c (List.mem_filter.mpr ⟨hc, hi⟩)
  · simpa [hi] using h
set_option maxRecDepth 65536 in
theorem w_c0 : (Jvm.Cond.code x code maxLocals ret).before args0 about1 = true := code_word (m := ⟨1, 3⟩) (meth := k1m3) (c := k1c3) (by decide +kernel) rfl rfl rfl (by decide +kernel)
set_option maxRecDepth 65536 in
theorem w_c1 : (Jvm.Cond.code ({ cls := "com/example/ends2/ends2/OfCharsCopyPinLaw", name := "pick", desc := "(JI)B" } : Jvm.MethodName) method_3_code (3 : Nat) (Option.some Jvm.ClassFile.FieldType.byte)).before args0 about1 = true := code_word (m := ⟨1, 2⟩) (meth := k1m2) (c := k1c2) (by decide +kernel) rfl rfl rfl (by decide +kernel)
set_option maxRecDepth 65536 in
theorem w_c2 : (Jvm.Cond.code ({ cls := "com/example/ends2/ends2/ProbeBlock$OfChars", name := "<init>", desc := "([CII)V" } : Jvm.MethodName) prog_15_method_1_code (4 : Nat) (Option.none : Option Jvm.ClassFile.FieldType)).before args0 about1 = true := code_word (m := ⟨4, 0⟩) (meth := k4m0) (c := k4c0) (by decide +kernel) rfl rfl rfl (by decide +kernel)
set_option maxRecDepth 65536 in
theorem w_c3 : (Jvm.Cond.code ({ cls := "com/example/ends2/ends2/ProbeBlock$Copied", name := "<init>", desc := "(II)V" } : Jvm.MethodName) prog_12_method_1_code (3 : Nat) (Option.none : Option Jvm.ClassFile.FieldType)).before args0 about1 = true := code_word (m := ⟨3, 0⟩) (meth := k3m0) (c := k3c0) (by decide +kernel) rfl rfl rfl (by decide +kernel)
set_option maxRecDepth 65536 in
theorem w_c4 : (Jvm.Cond.code ({ cls := "com/example/ends2/ends2/ProbeBlock", name := "<init>", desc := "()V" } : Jvm.MethodName) prog_11_method_1_code (1 : Nat) (Option.none : Option Jvm.ClassFile.FieldType)).before args0 about1 = true := code_word (m := ⟨2, 0⟩) (meth := k2m0) (c := k2c0) (by decide +kernel) rfl rfl rfl (by decide +kernel)
set_option maxRecDepth 65536 in
theorem w_c5 : (Jvm.Cond.code ({ cls := "java/lang/Object", name := "<init>", desc := "()V" } : Jvm.MethodName) object_method_1_code (1 : Nat) (Option.none : Option Jvm.ClassFile.FieldType)).before args0 about1 = true := code_word (m := ⟨0, 0⟩) (meth := k0m0) (c := k0c0) (by decide +kernel) rfl rfl rfl (by decide +kernel)
set_option maxRecDepth 65536 in
theorem w_c6 : (Jvm.Cond.code ({ cls := "com/example/ends2/ends2/ProbeBlock$OfChars", name := "copy", desc := "(III)V" } : Jvm.MethodName) prog_15_method_2_code (5 : Nat) (Option.none : Option Jvm.ClassFile.FieldType)).before args0 about1 = true := code_word (m := ⟨4, 1⟩) (meth := k4m1) (c := k4c1) (by decide +kernel) rfl rfl rfl (by decide +kernel)
set_option maxRecDepth 65536 in
theorem w_c7 : (Jvm.Cond.code ({ cls := "com/example/ends2/ends2/OfCharsCopyPinLaw", name := "cell", desc := "([B[B[CIIII)Z" } : Jvm.MethodName) method_2_code (8 : Nat) (Option.some Jvm.ClassFile.FieldType.boolean)).before args0 about1 = true := code_word (m := ⟨1, 1⟩) (meth := k1m1) (c := k1c1) (by decide +kernel) rfl rfl rfl (by decide +kernel)
def codes1 : List Jvm.Cond := [Jvm.Cond.code x code maxLocals ret, Jvm.Cond.code ({ cls := "com/example/ends2/ends2/OfCharsCopyPinLaw", name := "pick", desc := "(JI)B" } : Jvm.MethodName) method_3_code (3 : Nat) (Option.some Jvm.ClassFile.FieldType.byte), Jvm.Cond.code ({ cls := "com/example/ends2/ends2/ProbeBlock$OfChars", name := "<init>", desc := "([CII)V" } : Jvm.MethodName) prog_15_method_1_code (4 : Nat) (Option.none : Option Jvm.ClassFile.FieldType), Jvm.Cond.code ({ cls := "com/example/ends2/ends2/ProbeBlock$Copied", name := "<init>", desc := "(II)V" } : Jvm.MethodName) prog_12_method_1_code (3 : Nat) (Option.none : Option Jvm.ClassFile.FieldType), Jvm.Cond.code ({ cls := "com/example/ends2/ends2/ProbeBlock", name := "<init>", desc := "()V" } : Jvm.MethodName) prog_11_method_1_code (1 : Nat) (Option.none : Option Jvm.ClassFile.FieldType), Jvm.Cond.code ({ cls := "java/lang/Object", name := "<init>", desc := "()V" } : Jvm.MethodName) object_method_1_code (1 : Nat) (Option.none : Option Jvm.ClassFile.FieldType), Jvm.Cond.code ({ cls := "com/example/ends2/ends2/ProbeBlock$OfChars", name := "copy", desc := "(III)V" } : Jvm.MethodName) prog_15_method_2_code (5 : Nat) (Option.none : Option Jvm.ClassFile.FieldType), Jvm.Cond.code ({ cls := "com/example/ends2/ends2/OfCharsCopyPinLaw", name := "cell", desc := "([B[B[CIIII)Z" } : Jvm.MethodName) method_2_code (8 : Nat) (Option.some Jvm.ClassFile.FieldType.boolean)]
set_option maxRecDepth 65536 in
theorem codes_eq : words1.filter isCode = codes1 := rfl
theorem w_codes : ∀ c ∈ words1.filter isCode, c.before args0 about1 = true := by
  rw [codes_eq]
  intro c hc
  simp only [codes1, List.mem_cons, List.not_mem_nil, or_false] at hc
  rcases hc with rfl | rfl | rfl | rfl | rfl | rfl | rfl | rfl
  · exact w_c0
  · exact w_c1
  · exact w_c2
  · exact w_c3
  · exact w_c4
  · exact w_c5
  · exact w_c6
  · exact w_c7
set_option maxRecDepth 65536 in
theorem w_t1 : (words1.take 24).all (fun c => isCode c || c.before args0 about1) = true := by decide +kernel
set_option maxRecDepth 65536 in
theorem w_t2 : (words1.drop 24).all (fun c => isCode c || c.before args0 about1) = true := by decide +kernel
theorem w_tables : (allAtoms (Jvm.Cond.code x code maxLocals ret :: tables_1)).before args0 about1 = true := by
  rw [allAtoms_all]
  show words1.all (fun c => c.before args0 about1) = true
  refine all_split ?_ w_codes
  rw [← List.take_append_drop 24 words1, List.all_append, w_t1, w_t2]
  rfl
set_option maxRecDepth 65536 in
theorem w_case : (Jvm.Cond.and given_1 narrow_1).before args0 about1 = true := by decide +kernel
theorem w_applies : (headSpec (Jvm.Cond.code x code maxLocals ret :: tables_1) room_1).applies x e0.platform about1 = true :=
  (Spec.applies_iff w_frames).mpr ⟨w_running, w_runnable, w_alone, w_named, w_hears, w_ripe, w_room, w_tables⟩
theorem atStart : AtStart classFile x code maxLocals ret World_1 tables_1 room_1 Calls_1 rest_1 Pre_1 launch0 p0 e0 about1 theMethod args0 below0 :=
  ⟨lists_1, trivial, launch0.admits_env _ _ _, launch0.least_env, fairChoices_fair.cas, fairChoices_fair.clock, w_frames, w_args, w_heap, w_applies, trivial, trivial, w_case⟩
end start1
theorem witness_1 : WitnessClaimed_1 := ⟨start1.p0, start1.e0, start1.about1, start1.theMethod, start1.args0, start1.below0, start1.atStart⟩
end Jvm.Pilot.@@N@@
