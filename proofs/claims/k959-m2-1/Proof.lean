import JvmDerived
import JvmDerived.Pilot.@@N@@Statement
import JvmDerived.Pilot.@@N@@Code
set_option linter.unusedVariables false
set_option linter.unusedSimpArgs false
namespace Jvm.OwnGo
open Sem ClassFile Op Lib Jvm.Stand Jvm.Free Jvm.LawKit Jvm.RoadKit
/-- one instruction: where it stands, what it is, its length, the next pc -/
def I1 (code : ByteArray) (pc : Nat) (i : Instr) (len pc' : Nat) : Prop := decode code pc = .ok (i, len) ∧ pc + len = pc'
/-- a branch: besides, where it leads -/
def B1 (code : ByteArray) (pc : Nat) (i : Instr) (o : Int) (pcT pcF : Nat) : Prop := decode code pc = .ok (i, 3) ∧ pc + 3 = pcF ∧ 0 ≤ (pc : Int) + o ∧ ((pc : Int) + o).toNat = pcT
/-- what is fixed while a body runs -/
def Cx (p : Program) (s : State) (m : MethodId) (meth : Method) (c : Code) (Z : State) (code : ByteArray) (maxL : Nat) (own : String) (ret : Option FieldType) : Prop :=
  p.tables.exec = Jvm.exec ∧ c.code = code ∧ c.maxLocals = maxL ∧ Z.Warmed39 s.vm ∧ s.vm.findClass own = some m.cls ∧ meth.sig.returnType = ret ∧ meth.locks = false
/-- from the frame g, over every state that stands there with the heap h, the body ends, and ends in Q -/
def Go (p : Program) (l : Launch) (e : Env) (R : Room) (s : State) (m : MethodId) (args : Array Value) (below : List Frame) (meth : Method) (c : Code) (n0 : Nat) (FE : State → Outcome → Prop) (h : Heap) (ck cn : Nat) (g : JFrame) : Prop :=
  ∀ (T : State) (locs : List Loc), Stand p l e R s m args below meth c T locs ck cn → T.heap = h → Fr n0 locs →
    ∃ s₂ o, Steps p.tables e below (T.setTop g) s₂ ∧ s₂.status = .running ∧ Ended s₂ below o ∧ FE s₂ o
/-- a narrow ending -/
def EN (s : State) (n0 K N : Nat) (Q : Option Value → Heap → Prop) (s₂ : State) (o : Outcome) : Prop := ∃ v L, o = .returned v ∧ (Q v s₂.heap ∧ Fr n0 L) ∧ FrameEnd s o s₂ L K N
/-- a body's contract: from these arguments over this heap it returns as Q says, and writes nothing below n0 -/
def Ctr (l : Launch) (Z : State) (y : MethodName) (code : ByteArray) (maxL : Nat) (ret : Option FieldType) (rm : Room) (as' : Array Value) (h0 : Heap) (n0 : Nat) (Q : Option Value → Heap → Prop) : Prop :=
  ∀ ws : List Cond, MetFree l y (head1 (Cond.code y code maxL ret :: ws) rm) (fun a U => a = as' ∧ Z.Warmed39 U.vm ∧ U.heap = h0) (fun _ _ _ _ _ => True)
    (fun _ U o U' => ∃ v L, o = .returned v ∧ (Q v U'.heap ∧ Fr n0 L) ∧ FrameEnd U o U' L rm.cells rm.slots)
section
variable {p : Program} {l : Launch} {e : Env} {R : Room} {s : State} {m : MethodId} {args : Array Value} {below : List Frame} {meth : Method} {c : Code} {n0 K N : Nat} {Q : Option Value → Heap → Prop} {FE : State → Outcome → Prop} {h : Heap} {ck cn : Nat} {Z : State} {a0 : Array Value} {code : ByteArray} {maxL : Nat} {own : String} {ret : Option FieldType}
theorem Ctr.of_go {y : MethodName} {rm : Room} {as' : Array Value} {h0 : Heap} {Ls : Array Slot} (hpl : plainFor y = true) (hef : ∀ m, entryFrame m as' maxL = mkF m 0 Ls [])
    (hgo : ∀ p e s m below meth c, meth.name = y.name → Cx p s m meth c Z code maxL y.cls ret → Go p l e rm s m as' below meth c n0 (EN s n0 rm.cells rm.slots Q) h0 0 0 (mkF m 0 Ls [])) : Ctr l Z y code maxL ret rm as' h0 n0 Q := fun ws => by
  refine MetFree.of_bodySF hpl hisR ?_
  intro p e s m args below meth c s₁ Bd hml0 hP hK
  obtain ⟨rfl, hZ, hh⟩ := hP
  have X0 : Stand p l e rm s m args below meth c s₁ [] 0 0 := Stand.of_body Bd
  have e0 : s₁.heap = h0 := by rw [← hh, Bd.state]; rfl
  obtain ⟨s₂, o, g1, g2, g3, v, L, g4, g5, g6⟩ := hgo p e s m below meth c (name_of_methodNamed Bd.named Bd.method).1 ⟨Bd.exec, Bd.bytes, hml0, hZ, findClass_of_methodNamed Bd.named, Bd.returns, Bd.notSynchronized⟩ s₁ [] X0 e0 (Fr.nil n0)
  exact ⟨s₂, o, castTop (hef m) g1, g2, g3, v, L, g4, g5, g6⟩
theorem Go.step {g g' : JFrame} (st : ∀ (T : State) (locs : List Loc), Stand p l e R s m args below meth c T locs ck cn → T.heap = h → ∀ target, Steps p.tables e below (T.setTop g') target → Steps p.tables e below (T.setTop g) target)
    (k : Go p l e R s m args below meth c n0 FE h ck cn g') : Go p l e R s m args below meth c n0 FE h ck cn g := fun T locs X eT hN => by
  obtain ⟨s₂, o, h1, r⟩ := k T locs X eT hN
  exact ⟨s₂, o, st T locs X eT _ h1, r⟩
/-- a step that moves the state: heap, counts -/
theorem Go.move {g g' : JFrame} {h' : Heap} {ck' cn' : Nat} {T : State} {locs : List Loc} (hN : Fr n0 locs) {T' : State} {locs' : List Loc} (X' : Stand p l e R s m args below meth c T' locs' ck' cn') (e' : T'.heap = h') (hN' : Fr n0 locs')
    (st : ∀ target, Steps p.tables e below (T'.setTop g') target → Steps p.tables e below (T.setTop g) target) (k : Go p l e R s m args below meth c n0 FE h' ck' cn' g') :
    ∃ s₂ o, Steps p.tables e below (T.setTop g) s₂ ∧ s₂.status = .running ∧ Ended s₂ below o ∧ FE s₂ o := by
  obtain ⟨s₂, o, h1, r⟩ := k T' locs' X' e' hN'
  exact ⟨s₂, o, st _ h1, r⟩
theorem Go.join {g : JFrame} (g' : JFrame) (J : Go p l e R s m args below meth c n0 FE h ck cn g') (k : Go p l e R s m args below meth c n0 FE h ck cn g' → Go p l e R s m args below meth c n0 FE h ck cn g) : Go p l e R s m args below meth c n0 FE h ck cn g := k J
theorem Go.cast {g g' : JFrame} (k : Go p l e R s m args below meth c n0 FE h ck cn g') (q : g = g') : Go p l e R s m args below meth c n0 FE h ck cn g := q ▸ k
theorem Go.more {g : JFrame} {ck' cn' : Nat} (hc : ck ≤ ck') (hs : cn ≤ cn') (k : Go p l e R s m args below meth c n0 FE h ck' cn' g) : Go p l e R s m args below meth c n0 FE h ck cn g := fun T locs X eT hN => k T locs (X.more hc hs) eT hN
theorem Go.heap {g : JFrame} {h' : Heap} (q : h' = h) (k : Go p l e R s m args below meth c n0 FE h' ck cn g) : Go p l e R s m args below meth c n0 FE h ck cn g := q ▸ k
theorem Go.some' {v : Value} {pc : Nat} {Ls : Array Slot} {st : List Value} (k : Go p l e R s m args below meth c n0 FE h ck cn (mkF m pc Ls (v :: st))) : Go p l e R s m args below meth c n0 FE h ck cn (mkF m pc Ls ((some v).toList ++ st)) := k
theorem Go.none' {pc : Nat} {Ls : Array Slot} {st : List Value} (k : Go p l e R s m args below meth c n0 FE h ck cn (mkF m pc Ls st)) : Go p l e R s m args below meth c n0 FE h ck cn (mkF m pc Ls ((none : Option Value).toList ++ st)) := k
theorem g_iadd (C : Cx p s m meth c Z code maxL own ret) {pc pc' : Nat} {Ls : Array Slot} {st : List Value} {x y : Int32} (hd : I1 code pc (.iadd) 1 pc') (k : Go p l e R s m args below meth c n0 FE h ck cn (mkF m pc' Ls (.int (x + y) :: st))) : Go p l e R s m args below meth c n0 FE h ck cn (mkF m pc Ls (.int y :: .int x :: st)) := by
  obtain ⟨hd, rfl⟩ := hd
  exact Go.step (fun T locs X _ t k => XS.iadd X.here C.1 rfl (hb C.2.1 hd) rfl k) k
theorem g_isub (C : Cx p s m meth c Z code maxL own ret) {pc pc' : Nat} {Ls : Array Slot} {st : List Value} {x y : Int32} (hd : I1 code pc (.isub) 1 pc') (k : Go p l e R s m args below meth c n0 FE h ck cn (mkF m pc' Ls (.int (x - y) :: st))) : Go p l e R s m args below meth c n0 FE h ck cn (mkF m pc Ls (.int y :: .int x :: st)) := by
  obtain ⟨hd, rfl⟩ := hd
  exact Go.step (fun T locs X _ t k => XS.isub X.here C.1 rfl (hb C.2.1 hd) rfl k) k
theorem g_imul (C : Cx p s m meth c Z code maxL own ret) {pc pc' : Nat} {Ls : Array Slot} {st : List Value} {x y : Int32} (hd : I1 code pc (.imul) 1 pc') (k : Go p l e R s m args below meth c n0 FE h ck cn (mkF m pc' Ls (.int (x * y) :: st))) : Go p l e R s m args below meth c n0 FE h ck cn (mkF m pc Ls (.int y :: .int x :: st)) := by
  obtain ⟨hd, rfl⟩ := hd
  exact Go.step (fun T locs X _ t k => XS.imul X.here C.1 rfl (hb C.2.1 hd) rfl k) k
theorem g_iand (C : Cx p s m meth c Z code maxL own ret) {pc pc' : Nat} {Ls : Array Slot} {st : List Value} {x y : Int32} (hd : I1 code pc (.iand) 1 pc') (k : Go p l e R s m args below meth c n0 FE h ck cn (mkF m pc' Ls (.int (x &&& y) :: st))) : Go p l e R s m args below meth c n0 FE h ck cn (mkF m pc Ls (.int y :: .int x :: st)) := by
  obtain ⟨hd, rfl⟩ := hd
  exact Go.step (fun T locs X _ t k => XS.iand X.here C.1 rfl (hb C.2.1 hd) rfl k) k
theorem g_ior (C : Cx p s m meth c Z code maxL own ret) {pc pc' : Nat} {Ls : Array Slot} {st : List Value} {x y : Int32} (hd : I1 code pc (.ior) 1 pc') (k : Go p l e R s m args below meth c n0 FE h ck cn (mkF m pc' Ls (.int (x ||| y) :: st))) : Go p l e R s m args below meth c n0 FE h ck cn (mkF m pc Ls (.int y :: .int x :: st)) := by
  obtain ⟨hd, rfl⟩ := hd
  exact Go.step (fun T locs X _ t k => XS.ior X.here C.1 rfl (hb C.2.1 hd) rfl k) k
theorem g_ixor (C : Cx p s m meth c Z code maxL own ret) {pc pc' : Nat} {Ls : Array Slot} {st : List Value} {x y : Int32} (hd : I1 code pc (.ixor) 1 pc') (k : Go p l e R s m args below meth c n0 FE h ck cn (mkF m pc' Ls (.int (x ^^^ y) :: st))) : Go p l e R s m args below meth c n0 FE h ck cn (mkF m pc Ls (.int y :: .int x :: st)) := by
  obtain ⟨hd, rfl⟩ := hd
  exact Go.step (fun T locs X _ t k => XS.ixor X.here C.1 rfl (hb C.2.1 hd) rfl k) k
theorem g_ishl (C : Cx p s m meth c Z code maxL own ret) {pc pc' : Nat} {Ls : Array Slot} {st : List Value} {x y : Int32} (hd : I1 code pc (.ishl) 1 pc') (k : Go p l e R s m args below meth c n0 FE h ck cn (mkF m pc' Ls (.int (x <<< (y &&& 31)) :: st))) : Go p l e R s m args below meth c n0 FE h ck cn (mkF m pc Ls (.int y :: .int x :: st)) := by
  obtain ⟨hd, rfl⟩ := hd
  exact Go.step (fun T locs X _ t k => XS.ishl X.here C.1 rfl (hb C.2.1 hd) rfl k) k
theorem g_ishr (C : Cx p s m meth c Z code maxL own ret) {pc pc' : Nat} {Ls : Array Slot} {st : List Value} {x y : Int32} (hd : I1 code pc (.ishr) 1 pc') (k : Go p l e R s m args below meth c n0 FE h ck cn (mkF m pc' Ls (.int (x >>> (y &&& 31)) :: st))) : Go p l e R s m args below meth c n0 FE h ck cn (mkF m pc Ls (.int y :: .int x :: st)) := by
  obtain ⟨hd, rfl⟩ := hd
  exact Go.step (fun T locs X _ t k => XS.ishr X.here C.1 rfl (hb C.2.1 hd) rfl k) k
theorem g_iushr (C : Cx p s m meth c Z code maxL own ret) {pc pc' : Nat} {Ls : Array Slot} {st : List Value} {x y : Int32} (hd : I1 code pc (.iushr) 1 pc') (k : Go p l e R s m args below meth c n0 FE h ck cn (mkF m pc' Ls (.int ((x.toUInt32 >>> (y &&& 31).toUInt32).toInt32) :: st))) : Go p l e R s m args below meth c n0 FE h ck cn (mkF m pc Ls (.int y :: .int x :: st)) := by
  obtain ⟨hd, rfl⟩ := hd
  exact Go.step (fun T locs X _ t k => XS.iushr X.here C.1 rfl (hb C.2.1 hd) rfl k) k
theorem g_ladd (C : Cx p s m meth c Z code maxL own ret) {pc pc' : Nat} {Ls : Array Slot} {st : List Value} {x y : Int64} (hd : I1 code pc (.ladd) 1 pc') (k : Go p l e R s m args below meth c n0 FE h ck cn (mkF m pc' Ls (.long (x + y) :: st))) : Go p l e R s m args below meth c n0 FE h ck cn (mkF m pc Ls (.long y :: .long x :: st)) := by
  obtain ⟨hd, rfl⟩ := hd
  exact Go.step (fun T locs X _ t k => XS.ladd X.here C.1 rfl (hb C.2.1 hd) rfl k) k
theorem g_lsub (C : Cx p s m meth c Z code maxL own ret) {pc pc' : Nat} {Ls : Array Slot} {st : List Value} {x y : Int64} (hd : I1 code pc (.lsub) 1 pc') (k : Go p l e R s m args below meth c n0 FE h ck cn (mkF m pc' Ls (.long (x - y) :: st))) : Go p l e R s m args below meth c n0 FE h ck cn (mkF m pc Ls (.long y :: .long x :: st)) := by
  obtain ⟨hd, rfl⟩ := hd
  exact Go.step (fun T locs X _ t k => XS.lsub X.here C.1 rfl (hb C.2.1 hd) rfl k) k
theorem g_lmul (C : Cx p s m meth c Z code maxL own ret) {pc pc' : Nat} {Ls : Array Slot} {st : List Value} {x y : Int64} (hd : I1 code pc (.lmul) 1 pc') (k : Go p l e R s m args below meth c n0 FE h ck cn (mkF m pc' Ls (.long (x * y) :: st))) : Go p l e R s m args below meth c n0 FE h ck cn (mkF m pc Ls (.long y :: .long x :: st)) := by
  obtain ⟨hd, rfl⟩ := hd
  exact Go.step (fun T locs X _ t k => XS.lmul X.here C.1 rfl (hb C.2.1 hd) rfl k) k
theorem g_land (C : Cx p s m meth c Z code maxL own ret) {pc pc' : Nat} {Ls : Array Slot} {st : List Value} {x y : Int64} (hd : I1 code pc (.land) 1 pc') (k : Go p l e R s m args below meth c n0 FE h ck cn (mkF m pc' Ls (.long (x &&& y) :: st))) : Go p l e R s m args below meth c n0 FE h ck cn (mkF m pc Ls (.long y :: .long x :: st)) := by
  obtain ⟨hd, rfl⟩ := hd
  exact Go.step (fun T locs X _ t k => XS.land X.here C.1 rfl (hb C.2.1 hd) rfl k) k
theorem g_lor (C : Cx p s m meth c Z code maxL own ret) {pc pc' : Nat} {Ls : Array Slot} {st : List Value} {x y : Int64} (hd : I1 code pc (.lor) 1 pc') (k : Go p l e R s m args below meth c n0 FE h ck cn (mkF m pc' Ls (.long (x ||| y) :: st))) : Go p l e R s m args below meth c n0 FE h ck cn (mkF m pc Ls (.long y :: .long x :: st)) := by
  obtain ⟨hd, rfl⟩ := hd
  exact Go.step (fun T locs X _ t k => XS.lor X.here C.1 rfl (hb C.2.1 hd) rfl k) k
theorem g_lxor (C : Cx p s m meth c Z code maxL own ret) {pc pc' : Nat} {Ls : Array Slot} {st : List Value} {x y : Int64} (hd : I1 code pc (.lxor) 1 pc') (k : Go p l e R s m args below meth c n0 FE h ck cn (mkF m pc' Ls (.long (x ^^^ y) :: st))) : Go p l e R s m args below meth c n0 FE h ck cn (mkF m pc Ls (.long y :: .long x :: st)) := by
  obtain ⟨hd, rfl⟩ := hd
  exact Go.step (fun T locs X _ t k => XS.lxor X.here C.1 rfl (hb C.2.1 hd) rfl k) k
theorem g_lshl (C : Cx p s m meth c Z code maxL own ret) {pc pc' : Nat} {Ls : Array Slot} {st : List Value} {x : Int64} {y : Int32} (hd : I1 code pc (.lshl) 1 pc') (k : Go p l e R s m args below meth c n0 FE h ck cn (mkF m pc' Ls (.long (x <<< (y &&& 0x3f).toInt64) :: st))) : Go p l e R s m args below meth c n0 FE h ck cn (mkF m pc Ls (.int y :: .long x :: st)) := by
  obtain ⟨hd, rfl⟩ := hd
  exact Go.step (fun T locs X _ t k => XS.lshl X.here C.1 rfl (hb C.2.1 hd) rfl k) k
theorem g_lshr (C : Cx p s m meth c Z code maxL own ret) {pc pc' : Nat} {Ls : Array Slot} {st : List Value} {x : Int64} {y : Int32} (hd : I1 code pc (.lshr) 1 pc') (k : Go p l e R s m args below meth c n0 FE h ck cn (mkF m pc' Ls (.long (x >>> (y &&& 0x3f).toInt64) :: st))) : Go p l e R s m args below meth c n0 FE h ck cn (mkF m pc Ls (.int y :: .long x :: st)) := by
  obtain ⟨hd, rfl⟩ := hd
  exact Go.step (fun T locs X _ t k => XS.lshr X.here C.1 rfl (hb C.2.1 hd) rfl k) k
theorem g_lushr (C : Cx p s m meth c Z code maxL own ret) {pc pc' : Nat} {Ls : Array Slot} {st : List Value} {x : Int64} {y : Int32} (hd : I1 code pc (.lushr) 1 pc') (k : Go p l e R s m args below meth c n0 FE h ck cn (mkF m pc' Ls (.long ((x.toUInt64 >>> (y &&& 0x3f).toInt64.toUInt64).toInt64) :: st))) : Go p l e R s m args below meth c n0 FE h ck cn (mkF m pc Ls (.int y :: .long x :: st)) := by
  obtain ⟨hd, rfl⟩ := hd
  exact Go.step (fun T locs X _ t k => XS.lushr X.here C.1 rfl (hb C.2.1 hd) rfl k) k
theorem g_lcmp (C : Cx p s m meth c Z code maxL own ret) {pc pc' : Nat} {Ls : Array Slot} {st : List Value} {x y : Int64} (hd : I1 code pc (.lcmp) 1 pc') (k : Go p l e R s m args below meth c n0 FE h ck cn (mkF m pc' Ls (.int (lcmpW x y) :: st))) : Go p l e R s m args below meth c n0 FE h ck cn (mkF m pc Ls (.long y :: .long x :: st)) := by
  obtain ⟨hd, rfl⟩ := hd
  exact Go.step (fun T locs X _ t k => XS.lcmp X.here C.1 rfl (hb C.2.1 hd) rfl k) k
theorem g_ineg (C : Cx p s m meth c Z code maxL own ret) {pc pc' : Nat} {Ls : Array Slot} {st : List Value} {x : Int32} (hd : I1 code pc (.ineg) 1 pc') (k : Go p l e R s m args below meth c n0 FE h ck cn (mkF m pc' Ls (.int (-x) :: st))) : Go p l e R s m args below meth c n0 FE h ck cn (mkF m pc Ls (.int x :: st)) := by
  obtain ⟨hd, rfl⟩ := hd
  exact Go.step (fun T locs X _ t k => XS.ineg X.here C.1 rfl (hb C.2.1 hd) rfl k) k
theorem g_lneg (C : Cx p s m meth c Z code maxL own ret) {pc pc' : Nat} {Ls : Array Slot} {st : List Value} {x : Int64} (hd : I1 code pc (.lneg) 1 pc') (k : Go p l e R s m args below meth c n0 FE h ck cn (mkF m pc' Ls (.long (-x) :: st))) : Go p l e R s m args below meth c n0 FE h ck cn (mkF m pc Ls (.long x :: st)) := by
  obtain ⟨hd, rfl⟩ := hd
  exact Go.step (fun T locs X _ t k => XS.lneg X.here C.1 rfl (hb C.2.1 hd) rfl k) k
theorem g_i2l (C : Cx p s m meth c Z code maxL own ret) {pc pc' : Nat} {Ls : Array Slot} {st : List Value} {x : Int32} (hd : I1 code pc (.i2l) 1 pc') (k : Go p l e R s m args below meth c n0 FE h ck cn (mkF m pc' Ls (.long x.toInt64 :: st))) : Go p l e R s m args below meth c n0 FE h ck cn (mkF m pc Ls (.int x :: st)) := by
  obtain ⟨hd, rfl⟩ := hd
  exact Go.step (fun T locs X _ t k => XS.i2l X.here C.1 rfl (hb C.2.1 hd) rfl k) k
theorem g_l2i (C : Cx p s m meth c Z code maxL own ret) {pc pc' : Nat} {Ls : Array Slot} {st : List Value} {x : Int64} (hd : I1 code pc (.l2i) 1 pc') (k : Go p l e R s m args below meth c n0 FE h ck cn (mkF m pc' Ls (.int x.toInt32 :: st))) : Go p l e R s m args below meth c n0 FE h ck cn (mkF m pc Ls (.long x :: st)) := by
  obtain ⟨hd, rfl⟩ := hd
  exact Go.step (fun T locs X _ t k => XS.l2i X.here C.1 rfl (hb C.2.1 hd) rfl k) k
theorem g_i2b (C : Cx p s m meth c Z code maxL own ret) {pc pc' : Nat} {Ls : Array Slot} {st : List Value} {x : Int32} (hd : I1 code pc (.i2b) 1 pc') (k : Go p l e R s m args below meth c n0 FE h ck cn (mkF m pc' Ls (.int x.toInt8.toInt32 :: st))) : Go p l e R s m args below meth c n0 FE h ck cn (mkF m pc Ls (.int x :: st)) := by
  obtain ⟨hd, rfl⟩ := hd
  exact Go.step (fun T locs X _ t k => XS.i2b X.here C.1 rfl (hb C.2.1 hd) rfl k) k
theorem g_i2s (C : Cx p s m meth c Z code maxL own ret) {pc pc' : Nat} {Ls : Array Slot} {st : List Value} {x : Int32} (hd : I1 code pc (.i2s) 1 pc') (k : Go p l e R s m args below meth c n0 FE h ck cn (mkF m pc' Ls (.int x.toInt16.toInt32 :: st))) : Go p l e R s m args below meth c n0 FE h ck cn (mkF m pc Ls (.int x :: st)) := by
  obtain ⟨hd, rfl⟩ := hd
  exact Go.step (fun T locs X _ t k => XS.i2s X.here C.1 rfl (hb C.2.1 hd) rfl k) k
theorem g_i2c (C : Cx p s m meth c Z code maxL own ret) {pc pc' : Nat} {Ls : Array Slot} {st : List Value} {x : Int32} (hd : I1 code pc (.i2c) 1 pc') (k : Go p l e R s m args below meth c n0 FE h ck cn (mkF m pc' Ls (.int x.toUInt32.toUInt16.toUInt32.toInt32 :: st))) : Go p l e R s m args below meth c n0 FE h ck cn (mkF m pc Ls (.int x :: st)) := by
  obtain ⟨hd, rfl⟩ := hd
  exact Go.step (fun T locs X _ t k => XS.i2c X.here C.1 rfl (hb C.2.1 hd) rfl k) k
theorem g_idiv (C : Cx p s m meth c Z code maxL own ret) {pc pc' : Nat} {Ls : Array Slot} {st : List Value} {x y : Int32} (hd : I1 code pc (.idiv) 1 pc') (hy : y ≠ 0) (k : Go p l e R s m args below meth c n0 FE h ck cn (mkF m pc' Ls (.int (x / y) :: st))) : Go p l e R s m args below meth c n0 FE h ck cn (mkF m pc Ls (.int y :: .int x :: st)) := by
  obtain ⟨hd, rfl⟩ := hd
  exact Go.step (fun T locs X _ t k => XS.idiv X.here C.1 rfl (hb C.2.1 hd) rfl hy k) k
theorem g_ldiv (C : Cx p s m meth c Z code maxL own ret) {pc pc' : Nat} {Ls : Array Slot} {st : List Value} {x y : Int64} (hd : I1 code pc (.ldiv) 1 pc') (hy : y ≠ 0) (k : Go p l e R s m args below meth c n0 FE h ck cn (mkF m pc' Ls (.long (x / y) :: st))) : Go p l e R s m args below meth c n0 FE h ck cn (mkF m pc Ls (.long y :: .long x :: st)) := by
  obtain ⟨hd, rfl⟩ := hd
  exact Go.step (fun T locs X _ t k => XS.ldiv X.here C.1 rfl (hb C.2.1 hd) rfl hy k) k
theorem g_irem (C : Cx p s m meth c Z code maxL own ret) {pc pc' : Nat} {Ls : Array Slot} {st : List Value} {x y : Int32} (hd : I1 code pc .irem 1 pc') (hy : y ≠ 0) (k : Go p l e R s m args below meth c n0 FE h ck cn (mkF m pc' Ls (.int (x % y) :: st))) : Go p l e R s m args below meth c n0 FE h ck cn (mkF m pc Ls (.int y :: .int x :: st)) := by
  obtain ⟨hd, rfl⟩ := hd
  exact Go.step (fun T locs X _ t k => iremM X C.1 rfl (hb C.2.1 hd) rfl hy k) k
theorem g_lrem (C : Cx p s m meth c Z code maxL own ret) {pc pc' : Nat} {Ls : Array Slot} {st : List Value} {x y : Int64} (hd : I1 code pc .lrem 1 pc') (hy : y ≠ 0) (k : Go p l e R s m args below meth c n0 FE h ck cn (mkF m pc' Ls (.long (x % y) :: st))) : Go p l e R s m args below meth c n0 FE h ck cn (mkF m pc Ls (.long y :: .long x :: st)) := by
  obtain ⟨hd, rfl⟩ := hd
  exact Go.step (fun T locs X _ t k => XS.lrem X.here C.1 rfl (hb C.2.1 hd) rfl hy (by rw [lrem_mod]; exact k)) k
theorem g_iloadN (C : Cx p s m meth c Z code maxL own ret) {pc pc' : Nat} {Ls : Array Slot} {st : List Value} {k : Fin 4} {v : Int32} (hd : I1 code pc (.iload_n k) 1 pc') (hl : Ls[k.val]? = some (.val (.int v))) (k : Go p l e R s m args below meth c n0 FE h ck cn (mkF m pc' Ls (.int v :: st))) : Go p l e R s m args below meth c n0 FE h ck cn (mkF m pc Ls (st)) := by
  obtain ⟨hd, rfl⟩ := hd
  exact Go.step (fun T locs X _ t k => XS.iloadN X.here C.1 rfl (hb C.2.1 hd) hl k) k
theorem g_iload (C : Cx p s m meth c Z code maxL own ret) {pc pc' : Nat} {Ls : Array Slot} {st : List Value} {k : Nat} {v : Int32} (hd : I1 code pc (.iload k) 2 pc') (hl : Ls[k]? = some (.val (.int v))) (k : Go p l e R s m args below meth c n0 FE h ck cn (mkF m pc' Ls (.int v :: st))) : Go p l e R s m args below meth c n0 FE h ck cn (mkF m pc Ls (st)) := by
  obtain ⟨hd, rfl⟩ := hd
  exact Go.step (fun T locs X _ t k => XS.iload X.here C.1 rfl (hb C.2.1 hd) hl k) k
theorem g_istoreN (C : Cx p s m meth c Z code maxL own ret) {pc pc' : Nat} {Ls : Array Slot} {st : List Value} {k : Fin 4} {x : Int32} {Ls' : Array Slot} (hd : I1 code pc (.istore_n k) 1 pc') (hl : storeLocals Ls k.val (.int x) = some Ls') (k : Go p l e R s m args below meth c n0 FE h ck cn (mkF m pc' Ls' (st))) : Go p l e R s m args below meth c n0 FE h ck cn (mkF m pc Ls (.int x :: st)) := by
  obtain ⟨hd, rfl⟩ := hd
  exact Go.step (fun T locs X _ t k => XS.istoreN X.here C.1 rfl (hb C.2.1 hd) rfl hl k) k
theorem g_istore (C : Cx p s m meth c Z code maxL own ret) {pc pc' : Nat} {Ls : Array Slot} {st : List Value} {k : Nat} {x : Int32} {Ls' : Array Slot} (hd : I1 code pc (.istore k) 2 pc') (hl : storeLocals Ls k (.int x) = some Ls') (k : Go p l e R s m args below meth c n0 FE h ck cn (mkF m pc' Ls' (st))) : Go p l e R s m args below meth c n0 FE h ck cn (mkF m pc Ls (.int x :: st)) := by
  obtain ⟨hd, rfl⟩ := hd
  exact Go.step (fun T locs X _ t k => XS.istore X.here C.1 rfl (hb C.2.1 hd) rfl hl k) k
theorem g_lloadN (C : Cx p s m meth c Z code maxL own ret) {pc pc' : Nat} {Ls : Array Slot} {st : List Value} {k : Fin 4} {v : Int64} (hd : I1 code pc (.lload_n k) 1 pc') (hl : Ls[k.val]? = some (.val (.long v))) (k : Go p l e R s m args below meth c n0 FE h ck cn (mkF m pc' Ls (.long v :: st))) : Go p l e R s m args below meth c n0 FE h ck cn (mkF m pc Ls (st)) := by
  obtain ⟨hd, rfl⟩ := hd
  exact Go.step (fun T locs X _ t k => XS.lloadN X.here C.1 rfl (hb C.2.1 hd) hl k) k
theorem g_lload (C : Cx p s m meth c Z code maxL own ret) {pc pc' : Nat} {Ls : Array Slot} {st : List Value} {k : Nat} {v : Int64} (hd : I1 code pc (.lload k) 2 pc') (hl : Ls[k]? = some (.val (.long v))) (k : Go p l e R s m args below meth c n0 FE h ck cn (mkF m pc' Ls (.long v :: st))) : Go p l e R s m args below meth c n0 FE h ck cn (mkF m pc Ls (st)) := by
  obtain ⟨hd, rfl⟩ := hd
  exact Go.step (fun T locs X _ t k => XS.lload X.here C.1 rfl (hb C.2.1 hd) hl k) k
theorem g_lstoreN (C : Cx p s m meth c Z code maxL own ret) {pc pc' : Nat} {Ls : Array Slot} {st : List Value} {k : Fin 4} {x : Int64} {Ls' : Array Slot} (hd : I1 code pc (.lstore_n k) 1 pc') (hl : storeLocals Ls k.val (.long x) = some Ls') (k : Go p l e R s m args below meth c n0 FE h ck cn (mkF m pc' Ls' (st))) : Go p l e R s m args below meth c n0 FE h ck cn (mkF m pc Ls (.long x :: st)) := by
  obtain ⟨hd, rfl⟩ := hd
  exact Go.step (fun T locs X _ t k => XS.lstoreN X.here C.1 rfl (hb C.2.1 hd) rfl hl k) k
theorem g_lstore (C : Cx p s m meth c Z code maxL own ret) {pc pc' : Nat} {Ls : Array Slot} {st : List Value} {k : Nat} {x : Int64} {Ls' : Array Slot} (hd : I1 code pc (.lstore k) 2 pc') (hl : storeLocals Ls k (.long x) = some Ls') (k : Go p l e R s m args below meth c n0 FE h ck cn (mkF m pc' Ls' (st))) : Go p l e R s m args below meth c n0 FE h ck cn (mkF m pc Ls (.long x :: st)) := by
  obtain ⟨hd, rfl⟩ := hd
  exact Go.step (fun T locs X _ t k => XS.lstore X.here C.1 rfl (hb C.2.1 hd) rfl hl k) k
theorem g_aloadN (C : Cx p s m meth c Z code maxL own ret) {pc pc' : Nat} {Ls : Array Slot} {st : List Value} {k : Fin 4} {v : Value} (hd : I1 code pc (.aload_n k) 1 pc') (hl : Ls[k.val]? = some (.val v)) (hv : v.isRef = true) (k : Go p l e R s m args below meth c n0 FE h ck cn (mkF m pc' Ls (v :: st))) : Go p l e R s m args below meth c n0 FE h ck cn (mkF m pc Ls (st)) := by
  obtain ⟨hd, rfl⟩ := hd
  exact Go.step (fun T locs X _ t k => XS.aloadN X.here C.1 rfl (hb C.2.1 hd) hl hv k) k
theorem g_aload (C : Cx p s m meth c Z code maxL own ret) {pc pc' : Nat} {Ls : Array Slot} {st : List Value} {k : Nat} {v : Value} (hd : I1 code pc (.aload k) 2 pc') (hl : Ls[k]? = some (.val v)) (hv : v.isRef = true) (k : Go p l e R s m args below meth c n0 FE h ck cn (mkF m pc' Ls (v :: st))) : Go p l e R s m args below meth c n0 FE h ck cn (mkF m pc Ls (st)) := by
  obtain ⟨hd, rfl⟩ := hd
  exact Go.step (fun T locs X _ t k => XS.aload X.here C.1 rfl (hb C.2.1 hd) hl hv k) k
theorem g_astoreN (C : Cx p s m meth c Z code maxL own ret) {pc pc' : Nat} {Ls : Array Slot} {st : List Value} {k : Fin 4} {x : Value} {Ls' : Array Slot} (hd : I1 code pc (.astore_n k) 1 pc') (hv : x.isRef = true) (hl : storeLocals Ls k.val x = some Ls') (k : Go p l e R s m args below meth c n0 FE h ck cn (mkF m pc' Ls' (st))) : Go p l e R s m args below meth c n0 FE h ck cn (mkF m pc Ls (x :: st)) := by
  obtain ⟨hd, rfl⟩ := hd
  exact Go.step (fun T locs X _ t k => XS.astoreN X.here C.1 rfl (hb C.2.1 hd) rfl hv hl k) k
theorem g_astore (C : Cx p s m meth c Z code maxL own ret) {pc pc' : Nat} {Ls : Array Slot} {st : List Value} {k : Nat} {x : Value} {Ls' : Array Slot} (hd : I1 code pc (.astore k) 2 pc') (hv : x.isRef = true) (hl : storeLocals Ls k x = some Ls') (k : Go p l e R s m args below meth c n0 FE h ck cn (mkF m pc' Ls' (st))) : Go p l e R s m args below meth c n0 FE h ck cn (mkF m pc Ls (x :: st)) := by
  obtain ⟨hd, rfl⟩ := hd
  exact Go.step (fun T locs X _ t k => XS.astore X.here C.1 rfl (hb C.2.1 hd) rfl hv hl k) k
theorem g_iinc (C : Cx p s m meth c Z code maxL own ret) {pc pc' : Nat} {Ls : Array Slot} {st : List Value} {k : Nat} {cst : Int} {x : Int32} {Ls' : Array Slot} (hd : I1 code pc (.iinc k cst) 3 pc') (hl : Ls[k]? = some (.val (.int x))) (hl' : storeLocals Ls k (.int (x + Int32.ofInt cst)) = some Ls') (k : Go p l e R s m args below meth c n0 FE h ck cn (mkF m pc' Ls' (st))) : Go p l e R s m args below meth c n0 FE h ck cn (mkF m pc Ls (st)) := by
  obtain ⟨hd, rfl⟩ := hd
  exact Go.step (fun T locs X _ t k => XS.iinc X.here C.1 rfl (hb C.2.1 hd) hl hl' k) k
theorem g_iconst (C : Cx p s m meth c Z code maxL own ret) {pc pc' : Nat} {Ls : Array Slot} {st : List Value} {i : Int} (v : Int32) (hd : I1 code pc (.iconst i) 1 pc') (hv : Int32.ofInt i = v) (k : Go p l e R s m args below meth c n0 FE h ck cn (mkF m pc' Ls (.int v :: st))) : Go p l e R s m args below meth c n0 FE h ck cn (mkF m pc Ls st) := by
  obtain ⟨hd, rfl⟩ := hd
  subst hv
  exact Go.step (fun T locs X _ t k => XS.iconst X.here C.1 rfl (hb C.2.1 hd) k) k
theorem g_bipush (C : Cx p s m meth c Z code maxL own ret) {pc pc' : Nat} {Ls : Array Slot} {st : List Value} {i : Int} (v : Int32) (hd : I1 code pc (.bipush i) 2 pc') (hv : (Int8.ofInt i).toInt32 = v) (k : Go p l e R s m args below meth c n0 FE h ck cn (mkF m pc' Ls (.int v :: st))) : Go p l e R s m args below meth c n0 FE h ck cn (mkF m pc Ls st) := by
  obtain ⟨hd, rfl⟩ := hd
  subst hv
  exact Go.step (fun T locs X _ t k => XS.bipush X.here C.1 rfl (hb C.2.1 hd) k) k
theorem g_sipush (C : Cx p s m meth c Z code maxL own ret) {pc pc' : Nat} {Ls : Array Slot} {st : List Value} {i : Int} (v : Int32) (hd : I1 code pc (.sipush i) 3 pc') (hv : (Int16.ofInt i).toInt32 = v) (k : Go p l e R s m args below meth c n0 FE h ck cn (mkF m pc' Ls (.int v :: st))) : Go p l e R s m args below meth c n0 FE h ck cn (mkF m pc Ls st) := by
  obtain ⟨hd, rfl⟩ := hd
  subst hv
  exact Go.step (fun T locs X _ t k => XS.sipush X.here C.1 rfl (hb C.2.1 hd) k) k
theorem g_lconst (C : Cx p s m meth c Z code maxL own ret) {pc pc' : Nat} {Ls : Array Slot} {st : List Value} {i : Fin 2} (v : Int64) (hd : I1 code pc (.lconst i) 1 pc') (hv : Int64.ofNat i = v) (k : Go p l e R s m args below meth c n0 FE h ck cn (mkF m pc' Ls (.long v :: st))) : Go p l e R s m args below meth c n0 FE h ck cn (mkF m pc Ls st) := by
  obtain ⟨hd, rfl⟩ := hd
  subst hv
  exact Go.step (fun T locs X _ t k => XS.lconst X.here C.1 rfl (hb C.2.1 hd) k) k
theorem g_aconstNull (C : Cx p s m meth c Z code maxL own ret) {pc pc' : Nat} {Ls : Array Slot} {st : List Value}  (hd : I1 code pc (.aconst_null) 1 pc') (k : Go p l e R s m args below meth c n0 FE h ck cn (mkF m pc' Ls (.null :: st))) : Go p l e R s m args below meth c n0 FE h ck cn (mkF m pc Ls (st)) := by
  obtain ⟨hd, rfl⟩ := hd
  exact Go.step (fun T locs X _ t k => XS.aconstNull X.here C.1 rfl (hb C.2.1 hd)  k) k
theorem g_ldcInt (C : Cx p s m meth c Z code maxL own ret) {pc pc' : Nat} {Ls : Array Slot} {st : List Value} {i : Nat} {v : Int32} (hd : I1 code pc (.ldc i) 2 pc') (w : (Cond.constant own i v).before a0 Z = true) (k : Go p l e R s m args below meth c n0 FE h ck cn (mkF m pc' Ls (.int v :: st))) : Go p l e R s m args below meth c n0 FE h ck cn (mkF m pc Ls st) := by
  obtain ⟨hd, rfl⟩ := hd
  exact Go.step (fun T locs X _ t k => X.ldcInt C.1 C.2.2.2.2.1 (mvT C.2.2.2.1 w) (g := mkF m pc Ls st) rfl (hb C.2.1 hd) _ k) k
theorem g_ldcwInt (C : Cx p s m meth c Z code maxL own ret) {pc pc' : Nat} {Ls : Array Slot} {st : List Value} {i : Nat} {v : Int32} (hd : I1 code pc (.ldc_w i) 3 pc') (w : (Cond.constant own i v).before a0 Z = true) (k : Go p l e R s m args below meth c n0 FE h ck cn (mkF m pc' Ls (.int v :: st))) : Go p l e R s m args below meth c n0 FE h ck cn (mkF m pc Ls st) := by
  obtain ⟨hd, rfl⟩ := hd
  exact Go.step (fun T locs X _ t k => X.ldcwInt C.1 C.2.2.2.2.1 (mvT C.2.2.2.1 w) (g := mkF m pc Ls st) rfl (hb C.2.1 hd) _ k) k
theorem g_ldc2Long (C : Cx p s m meth c Z code maxL own ret) {pc pc' : Nat} {Ls : Array Slot} {st : List Value} {i : Nat} {v : Int64} (hd : I1 code pc (.ldc2_w i) 3 pc') (w : (Cond.constantLong own i v).before a0 Z = true) (k : Go p l e R s m args below meth c n0 FE h ck cn (mkF m pc' Ls (.long v :: st))) : Go p l e R s m args below meth c n0 FE h ck cn (mkF m pc Ls st) := by
  obtain ⟨hd, rfl⟩ := hd
  exact Go.step (fun T locs X _ t k => X.ldc2Long C.1 C.2.2.2.2.1 (mvT C.2.2.2.1 w) (g := mkF m pc Ls st) rfl (hb C.2.1 hd) _ k) k
theorem g_dup (C : Cx p s m meth c Z code maxL own ret) {pc pc' : Nat} {Ls : Array Slot} {st : List Value} {x : Value} (hd : I1 code pc (.dup) 1 pc') (hc : x.category = 1) (k : Go p l e R s m args below meth c n0 FE h ck cn (mkF m pc' Ls (x :: x :: st))) : Go p l e R s m args below meth c n0 FE h ck cn (mkF m pc Ls (x :: st)) := by
  obtain ⟨hd, rfl⟩ := hd
  exact Go.step (fun T locs X _ t k => XS.dup X.here C.1 rfl (hb C.2.1 hd) rfl hc k) k
theorem g_pop (C : Cx p s m meth c Z code maxL own ret) {pc pc' : Nat} {Ls : Array Slot} {st : List Value} {x : Value} (hd : I1 code pc (.pop) 1 pc') (hc : x.category = 1) (k : Go p l e R s m args below meth c n0 FE h ck cn (mkF m pc' Ls (st))) : Go p l e R s m args below meth c n0 FE h ck cn (mkF m pc Ls (x :: st)) := by
  obtain ⟨hd, rfl⟩ := hd
  exact Go.step (fun T locs X _ t k => XS.pop X.here C.1 rfl (hb C.2.1 hd) rfl hc k) k
theorem g_dupX1 (C : Cx p s m meth c Z code maxL own ret) {pc pc' : Nat} {Ls : Array Slot} {st : List Value} {x y : Value} (hd : I1 code pc (.dup_x1) 1 pc') (hc : x.category = 1) (hc' : y.category = 1) (k : Go p l e R s m args below meth c n0 FE h ck cn (mkF m pc' Ls (x :: y :: x :: st))) : Go p l e R s m args below meth c n0 FE h ck cn (mkF m pc Ls (x :: y :: st)) := by
  obtain ⟨hd, rfl⟩ := hd
  exact Go.step (fun T locs X _ t k => XS.dupX1 X.here C.1 rfl (hb C.2.1 hd) rfl hc hc' k) k
theorem g_dup2 (C : Cx p s m meth c Z code maxL own ret) {pc pc' : Nat} {Ls : Array Slot} {st : List Value} {x y : Value} (hd : I1 code pc (.dup2) 1 pc') (hc : x.category = 1) (hc' : y.category = 1) (k : Go p l e R s m args below meth c n0 FE h ck cn (mkF m pc' Ls (x :: y :: x :: y :: st))) : Go p l e R s m args below meth c n0 FE h ck cn (mkF m pc Ls (x :: y :: st)) := by
  obtain ⟨hd, rfl⟩ := hd
  exact Go.step (fun T locs X _ t k => Jvm.Free.XT.dup2 X.here C.1 rfl (hb C.2.1 hd) rfl hc hc' k) k
theorem g_dup2L (C : Cx p s m meth c Z code maxL own ret) {pc pc' : Nat} {Ls : Array Slot} {st : List Value} {x : Int64} (hd : I1 code pc (.dup2) 1 pc') (k : Go p l e R s m args below meth c n0 FE h ck cn (mkF m pc' Ls (.long x :: .long x :: st))) : Go p l e R s m args below meth c n0 FE h ck cn (mkF m pc Ls (.long x :: st)) := by
  obtain ⟨hd, rfl⟩ := hd
  exact Go.step (fun T locs X _ t k => Jvm.Free.XT.dup2L X.here C.1 rfl (hb C.2.1 hd) rfl k) k
theorem g_goto (C : Cx p s m meth c Z code maxL own ret) {pc pcT pcF : Nat} {Ls : Array Slot} {st : List Value} {o : Int} (hd : B1 code pc (.goto o) o pcT pcF) (k : Go p l e R s m args below meth c n0 FE h ck cn (mkF m pcT Ls st)) : Go p l e R s m args below meth c n0 FE h ck cn (mkF m pc Ls st) := by
  obtain ⟨hd, -, ho, hp⟩ := hd
  exact Go.step (fun T locs X _ t k => XS.goto X.here C.1 rfl (pc0 := pc) rfl (hb C.2.1 hd) ho hp k) k
theorem g_icmp_lt (C : Cx p s m meth c Z code maxL own ret) {pc pcT pcF : Nat} {Ls : Array Slot} {st : List Value} {o : Int} {x y : Int32} (hd : B1 code pc (.if_icmp .lt o) o pcT pcF) (kt : x < y → Go p l e R s m args below meth c n0 FE h ck cn (mkF m pcT Ls st)) (kf : ¬ (x < y) → Go p l e R s m args below meth c n0 FE h ck cn (mkF m pcF Ls st)) : Go p l e R s m args below meth c n0 FE h ck cn (mkF m pc Ls (.int y :: .int x :: st)) := by
  obtain ⟨hd, rfl, ho, hp⟩ := hd
  by_cases q : x < y
  · exact Go.step (fun T locs X _ t k => XS.icmpYes X.here C.1 rfl (pc0 := pc) rfl (hb C.2.1 hd) rfl ((tlt q).1) ho hp k) (kt q)
  · exact Go.step (fun T locs X _ t k => XS.icmpNo X.here C.1 rfl (hb C.2.1 hd) rfl ((flt q).1) k) (kf q)
theorem g_if_lt (C : Cx p s m meth c Z code maxL own ret) {pc pcT pcF : Nat} {Ls : Array Slot} {st : List Value} {o : Int} {x : Int32} (hd : B1 code pc (.ifCond .lt o) o pcT pcF) (kt : x < 0 → Go p l e R s m args below meth c n0 FE h ck cn (mkF m pcT Ls st)) (kf : ¬ (x < 0) → Go p l e R s m args below meth c n0 FE h ck cn (mkF m pcF Ls st)) : Go p l e R s m args below meth c n0 FE h ck cn (mkF m pc Ls (.int x :: st)) := by
  obtain ⟨hd, rfl, ho, hp⟩ := hd
  by_cases q : x < 0
  · exact Go.step (fun T locs X _ t k => XS.ifYes X.here C.1 rfl (pc0 := pc) rfl (hb C.2.1 hd) rfl ((if0 _ _).trans (tlt q).1) ho hp k) (kt q)
  · exact Go.step (fun T locs X _ t k => XS.ifNo X.here C.1 rfl (hb C.2.1 hd) rfl ((if0 _ _).trans (flt q).1) k) (kf q)
theorem g_ifl_lt (C : Cx p s m meth c Z code maxL own ret) {pc pcT pcF : Nat} {Ls : Array Slot} {st : List Value} {o : Int} {x y : Int64} (hd : B1 code pc (.ifCond .lt o) o pcT pcF) (kt : x < y → Go p l e R s m args below meth c n0 FE h ck cn (mkF m pcT Ls st)) (kf : ¬ (x < y) → Go p l e R s m args below meth c n0 FE h ck cn (mkF m pcF Ls st)) : Go p l e R s m args below meth c n0 FE h ck cn (mkF m pc Ls (.int (lcmpW x y) :: st)) := by
  obtain ⟨hd, rfl, ho, hp⟩ := hd
  by_cases q : x < y
  · exact Go.step (fun T locs X _ t k => XS.ifYes X.here C.1 rfl (pc0 := pc) rfl (hb C.2.1 hd) rfl ((if0 _ _).trans (tlt ((lw_lt x y).mpr q)).1) ho hp k) (kt q)
  · exact Go.step (fun T locs X _ t k => XS.ifNo X.here C.1 rfl (hb C.2.1 hd) rfl ((if0 _ _).trans (flt (fun z => q ((lw_lt x y).mp z))).1) k) (kf q)
theorem g_icmp_ge (C : Cx p s m meth c Z code maxL own ret) {pc pcT pcF : Nat} {Ls : Array Slot} {st : List Value} {o : Int} {x y : Int32} (hd : B1 code pc (.if_icmp .ge o) o pcT pcF) (kt : x < y → Go p l e R s m args below meth c n0 FE h ck cn (mkF m pcF Ls st)) (kf : ¬ (x < y) → Go p l e R s m args below meth c n0 FE h ck cn (mkF m pcT Ls st)) : Go p l e R s m args below meth c n0 FE h ck cn (mkF m pc Ls (.int y :: .int x :: st)) := by
  obtain ⟨hd, rfl, ho, hp⟩ := hd
  by_cases q : x < y
  · exact Go.step (fun T locs X _ t k => XS.icmpNo X.here C.1 rfl (hb C.2.1 hd) rfl ((tlt q).2.1) k) (kt q)
  · exact Go.step (fun T locs X _ t k => XS.icmpYes X.here C.1 rfl (pc0 := pc) rfl (hb C.2.1 hd) rfl ((flt q).2.1) ho hp k) (kf q)
theorem g_if_ge (C : Cx p s m meth c Z code maxL own ret) {pc pcT pcF : Nat} {Ls : Array Slot} {st : List Value} {o : Int} {x : Int32} (hd : B1 code pc (.ifCond .ge o) o pcT pcF) (kt : x < 0 → Go p l e R s m args below meth c n0 FE h ck cn (mkF m pcF Ls st)) (kf : ¬ (x < 0) → Go p l e R s m args below meth c n0 FE h ck cn (mkF m pcT Ls st)) : Go p l e R s m args below meth c n0 FE h ck cn (mkF m pc Ls (.int x :: st)) := by
  obtain ⟨hd, rfl, ho, hp⟩ := hd
  by_cases q : x < 0
  · exact Go.step (fun T locs X _ t k => XS.ifNo X.here C.1 rfl (hb C.2.1 hd) rfl ((if0 _ _).trans (tlt q).2.1) k) (kt q)
  · exact Go.step (fun T locs X _ t k => XS.ifYes X.here C.1 rfl (pc0 := pc) rfl (hb C.2.1 hd) rfl ((if0 _ _).trans (flt q).2.1) ho hp k) (kf q)
theorem g_ifl_ge (C : Cx p s m meth c Z code maxL own ret) {pc pcT pcF : Nat} {Ls : Array Slot} {st : List Value} {o : Int} {x y : Int64} (hd : B1 code pc (.ifCond .ge o) o pcT pcF) (kt : x < y → Go p l e R s m args below meth c n0 FE h ck cn (mkF m pcF Ls st)) (kf : ¬ (x < y) → Go p l e R s m args below meth c n0 FE h ck cn (mkF m pcT Ls st)) : Go p l e R s m args below meth c n0 FE h ck cn (mkF m pc Ls (.int (lcmpW x y) :: st)) := by
  obtain ⟨hd, rfl, ho, hp⟩ := hd
  by_cases q : x < y
  · exact Go.step (fun T locs X _ t k => XS.ifNo X.here C.1 rfl (hb C.2.1 hd) rfl ((if0 _ _).trans (tlt ((lw_lt x y).mpr q)).2.1) k) (kt q)
  · exact Go.step (fun T locs X _ t k => XS.ifYes X.here C.1 rfl (pc0 := pc) rfl (hb C.2.1 hd) rfl ((if0 _ _).trans (flt (fun z => q ((lw_lt x y).mp z))).2.1) ho hp k) (kf q)
theorem g_icmp_gt (C : Cx p s m meth c Z code maxL own ret) {pc pcT pcF : Nat} {Ls : Array Slot} {st : List Value} {o : Int} {x y : Int32} (hd : B1 code pc (.if_icmp .gt o) o pcT pcF) (kt : y < x → Go p l e R s m args below meth c n0 FE h ck cn (mkF m pcT Ls st)) (kf : ¬ (y < x) → Go p l e R s m args below meth c n0 FE h ck cn (mkF m pcF Ls st)) : Go p l e R s m args below meth c n0 FE h ck cn (mkF m pc Ls (.int y :: .int x :: st)) := by
  obtain ⟨hd, rfl, ho, hp⟩ := hd
  by_cases q : y < x
  · exact Go.step (fun T locs X _ t k => XS.icmpYes X.here C.1 rfl (pc0 := pc) rfl (hb C.2.1 hd) rfl ((tlt q).2.2.1) ho hp k) (kt q)
  · exact Go.step (fun T locs X _ t k => XS.icmpNo X.here C.1 rfl (hb C.2.1 hd) rfl ((flt q).2.2.1) k) (kf q)
theorem g_if_gt (C : Cx p s m meth c Z code maxL own ret) {pc pcT pcF : Nat} {Ls : Array Slot} {st : List Value} {o : Int} {x : Int32} (hd : B1 code pc (.ifCond .gt o) o pcT pcF) (kt : 0 < x → Go p l e R s m args below meth c n0 FE h ck cn (mkF m pcT Ls st)) (kf : ¬ (0 < x) → Go p l e R s m args below meth c n0 FE h ck cn (mkF m pcF Ls st)) : Go p l e R s m args below meth c n0 FE h ck cn (mkF m pc Ls (.int x :: st)) := by
  obtain ⟨hd, rfl, ho, hp⟩ := hd
  by_cases q : 0 < x
  · exact Go.step (fun T locs X _ t k => XS.ifYes X.here C.1 rfl (pc0 := pc) rfl (hb C.2.1 hd) rfl ((if0 _ _).trans (tlt q).2.2.1) ho hp k) (kt q)
  · exact Go.step (fun T locs X _ t k => XS.ifNo X.here C.1 rfl (hb C.2.1 hd) rfl ((if0 _ _).trans (flt q).2.2.1) k) (kf q)
theorem g_ifl_gt (C : Cx p s m meth c Z code maxL own ret) {pc pcT pcF : Nat} {Ls : Array Slot} {st : List Value} {o : Int} {x y : Int64} (hd : B1 code pc (.ifCond .gt o) o pcT pcF) (kt : y < x → Go p l e R s m args below meth c n0 FE h ck cn (mkF m pcT Ls st)) (kf : ¬ (y < x) → Go p l e R s m args below meth c n0 FE h ck cn (mkF m pcF Ls st)) : Go p l e R s m args below meth c n0 FE h ck cn (mkF m pc Ls (.int (lcmpW x y) :: st)) := by
  obtain ⟨hd, rfl, ho, hp⟩ := hd
  by_cases q : y < x
  · exact Go.step (fun T locs X _ t k => XS.ifYes X.here C.1 rfl (pc0 := pc) rfl (hb C.2.1 hd) rfl ((if0 _ _).trans (tlt ((lw_gt x y).mpr q)).2.2.1) ho hp k) (kt q)
  · exact Go.step (fun T locs X _ t k => XS.ifNo X.here C.1 rfl (hb C.2.1 hd) rfl ((if0 _ _).trans (flt (fun z => q ((lw_gt x y).mp z))).2.2.1) k) (kf q)
theorem g_icmp_le (C : Cx p s m meth c Z code maxL own ret) {pc pcT pcF : Nat} {Ls : Array Slot} {st : List Value} {o : Int} {x y : Int32} (hd : B1 code pc (.if_icmp .le o) o pcT pcF) (kt : y < x → Go p l e R s m args below meth c n0 FE h ck cn (mkF m pcF Ls st)) (kf : ¬ (y < x) → Go p l e R s m args below meth c n0 FE h ck cn (mkF m pcT Ls st)) : Go p l e R s m args below meth c n0 FE h ck cn (mkF m pc Ls (.int y :: .int x :: st)) := by
  obtain ⟨hd, rfl, ho, hp⟩ := hd
  by_cases q : y < x
  · exact Go.step (fun T locs X _ t k => XS.icmpNo X.here C.1 rfl (hb C.2.1 hd) rfl ((tlt q).2.2.2) k) (kt q)
  · exact Go.step (fun T locs X _ t k => XS.icmpYes X.here C.1 rfl (pc0 := pc) rfl (hb C.2.1 hd) rfl ((flt q).2.2.2) ho hp k) (kf q)
theorem g_if_le (C : Cx p s m meth c Z code maxL own ret) {pc pcT pcF : Nat} {Ls : Array Slot} {st : List Value} {o : Int} {x : Int32} (hd : B1 code pc (.ifCond .le o) o pcT pcF) (kt : 0 < x → Go p l e R s m args below meth c n0 FE h ck cn (mkF m pcF Ls st)) (kf : ¬ (0 < x) → Go p l e R s m args below meth c n0 FE h ck cn (mkF m pcT Ls st)) : Go p l e R s m args below meth c n0 FE h ck cn (mkF m pc Ls (.int x :: st)) := by
  obtain ⟨hd, rfl, ho, hp⟩ := hd
  by_cases q : 0 < x
  · exact Go.step (fun T locs X _ t k => XS.ifNo X.here C.1 rfl (hb C.2.1 hd) rfl ((if0 _ _).trans (tlt q).2.2.2) k) (kt q)
  · exact Go.step (fun T locs X _ t k => XS.ifYes X.here C.1 rfl (pc0 := pc) rfl (hb C.2.1 hd) rfl ((if0 _ _).trans (flt q).2.2.2) ho hp k) (kf q)
theorem g_ifl_le (C : Cx p s m meth c Z code maxL own ret) {pc pcT pcF : Nat} {Ls : Array Slot} {st : List Value} {o : Int} {x y : Int64} (hd : B1 code pc (.ifCond .le o) o pcT pcF) (kt : y < x → Go p l e R s m args below meth c n0 FE h ck cn (mkF m pcF Ls st)) (kf : ¬ (y < x) → Go p l e R s m args below meth c n0 FE h ck cn (mkF m pcT Ls st)) : Go p l e R s m args below meth c n0 FE h ck cn (mkF m pc Ls (.int (lcmpW x y) :: st)) := by
  obtain ⟨hd, rfl, ho, hp⟩ := hd
  by_cases q : y < x
  · exact Go.step (fun T locs X _ t k => XS.ifNo X.here C.1 rfl (hb C.2.1 hd) rfl ((if0 _ _).trans (tlt ((lw_gt x y).mpr q)).2.2.2) k) (kt q)
  · exact Go.step (fun T locs X _ t k => XS.ifYes X.here C.1 rfl (pc0 := pc) rfl (hb C.2.1 hd) rfl ((if0 _ _).trans (flt (fun z => q ((lw_gt x y).mp z))).2.2.2) ho hp k) (kf q)
theorem g_icmp_eq (C : Cx p s m meth c Z code maxL own ret) {pc pcT pcF : Nat} {Ls : Array Slot} {st : List Value} {o : Int} {x y : Int32} (hd : B1 code pc (.if_icmp .eq o) o pcT pcF) (kt : x = y → Go p l e R s m args below meth c n0 FE h ck cn (mkF m pcT Ls st)) (kf : ¬ (x = y) → Go p l e R s m args below meth c n0 FE h ck cn (mkF m pcF Ls st)) : Go p l e R s m args below meth c n0 FE h ck cn (mkF m pc Ls (.int y :: .int x :: st)) := by
  obtain ⟨hd, rfl, ho, hp⟩ := hd
  by_cases q : x = y
  · exact Go.step (fun T locs X _ t k => XS.icmpYes X.here C.1 rfl (pc0 := pc) rfl (hb C.2.1 hd) rfl ((teq q).1) ho hp k) (kt q)
  · exact Go.step (fun T locs X _ t k => XS.icmpNo X.here C.1 rfl (hb C.2.1 hd) rfl ((feq q).1) k) (kf q)
theorem g_if_eq (C : Cx p s m meth c Z code maxL own ret) {pc pcT pcF : Nat} {Ls : Array Slot} {st : List Value} {o : Int} {x : Int32} (hd : B1 code pc (.ifCond .eq o) o pcT pcF) (kt : x = 0 → Go p l e R s m args below meth c n0 FE h ck cn (mkF m pcT Ls st)) (kf : ¬ (x = 0) → Go p l e R s m args below meth c n0 FE h ck cn (mkF m pcF Ls st)) : Go p l e R s m args below meth c n0 FE h ck cn (mkF m pc Ls (.int x :: st)) := by
  obtain ⟨hd, rfl, ho, hp⟩ := hd
  by_cases q : x = 0
  · exact Go.step (fun T locs X _ t k => XS.ifYes X.here C.1 rfl (pc0 := pc) rfl (hb C.2.1 hd) rfl ((if0 _ _).trans (teq q).1) ho hp k) (kt q)
  · exact Go.step (fun T locs X _ t k => XS.ifNo X.here C.1 rfl (hb C.2.1 hd) rfl ((if0 _ _).trans (feq q).1) k) (kf q)
theorem g_ifl_eq (C : Cx p s m meth c Z code maxL own ret) {pc pcT pcF : Nat} {Ls : Array Slot} {st : List Value} {o : Int} {x y : Int64} (hd : B1 code pc (.ifCond .eq o) o pcT pcF) (kt : x = y → Go p l e R s m args below meth c n0 FE h ck cn (mkF m pcT Ls st)) (kf : ¬ (x = y) → Go p l e R s m args below meth c n0 FE h ck cn (mkF m pcF Ls st)) : Go p l e R s m args below meth c n0 FE h ck cn (mkF m pc Ls (.int (lcmpW x y) :: st)) := by
  obtain ⟨hd, rfl, ho, hp⟩ := hd
  by_cases q : x = y
  · exact Go.step (fun T locs X _ t k => XS.ifYes X.here C.1 rfl (pc0 := pc) rfl (hb C.2.1 hd) rfl ((if0 _ _).trans (teq ((lw_eq x y).mpr q)).1) ho hp k) (kt q)
  · exact Go.step (fun T locs X _ t k => XS.ifNo X.here C.1 rfl (hb C.2.1 hd) rfl ((if0 _ _).trans (feq (fun z => q ((lw_eq x y).mp z))).1) k) (kf q)
theorem g_icmp_ne (C : Cx p s m meth c Z code maxL own ret) {pc pcT pcF : Nat} {Ls : Array Slot} {st : List Value} {o : Int} {x y : Int32} (hd : B1 code pc (.if_icmp .ne o) o pcT pcF) (kt : x = y → Go p l e R s m args below meth c n0 FE h ck cn (mkF m pcF Ls st)) (kf : ¬ (x = y) → Go p l e R s m args below meth c n0 FE h ck cn (mkF m pcT Ls st)) : Go p l e R s m args below meth c n0 FE h ck cn (mkF m pc Ls (.int y :: .int x :: st)) := by
  obtain ⟨hd, rfl, ho, hp⟩ := hd
  by_cases q : x = y
  · exact Go.step (fun T locs X _ t k => XS.icmpNo X.here C.1 rfl (hb C.2.1 hd) rfl ((teq q).2) k) (kt q)
  · exact Go.step (fun T locs X _ t k => XS.icmpYes X.here C.1 rfl (pc0 := pc) rfl (hb C.2.1 hd) rfl ((feq q).2) ho hp k) (kf q)
theorem g_if_ne (C : Cx p s m meth c Z code maxL own ret) {pc pcT pcF : Nat} {Ls : Array Slot} {st : List Value} {o : Int} {x : Int32} (hd : B1 code pc (.ifCond .ne o) o pcT pcF) (kt : x = 0 → Go p l e R s m args below meth c n0 FE h ck cn (mkF m pcF Ls st)) (kf : ¬ (x = 0) → Go p l e R s m args below meth c n0 FE h ck cn (mkF m pcT Ls st)) : Go p l e R s m args below meth c n0 FE h ck cn (mkF m pc Ls (.int x :: st)) := by
  obtain ⟨hd, rfl, ho, hp⟩ := hd
  by_cases q : x = 0
  · exact Go.step (fun T locs X _ t k => XS.ifNo X.here C.1 rfl (hb C.2.1 hd) rfl ((if0 _ _).trans (teq q).2) k) (kt q)
  · exact Go.step (fun T locs X _ t k => XS.ifYes X.here C.1 rfl (pc0 := pc) rfl (hb C.2.1 hd) rfl ((if0 _ _).trans (feq q).2) ho hp k) (kf q)
theorem g_ifl_ne (C : Cx p s m meth c Z code maxL own ret) {pc pcT pcF : Nat} {Ls : Array Slot} {st : List Value} {o : Int} {x y : Int64} (hd : B1 code pc (.ifCond .ne o) o pcT pcF) (kt : x = y → Go p l e R s m args below meth c n0 FE h ck cn (mkF m pcF Ls st)) (kf : ¬ (x = y) → Go p l e R s m args below meth c n0 FE h ck cn (mkF m pcT Ls st)) : Go p l e R s m args below meth c n0 FE h ck cn (mkF m pc Ls (.int (lcmpW x y) :: st)) := by
  obtain ⟨hd, rfl, ho, hp⟩ := hd
  by_cases q : x = y
  · exact Go.step (fun T locs X _ t k => XS.ifNo X.here C.1 rfl (hb C.2.1 hd) rfl ((if0 _ _).trans (teq ((lw_eq x y).mpr q)).2) k) (kt q)
  · exact Go.step (fun T locs X _ t k => XS.ifYes X.here C.1 rfl (pc0 := pc) rfl (hb C.2.1 hd) rfl ((if0 _ _).trans (feq (fun z => q ((lw_eq x y).mp z))).2) ho hp k) (kf q)
theorem g_ifnullN (C : Cx p s m meth c Z code maxL own ret) {pc pcT pcF : Nat} {Ls : Array Slot} {st : List Value} {o : Int} {b : Addr} (hd : B1 code pc (.ifnull o) o pcT pcF) (k : Go p l e R s m args below meth c n0 FE h ck cn (mkF m pcF Ls st)) : Go p l e R s m args below meth c n0 FE h ck cn (mkF m pc Ls (.ref b :: st)) := by
  obtain ⟨hd, rfl, ho, hp⟩ := hd
  exact Go.step (fun T locs X _ t k => XS.ifnullNo X.here C.1 rfl (hb C.2.1 hd) rfl k) k
theorem g_ifnullY (C : Cx p s m meth c Z code maxL own ret) {pc pcT pcF : Nat} {Ls : Array Slot} {st : List Value} {o : Int} (hd : B1 code pc (.ifnull o) o pcT pcF) (k : Go p l e R s m args below meth c n0 FE h ck cn (mkF m pcT Ls st)) : Go p l e R s m args below meth c n0 FE h ck cn (mkF m pc Ls (.null :: st)) := by
  obtain ⟨hd, rfl, ho, hp⟩ := hd
  exact Go.step (fun T locs X _ t k => XS.ifnullYes X.here C.1 rfl (pc0 := pc) rfl (hb C.2.1 hd) rfl ho hp k) k
theorem g_ifnonnullY (C : Cx p s m meth c Z code maxL own ret) {pc pcT pcF : Nat} {Ls : Array Slot} {st : List Value} {o : Int} {b : Addr} (hd : B1 code pc (.ifnonnull o) o pcT pcF) (k : Go p l e R s m args below meth c n0 FE h ck cn (mkF m pcT Ls st)) : Go p l e R s m args below meth c n0 FE h ck cn (mkF m pc Ls (.ref b :: st)) := by
  obtain ⟨hd, rfl, ho, hp⟩ := hd
  exact Go.step (fun T locs X _ t k => XS.ifnonnullYes X.here C.1 rfl (pc0 := pc) rfl (hb C.2.1 hd) rfl ho hp k) k
theorem g_ifnonnullN (C : Cx p s m meth c Z code maxL own ret) {pc pcT pcF : Nat} {Ls : Array Slot} {st : List Value} {o : Int} (hd : B1 code pc (.ifnonnull o) o pcT pcF) (k : Go p l e R s m args below meth c n0 FE h ck cn (mkF m pcF Ls st)) : Go p l e R s m args below meth c n0 FE h ck cn (mkF m pc Ls (.null :: st)) := by
  obtain ⟨hd, rfl, ho, hp⟩ := hd
  exact Go.step (fun T locs X _ t k => XS.ifnonnullNo X.here C.1 rfl (hb C.2.1 hd) rfl k) k
theorem g_acmp_eq (C : Cx p s m meth c Z code maxL own ret) {pc pcT pcF : Nat} {Ls : Array Slot} {st : List Value} {o : Int} {x y : Value} (h1 : x.isRef = true) (h2 : y.isRef = true) (hd : B1 code pc (.if_acmp .eq o) o pcT pcF) (kt : x = y → Go p l e R s m args below meth c n0 FE h ck cn (mkF m pcT Ls st)) (kf : ¬ x = y → Go p l e R s m args below meth c n0 FE h ck cn (mkF m pcF Ls st)) : Go p l e R s m args below meth c n0 FE h ck cn (mkF m pc Ls (y :: x :: st)) := by
  obtain ⟨hd, rfl, ho, rfl⟩ := hd
  by_cases q : x = y
  · exact Go.step (fun T locs X _ t k => Jvm.RoadKit.acmp X C.1 rfl h1 h2 (pc0 := pc) (same := true) rfl (hb C.2.1 hd) rfl (by simp [q]) ho rfl k) (kt q)
  · exact Go.step (fun T locs X _ t k => Jvm.RoadKit.acmp X C.1 rfl h1 h2 (pc0 := pc) (same := false) rfl (hb C.2.1 hd) rfl (by simp [q]) ho rfl k) (kf q)
theorem g_acmp_ne (C : Cx p s m meth c Z code maxL own ret) {pc pcT pcF : Nat} {Ls : Array Slot} {st : List Value} {o : Int} {x y : Value} (h1 : x.isRef = true) (h2 : y.isRef = true) (hd : B1 code pc (.if_acmp .ne o) o pcT pcF) (kt : x = y → Go p l e R s m args below meth c n0 FE h ck cn (mkF m pcF Ls st)) (kf : ¬ x = y → Go p l e R s m args below meth c n0 FE h ck cn (mkF m pcT Ls st)) : Go p l e R s m args below meth c n0 FE h ck cn (mkF m pc Ls (y :: x :: st)) := by
  obtain ⟨hd, rfl, ho, rfl⟩ := hd
  by_cases q : x = y
  · exact Go.step (fun T locs X _ t k => Jvm.RoadKit.acmp X C.1 rfl h1 h2 (pc0 := pc) (same := true) rfl (hb C.2.1 hd) rfl (by simp [q]) ho rfl k) (kt q)
  · exact Go.step (fun T locs X _ t k => Jvm.RoadKit.acmp X C.1 rfl h1 h2 (pc0 := pc) (same := false) rfl (hb C.2.1 hd) rfl (by simp [q]) ho rfl k) (kf q)
theorem ret0 {v : Option Value} {g : JFrame} (hlk : meth.locks = false) (hret : meth.sig.returnType = none → v = none) (hck : ck ≤ K) (hcn : cn ≤ N) (hQ : Q v h)
    (st : ∀ (T : State) (locs : List Loc) (fs : List Frame), Stand p l e R s m args below meth c T locs ck cn → (∀ (f : JFrame) (acts : List Action), f.method = m → f.locked = none → f.entered = [] → (doReturn e (T.setTop f) acts v).1 = T.setFrames fs) → Steps p.tables e below (T.setTop g) (T.setFrames fs)) :
    Go p l e R s m args below meth c n0 (EN s n0 K N Q) h ck cn g := fun T locs X eT hN => by
  obtain ⟨fs, hr, hrun, hended, hW, hsame⟩ := X.leave (v := v) hret hlk
  exact ⟨_, _, st T locs fs X hr, hrun, hended, v, locs, rfl, ⟨by show Q v T.heap; rw [eT]; exact hQ, hN⟩, ⟨_, rfl⟩, hW, hsame.mono hck hcn⟩
theorem g_retV (C : Cx p s m meth c Z code maxL own ret) {pc : Nat} {Ls : Array Slot} {pc' : Nat} (hd : I1 code pc .return_ 1 pc') (hret : ret = none) (hck : ck ≤ K) (hcn : cn ≤ N) (hQ : Q none h) : Go p l e R s m args below meth c n0 (EN s n0 K N Q) h ck cn (mkF m pc Ls []) := by
  obtain ⟨hd, -⟩ := hd
  exact ret0 C.2.2.2.2.2.2 (fun _ => rfl) hck hcn hQ (fun T locs fs X hr => X.returnOut C.1 (C.2.2.2.2.2.1.trans hret) (hb C.2.1 hd) hr)
theorem g_retInt (C : Cx p s m meth c Z code maxL own ret) {pc : Nat} {Ls : Array Slot} {pc' : Nat} {st : List Value} {z : Int32} (hd : I1 code pc .ireturn 1 pc') (hret : ret = some .int) (hck : ck ≤ K) (hcn : cn ≤ N) (hQ : Q (some (.int z)) h) : Go p l e R s m args below meth c n0 (EN s n0 K N Q) h ck cn (mkF m pc Ls (.int z :: st)) := by
  obtain ⟨hd, -⟩ := hd
  have hr' := C.2.2.2.2.2.1.trans hret
  exact ret0 C.2.2.2.2.2.2 (fun q => by rw [hr'] at q; cases q) hck hcn hQ (fun T locs fs X hr => retOut X C.1 hr' rfl (Or.inl ⟨rfl, Or.inl rfl, z, rfl⟩) (hb C.2.1 hd) hr)
theorem g_retLong (C : Cx p s m meth c Z code maxL own ret) {pc : Nat} {Ls : Array Slot} {pc' : Nat} {st : List Value} {z : Int64} (hd : I1 code pc .lreturn 1 pc') (hret : ret = some .long) (hck : ck ≤ K) (hcn : cn ≤ N) (hQ : Q (some (.long z)) h) : Go p l e R s m args below meth c n0 (EN s n0 K N Q) h ck cn (mkF m pc Ls (.long z :: st)) := by
  obtain ⟨hd, -⟩ := hd
  have hr' := C.2.2.2.2.2.1.trans hret
  exact ret0 C.2.2.2.2.2.2 (fun q => by rw [hr'] at q; cases q) hck hcn hQ (fun T locs fs X hr => retOut X C.1 hr' rfl (Or.inr (Or.inl ⟨rfl, rfl, z, rfl⟩)) (hb C.2.1 hd) hr)
theorem nar_ref {t : FieldType} {v : Value} (hv : v.isRef = true) : narrow t v = v := by
  rcases ref_cases hv with rfl | ⟨a, rfl⟩ <;> cases t <;> rfl
theorem g_retRef (C : Cx p s m meth c Z code maxL own ret) {pc : Nat} {Ls : Array Slot} {pc' : Nat} {st : List Value} {v : Value} {t : FieldType} (hd : I1 code pc .areturn 1 pc') (hret : ret = some t) (ht : t.isReference = true) (hv : v.isRef = true) (hck : ck ≤ K) (hcn : cn ≤ N) (hQ : Q (some v) h) : Go p l e R s m args below meth c n0 (EN s n0 K N Q) h ck cn (mkF m pc Ls (v :: st)) := by
  obtain ⟨hd, -⟩ := hd
  have hr' := C.2.2.2.2.2.1.trans hret
  exact ret0 C.2.2.2.2.2.2 (fun q => by rw [hr'] at q; cases q) hck hcn hQ (fun T locs fs X hr => retOut X C.1 hr' (nar_ref hv) (Or.inr (Or.inr (Or.inr (Or.inr ⟨rfl, ht, hv⟩)))) (hb C.2.1 hd) hr)
theorem g_retNar (C : Cx p s m meth c Z code maxL own ret) {pc : Nat} {Ls : Array Slot} {pc' : Nat} {st : List Value} {z : Int32} {t : FieldType} (hd : I1 code pc .ireturn 1 pc') (hret : ret = some t) (ht : t = .boolean ∨ t = .byte ∨ t = .char ∨ t = .short) (hck : ck ≤ K) (hcn : cn ≤ N) (hQ : Q (some (.int (nar t z))) h) : Go p l e R s m args below meth c n0 (EN s n0 K N Q) h ck cn (mkF m pc Ls (.int z :: st)) := by
  obtain ⟨hd, -⟩ := hd
  have hr' := C.2.2.2.2.2.1.trans hret
  exact ret0 C.2.2.2.2.2.2 (fun q => by rw [hr'] at q; cases q) hck hcn hQ (fun T locs fs X hr => retN X C.1 hr' ht (hb C.2.1 hd) hr)
theorem g_getF (C : Cx p s m meth c Z code maxL own ret) {pc pc' : Nat} {Ls : Array Slot} {st : List Value} {R0 O n d host : String} {index : Nat} {a : Addr} {v : Value} (hd : I1 code pc (.getfield index) 3 pc') (w : (Cond.fieldLink own index R0 n d).before a0 Z = true ∨ (Cond.fieldLinkNest own index R0 n d host).before a0 Z = true) (via : Via Z R0 O n d) (F : Fld Z h a O n d v)
    (k : Go p l e R s m args below meth c n0 FE h ck cn (mkF m pc' Ls (v :: st))) : Go p l e R s m args below meth c n0 FE h ck cn (mkF m pc Ls (.ref a :: st)) := fun T locs X eT hN => by
  obtain ⟨hd, rfl⟩ := hd
  obtain ⟨T', X', e', st'⟩ := Jvm.RoadKit.getF X C.1 C.2.2.2.1 C.2.2.2.2.1 w via eT F (g := mkF m pc Ls (.ref a :: st)) rfl rfl (hb C.2.1 hd)
  exact Go.move hN X' e' hN st' k
theorem g_getS (C : Cx p s m meth c Z code maxL own ret) {pc pc' : Nat} {Ls : Array Slot} {st : List Value} {R0 O n d host : String} {index : Nat} {v : Value} (hd : I1 code pc (.getstatic index) 3 pc') (w : (Cond.fieldLink own index R0 n d).before a0 Z = true ∨ (Cond.fieldLinkNest own index R0 n d host).before a0 Z = true) (via : Via Z R0 O n d) (F : Sta Z h O n d v)
    (k : Go p l e R s m args below meth c n0 FE h ck cn (mkF m pc' Ls (v :: st))) : Go p l e R s m args below meth c n0 FE h ck cn (mkF m pc Ls st) := fun T locs X eT hN => by
  obtain ⟨hd, rfl⟩ := hd
  obtain ⟨T', X', e', st'⟩ := Jvm.RoadKit.getS2 X C.1 C.2.2.2.1 C.2.2.2.2.1 w via eT F (g := mkF m pc Ls st) rfl (hb C.2.1 hd)
  exact Go.move hN X' e' hN st' k
theorem g_putF (C : Cx p s m meth c Z code maxL own ret) {pc pc' : Nat} {Ls : Array Slot} {st : List Value} {R0 O n d host Cl : String} {index kk : Nat} {ty : FieldType} {a : Addr} {v old : Value} (hd : I1 code pc (.putfield index) 3 pc') (w : (Cond.fieldLink own index R0 n d).before a0 Z = true ∨ (Cond.fieldLinkNest own index R0 n d host).before a0 Z = true) (via : Via Z R0 O n d) (F : Fld Z h a O n d old) (E : Exa Z h a Cl)
    (L : (Cond.lays Cl O n d).before a0 Z = true ∨ ((Cond.laysFinal Cl O n d).before a0 Z = true ∧ own = O ∧ meth.name = "<init>")) (wi : (Cond.instantiable Cl kk).before a0 Z = true) (hty : parseFieldDescriptor d = some ty) (hn : narrow ty v = v) (hf : fits ty v = true) (ha : n0 ≤ a)
    (k : ∀ h', Wr h h' a (Jvm.RoadKit.slotOf Z O n d) v → Go p l e R s m args below meth c n0 FE h' ck cn (mkF m pc' Ls st)) : Go p l e R s m args below meth c n0 FE h ck cn (mkF m pc Ls (v :: .ref a :: st)) := fun T locs X eT hN => by
  obtain ⟨hd, rfl⟩ := hd
  obtain ⟨T', h', X', e', W, st'⟩ := Jvm.RoadKit.putF X C.1 C.2.2.2.1 C.2.2.2.2.1 w via eT F E L wi hty hn hf (g := mkF m pc Ls (v :: .ref a :: st)) rfl rfl (hb C.2.1 hd)
  exact Go.move hN X' e' (Fr.snoc X' hN ha) st' (k h' W)
theorem g_putFN (C : Cx p s m meth c Z code maxL own ret) {pc pc' : Nat} {Ls : Array Slot} {st : List Value} {R0 O n d Cl : String} {index kk : Nat} {ty : FieldType} {a : Addr} {v v' old : Value} (hd : I1 code pc (.putfield index) 3 pc') (w : (Cond.fieldLink own index R0 n d).before a0 Z = true) (via : Via Z R0 O n d) (F : Fld Z h a O n d old) (E : Exa Z h a Cl)
    (L : (Cond.lays Cl O n d).before a0 Z = true ∨ ((Cond.laysFinal Cl O n d).before a0 Z = true ∧ own = O ∧ meth.name = "<init>")) (wi : (Cond.instantiable Cl kk).before a0 Z = true) (hty : parseFieldDescriptor d = some ty) (hn : narrow ty v = v') (hf : fits ty v' = true) (ha : n0 ≤ a)
    (k : ∀ h', Wr h h' a (Jvm.RoadKit.slotOf Z O n d) v' → Go p l e R s m args below meth c n0 FE h' ck cn (mkF m pc' Ls st)) : Go p l e R s m args below meth c n0 FE h ck cn (mkF m pc Ls (v :: .ref a :: st)) := fun T locs X eT hN => by
  obtain ⟨hd, rfl⟩ := hd
  obtain ⟨T', h', X', e', W, st'⟩ := Jvm.RoadKit.putFN X C.1 C.2.2.2.1 C.2.2.2.2.1 w via eT F E L wi hty hn hf (g := mkF m pc Ls (v :: .ref a :: st)) rfl rfl (hb C.2.1 hd)
  exact Go.move hN X' e' (Fr.snoc X' hN ha) st' (k h' W)
theorem g_newO (C : Cx p s m meth c Z code maxL own ret) {pc pc' : Nat} {Ls : Array Slot} {st : List Value} {Cl : String} {index n : Nat} (hd : I1 code pc (.new index) 3 pc') (w : (Cond.classLink own index Cl).before a0 Z = true) (wi : (Cond.instantiable Cl n).before a0 Z = true) (wz : (Cond.initialized Cl).before a0 Z = true) (hc : ck + 1 ≤ R.cells) (hl : cn + n ≤ R.slots) {ck' cn' : Nat} (hck : ck + 1 = ck') (hcn : cn + n = cn')
    (k : ∀ (h' : Heap) (a : Addr), a = h.size → Ext h h' → Exa Z h' a Cl → (∀ {O nm d : String} {ty : FieldType}, Laid Z a0 Cl O nm d → parseFieldDescriptor d = some ty → Fld Z h' a O nm d (defaultValue ty)) → Go p l e R s m args below meth c n0 FE h' ck' cn' (mkF m pc' Ls (.ref a :: st))) : Go p l e R s m args below meth c n0 FE h ck cn (mkF m pc Ls st) := fun T locs X eT hN => by
  obtain ⟨hd, rfl⟩ := hd
  subst hck hcn
  obtain ⟨T', h', X', e', E, A, D, -, st'⟩ := Jvm.RoadKit.newO X C.1 C.2.2.2.1 C.2.2.2.2.1 w wi wz eT (g := mkF m pc Ls st) rfl (hb C.2.1 hd) hc hl
  exact Go.move hN X' e' hN st' (k h' _ rfl E A D)
theorem g_initO (C : Cx p s m meth c Z code maxL own ret) {pc pc' : Nat} {Ls : Array Slot} {st : List Value} {a : Addr} {idx : Nat} (hd : I1 code pc (.invokespecial idx) 3 pc') (w1 : (Cond.methodLink own idx Lib.objectInit).before a0 Z = true) (w2 : (Cond.instanceMethod Lib.objectInit).before a0 Z = true) (w3 : (Cond.code Lib.objectInit ⟨#[0xb1]⟩ 1 none).before a0 Z = true) (hsz : Ls.size = maxL)
    (hf : 1 ≤ R.frames) (W : Nat) (hW : 2 * 0 + (st.map fun v => v.category).sum ≤ W) (hl : W + 12 ≤ R.locals) (k : Go p l e R s m args below meth c n0 FE h ck cn (mkF m pc' Ls st)) : Go p l e R s m args below meth c n0 FE h ck cn (mkF m pc Ls (.ref a :: st)) := fun T locs X eT hN => by
  obtain ⟨hd, rfl⟩ := hd
  obtain ⟨T', X', e', st'⟩ := Jvm.RoadKit.initO X C.1 C.2.2.2.1 C.2.2.2.2.1 w1 w2 w3 eT (g := mkF m pc Ls (.ref a :: st)) rfl (hsz.trans C.2.2.1.symm) rfl (hb C.2.1 hd) hf (W := W) hW hl
  exact Go.move hN X' e' hN st' k
theorem g_castY (C : Cx p s m meth c Z code maxL own ret) {pc pc' : Nat} {Ls : Array Slot} {st : List Value} {Kl : String} {index : Nat} {a : Addr} (hd : I1 code pc (.checkcast index) 3 pc') (w : (Cond.classLink own index Kl).before a0 Z = true) (F : Ins Z h a Kl true) (k : Go p l e R s m args below meth c n0 FE h ck cn (mkF m pc' Ls (.ref a :: st))) : Go p l e R s m args below meth c n0 FE h ck cn (mkF m pc Ls (.ref a :: st)) := fun T locs X eT hN => by
  obtain ⟨hd, rfl⟩ := hd
  obtain ⟨T', X', e', st'⟩ := Jvm.RoadKit.castY X C.1 C.2.2.2.1 C.2.2.2.2.1 w eT F (g := mkF m pc Ls (.ref a :: st)) rfl rfl (hb C.2.1 hd)
  exact Go.move hN X' e' hN st' k
theorem g_castNull (C : Cx p s m meth c Z code maxL own ret) {pc pc' : Nat} {Ls : Array Slot} {st : List Value} {index : Nat} (hd : I1 code pc (.checkcast index) 3 pc') (k : Go p l e R s m args below meth c n0 FE h ck cn (mkF m pc' Ls (.null :: st))) : Go p l e R s m args below meth c n0 FE h ck cn (mkF m pc Ls (.null :: st)) := by
  obtain ⟨hd, rfl⟩ := hd
  exact Go.step (fun T locs X _ t k => X.checkcastNull C.1 (g := mkF m pc Ls (.null :: st)) rfl rfl (hb C.2.1 hd) _ k) k
theorem g_instY (C : Cx p s m meth c Z code maxL own ret) {pc pc' : Nat} {Ls : Array Slot} {st : List Value} {Kl : String} {index : Nat} {a : Addr} (hd : I1 code pc (.instanceof index) 3 pc') (w : (Cond.classLink own index Kl).before a0 Z = true) (F : Ins Z h a Kl true) (k : Go p l e R s m args below meth c n0 FE h ck cn (mkF m pc' Ls (.int 1 :: st))) : Go p l e R s m args below meth c n0 FE h ck cn (mkF m pc Ls (.ref a :: st)) := fun T locs X eT hN => by
  obtain ⟨hd, rfl⟩ := hd
  obtain ⟨T', X', e', st'⟩ := Jvm.RoadKit.instY X C.1 C.2.2.2.1 C.2.2.2.2.1 w eT F (g := mkF m pc Ls (.ref a :: st)) rfl rfl (hb C.2.1 hd)
  exact Go.move hN X' e' hN st' k
theorem g_instNo (C : Cx p s m meth c Z code maxL own ret) {pc pc' : Nat} {Ls : Array Slot} {st : List Value} {Kl Cl : String} {index : Nat} {a : Addr} (hd : I1 code pc (.instanceof index) 3 pc') (w : (Cond.classLink own index Kl).before a0 Z = true) (E : Exa Z h a Cl) (F : ∃ c t, Z.vm.findClass Cl = some c ∧ Z.vm.findClass Kl = some t ∧ Z.vm.assignable c t = false) (k : Go p l e R s m args below meth c n0 FE h ck cn (mkF m pc' Ls (.int 0 :: st))) : Go p l e R s m args below meth c n0 FE h ck cn (mkF m pc Ls (.ref a :: st)) := fun T locs X eT hN => by
  obtain ⟨hd, rfl⟩ := hd
  obtain ⟨T', X', e', st'⟩ := Jvm.RoadKit.instNo X C.1 C.2.2.2.1 C.2.2.2.2.1 w eT E F (g := mkF m pc Ls (.ref a :: st)) rfl rfl (hb C.2.1 hd)
  exact Go.move hN X' e' hN st' k
theorem g_instNull (C : Cx p s m meth c Z code maxL own ret) {pc pc' : Nat} {Ls : Array Slot} {st : List Value} {index : Nat} (hd : I1 code pc (.instanceof index) 3 pc') (k : Go p l e R s m args below meth c n0 FE h ck cn (mkF m pc' Ls (.int 0 :: st))) : Go p l e R s m args below meth c n0 FE h ck cn (mkF m pc Ls (.null :: st)) := by
  obtain ⟨hd, rfl⟩ := hd
  exact Go.step (fun T locs X _ t k => X.instanceofNull C.1 (g := mkF m pc Ls (.null :: st)) rfl rfl (hb C.2.1 hd) _ k) k
/-- an array of n places: what each holds -/
def AV (Z : State) (h : Heap) (a : Addr) (ty : FieldType) (n : Nat) (f : Nat → Value) : Prop := ∃ c : Cell, Arr Z h a c ty ∧ c.slots.size = n ∧ n < 2 ^ 31 ∧ ∀ i, i < n → c.slots[i]? = some (f i)
theorem AV.lt {a : Addr} {ty : FieldType} {n : Nat} {f : Nat → Value} (F : AV Z h a ty n f) : a < h.size := by obtain ⟨c, A, -⟩ := F; exact A.lt
theorem AV.ext {h' : Heap} {a : Addr} {ty : FieldType} {n : Nat} {f : Nat → Value} (F : AV Z h a ty n f) (E : Ext h h') : AV Z h' a ty n f := by obtain ⟨c, A, r⟩ := F; exact ⟨c, A.ext E, r⟩
theorem AV.other {h' : Heap} {a b : Addr} {sl : Nat} {v : Value} {ty : FieldType} {n : Nat} {f : Nat → Value} (F : AV Z h b ty n f) (W : Wr h h' a sl v) (q : b ≠ a) : AV Z h' b ty n f := by obtain ⟨c, A, r⟩ := F; exact ⟨c, A.other W q, r⟩
theorem AV.keep {h' : Heap} {ws : List Addr} {a : Addr} {ty : FieldType} {n : Nat} {f : Nat → Value} (F : AV Z h a ty n f) (K : Keep h h' ws) (q : a ∉ ws) : AV Z h' a ty n f := by obtain ⟨c, A, r⟩ := F; exact ⟨c, ⟨K.2.1 a c A.1 q, A.2⟩, r⟩
theorem AV.congr {a : Addr} {ty : FieldType} {n : Nat} {f g : Nat → Value} (F : AV Z h a ty n f) (q : ∀ i, i < n → f i = g i) : AV Z h a ty n g := by obtain ⟨c, A, r1, r2, r3⟩ := F; exact ⟨c, A, r1, r2, fun i hi => by rw [← q i hi]; exact r3 i hi⟩
theorem AV.ofNew {a : Addr} {ty : FieldType} {cA : ClassId} {z : Int32} (A : Arr Z h a (newA cA ty z) ty) (q : ¬ z < 0) : AV Z h a ty z.toNatClampNeg (fun _ => defaultValue ty) :=
  ⟨_, A, sz_new _ _ _, (back32 q).2, fun i hi => by simp [newA, hi]⟩
theorem AV.set {h' : Heap} {a : Addr} {ty : FieldType} {n : Nat} {f : Nat → Value} {j : Nat} {v : Value} (F : AV Z h a ty n f) (W : Wr h h' a j v) : AV Z h' a ty n (fun i => if i = j then v else f i) := by
  obtain ⟨c, A, r1, r2, r3⟩ := F
  obtain ⟨cell, w1, w2, w3, w4⟩ := W
  cases w1.symm.trans A.1
  refine ⟨c.setSlot j v, A.same ⟨c, w1, w2, w3, w4⟩, by rw [sz_set, r1], r2, fun i hi => ?_⟩
  by_cases q : i = j
  · subst q; simp [Cell.setSlot, w3]
  · simp only [q, if_false]; rw [← r3 i hi]; exact Array.getElem?_setIfInBounds_ne (Ne.symm q)
/-- the place lies inside -/
def Inb (j : Int32) (n : Nat) : Prop := ¬ j < 0 ∧ j.toNatClampNeg < n
theorem Inb.not {j : Int32} {n : Nat} (q : Inb j n) : ¬ (j < 0 ∨ n ≤ j.toNatClampNeg) := fun r => r.elim q.1 (fun z => Nat.not_lt.mpr z q.2)
theorem inb_int {j : Int32} {n : Nat} (h1 : 0 ≤ j.toInt) (h2 : j.toInt < n) : Inb j n := ⟨by simp only [Int32.lt_iff_toInt_lt, Int32.reduceToInt]; omega, by simp only [Int32.toNatClampNeg]; omega⟩
theorem g_newP (C : Cx p s m meth c Z code maxL own ret) {pc pc' : Nat} {Ls : Array Slot} {st : List Value} {aty : ArrayType} {n : Int32} (hd : I1 code pc (.newarray aty) 2 pc') (w : (Cond.arrayClass (newarray.typeOf aty)).before a0 Z = true) (hn : ¬ n < 0) (cap : Nat) (hcap : n.toNatClampNeg ≤ cap) (hb8 : cap * 8 ≤ 536870912) (hc : ck + 1 ≤ R.cells) (hl : cn + cap ≤ R.slots) {ck' cn' : Nat} (hck : ck + 1 = ck') (hcn : cn + cap = cn')
    (k : ∀ (h' : Heap) (a : Addr), a = h.size → Ext h h' → AV Z h' a (newarray.typeOf aty) n.toNatClampNeg (fun _ => defaultValue (newarray.typeOf aty)) → Go p l e R s m args below meth c n0 FE h' ck' cn' (mkF m pc' Ls (.ref a :: st))) : Go p l e R s m args below meth c n0 FE h ck cn (mkF m pc Ls (.int n :: st)) := fun T locs X eT hN => by
  obtain ⟨hd, rfl⟩ := hd
  subst hck hcn
  obtain ⟨T', h', cA, X', e', E, A, st'⟩ := Jvm.RoadKit.newP X C.1 C.2.2.2.1 w eT (g := mkF m pc Ls (.int n :: st)) rfl (hb C.2.1 hd) rfl hn hcap hb8 hc hl
  exact Go.move hN X' e' hN st' (k h' _ rfl E (AV.ofNew A hn))
theorem g_alen (C : Cx p s m meth c Z code maxL own ret) {pc pc' : Nat} {Ls : Array Slot} {st : List Value} {a : Addr} {ty : FieldType} {n : Nat} {f : Nat → Value} (z : Int32) (hd : I1 code pc .arraylength 1 pc') (F : AV Z h a ty n f) (hz : n.toInt32 = z) (k : Go p l e R s m args below meth c n0 FE h ck cn (mkF m pc' Ls (.int z :: st))) : Go p l e R s m args below meth c n0 FE h ck cn (mkF m pc Ls (.ref a :: st)) := by
  obtain ⟨hd, rfl⟩ := hd
  obtain ⟨cl, A, r1, r2, r3⟩ := F
  subst hz
  exact Go.step (fun T locs X eT t k => X.arraylength C.1 (by rw [eT]; exact A.1) (State.isArrayOf_alike C.2.2.2.1.alike A.2.1) (g := mkF m pc Ls (.ref a :: st)) rfl rfl (hb C.2.1 hd) _ (by rw [r1]; exact k)) k
theorem g_iald (C : Cx p s m meth c Z code maxL own ret) {pc pc' : Nat} {Ls : Array Slot} {st : List Value} {a : Addr} {j : Int32} {n : Nat} {f : Nat → Value} (v : Value) (hd : I1 code pc .iaload 1 pc') (F : AV Z h a .int n f) (hj : Inb j n) (hv : f j.toNatClampNeg = v) (k : Go p l e R s m args below meth c n0 FE h ck cn (mkF m pc' Ls (v :: st))) : Go p l e R s m args below meth c n0 FE h ck cn (mkF m pc Ls (.int j :: .ref a :: st)) := by
  obtain ⟨hd, rfl⟩ := hd
  obtain ⟨cl, A, r1, r2, r3⟩ := F
  subst hv
  exact Go.step (fun T locs X eT t k => X.iaload C.1 (by rw [eT]; exact A.1) (State.isArrayOf_alike C.2.2.2.1.alike A.2.1) A.2.2 (by rw [r1]; exact hj.not) (r3 _ hj.2) (g := mkF m pc Ls (.int j :: .ref a :: st)) rfl rfl (hb C.2.1 hd) _ k) k
theorem g_lald (C : Cx p s m meth c Z code maxL own ret) {pc pc' : Nat} {Ls : Array Slot} {st : List Value} {a : Addr} {j : Int32} {n : Nat} {f : Nat → Value} (v : Value) (hd : I1 code pc .laload 1 pc') (F : AV Z h a .long n f) (hj : Inb j n) (hv : f j.toNatClampNeg = v) (k : Go p l e R s m args below meth c n0 FE h ck cn (mkF m pc' Ls (v :: st))) : Go p l e R s m args below meth c n0 FE h ck cn (mkF m pc Ls (.int j :: .ref a :: st)) := by
  obtain ⟨hd, rfl⟩ := hd
  obtain ⟨cl, A, r1, r2, r3⟩ := F
  subst hv
  exact Go.step (fun T locs X eT t k => X.laload C.1 (by rw [eT]; exact A.1) (State.isArrayOf_alike C.2.2.2.1.alike A.2.1) A.2.2 (by rw [r1]; exact hj.not) (r3 _ hj.2) (g := mkF m pc Ls (.int j :: .ref a :: st)) rfl rfl (hb C.2.1 hd) _ k) k
theorem g_cald (C : Cx p s m meth c Z code maxL own ret) {pc pc' : Nat} {Ls : Array Slot} {st : List Value} {a : Addr} {j : Int32} {n : Nat} {f : Nat → Value} (v : Value) (hd : I1 code pc .caload 1 pc') (F : AV Z h a .char n f) (hj : Inb j n) (hv : f j.toNatClampNeg = v) (k : Go p l e R s m args below meth c n0 FE h ck cn (mkF m pc' Ls (v :: st))) : Go p l e R s m args below meth c n0 FE h ck cn (mkF m pc Ls (.int j :: .ref a :: st)) := by
  obtain ⟨hd, rfl⟩ := hd
  obtain ⟨cl, A, r1, r2, r3⟩ := F
  subst hv
  exact Go.step (fun T locs X eT t k => X.caload C.1 (by rw [eT]; exact A.1) (State.isArrayOf_alike C.2.2.2.1.alike A.2.1) A.2.2 (by rw [r1]; exact hj.not) (r3 _ hj.2) (g := mkF m pc Ls (.int j :: .ref a :: st)) rfl rfl (hb C.2.1 hd) _ k) k
theorem g_sald (C : Cx p s m meth c Z code maxL own ret) {pc pc' : Nat} {Ls : Array Slot} {st : List Value} {a : Addr} {j : Int32} {n : Nat} {f : Nat → Value} (v : Value) (hd : I1 code pc .saload 1 pc') (F : AV Z h a .short n f) (hj : Inb j n) (hv : f j.toNatClampNeg = v) (k : Go p l e R s m args below meth c n0 FE h ck cn (mkF m pc' Ls (v :: st))) : Go p l e R s m args below meth c n0 FE h ck cn (mkF m pc Ls (.int j :: .ref a :: st)) := by
  obtain ⟨hd, rfl⟩ := hd
  obtain ⟨cl, A, r1, r2, r3⟩ := F
  subst hv
  exact Go.step (fun T locs X eT t k => X.saload C.1 (by rw [eT]; exact A.1) (State.isArrayOf_alike C.2.2.2.1.alike A.2.1) A.2.2 (by rw [r1]; exact hj.not) (r3 _ hj.2) (g := mkF m pc Ls (.int j :: .ref a :: st)) rfl rfl (hb C.2.1 hd) _ k) k
theorem g_bald (C : Cx p s m meth c Z code maxL own ret) {pc pc' : Nat} {Ls : Array Slot} {st : List Value} {a : Addr} {j : Int32} {n : Nat} {f : Nat → Value} (v : Value) (hd : I1 code pc .baload 1 pc') (F : AV Z h a .byte n f) (hj : Inb j n) (hv : f j.toNatClampNeg = v) (k : Go p l e R s m args below meth c n0 FE h ck cn (mkF m pc' Ls (v :: st))) : Go p l e R s m args below meth c n0 FE h ck cn (mkF m pc Ls (.int j :: .ref a :: st)) := by
  obtain ⟨hd, rfl⟩ := hd
  obtain ⟨cl, A, r1, r2, r3⟩ := F
  subst hv
  exact Go.step (fun T locs X eT t k => X.baloadBytes C.1 (by rw [eT]; exact A.1) (State.isArrayOf_alike C.2.2.2.1.alike A.2.1) A.2.2 (by rw [r1]; exact hj.not) (r3 _ hj.2) (g := mkF m pc Ls (.int j :: .ref a :: st)) rfl rfl (hb C.2.1 hd) _ k) k
theorem g_zald (C : Cx p s m meth c Z code maxL own ret) {pc pc' : Nat} {Ls : Array Slot} {st : List Value} {a : Addr} {j : Int32} {n : Nat} {f : Nat → Value} (v : Value) (hd : I1 code pc .baload 1 pc') (F : AV Z h a .boolean n f) (hj : Inb j n) (hv : f j.toNatClampNeg = v) (k : Go p l e R s m args below meth c n0 FE h ck cn (mkF m pc' Ls (v :: st))) : Go p l e R s m args below meth c n0 FE h ck cn (mkF m pc Ls (.int j :: .ref a :: st)) := by
  obtain ⟨hd, rfl⟩ := hd
  obtain ⟨cl, A, r1, r2, r3⟩ := F
  subst hv
  exact Go.step (fun T locs X eT t k => X.baloadBooleans C.1 (by rw [eT]; exact A.1) (State.isArrayOf_alike C.2.2.2.1.alike A.2.1) A.2.2 (by rw [r1]; exact hj.not) (r3 _ hj.2) (g := mkF m pc Ls (.int j :: .ref a :: st)) rfl rfl (hb C.2.1 hd) _ k) k
theorem g_aald (C : Cx p s m meth c Z code maxL own ret) {pc pc' : Nat} {Ls : Array Slot} {st : List Value} {a : Addr} {j : Int32} {ty : FieldType} {n : Nat} {f : Nat → Value} (v : Value) (hd : I1 code pc .aaload 1 pc') (F : AV Z h a ty n f) (hj : Inb j n) (hv : f j.toNatClampNeg = v) (ht : ty.isReference = true) (k : Go p l e R s m args below meth c n0 FE h ck cn (mkF m pc' Ls (v :: st))) : Go p l e R s m args below meth c n0 FE h ck cn (mkF m pc Ls (.int j :: .ref a :: st)) := by
  obtain ⟨hd, rfl⟩ := hd
  obtain ⟨cl, A, r1, r2, r3⟩ := F
  subst hv
  exact Go.step (fun T locs X eT t k => X.aaload C.1 (by rw [eT]; exact A.1) (State.isArrayOf_alike C.2.2.2.1.alike A.2.1) ht A.2.2 (by rw [r1]; exact hj.not) (r3 _ hj.2) (g := mkF m pc Ls (.int j :: .ref a :: st)) rfl rfl (hb C.2.1 hd) _ k) k
theorem g_iast (C : Cx p s m meth c Z code maxL own ret) {pc pc' : Nat} {Ls : Array Slot} {st : List Value} {a : Addr} {j : Int32} {x : Int32} {n : Nat} {f : Nat → Value} (hd : I1 code pc .iastore 1 pc') (F : AV Z h a .int n f) (hj : Inb j n) (ha : n0 ≤ a)
    (k : ∀ h', Wr h h' a j.toNatClampNeg (.int x) → AV Z h' a .int n (fun i => if i = j.toNatClampNeg then .int x else f i) → Go p l e R s m args below meth c n0 FE h' ck cn (mkF m pc' Ls st)) : Go p l e R s m args below meth c n0 FE h ck cn (mkF m pc Ls (.int x :: .int j :: .ref a :: st)) := fun T locs X eT hN => by
  obtain ⟨hd, rfl⟩ := hd
  have F' := F
  obtain ⟨cl, A, r1, r2, r3⟩ := F
  obtain ⟨T', h', X', e', W, st'⟩ := Jvm.RoadKit.stI X C.1 C.2.2.2.1 eT A (by rw [r1]; exact hj.not) (g := mkF m pc Ls (.int x :: .int j :: .ref a :: st)) rfl rfl (hb C.2.1 hd)
  exact Go.move hN X' e' (Fr.snoc X' hN ha) st' (k h' W (F'.set W))
theorem g_last (C : Cx p s m meth c Z code maxL own ret) {pc pc' : Nat} {Ls : Array Slot} {st : List Value} {a : Addr} {j : Int32} {x : Int64} {n : Nat} {f : Nat → Value} (hd : I1 code pc .lastore 1 pc') (F : AV Z h a .long n f) (hj : Inb j n) (ha : n0 ≤ a)
    (k : ∀ h', Wr h h' a j.toNatClampNeg (.long x) → AV Z h' a .long n (fun i => if i = j.toNatClampNeg then .long x else f i) → Go p l e R s m args below meth c n0 FE h' ck cn (mkF m pc' Ls st)) : Go p l e R s m args below meth c n0 FE h ck cn (mkF m pc Ls (.long x :: .int j :: .ref a :: st)) := fun T locs X eT hN => by
  obtain ⟨hd, rfl⟩ := hd
  have F' := F
  obtain ⟨cl, A, r1, r2, r3⟩ := F
  obtain ⟨T', h', X', e', W, st'⟩ := Jvm.RoadKit.stJ X C.1 C.2.2.2.1 eT A (by rw [r1]; exact hj.not) (g := mkF m pc Ls (.long x :: .int j :: .ref a :: st)) rfl rfl (hb C.2.1 hd)
  exact Go.move hN X' e' (Fr.snoc X' hN ha) st' (k h' W (F'.set W))
theorem g_cast (C : Cx p s m meth c Z code maxL own ret) {pc pc' : Nat} {Ls : Array Slot} {st : List Value} {a : Addr} {j : Int32} {x : Int32} {n : Nat} {f : Nat → Value} (hd : I1 code pc .castore 1 pc') (F : AV Z h a .char n f) (hj : Inb j n) (ha : n0 ≤ a)
    (k : ∀ h', Wr h h' a j.toNatClampNeg (.int (nar .char x)) → AV Z h' a .char n (fun i => if i = j.toNatClampNeg then .int (nar .char x) else f i) → Go p l e R s m args below meth c n0 FE h' ck cn (mkF m pc' Ls st)) : Go p l e R s m args below meth c n0 FE h ck cn (mkF m pc Ls (.int x :: .int j :: .ref a :: st)) := fun T locs X eT hN => by
  obtain ⟨hd, rfl⟩ := hd
  have F' := F
  obtain ⟨cl, A, r1, r2, r3⟩ := F
  obtain ⟨T', h', X', e', W, st'⟩ := Jvm.RoadKit.stC X C.1 C.2.2.2.1 eT A (by rw [r1]; exact hj.not) (g := mkF m pc Ls (.int x :: .int j :: .ref a :: st)) rfl rfl (hb C.2.1 hd)
  exact Go.move hN X' e' (Fr.snoc X' hN ha) st' (k h' W (F'.set W))
theorem g_sast (C : Cx p s m meth c Z code maxL own ret) {pc pc' : Nat} {Ls : Array Slot} {st : List Value} {a : Addr} {j : Int32} {x : Int32} {n : Nat} {f : Nat → Value} (hd : I1 code pc .sastore 1 pc') (F : AV Z h a .short n f) (hj : Inb j n) (ha : n0 ≤ a)
    (k : ∀ h', Wr h h' a j.toNatClampNeg (.int (nar .short x)) → AV Z h' a .short n (fun i => if i = j.toNatClampNeg then .int (nar .short x) else f i) → Go p l e R s m args below meth c n0 FE h' ck cn (mkF m pc' Ls st)) : Go p l e R s m args below meth c n0 FE h ck cn (mkF m pc Ls (.int x :: .int j :: .ref a :: st)) := fun T locs X eT hN => by
  obtain ⟨hd, rfl⟩ := hd
  have F' := F
  obtain ⟨cl, A, r1, r2, r3⟩ := F
  obtain ⟨T', h', X', e', W, st'⟩ := Jvm.RoadKit.stS X C.1 C.2.2.2.1 eT A (by rw [r1]; exact hj.not) (g := mkF m pc Ls (.int x :: .int j :: .ref a :: st)) rfl rfl (hb C.2.1 hd)
  exact Go.move hN X' e' (Fr.snoc X' hN ha) st' (k h' W (F'.set W))
theorem g_bast (C : Cx p s m meth c Z code maxL own ret) {pc pc' : Nat} {Ls : Array Slot} {st : List Value} {a : Addr} {j : Int32} {x : Int32} {n : Nat} {f : Nat → Value} (hd : I1 code pc .bastore 1 pc') (F : AV Z h a .byte n f) (hj : Inb j n) (ha : n0 ≤ a)
    (k : ∀ h', Wr h h' a j.toNatClampNeg (.int (nar .byte x)) → AV Z h' a .byte n (fun i => if i = j.toNatClampNeg then .int (nar .byte x) else f i) → Go p l e R s m args below meth c n0 FE h' ck cn (mkF m pc' Ls st)) : Go p l e R s m args below meth c n0 FE h ck cn (mkF m pc Ls (.int x :: .int j :: .ref a :: st)) := fun T locs X eT hN => by
  obtain ⟨hd, rfl⟩ := hd
  have F' := F
  obtain ⟨cl, A, r1, r2, r3⟩ := F
  obtain ⟨T', h', X', e', W, st'⟩ := Jvm.RoadKit.stB X C.1 C.2.2.2.1 eT A (by rw [r1]; exact hj.not) (g := mkF m pc Ls (.int x :: .int j :: .ref a :: st)) rfl rfl (hb C.2.1 hd)
  exact Go.move hN X' e' (Fr.snoc X' hN ha) st' (k h' W (F'.set W))
theorem g_zast (C : Cx p s m meth c Z code maxL own ret) {pc pc' : Nat} {Ls : Array Slot} {st : List Value} {a : Addr} {j : Int32} {x : Int32} {n : Nat} {f : Nat → Value} (hd : I1 code pc .bastore 1 pc') (F : AV Z h a .boolean n f) (hj : Inb j n) (ha : n0 ≤ a)
    (k : ∀ h', Wr h h' a j.toNatClampNeg (.int (nar .boolean x)) → AV Z h' a .boolean n (fun i => if i = j.toNatClampNeg then .int (nar .boolean x) else f i) → Go p l e R s m args below meth c n0 FE h' ck cn (mkF m pc' Ls st)) : Go p l e R s m args below meth c n0 FE h ck cn (mkF m pc Ls (.int x :: .int j :: .ref a :: st)) := fun T locs X eT hN => by
  obtain ⟨hd, rfl⟩ := hd
  have F' := F
  obtain ⟨cl, A, r1, r2, r3⟩ := F
  obtain ⟨T', h', X', e', W, st'⟩ := Jvm.RoadKit.stZ X C.1 C.2.2.2.1 eT A (by rw [r1]; exact hj.not) (g := mkF m pc Ls (.int x :: .int j :: .ref a :: st)) rfl rfl (hb C.2.1 hd)
  exact Go.move hN X' e' (Fr.snoc X' hN ha) st' (k h' W (F'.set W))
theorem g_iastI (C : Cx p s m meth c Z code maxL own ret) {pc pc' : Nat} {Ls : Array Slot} {st : List Value} {a : Addr} {j : Int32} {x : Int32} {n : Nat} {f : Nat → Int32} (hd : I1 code pc .iastore 1 pc') (F : AV Z h a .int n (fun ix => .int (f ix))) (hj : Inb j n) (ha : n0 ≤ a)
    (k : ∀ h', Wr h h' a j.toNatClampNeg (.int (x)) → AV Z h' a .int n (fun ix => .int (if ix = j.toNatClampNeg then x else f ix)) → Go p l e R s m args below meth c n0 FE h' ck cn (mkF m pc' Ls st)) : Go p l e R s m args below meth c n0 FE h ck cn (mkF m pc Ls (.int x :: .int j :: .ref a :: st)) :=
  g_iast C hd F hj ha (fun h' W V => k h' W (AV.congr V (fun ix _ => by split <;> rfl)))
theorem g_lastI (C : Cx p s m meth c Z code maxL own ret) {pc pc' : Nat} {Ls : Array Slot} {st : List Value} {a : Addr} {j : Int32} {x : Int64} {n : Nat} {f : Nat → Int64} (hd : I1 code pc .lastore 1 pc') (F : AV Z h a .long n (fun ix => .long (f ix))) (hj : Inb j n) (ha : n0 ≤ a)
    (k : ∀ h', Wr h h' a j.toNatClampNeg (.long (x)) → AV Z h' a .long n (fun ix => .long (if ix = j.toNatClampNeg then x else f ix)) → Go p l e R s m args below meth c n0 FE h' ck cn (mkF m pc' Ls st)) : Go p l e R s m args below meth c n0 FE h ck cn (mkF m pc Ls (.long x :: .int j :: .ref a :: st)) :=
  g_last C hd F hj ha (fun h' W V => k h' W (AV.congr V (fun ix _ => by split <;> rfl)))
theorem g_castI (C : Cx p s m meth c Z code maxL own ret) {pc pc' : Nat} {Ls : Array Slot} {st : List Value} {a : Addr} {j : Int32} {x : Int32} {n : Nat} {f : Nat → Int32} (hd : I1 code pc .castore 1 pc') (F : AV Z h a .char n (fun ix => .int (f ix))) (hj : Inb j n) (ha : n0 ≤ a)
    (k : ∀ h', Wr h h' a j.toNatClampNeg (.int (nar .char x)) → AV Z h' a .char n (fun ix => .int (if ix = j.toNatClampNeg then nar .char x else f ix)) → Go p l e R s m args below meth c n0 FE h' ck cn (mkF m pc' Ls st)) : Go p l e R s m args below meth c n0 FE h ck cn (mkF m pc Ls (.int x :: .int j :: .ref a :: st)) :=
  g_cast C hd F hj ha (fun h' W V => k h' W (AV.congr V (fun ix _ => by split <;> rfl)))
theorem g_sastI (C : Cx p s m meth c Z code maxL own ret) {pc pc' : Nat} {Ls : Array Slot} {st : List Value} {a : Addr} {j : Int32} {x : Int32} {n : Nat} {f : Nat → Int32} (hd : I1 code pc .sastore 1 pc') (F : AV Z h a .short n (fun ix => .int (f ix))) (hj : Inb j n) (ha : n0 ≤ a)
    (k : ∀ h', Wr h h' a j.toNatClampNeg (.int (nar .short x)) → AV Z h' a .short n (fun ix => .int (if ix = j.toNatClampNeg then nar .short x else f ix)) → Go p l e R s m args below meth c n0 FE h' ck cn (mkF m pc' Ls st)) : Go p l e R s m args below meth c n0 FE h ck cn (mkF m pc Ls (.int x :: .int j :: .ref a :: st)) :=
  g_sast C hd F hj ha (fun h' W V => k h' W (AV.congr V (fun ix _ => by split <;> rfl)))
theorem g_bastI (C : Cx p s m meth c Z code maxL own ret) {pc pc' : Nat} {Ls : Array Slot} {st : List Value} {a : Addr} {j : Int32} {x : Int32} {n : Nat} {f : Nat → Int32} (hd : I1 code pc .bastore 1 pc') (F : AV Z h a .byte n (fun ix => .int (f ix))) (hj : Inb j n) (ha : n0 ≤ a)
    (k : ∀ h', Wr h h' a j.toNatClampNeg (.int (nar .byte x)) → AV Z h' a .byte n (fun ix => .int (if ix = j.toNatClampNeg then nar .byte x else f ix)) → Go p l e R s m args below meth c n0 FE h' ck cn (mkF m pc' Ls st)) : Go p l e R s m args below meth c n0 FE h ck cn (mkF m pc Ls (.int x :: .int j :: .ref a :: st)) :=
  g_bast C hd F hj ha (fun h' W V => k h' W (AV.congr V (fun ix _ => by split <;> rfl)))
theorem g_zastI (C : Cx p s m meth c Z code maxL own ret) {pc pc' : Nat} {Ls : Array Slot} {st : List Value} {a : Addr} {j : Int32} {x : Int32} {n : Nat} {f : Nat → Int32} (hd : I1 code pc .bastore 1 pc') (F : AV Z h a .boolean n (fun ix => .int (f ix))) (hj : Inb j n) (ha : n0 ≤ a)
    (k : ∀ h', Wr h h' a j.toNatClampNeg (.int (nar .boolean x)) → AV Z h' a .boolean n (fun ix => .int (if ix = j.toNatClampNeg then nar .boolean x else f ix)) → Go p l e R s m args below meth c n0 FE h' ck cn (mkF m pc' Ls st)) : Go p l e R s m args below meth c n0 FE h ck cn (mkF m pc Ls (.int x :: .int j :: .ref a :: st)) :=
  g_zast C hd F hj ha (fun h' W V => k h' W (AV.congr V (fun ix _ => by split <;> rfl)))
/-- the array class ad holds references of the class C -/
def OvA (Z : State) (ad C : String) : Prop := ∃ cA ty, Z.vm.findClass ad = some cA ∧ OvrA Z cA ty C
/-- what a short array of references holds -/
def rfs (L : List Value) (ix : Nat) : Value := L.getD ix .null
theorem g_newPE (C : Cx p s m meth c Z code maxL own ret) {pc pc' : Nat} {Ls : Array Slot} {st : List Value} {aty : ArrayType} {n : Int32} (hd : I1 code pc (.newarray aty) 2 pc') (w : (Cond.arrayClass (newarray.typeOf aty)).before a0 Z = true) (hn : ¬ n < 0) (cap : Nat) (hcap : n.toNatClampNeg ≤ cap) (hb8 : cap * 8 ≤ 536870912) (hc : ck + 1 ≤ R.cells) (hl : cn + cap ≤ R.slots) {ck' cn' : Nat} (hck : ck + 1 = ck') (hcn : cn + cap = cn') (ad : String) (had : "[" ++ (newarray.typeOf aty).toString = ad)
    (k : ∀ (h' : Heap) (a : Addr), a = h.size → Ext h h' → AV Z h' a (newarray.typeOf aty) n.toNatClampNeg (fun _ => defaultValue (newarray.typeOf aty)) → Exa Z h' a ad → Go p l e R s m args below meth c n0 FE h' ck' cn' (mkF m pc' Ls (.ref a :: st))) : Go p l e R s m args below meth c n0 FE h ck cn (mkF m pc Ls (.int n :: st)) := fun T locs X eT hN => by
  obtain ⟨hd, rfl⟩ := hd
  subst hck hcn
  obtain ⟨T', h', cA, X', e', E, A, Ea, st'⟩ := Jvm.RoadKit.newPE X C.1 C.2.2.2.1 w eT (g := mkF m pc Ls (.int n :: st)) rfl (hb C.2.1 hd) rfl hn hcap hb8 hc hl had
  exact Go.move hN X' e' hN st' (k h' _ rfl E (AV.ofNew A hn) Ea)
theorem g_newRA (C : Cx p s m meth c Z code maxL own ret) {pc pc' : Nat} {Ls : Array Slot} {st : List Value} {ty0 : FieldType} {index : Nat} {n : Int32} {Cl ad : String} (hd : I1 code pc (.anewarray index) 3 pc') (hC : (FieldType.array ty0).toString = Cl) (w1 : (Cond.classLink own index Cl).before a0 Z = true) (w2 : (Cond.arrayOver (.array ty0)).before a0 Z = true) (hn : ¬ n < 0) (cap : Nat) (hcap : n.toNatClampNeg ≤ cap) (hb8 : cap * 8 ≤ 536870912) (hc : ck + 1 ≤ R.cells) (hl : cn + cap ≤ R.slots) {ck' cn' : Nat} (hck : ck + 1 = ck') (hcn : cn + cap = cn') (had : "[" ++ Cl = ad)
    (k : ∀ (h' : Heap) (a : Addr), a = h.size → Ext h h' → AV Z h' a (.array ty0) n.toNatClampNeg (fun _ => .null) → Exa Z h' a ad → OvA Z ad Cl → Go p l e R s m args below meth c n0 FE h' ck' cn' (mkF m pc' Ls (.ref a :: st))) : Go p l e R s m args below meth c n0 FE h ck cn (mkF m pc Ls (.int n :: st)) := fun T locs X eT hN => by
  obtain ⟨hd, rfl⟩ := hd
  subst hck hcn
  obtain ⟨T', h', cA, X', e', E, A, Ea, O, st'⟩ := Jvm.RoadKit.newRA X C.1 C.2.2.2.1 C.2.2.2.2.1 hC w1 w2 eT (g := mkF m pc Ls (.int n :: st)) rfl (hb C.2.1 hd) rfl hn hcap hb8 hc hl had
  refine Go.move hN X' e' hN st' (k h' _ rfl E (AV.ofNew A hn) Ea ⟨cA, ty0, ?_, O⟩)
  obtain ⟨cell, kk, q1, q2, -⟩ := Ea
  cases q1.symm.trans A.1
  exact q2
theorem g_aast (C : Cx p s m meth c Z code maxL own ret) {pc pc' : Nat} {Ls : Array Slot} {st : List Value} {a y : Addr} {j : Int32} {ty : FieldType} {n : Nat} {f : Nat → Value} {ad Cl : String} (hd : I1 code pc .aastore 1 pc') (F : AV Z h a ty n f) (ht : ty.isReference = true) (hj : Inb j n) (ha : n0 ≤ a) (E : Exa Z h a ad) (O : OvA Z ad Cl) (I : Ins Z h y Cl true)
    (k : ∀ h', Wr h h' a j.toNatClampNeg (.ref y) → AV Z h' a ty n (fun i => if i = j.toNatClampNeg then .ref y else f i) → Go p l e R s m args below meth c n0 FE h' ck cn (mkF m pc' Ls st)) : Go p l e R s m args below meth c n0 FE h ck cn (mkF m pc Ls (.ref y :: .int j :: .ref a :: st)) := fun T locs X eT hN => by
  obtain ⟨hd, rfl⟩ := hd
  have F' := F
  obtain ⟨cl, A, r1, r2, r3⟩ := F
  obtain ⟨cell, kk, q1, q2, -⟩ := E
  cases q1.symm.trans A.1
  obtain ⟨cA, ty0, o1, o2⟩ := O
  obtain ⟨T', h', X', e', W, st'⟩ := Jvm.RoadKit.stR X C.1 C.2.2.2.1 eT A (by rw [r1]; exact hj.not) ht (Sto.ofVA A (Option.some.inj (q2.symm.trans o1)) o2 I) (g := mkF m pc Ls (.ref y :: .int j :: .ref a :: st)) rfl rfl (hb C.2.1 hd)
  exact Go.move hN X' e' (Fr.snoc X' hN ha) st' (k h' W (F'.set W))
theorem g_clone (C : Cx p s m meth c Z code maxL own ret) {pc pc' : Nat} {Ls : Array Slot} {st : List Value} {a : Addr} {n : Nat} {f : Nat → Int64} {index : Nat} (hd : I1 code pc (.invokevirtual index) 3 pc')
    (w1 : (Cond.methodLink own index ⟨"[J", "clone", "()Ljava/lang/Object;"⟩).before a0 Z = true) (w2 : (Cond.sameMethod "[J" "java/lang/Object" "clone" "()Ljava/lang/Object;").before a0 Z = true) (w3 : (Cond.native ⟨"java/lang/Object", "clone", "()Ljava/lang/Object;"⟩).before a0 Z = true)
    (w4 : (Cond.instanceMethod ⟨"java/lang/Object", "clone", "()Ljava/lang/Object;"⟩).before a0 Z = true) (w5 : (Cond.selects "[J" ⟨"[J", "clone", "()Ljava/lang/Object;"⟩ ⟨"java/lang/Object", "clone", "()Ljava/lang/Object;"⟩).before a0 Z = true) (w6 : (Cond.castable "[J" "java/lang/Cloneable").before a0 Z = true)
    (F : AV Z h a .long n (fun ix => .long (f ix))) (E : Exa Z h a "[J") (hsz : Ls.size = maxL) (hf : 1 ≤ R.frames) (W : Nat) (hW : 2 * 0 + (st.map fun v => v.category).sum ≤ W) (hl : W + 14 ≤ R.locals) (hc : ck + 1 ≤ R.cells) (hs : cn + n ≤ R.slots) {ck' cn' : Nat} (hck : ck + 1 = ck') (hcn : cn + n = cn')
    (k : ∀ (h' : Heap) (b : Addr), b = h.size → Ext h h' → AV Z h' b .long n (fun ix => .long (f ix)) → Exa Z h' b "[J" → Go p l e R s m args below meth c n0 FE h' ck' cn' (mkF m pc' Ls (.ref b :: st))) : Go p l e R s m args below meth c n0 FE h ck cn (mkF m pc Ls (.ref a :: st)) := fun T locs X eT hN => by
  obtain ⟨hd, rfl⟩ := hd
  subst hck hcn
  obtain ⟨cl, A, r1, r2, r3⟩ := F
  obtain ⟨T', h', X', e', ex, A', E', st'⟩ := Jvm.RoadKit.cloneA X C.1 C.2.2.2.1 C.2.2.2.2.1 w1 w2 w3 w4 w5 w6 eT A E (Jvm.RoadKit.fitC_of A fun i hi v hv => by rw [r3 i (r1 ▸ hi)] at hv; cases hv; rfl) (g := mkF m pc Ls (.ref a :: st)) rfl (hsz.trans C.2.2.1.symm) rfl (hb C.2.1 hd) hf (W := W) hW hl (Nat.le_of_eq r1) hc hs
  exact Go.move hN X' e' hN st' (k h' _ rfl ex ⟨_, A', r1, r2, r3⟩ E')
theorem g_selP {Cl : String} {y z : MethodName} (w : (Cond.selects Cl z z).before a0 Z = true) (hz : z.cls = y.cls) (wp : (Cond.privateMethod y).before a0 Z = true) (wi : (Cond.instanceMethod y).before a0 Z = true) (hy : y.cls ≠ "java/lang/invoke/MethodHandle" ∧ y.cls ≠ "java/lang/invoke/VarHandle") : (Cond.selects y.cls y y).before a0 Z = true := by
  obtain ⟨c2, r2, m2, -, -, q3, -, kP, hkP, hkPi⟩ := Cond.selects_spec w
  exact Jvm.Stand.selects_self_of_private (hz ▸ findClass_of_methodNamed q3) hkP hkPi (Cond.privateMethod_at wp) wi hy
theorem g_callS (C : Cx p s m meth c Z code maxL own ret) {pc pc' : Nat} {Ls : Array Slot} {y : MethodName} {ycode : ByteArray} {ymax : Nat} {yret : Option FieldType} {rm : Room} {as' : Array Value} {Q' : Option Value → Heap → Prop} {index : Nat} (hC : Ctr l Z y ycode ymax yret rm as' h n0 Q') (hd : I1 code pc (.invokestatic index) 3 pc') (w1 : (Cond.methodLink own index y).before a0 Z = true) (w2 : (Cond.static y).before a0 Z = true) (w3 : (Cond.initialized y.cls).before a0 Z = true) (w4 : (Cond.code y ycode ymax yret).before a0 Z = true) (hy : y.cls ≠ "java/lang/invoke/MethodHandle" ∧ y.cls ≠ "java/lang/invoke/VarHandle")
    {argsL st rest : List Value} (hst : st = argsL.reverse ++ rest) (has : argsL.toArray = as') {ps : List FieldType} {r : Option FieldType} (hpd : parseMethodDescriptor y.desc = some ⟨ps, r⟩) (hlen : argsL.length = ps.length) (hsz : Ls.size = maxL) (W : Nat) (hW : 2 * 0 + (rest.map fun v => v.category).sum ≤ W)
    (hf : rm.frames + 1 ≤ R.frames) (hl : W + (ymax + 11) + rm.locals ≤ R.locals) (hc : ck + rm.cells ≤ R.cells) (hs : cn + rm.slots ≤ R.slots) {ck' cn' : Nat} (hck : ck + rm.cells = ck') (hcn : cn + rm.slots = cn')
    (k : ∀ v h', Q' v h' → Go p l e R s m args below meth c n0 FE h' ck' cn' (mkF m pc' Ls (v.toList ++ rest))) : Go p l e R s m args below meth c n0 FE h ck cn (mkF m pc Ls st) := fun T locs X eT hN => by
  obtain ⟨hd, rfl⟩ := hd
  subst hck hcn hst
  obtain ⟨v, _, ⟨T', L', k', n'⟩, -, X', ⟨Lc, hQ, l1, l2, l3⟩, st'⟩ := Jvm.LawKit.callS X C.1 C.2.2.2.2.1 (mvT C.2.2.2.1 w1) (mvT C.2.2.2.1 w2) (mvT C.2.2.2.1 w3) (mvT C.2.2.2.1 w4) hy (backOf (W := W) (Q := fun v h L => Q' v h ∧ Fr n0 L) (hC []) C.2.2.2.1 w4 w3 hf hl) (g := mkF m pc Ls (argsL.reverse ++ rest)) rfl (hsz.trans C.2.2.1.symm) (argsL := argsL) (rest := rest) (lenOf hpd hlen) rfl hW (hb C.2.1 hd) (fun _ _ => ⟨has, eT, hc, hs⟩)
  dsimp only [Pt.U, Pt.locs, Pt.cells, Pt.slots] at X' l1 l2 l3 st' hQ
  subst l1 l2 l3
  exact Go.move hN X' rfl (Fr.app hN hQ.2) st' (k v _ hQ.1)
theorem g_callI (C : Cx p s m meth c Z code maxL own ret) {pc pc' : Nat} {Ls : Array Slot} {y : MethodName} {ycode : ByteArray} {ymax : Nat} {yret : Option FieldType} {rm : Room} {as' : Array Value} {Q' : Option Value → Heap → Prop} {index : Nat} (hC : Ctr l Z y ycode ymax yret rm as' h n0 Q') {a : Addr} (hd : I1 code pc (.invokespecial index) 3 pc') (hy1 : y.name = "<init>") (w1 : (Cond.methodLink own index y).before a0 Z = true) (w2 : (Cond.instanceMethod y).before a0 Z = true) (w3 : (Cond.initialized y.cls).before a0 Z = true) (w4 : (Cond.code y ycode ymax none).before a0 Z = true) (hyr : yret = none) (hy : y.cls ≠ "java/lang/invoke/MethodHandle" ∧ y.cls ≠ "java/lang/invoke/VarHandle")
    {argsL st rest : List Value} (hst : st = argsL.reverse ++ .ref a :: rest) (has : (.ref a :: argsL).toArray = as') {ps : List FieldType} {r : Option FieldType} (hpd : parseMethodDescriptor y.desc = some ⟨ps, r⟩) (hlen : argsL.length = ps.length) (hsz : Ls.size = maxL) (W : Nat) (hW : 2 * 0 + (rest.map fun v => v.category).sum ≤ W)
    (hf : rm.frames + 1 ≤ R.frames) (hl : W + (ymax + 11) + rm.locals ≤ R.locals) (hc : ck + rm.cells ≤ R.cells) (hs : cn + rm.slots ≤ R.slots) {ck' cn' : Nat} (hck : ck + rm.cells = ck') (hcn : cn + rm.slots = cn')
    (k : ∀ v h', Q' v h' → Go p l e R s m args below meth c n0 FE h' ck' cn' (mkF m pc' Ls (v.toList ++ rest))) : Go p l e R s m args below meth c n0 FE h ck cn (mkF m pc Ls st) := fun T locs X eT hN => by
  obtain ⟨hd, rfl⟩ := hd
  subst hck hcn hst
  subst hyr
  obtain ⟨v, _, ⟨T', L', k', n'⟩, -, X', ⟨Lc, hQ, l1, l2, l3⟩, st'⟩ := X.specialBack C.1 hy1 C.2.2.2.2.1 (mvT C.2.2.2.1 w1) (mvT C.2.2.2.1 w2) (mvT C.2.2.2.1 w4) hy (backOf (W := W) (Q := fun v h L => Q' v h ∧ Fr n0 L) (hC []) C.2.2.2.1 w4 w3 hf hl) (g := mkF m pc Ls (argsL.reverse ++ .ref a :: rest)) rfl (hsz.trans C.2.2.1.symm) (Steps.refl _) (a := a) (argsL := argsL) (rest := rest) (lenOf hpd hlen) rfl hW (hb C.2.1 hd) (fun _ _ => ⟨has, eT, hc, hs⟩)
  dsimp only [Pt.U, Pt.locs, Pt.cells, Pt.slots] at X' l1 l2 l3 st' hQ
  subst l1 l2 l3
  exact Go.move hN X' rfl (Fr.app hN hQ.2) (fun _ z => st'.trans z) (k v _ hQ.1)
theorem g_callV (C : Cx p s m meth c Z code maxL own ret) {pc pc' : Nat} {Ls : Array Slot} {y : MethodName} {ycode : ByteArray} {ymax : Nat} {yret : Option FieldType} {rm : Room} {as' : Array Value} {Q' : Option Value → Heap → Prop} {index : Nat} (hC : Ctr l Z y ycode ymax yret rm as' h n0 Q') {a : Addr} {x : MethodName} {Cl : String} (hd : I1 code pc (.invokevirtual index) 3 pc') (w1 : (Cond.methodLink own index x).before a0 Z = true) (w2 : (Cond.declares x).before a0 Z = true) (hnf : ∀ s : State, Z.Warmed39 s.vm → NotFace s x) (w5 : (Cond.selects Cl x y).before a0 Z = true) (w6 : (Cond.instanceMethod y).before a0 Z = true) (w3 : (Cond.initialized y.cls).before a0 Z = true) (w4 : (Cond.code y ycode ymax yret).before a0 Z = true) (hy : x.cls ≠ "java/lang/invoke/MethodHandle" ∧ x.cls ≠ "java/lang/invoke/VarHandle") (E : Exa Z h a Cl)
    {argsL st rest : List Value} (hst : st = argsL.reverse ++ .ref a :: rest) (has : (.ref a :: argsL).toArray = as') {ps : List FieldType} {r : Option FieldType} (hpd : parseMethodDescriptor x.desc = some ⟨ps, r⟩) (hlen : argsL.length = ps.length) (hsz : Ls.size = maxL) (W : Nat) (hW : 2 * 0 + (rest.map fun v => v.category).sum ≤ W)
    (hf : rm.frames + 1 ≤ R.frames) (hl : W + (ymax + 11) + rm.locals ≤ R.locals) (hc : ck + rm.cells ≤ R.cells) (hs : cn + rm.slots ≤ R.slots) {ck' cn' : Nat} (hck : ck + rm.cells = ck') (hcn : cn + rm.slots = cn')
    (k : ∀ v h', Q' v h' → Go p l e R s m args below meth c n0 FE h' ck' cn' (mkF m pc' Ls (v.toList ++ rest))) : Go p l e R s m args below meth c n0 FE h ck cn (mkF m pc Ls st) := fun T locs X eT hN => by
  obtain ⟨hd, rfl⟩ := hd
  subst hck hcn hst
  obtain ⟨cq, kq, q1, q2, q3⟩ := isOf C.2.2.2.1 eT E
  obtain ⟨v, _, ⟨T', L', k', n'⟩, -, X', ⟨Lc, hQ, l1, l2, l3⟩, st'⟩ := X.virtualBack C.1 (y := x) (z := y) C.2.2.2.2.1 (mvT C.2.2.2.1 w1) (mvT C.2.2.2.1 w2) (hnf s C.2.2.2.1) (mvT C.2.2.2.1 w5) (mvT C.2.2.2.1 w6) hy (backOf (W := W) (Q := fun v h L => Q' v h ∧ Fr n0 L) (hC []) C.2.2.2.1 w4 w3 hf hl) q1 q3 (g := mkF m pc Ls (argsL.reverse ++ .ref a :: rest)) rfl (hsz.trans C.2.2.1.symm) (Steps.refl _) (argsL := argsL) (rest := rest) (lenOf hpd hlen) rfl hW (hb C.2.1 hd) (fun _ _ => ⟨has, eT, hc, hs⟩)
  dsimp only [Pt.U, Pt.locs, Pt.cells, Pt.slots] at X' l1 l2 l3 st' hQ
  subst l1 l2 l3
  exact Go.move hN X' rfl (Fr.app hN hQ.2) (fun _ z => st'.trans z) (k v _ hQ.1)
theorem g_callP (C : Cx p s m meth c Z code maxL own ret) {pc pc' : Nat} {Ls : Array Slot} {y : MethodName} {ycode : ByteArray} {ymax : Nat} {yret : Option FieldType} {rm : Room} {as' : Array Value} {Q' : Option Value → Heap → Prop} {index : Nat} (hC : Ctr l Z y ycode ymax yret rm as' h n0 Q') {a : Addr} {Cl : String} (hd : I1 code pc (.invokevirtual index) 3 pc') (w1 : (Cond.methodLink own index y).before a0 Z = true) (w2 : (Cond.instanceMethod y).before a0 Z = true) (w5 : (Cond.selects y.cls y y).before a0 Z = true) (w6 : (Cond.privateMethod y).before a0 Z = true) (w3 : (Cond.initialized y.cls).before a0 Z = true) (w4 : (Cond.code y ycode ymax yret).before a0 Z = true) (hy : y.cls ≠ "java/lang/invoke/MethodHandle" ∧ y.cls ≠ "java/lang/invoke/VarHandle") (E : Exa Z h a Cl)
    {argsL st rest : List Value} (hst : st = argsL.reverse ++ .ref a :: rest) (has : (.ref a :: argsL).toArray = as') {ps : List FieldType} {r : Option FieldType} (hpd : parseMethodDescriptor y.desc = some ⟨ps, r⟩) (hlen : argsL.length = ps.length) (hsz : Ls.size = maxL) (W : Nat) (hW : 2 * 0 + (rest.map fun v => v.category).sum ≤ W)
    (hf : rm.frames + 1 ≤ R.frames) (hl : W + (ymax + 11) + rm.locals ≤ R.locals) (hc : ck + rm.cells ≤ R.cells) (hs : cn + rm.slots ≤ R.slots) {ck' cn' : Nat} (hck : ck + rm.cells = ck') (hcn : cn + rm.slots = cn')
    (k : ∀ v h', Q' v h' → Go p l e R s m args below meth c n0 FE h' ck' cn' (mkF m pc' Ls (v.toList ++ rest))) : Go p l e R s m args below meth c n0 FE h ck cn (mkF m pc Ls st) := fun T locs X eT hN => by
  obtain ⟨hd, rfl⟩ := hd
  subst hck hcn hst
  obtain ⟨cq, q1, q2⟩ := E.cell
  obtain ⟨v, _, ⟨T', L', k', n'⟩, -, X', ⟨Lc, hQ, l1, l2, l3⟩, st'⟩ := X.privateBack C.1 (y := y) C.2.2.2.2.1 (mvT C.2.2.2.1 w1) (mvT C.2.2.2.1 w2) (mvT C.2.2.2.1 w5) (Cond.privateMethod_at (mvP C.2.2.2.1 w6 (args := #[]))) (mvT C.2.2.2.1 w4) hy (backOf (W := W) (Q := fun v h L => Q' v h ∧ Fr n0 L) (hC []) C.2.2.2.1 w4 w3 hf hl) (g := mkF m pc Ls (argsL.reverse ++ .ref a :: rest)) rfl (hsz.trans C.2.2.1.symm) (Steps.refl _) (a := a) (by rw [eT]; exact q1) q2 (argsL := argsL) (rest := rest) (lenOf hpd hlen) rfl hW (hb C.2.1 hd) (fun _ _ => ⟨has, eT, hc, hs⟩)
  dsimp only [Pt.U, Pt.locs, Pt.cells, Pt.slots] at X' l1 l2 l3 st' hQ
  subst l1 l2 l3
  exact Go.move hN X' rfl (Fr.app hN hQ.2) (fun _ z => st'.trans z) (k v _ hQ.1)
end
/-! the wide form: a body that may load String constants -/
/-- the base s stands behind the start s0 of the body: what has been interned since, and the invariant on the booked Strings -/
def Wd (Z : State) (EL : List (String × Nat)) (s0 s : State) (h : Heap) : Prop := ∃ (vm0 : Vm) (k0 : Nat), s = s0.setVm vm0 ∧ s0.Since vm0 k0 ∧ k0 ≤ h.size ∧ CHr Z EL s0.vm s0.heap vm0 h
/-- the same without the invariant -/
def Wv (s0 s : State) (h : Heap) : Prop := ∃ (vm0 : Vm) (k0 : Nat), s = s0.setVm vm0 ∧ s0.Since vm0 k0 ∧ k0 ≤ h.size
/-- endings -/
def EC (Z : State) (EL : List (String × Nat)) (s0 : State) (n0 K N : Nat) (Q : Option Value → Heap → Prop) (s₂ : State) (o : Outcome) : Prop := ∃ v L, o = .returned v ∧ (Q v s₂.heap ∧ Fr n0 L) ∧ CHr Z EL s0.vm s0.heap s₂.vm s₂.heap ∧ ReturnedEndW s0 o s₂ L K N
def EV (s0 : State) (n0 K N : Nat) (Q : Option Value → Heap → Prop) (s₂ : State) (o : Outcome) : Prop := ∃ v L, o = .returned v ∧ (Q v s₂.heap ∧ Fr n0 L) ∧ ReturnedEndW s0 o s₂ L K N
/-- contracts of bodies that may load String constants -/
def CtrC (l : Launch) (Z : State) (EL : List (String × Nat)) (y : MethodName) (code : ByteArray) (maxL : Nat) (ret : Option FieldType) (rm : Room) (as' : Array Value) (h0 : Heap) (n0 : Nat) (Q : Option Value → Heap → Prop) : Prop :=
  ∀ ws : List Cond, MetFree l y (head1 (Cond.code y code maxL ret :: ws) rm) (fun a U => a = as' ∧ Z.Warmed39 U.vm ∧ U.heap = h0 ∧ CHv Z EL U.vm h0) (fun _ _ _ _ _ => True)
    (fun _ U o U' => ∃ v L, o = .returned v ∧ (Q v U'.heap ∧ Fr n0 L) ∧ CHr Z EL U.vm U.heap U'.vm U'.heap ∧ ReturnedEndW U o U' L rm.cells rm.slots)
def CtrV (l : Launch) (Z : State) (EL : List (String × Nat)) (y : MethodName) (code : ByteArray) (maxL : Nat) (ret : Option FieldType) (rm : Room) (as' : Array Value) (h0 : Heap) (n0 : Nat) (Q : Option Value → Heap → Prop) : Prop :=
  ∀ ws : List Cond, MetFree l y (head1 (Cond.code y code maxL ret :: ws) rm) (fun a U => a = as' ∧ Z.Warmed39 U.vm ∧ U.heap = h0 ∧ CHv Z EL U.vm h0) (fun _ _ _ _ _ => True)
    (fun _ U o U' => ∃ v L, o = .returned v ∧ (Q v U'.heap ∧ Fr n0 L) ∧ ReturnedEndW U o U' L rm.cells rm.slots)
section
variable {p : Program} {l : Launch} {e : Env} {R : Room} {s s0 : State} {m : MethodId} {args : Array Value} {below : List Frame} {meth : Method} {c : Code} {n0 K N : Nat} {Q : Option Value → Heap → Prop} {FE : State → Outcome → Prop} {h h' : Heap} {ck cn : Nat} {Z : State} {a0 : Array Value} {code : ByteArray} {maxL : Nat} {own : String} {ret : Option FieldType} {EL : List (String × Nat)}
theorem Wd.v (H : Wd Z EL s0 s h) : Wv s0 s h := by obtain ⟨vm0, k0, a, b, c, -⟩ := H; exact ⟨vm0, k0, a, b, c⟩
theorem Wd.ch (H : Wd Z EL s0 s h) : CHv Z EL s.vm h := by obtain ⟨vm0, k0, rfl, b, c, d⟩ := H; exact d.1
theorem Wd.start (H : CHv Z EL s.vm s.heap) : Wd Z EL s s s.heap := ⟨s.vm, s.heap.size, rfl, (State.WarmedH.refl s).since _, Nat.le_refl _, CHr.refl H⟩
theorem Wd.ext (H : Wd Z EL s0 s h) (E : Ext h h') : Wd Z EL s0 s h' := by
  obtain ⟨vm0, k0, a, b, c, d⟩ := H
  exact ⟨vm0, k0, a, b, Nat.le_trans c E.1, d.trans (CHr.ext E d.1)⟩
theorem Wv.ext (H : Wv s0 s h) (E : Ext h h') : Wv s0 s h' := by
  obtain ⟨vm0, k0, a, b, c⟩ := H
  exact ⟨vm0, k0, a, b, Nat.le_trans c E.1⟩
theorem Wd.keep {ws : List Addr} (H : Wd Z EL s0 s h) (E : Keep h h' ws) (hs : ∀ x ∈ ws, Safe Z EL s.vm h x) : Wd Z EL s0 s h' := by
  obtain ⟨vm0, k0, rfl, b, c, d⟩ := H
  exact ⟨vm0, k0, rfl, b, Nat.le_trans c E.1, d.trans (CHr.keep E hs d.1)⟩
theorem Wv.keep {ws : List Addr} (H : Wv s0 s h) (E : Keep h h' ws) : Wv s0 s h' := by
  obtain ⟨vm0, k0, a, b, c⟩ := H
  exact ⟨vm0, k0, a, b, Nat.le_trans c E.1⟩
theorem Wd.wr {a : Addr} {sl : Nat} {v : Value} (H : Wd Z EL s0 s h) (W : Wr h h' a sl v) (S : Safe Z EL s.vm h a) : Wd Z EL s0 s h' := by
  obtain ⟨vm0, k0, rfl, b, c, d⟩ := H
  exact ⟨vm0, k0, rfl, b, Nat.le_trans c (Keep.of_wr W).1, d.trans (CHr.wr W S d.1)⟩
theorem Wv.wr {a : Addr} {sl : Nat} {v : Value} (H : Wv s0 s h) (W : Wr h h' a sl v) : Wv s0 s h' := by
  obtain ⟨vm0, k0, rfl, b, c⟩ := H
  exact ⟨vm0, k0, rfl, b, Nat.le_trans c (Keep.of_wr W).1⟩
theorem CtrC.of_go {y : MethodName} {rm : Room} {as' : Array Value} {h0 : Heap} {Ls : Array Slot} (hpl : plainFor y = true) (hef : ∀ m, entryFrame m as' maxL = mkF m 0 Ls [])
    (hgo : ∀ p e s m below meth c, meth.name = y.name → Cx p s m meth c Z code maxL y.cls ret → Wd Z EL s s h0 → Go p l e rm s m as' below meth c n0 (EC Z EL s n0 rm.cells rm.slots Q) h0 0 0 (mkF m 0 Ls [])) : CtrC l Z EL y code maxL ret rm as' h0 n0 Q := fun ws => by
  refine MetFree.of_bodySF hpl hisR ?_
  intro p e s m args below meth c s₁ Bd hml0 hP hK
  obtain ⟨rfl, hZ, hh, hch⟩ := hP
  have X0 : Stand p l e rm s m args below meth c s₁ [] 0 0 := Stand.of_body Bd
  have e0 : s₁.heap = h0 := by rw [← hh, Bd.state]; rfl
  subst hh
  obtain ⟨s₂, o, g1, g2, g3, v, L, g4, g5, g6, g7⟩ := hgo p e s m below meth c (name_of_methodNamed Bd.named Bd.method).1 ⟨Bd.exec, Bd.bytes, hml0, hZ, findClass_of_methodNamed Bd.named, Bd.returns, Bd.notSynchronized⟩ (Wd.start hch) s₁ [] X0 e0 (Fr.nil n0)
  exact ⟨s₂, o, castTop (hef m) g1, g2, g3, v, L, g4, g5, g6, g7⟩
theorem CtrV.of_go {y : MethodName} {rm : Room} {as' : Array Value} {h0 : Heap} {Ls : Array Slot} (hpl : plainFor y = true) (hef : ∀ m, entryFrame m as' maxL = mkF m 0 Ls [])
    (hgo : ∀ p e s m below meth c, meth.name = y.name → Cx p s m meth c Z code maxL y.cls ret → Wd Z EL s s h0 → Go p l e rm s m as' below meth c n0 (EV s n0 rm.cells rm.slots Q) h0 0 0 (mkF m 0 Ls [])) : CtrV l Z EL y code maxL ret rm as' h0 n0 Q := fun ws => by
  refine MetFree.of_bodySF hpl hisR ?_
  intro p e s m args below meth c s₁ Bd hml0 hP hK
  obtain ⟨rfl, hZ, hh, hch⟩ := hP
  have X0 : Stand p l e rm s m args below meth c s₁ [] 0 0 := Stand.of_body Bd
  have e0 : s₁.heap = h0 := by rw [← hh, Bd.state]; rfl
  subst hh
  obtain ⟨s₂, o, g1, g2, g3, v, L, g4, g5, g6⟩ := hgo p e s m below meth c (name_of_methodNamed Bd.named Bd.method).1 ⟨Bd.exec, Bd.bytes, hml0, hZ, findClass_of_methodNamed Bd.named, Bd.returns, Bd.notSynchronized⟩ (Wd.start hch) s₁ [] X0 e0 (Fr.nil n0)
  exact ⟨s₂, o, castTop (hef m) g1, g2, g3, v, L, g4, g5, g6⟩
theorem EC.v {s₂ : State} {o : Outcome} (H : EC Z EL s0 n0 K N Q s₂ o) : EV s0 n0 K N Q s₂ o := by obtain ⟨v, L, a, b, -, d⟩ := H; exact ⟨v, L, a, b, d⟩
theorem endW_more {s t : State} {o : Outcome} {L : List Loc} {k n k' n' : Nat} (H : ReturnedEndW s o t L k n) (hk : k ≤ k') (hn : n ≤ n') : ReturnedEndW s o t L k' n' := ⟨H.1, H.2.1, H.2.2.1, H.2.2.2.mono hk hn⟩
theorem retV0 {v : Option Value} {g : JFrame} (hlk : meth.locks = false) (hret : meth.sig.returnType = none → v = none) (HW : Wv s0 s h) (hck : ck ≤ K) (hcn : cn ≤ N) (hQ : Q v h)
    (st : ∀ (T : State) (locs : List Loc) (fs : List Frame), Stand p l e R s m args below meth c T locs ck cn → (∀ (f : JFrame) (acts : List Action), f.method = m → f.locked = none → f.entered = [] → (doReturn e (T.setTop f) acts v).1 = T.setFrames fs) → Steps p.tables e below (T.setTop g) (T.setFrames fs)) :
    Go p l e R s m args below meth c n0 (EV s0 n0 K N Q) h ck cn g := fun T locs X eT hN => by
  obtain ⟨vm0, k0, rfl, b, c'⟩ := HW
  obtain ⟨fs, hr, hrun, hended, hW⟩ := X.leaveW b (by rw [eT]; exact c') (v := v) hret hlk
  exact ⟨_, _, st T locs fs X hr, hrun, hended, v, locs, rfl, ⟨by show Q v T.heap; rw [eT]; exact hQ, hN⟩, endW_more hW hck hcn⟩
theorem retC0 {v : Option Value} {g : JFrame} (C : Cx p s m meth c Z code maxL own ret) (hEL : EW Z a0 EL) (hret : meth.sig.returnType = none → v = none) (HW : Wd Z EL s0 s h) (hck : ck ≤ K) (hcn : cn ≤ N) (hQ : Q v h)
    (st : ∀ (T : State) (locs : List Loc) (fs : List Frame), Stand p l e R s m args below meth c T locs ck cn → (∀ (f : JFrame) (acts : List Action), f.method = m → f.locked = none → f.entered = [] → (doReturn e (T.setTop f) acts v).1 = T.setFrames fs) → Steps p.tables e below (T.setTop g) (T.setFrames fs)) :
    Go p l e R s m args below meth c n0 (EC Z EL s0 n0 K N Q) h ck cn g := fun T locs X eT hN => by
  have hlk := C.2.2.2.2.2.2
  have hZ := C.2.2.2.1
  obtain ⟨vm0, k0, rfl, b, c', d⟩ := HW
  obtain ⟨fs, hr, hrun, hended, hW⟩ := X.leaveW b (by rw [eT]; exact c') (v := v) hret hlk
  refine ⟨_, _, st T locs fs X hr, hrun, hended, v, locs, rfl, ⟨by show Q v T.heap; rw [eT]; exact hQ, hN⟩, ?_, endW_more hW hck hcn⟩
  have A := d.trans (CHv.at X hZ hEL d.1)
  show CHr Z EL s0.vm s0.heap T.vm T.heap
  rw [eT]; exact A
/-- 'ldc' of a String constant -/
theorem g_ldcC (C : Cx p s m meth c Z code maxL own ret) {pc pc' : Nat} {Ls : Array Slot} {st : List Value} {text : String} {index : Nat} (HW : Wd Z EL s0 s h) (hEL : EW Z a0 EL) (hd : I1 code pc (.ldc index) 2 pc') (w : (Cond.stringLink own index text).before a0 Z = true) (wS : ∀ a ∈ Bundle.stringAtoms, a.before a0 Z = true) (hmem : (own, index) ∈ EL)
    {vs : List Value} {z : Int32} {len : Nat} {f : Nat → Int32} (ht : (∀ c ∈ text.toList, c.toNat < 256) ∧ text.toList.map (fun c => Value.int (Jvm.Lit.byteI c.toNat.toUInt16)) = vs) (hz : ¬ z < 0) (hl : z.toNatClampNeg = vs.length) (hlen : vs.length = len) (hf : ∀ i, i < len → vs.getD i (.int 0) = .int (f i))
    (n : Nat) (hn : 4 * text.toList.length ≤ n) (hbig : n ≤ 536870912) (hc : ck + 2 ≤ R.cells) (hl' : cn + (n + 4) ≤ R.slots) {ck' cn' : Nat} (hck : ck + 2 = ck') (hcn : cn + (n + 4) = cn')
    (k : ∀ (s' : State) (h' : Heap) (a b : Addr), Cx p s' m meth c Z code maxL own ret → Wd Z EL s0 s' h' → Ext h h' → Exa Z h' a "java/lang/String" → Fld Z h' a "java/lang/String" "coder" "B" (.int (0 : Int32)) → Fld Z h' a "java/lang/String" "value" "[B" (.ref b) → AV Z h' b .byte len (fun ix => .int (f ix)) → Lit s' own index a → Go p l e R s' m args below meth c n0 FE h' ck' cn' (mkF m pc' Ls (.ref a :: st))) :
    Go p l e R s m args below meth c n0 FE h ck cn (mkF m pc Ls st) := fun T locs X eT hN => by
  obtain ⟨hd, rfl⟩ := hd
  subst hck hcn
  obtain ⟨c1, c2, c3, c4, c5, c6, c7⟩ := C
  obtain ⟨vm0, k0, rfl, b, c', d⟩ := HW
  obtain ⟨a, T', h', k1, bb, kk, X', e', Ex, hS', hk', hW', hown', E1, F1, F2, A1, -, -, H', Lt, -, st'⟩ := ldcCH X c1 c4 c5 w wS eT b c' hEL hmem d.1 ht hz hl (g := mkF m pc Ls st) rfl (hb c2 hd) hn hbig hc hl'
  obtain ⟨cl, A, q1, q2, q3, q4, q5⟩ := A1
  exact Go.move hN X' e' hN st' (k _ h' a bb ⟨c1, c2, c3, hW', hown', c6, c7⟩ ⟨T'.vm, k1, rfl, hS', hk', d.trans H'⟩ Ex E1 F1 F2 ⟨cl, A, by rw [q2, hl, hlen], by have := (back32 q3).2; rw [hl, hlen] at this; exact this, fun i hi => by show cl.slots[i]? = some (Value.int (f i)); rw [← hf i hi]; exact q4 i (by rw [q2, hl, hlen]; exact hi)⟩ Lt)

/-- a callee's contract without the invariant at its end, paid -/
theorem backOfSV {vm0 : Vm} {y : MethodName} {bytes : ByteArray} {maxL : Nat} {ret : Option FieldType} {rm : Room} {len W : Nat} {as' : Array Value} {Q : Option Value → Heap → List Loc → Prop}
    (hM : MetFree l y (head1 [Cond.code y bytes maxL ret] rm) (fun a U => a = as' ∧ Z.Warmed39 U.vm ∧ U.heap = h ∧ CHv Z EL U.vm h) (fun _ _ _ _ _ => True) (fun _ U o U' => ∃ v L, o = .returned v ∧ Q v U'.heap L ∧ ReturnedEndW U o U' L rm.cells rm.slots))
    (hZ : Z.Warmed39 vm0) (wc : (Cond.code y bytes maxL ret).before a0 Z = true) (wz : (Cond.initialized y.cls).before a0 Z = true) (hf : rm.frames + 1 ≤ R.frames) (hl : W + (maxL + 11) + rm.locals ≤ R.locals) (hEL : EW Z a0 EL) (H : CHv Z EL vm0 h) :
    BackS l R p e below (s.setVm vm0) args y len W (fun A a => a = as' ∧ A.U.heap = h ∧ A.cells + rm.cells ≤ R.cells ∧ A.slots + rm.slots ≤ R.slots)
      (fun A _ v B => ∃ L, Q v B.U.heap L ∧ B.locs = A.locs ++ L ∧ B.cells = A.cells + rm.cells ∧ B.slots = A.slots + rm.slots) :=
  BackS.of_freeW (bytes := bytes) (maxL := maxL) (ret := ret) (E := fun _ _ o t L k n => k = rm.cells ∧ n = rm.slots ∧ ∃ v, o = .returned v ∧ Q v t.heap L) hM hf hl
    (fun m meth c A a Y hp => have hU : Z.Warmed39 A.U.vm := wtrans (s := s.setVm vm0) hZ Y.warmed
      ⟨by show (Cond.and _ .tt).before a A.U = true; rw [Cond.before_and, mv hU wc]; rfl, mv hU wc, mv hU wz, hp.2.2.1, hp.2.2.2⟩)
    (fun m meth c A a g mk Y hp => ⟨hp.1, wtrans (s := s.setVm vm0) hZ Y.warmed, hp.2.1, (CHv.at Y hZ hEL H).1⟩) (fun _ _ _ _ _ _ _ _ _ => trivial)
    (fun _ _ _ _ ⟨v, L, h1, h2, h3⟩ => ⟨L, _, _, h3, rfl, rfl, v, h1, h2⟩)
    (fun m meth c A a g mk v t L k n Y hp _ _ ⟨e1, e2, v', e3, e4⟩ => by cases e3; subst e1 e2; exact ⟨L, e4, rfl, rfl, rfl⟩)
theorem g_callSC (C : Cx p s m meth c Z code maxL own ret) {pc pc' : Nat} {Ls : Array Slot} {y : MethodName} {ycode : ByteArray} {ymax : Nat} {yret : Option FieldType} {rm : Room} {as' : Array Value} {Q' : Option Value → Heap → Prop} {index : Nat} (HW : Wd Z EL s0 s h) (hEL : EW Z a0 EL) (hC : CtrC l Z EL y ycode ymax yret rm as' h n0 Q') (hd : I1 code pc (.invokestatic index) 3 pc') (w1 : (Cond.methodLink own index y).before a0 Z = true) (w2 : (Cond.static y).before a0 Z = true) (w3 : (Cond.initialized y.cls).before a0 Z = true) (w4 : (Cond.code y ycode ymax yret).before a0 Z = true) (hy : y.cls ≠ "java/lang/invoke/MethodHandle" ∧ y.cls ≠ "java/lang/invoke/VarHandle")
    {argsL st rest : List Value} (hst : st = argsL.reverse ++ rest) (has : argsL.toArray = as') {ps : List FieldType} {r : Option FieldType} (hpd : parseMethodDescriptor y.desc = some ⟨ps, r⟩) (hlen : argsL.length = ps.length) (hsz : Ls.size = maxL) (W : Nat) (hW : 2 * 0 + (rest.map fun v => v.category).sum ≤ W)
    (hf : rm.frames + 1 ≤ R.frames) (hl : W + (ymax + 11) + rm.locals ≤ R.locals) (hc : ck + rm.cells ≤ R.cells) (hs : cn + rm.slots ≤ R.slots) {ck' cn' : Nat} (hck : ck + rm.cells = ck') (hcn : cn + rm.slots = cn')
    (k : ∀ v s' h', Cx p s' m meth c Z code maxL own ret → Wd Z EL s0 s' h' → Q' v h' → Go p l e R s' m args below meth c n0 FE h' ck' cn' (mkF m pc' Ls (v.toList ++ rest))) : Go p l e R s m args below meth c n0 FE h ck cn (mkF m pc Ls st) := fun T locs X eT hN => by
  obtain ⟨hd, rfl⟩ := hd
  subst hck hcn hst
  obtain ⟨c1, c2, c3, c4, c5, c6, c7⟩ := C
  obtain ⟨vm0, k0, rfl, b, c', d⟩ := HW
  subst eT
  obtain ⟨v, vm1, ⟨T', L', k', n'⟩, -, X', hS, hg, ⟨Lc, hQ, l1, l2, l3, hCH⟩, st'⟩ := callSS X c1 c5 (mvT c4 w1) (mvT c4 w2) (mvT c4 w3) (mvT c4 w4) hy (backOfSH (W := W) (Q := fun v h L => Q' v h ∧ Fr n0 L) (hC []) c4 w4 w3 hf hl hEL d.1) (g := mkF m pc Ls (argsL.reverse ++ rest)) rfl (hsz.trans c3.symm) (argsL := argsL) (rest := rest) (lenOf hpd hlen) rfl hW (hb c2 hd) (fun _ _ => ⟨has, rfl, hc, hs⟩)
  dsimp only [Pt.U, Pt.locs, Pt.cells, Pt.slots] at X' l1 l2 l3 st' hQ hS hg hCH
  subst l1 l2 l3
  exact Go.move hN X' rfl (Fr.app hN hQ.2) (fun _ z => st'.trans z) (k v _ _ ⟨c1, c2, c3, State.Warmed39.trans (t := s0.setVm vm0) c4 hS.1, by show T'.vm.findClass own = _; rw [hS.1.alike.findClass]; exact c5, c6, c7⟩ ⟨T'.vm, T'.heap.size, rfl, b.trans hS (Nat.le_trans c' hg), Nat.le_refl _, d.trans hCH⟩ hQ.1)
theorem g_callIC (C : Cx p s m meth c Z code maxL own ret) {pc pc' : Nat} {Ls : Array Slot} {y : MethodName} {ycode : ByteArray} {ymax : Nat} {yret : Option FieldType} {rm : Room} {as' : Array Value} {Q' : Option Value → Heap → Prop} {index : Nat} {a : Addr} (HW : Wd Z EL s0 s h) (hEL : EW Z a0 EL) (hC : CtrC l Z EL y ycode ymax yret rm as' h n0 Q') (hd : I1 code pc (.invokespecial index) 3 pc') (hy1 : y.name = "<init>") (w1 : (Cond.methodLink own index y).before a0 Z = true) (w2 : (Cond.instanceMethod y).before a0 Z = true) (w3 : (Cond.initialized y.cls).before a0 Z = true) (w4 : (Cond.code y ycode ymax yret).before a0 Z = true) (hyr : yret = none) (hy : y.cls ≠ "java/lang/invoke/MethodHandle" ∧ y.cls ≠ "java/lang/invoke/VarHandle")
    {argsL st rest : List Value} (hst : st = argsL.reverse ++ .ref a :: rest) (has : (.ref a :: argsL).toArray = as') {ps : List FieldType} {r : Option FieldType} (hpd : parseMethodDescriptor y.desc = some ⟨ps, r⟩) (hlen : argsL.length = ps.length) (hsz : Ls.size = maxL) (W : Nat) (hW : 2 * 0 + (rest.map fun v => v.category).sum ≤ W)
    (hf : rm.frames + 1 ≤ R.frames) (hl : W + (ymax + 11) + rm.locals ≤ R.locals) (hc : ck + rm.cells ≤ R.cells) (hs : cn + rm.slots ≤ R.slots) {ck' cn' : Nat} (hck : ck + rm.cells = ck') (hcn : cn + rm.slots = cn')
    (k : ∀ v s' h', Cx p s' m meth c Z code maxL own ret → Wd Z EL s0 s' h' → Q' v h' → Go p l e R s' m args below meth c n0 FE h' ck' cn' (mkF m pc' Ls (v.toList ++ rest))) : Go p l e R s m args below meth c n0 FE h ck cn (mkF m pc Ls st) := fun T locs X eT hN => by
  obtain ⟨hd, rfl⟩ := hd
  subst hck hcn hst
  obtain ⟨c1, c2, c3, c4, c5, c6, c7⟩ := C
  obtain ⟨vm0, k0, rfl, b, c', d⟩ := HW
  subst eT
  subst hyr
  obtain ⟨v, vm1, ⟨T', L', k', n'⟩, -, X', hS, hg, ⟨Lc, hQ, l1, l2, l3, hCH⟩, st'⟩ := X.specialBackS c1 hy1 c5 (mvT c4 w1) (mvT c4 w2) (mvT c4 w4) hy (backOfSH (W := W) (Q := fun v h L => Q' v h ∧ Fr n0 L) (hC []) c4 w4 w3 hf hl hEL d.1) (g := mkF m pc Ls (argsL.reverse ++ .ref a :: rest)) rfl (hsz.trans c3.symm) (Steps.refl _) (a := a) (argsL := argsL) (rest := rest) (lenOf hpd hlen) rfl hW (hb c2 hd) (fun _ _ => ⟨has, rfl, hc, hs⟩)
  dsimp only [Pt.U, Pt.locs, Pt.cells, Pt.slots] at X' l1 l2 l3 st' hQ hS hg hCH
  subst l1 l2 l3
  exact Go.move hN X' rfl (Fr.app hN hQ.2) (fun _ z => st'.trans z) (k v _ _ ⟨c1, c2, c3, State.Warmed39.trans (t := s0.setVm vm0) c4 hS.1, by show T'.vm.findClass own = _; rw [hS.1.alike.findClass]; exact c5, c6, c7⟩ ⟨T'.vm, T'.heap.size, rfl, b.trans hS (Nat.le_trans c' hg), Nat.le_refl _, d.trans hCH⟩ hQ.1)
theorem g_callVC (C : Cx p s m meth c Z code maxL own ret) {pc pc' : Nat} {Ls : Array Slot} {y : MethodName} {ycode : ByteArray} {ymax : Nat} {yret : Option FieldType} {rm : Room} {as' : Array Value} {Q' : Option Value → Heap → Prop} {index : Nat} {a : Addr} {x : MethodName} {Cl : String} (HW : Wd Z EL s0 s h) (hEL : EW Z a0 EL) (hC : CtrC l Z EL y ycode ymax yret rm as' h n0 Q') (hd : I1 code pc (.invokevirtual index) 3 pc') (w1 : (Cond.methodLink own index x).before a0 Z = true) (w2 : (Cond.declares x).before a0 Z = true) (hnf : ∀ s : State, Z.Warmed39 s.vm → NotFace s x) (w5 : (Cond.selects Cl x y).before a0 Z = true) (w6 : (Cond.instanceMethod y).before a0 Z = true) (w3 : (Cond.initialized y.cls).before a0 Z = true) (w4 : (Cond.code y ycode ymax yret).before a0 Z = true) (hy : x.cls ≠ "java/lang/invoke/MethodHandle" ∧ x.cls ≠ "java/lang/invoke/VarHandle") (E : Exa Z h a Cl)
    {argsL st rest : List Value} (hst : st = argsL.reverse ++ .ref a :: rest) (has : (.ref a :: argsL).toArray = as') {ps : List FieldType} {r : Option FieldType} (hpd : parseMethodDescriptor x.desc = some ⟨ps, r⟩) (hlen : argsL.length = ps.length) (hsz : Ls.size = maxL) (W : Nat) (hW : 2 * 0 + (rest.map fun v => v.category).sum ≤ W)
    (hf : rm.frames + 1 ≤ R.frames) (hl : W + (ymax + 11) + rm.locals ≤ R.locals) (hc : ck + rm.cells ≤ R.cells) (hs : cn + rm.slots ≤ R.slots) {ck' cn' : Nat} (hck : ck + rm.cells = ck') (hcn : cn + rm.slots = cn')
    (k : ∀ v s' h', Cx p s' m meth c Z code maxL own ret → Wd Z EL s0 s' h' → Q' v h' → Go p l e R s' m args below meth c n0 FE h' ck' cn' (mkF m pc' Ls (v.toList ++ rest))) : Go p l e R s m args below meth c n0 FE h ck cn (mkF m pc Ls st) := fun T locs X eT hN => by
  obtain ⟨hd, rfl⟩ := hd
  subst hck hcn hst
  obtain ⟨c1, c2, c3, c4, c5, c6, c7⟩ := C
  obtain ⟨vm0, k0, rfl, b, c', d⟩ := HW
  subst eT
  obtain ⟨cq, kq, q1, q2, q3⟩ := isOf c4 rfl E
  obtain ⟨v, vm1, ⟨T', L', k', n'⟩, -, X', hS, hg, ⟨Lc, hQ, l1, l2, l3, hCH⟩, st'⟩ := X.virtualBackS c1 (y := x) (z := y) c5 (mvT c4 w1) (mvT c4 w2) (hnf _ c4) (mvT c4 w5) (mvT c4 w6) hy (backOfSH (W := W) (Q := fun v h L => Q' v h ∧ Fr n0 L) (hC []) c4 w4 w3 hf hl hEL d.1) q1 q3 (g := mkF m pc Ls (argsL.reverse ++ .ref a :: rest)) rfl (hsz.trans c3.symm) (Steps.refl _) (argsL := argsL) (rest := rest) (lenOf hpd hlen) rfl hW (hb c2 hd) (fun _ _ => ⟨has, rfl, hc, hs⟩)
  dsimp only [Pt.U, Pt.locs, Pt.cells, Pt.slots] at X' l1 l2 l3 st' hQ hS hg hCH
  subst l1 l2 l3
  exact Go.move hN X' rfl (Fr.app hN hQ.2) (fun _ z => st'.trans z) (k v _ _ ⟨c1, c2, c3, State.Warmed39.trans (t := s0.setVm vm0) c4 hS.1, by show T'.vm.findClass own = _; rw [hS.1.alike.findClass]; exact c5, c6, c7⟩ ⟨T'.vm, T'.heap.size, rfl, b.trans hS (Nat.le_trans c' hg), Nat.le_refl _, d.trans hCH⟩ hQ.1)
theorem g_retVC (C : Cx p s m meth c Z code maxL own ret) (HW : Wd Z EL s0 s h) (hEL : EW Z a0 EL) {pc : Nat} {Ls : Array Slot} {pc' : Nat} (hd : I1 code pc .return_ 1 pc') (hret : ret = none) (hck : ck ≤ K) (hcn : cn ≤ N) (hQ : Q none h) : Go p l e R s m args below meth c n0 (EC Z EL s0 n0 K N Q) h ck cn (mkF m pc Ls []) := by
  obtain ⟨hd, -⟩ := hd
  exact retC0 C hEL (fun _ => rfl) HW hck hcn hQ (fun T locs fs X hr => X.returnOut C.1 (C.2.2.2.2.2.1.trans hret) (hb C.2.1 hd) hr)
theorem g_retIntC (C : Cx p s m meth c Z code maxL own ret) (HW : Wd Z EL s0 s h) (hEL : EW Z a0 EL) {pc : Nat} {Ls : Array Slot} {pc' : Nat} {st : List Value} {z : Int32} (hd : I1 code pc .ireturn 1 pc') (hret : ret = some .int) (hck : ck ≤ K) (hcn : cn ≤ N) (hQ : Q (some (.int z)) h) : Go p l e R s m args below meth c n0 (EC Z EL s0 n0 K N Q) h ck cn (mkF m pc Ls (.int z :: st)) := by
  obtain ⟨hd, -⟩ := hd
  have hr' := C.2.2.2.2.2.1.trans hret
  exact retC0 C hEL (fun q => by rw [hr'] at q; cases q) HW hck hcn hQ (fun T locs fs X hr => retOut X C.1 hr' rfl (Or.inl ⟨rfl, Or.inl rfl, z, rfl⟩) (hb C.2.1 hd) hr)
theorem g_retRefC (C : Cx p s m meth c Z code maxL own ret) (HW : Wd Z EL s0 s h) (hEL : EW Z a0 EL) {pc : Nat} {Ls : Array Slot} {pc' : Nat} {st : List Value} {v : Value} {t : FieldType} (hd : I1 code pc .areturn 1 pc') (hret : ret = some t) (ht : t.isReference = true) (hv : v.isRef = true) (hck : ck ≤ K) (hcn : cn ≤ N) (hQ : Q (some (v)) h) : Go p l e R s m args below meth c n0 (EC Z EL s0 n0 K N Q) h ck cn (mkF m pc Ls (v :: st)) := by
  obtain ⟨hd, -⟩ := hd
  have hr' := C.2.2.2.2.2.1.trans hret
  exact retC0 C hEL (fun q => by rw [hr'] at q; cases q) HW hck hcn hQ (fun T locs fs X hr => retOut X C.1 hr' (nar_ref hv) (Or.inr (Or.inr (Or.inr (Or.inr ⟨rfl, ht, hv⟩)))) (hb C.2.1 hd) hr)
theorem g_retNarC (C : Cx p s m meth c Z code maxL own ret) (HW : Wd Z EL s0 s h) (hEL : EW Z a0 EL) {pc : Nat} {Ls : Array Slot} {pc' : Nat} {st : List Value} {z : Int32} {t : FieldType} (hd : I1 code pc .ireturn 1 pc') (hret : ret = some t) (ht : t = .boolean ∨ t = .byte ∨ t = .char ∨ t = .short) (hck : ck ≤ K) (hcn : cn ≤ N) (hQ : Q (some (.int (nar t z))) h) : Go p l e R s m args below meth c n0 (EC Z EL s0 n0 K N Q) h ck cn (mkF m pc Ls (.int z :: st)) := by
  obtain ⟨hd, -⟩ := hd
  have hr' := C.2.2.2.2.2.1.trans hret
  exact retC0 C hEL (fun q => by rw [hr'] at q; cases q) HW hck hcn hQ (fun T locs fs X hr => retN X C.1 hr' ht (hb C.2.1 hd) hr)
theorem g_callSV (C : Cx p s m meth c Z code maxL own ret) {pc pc' : Nat} {Ls : Array Slot} {y : MethodName} {ycode : ByteArray} {ymax : Nat} {yret : Option FieldType} {rm : Room} {as' : Array Value} {Q' : Option Value → Heap → Prop} {index : Nat} (HW : Wd Z EL s0 s h) (hEL : EW Z a0 EL) (hC : CtrV l Z EL y ycode ymax yret rm as' h n0 Q') (hd : I1 code pc (.invokestatic index) 3 pc') (w1 : (Cond.methodLink own index y).before a0 Z = true) (w2 : (Cond.static y).before a0 Z = true) (w3 : (Cond.initialized y.cls).before a0 Z = true) (w4 : (Cond.code y ycode ymax yret).before a0 Z = true) (hy : y.cls ≠ "java/lang/invoke/MethodHandle" ∧ y.cls ≠ "java/lang/invoke/VarHandle")
    {argsL st rest : List Value} (hst : st = argsL.reverse ++ rest) (has : argsL.toArray = as') {ps : List FieldType} {r : Option FieldType} (hpd : parseMethodDescriptor y.desc = some ⟨ps, r⟩) (hlen : argsL.length = ps.length) (hsz : Ls.size = maxL) (W : Nat) (hW : 2 * 0 + (rest.map fun v => v.category).sum ≤ W)
    (hf : rm.frames + 1 ≤ R.frames) (hl : W + (ymax + 11) + rm.locals ≤ R.locals) (hc : ck + rm.cells ≤ R.cells) (hs : cn + rm.slots ≤ R.slots) {ck' cn' : Nat} (hck : ck + rm.cells = ck') (hcn : cn + rm.slots = cn')
    (k : ∀ v s' h', Cx p s' m meth c Z code maxL own ret → Wv s0 s' h' → Q' v h' → Go p l e R s' m args below meth c n0 FE h' ck' cn' (mkF m pc' Ls (v.toList ++ rest))) : Go p l e R s m args below meth c n0 FE h ck cn (mkF m pc Ls st) := fun T locs X eT hN => by
  obtain ⟨hd, rfl⟩ := hd
  subst hck hcn hst
  obtain ⟨c1, c2, c3, c4, c5, c6, c7⟩ := C
  obtain ⟨vm0, k0, rfl, b, c', d⟩ := HW
  subst eT
  obtain ⟨v, vm1, ⟨T', L', k', n'⟩, -, X', hS, hg, ⟨Lc, hQ, l1, l2, l3⟩, st'⟩ := callSS X c1 c5 (mvT c4 w1) (mvT c4 w2) (mvT c4 w3) (mvT c4 w4) hy (backOfSV (W := W) (Q := fun v h L => Q' v h ∧ Fr n0 L) (hC []) c4 w4 w3 hf hl hEL d.1) (g := mkF m pc Ls (argsL.reverse ++ rest)) rfl (hsz.trans c3.symm) (argsL := argsL) (rest := rest) (lenOf hpd hlen) rfl hW (hb c2 hd) (fun _ _ => ⟨has, rfl, hc, hs⟩)
  dsimp only [Pt.U, Pt.locs, Pt.cells, Pt.slots] at X' l1 l2 l3 st' hQ hS hg
  subst l1 l2 l3
  exact Go.move hN X' rfl (Fr.app hN hQ.2) (fun _ z => st'.trans z) (k v _ _ ⟨c1, c2, c3, State.Warmed39.trans (t := s0.setVm vm0) c4 hS.1, by show T'.vm.findClass own = _; rw [hS.1.alike.findClass]; exact c5, c6, c7⟩ ⟨T'.vm, T'.heap.size, rfl, b.trans hS (Nat.le_trans c' hg), Nat.le_refl _⟩ hQ.1)
theorem g_callIV (C : Cx p s m meth c Z code maxL own ret) {pc pc' : Nat} {Ls : Array Slot} {y : MethodName} {ycode : ByteArray} {ymax : Nat} {yret : Option FieldType} {rm : Room} {as' : Array Value} {Q' : Option Value → Heap → Prop} {index : Nat} {a : Addr} (HW : Wd Z EL s0 s h) (hEL : EW Z a0 EL) (hC : CtrV l Z EL y ycode ymax yret rm as' h n0 Q') (hd : I1 code pc (.invokespecial index) 3 pc') (hy1 : y.name = "<init>") (w1 : (Cond.methodLink own index y).before a0 Z = true) (w2 : (Cond.instanceMethod y).before a0 Z = true) (w3 : (Cond.initialized y.cls).before a0 Z = true) (w4 : (Cond.code y ycode ymax yret).before a0 Z = true) (hyr : yret = none) (hy : y.cls ≠ "java/lang/invoke/MethodHandle" ∧ y.cls ≠ "java/lang/invoke/VarHandle")
    {argsL st rest : List Value} (hst : st = argsL.reverse ++ .ref a :: rest) (has : (.ref a :: argsL).toArray = as') {ps : List FieldType} {r : Option FieldType} (hpd : parseMethodDescriptor y.desc = some ⟨ps, r⟩) (hlen : argsL.length = ps.length) (hsz : Ls.size = maxL) (W : Nat) (hW : 2 * 0 + (rest.map fun v => v.category).sum ≤ W)
    (hf : rm.frames + 1 ≤ R.frames) (hl : W + (ymax + 11) + rm.locals ≤ R.locals) (hc : ck + rm.cells ≤ R.cells) (hs : cn + rm.slots ≤ R.slots) {ck' cn' : Nat} (hck : ck + rm.cells = ck') (hcn : cn + rm.slots = cn')
    (k : ∀ v s' h', Cx p s' m meth c Z code maxL own ret → Wv s0 s' h' → Q' v h' → Go p l e R s' m args below meth c n0 FE h' ck' cn' (mkF m pc' Ls (v.toList ++ rest))) : Go p l e R s m args below meth c n0 FE h ck cn (mkF m pc Ls st) := fun T locs X eT hN => by
  obtain ⟨hd, rfl⟩ := hd
  subst hck hcn hst
  obtain ⟨c1, c2, c3, c4, c5, c6, c7⟩ := C
  obtain ⟨vm0, k0, rfl, b, c', d⟩ := HW
  subst eT
  subst hyr
  obtain ⟨v, vm1, ⟨T', L', k', n'⟩, -, X', hS, hg, ⟨Lc, hQ, l1, l2, l3⟩, st'⟩ := X.specialBackS c1 hy1 c5 (mvT c4 w1) (mvT c4 w2) (mvT c4 w4) hy (backOfSV (W := W) (Q := fun v h L => Q' v h ∧ Fr n0 L) (hC []) c4 w4 w3 hf hl hEL d.1) (g := mkF m pc Ls (argsL.reverse ++ .ref a :: rest)) rfl (hsz.trans c3.symm) (Steps.refl _) (a := a) (argsL := argsL) (rest := rest) (lenOf hpd hlen) rfl hW (hb c2 hd) (fun _ _ => ⟨has, rfl, hc, hs⟩)
  dsimp only [Pt.U, Pt.locs, Pt.cells, Pt.slots] at X' l1 l2 l3 st' hQ hS hg
  subst l1 l2 l3
  exact Go.move hN X' rfl (Fr.app hN hQ.2) (fun _ z => st'.trans z) (k v _ _ ⟨c1, c2, c3, State.Warmed39.trans (t := s0.setVm vm0) c4 hS.1, by show T'.vm.findClass own = _; rw [hS.1.alike.findClass]; exact c5, c6, c7⟩ ⟨T'.vm, T'.heap.size, rfl, b.trans hS (Nat.le_trans c' hg), Nat.le_refl _⟩ hQ.1)
theorem g_callVV (C : Cx p s m meth c Z code maxL own ret) {pc pc' : Nat} {Ls : Array Slot} {y : MethodName} {ycode : ByteArray} {ymax : Nat} {yret : Option FieldType} {rm : Room} {as' : Array Value} {Q' : Option Value → Heap → Prop} {index : Nat} {a : Addr} {x : MethodName} {Cl : String} (HW : Wd Z EL s0 s h) (hEL : EW Z a0 EL) (hC : CtrV l Z EL y ycode ymax yret rm as' h n0 Q') (hd : I1 code pc (.invokevirtual index) 3 pc') (w1 : (Cond.methodLink own index x).before a0 Z = true) (w2 : (Cond.declares x).before a0 Z = true) (hnf : ∀ s : State, Z.Warmed39 s.vm → NotFace s x) (w5 : (Cond.selects Cl x y).before a0 Z = true) (w6 : (Cond.instanceMethod y).before a0 Z = true) (w3 : (Cond.initialized y.cls).before a0 Z = true) (w4 : (Cond.code y ycode ymax yret).before a0 Z = true) (hy : x.cls ≠ "java/lang/invoke/MethodHandle" ∧ x.cls ≠ "java/lang/invoke/VarHandle") (E : Exa Z h a Cl)
    {argsL st rest : List Value} (hst : st = argsL.reverse ++ .ref a :: rest) (has : (.ref a :: argsL).toArray = as') {ps : List FieldType} {r : Option FieldType} (hpd : parseMethodDescriptor x.desc = some ⟨ps, r⟩) (hlen : argsL.length = ps.length) (hsz : Ls.size = maxL) (W : Nat) (hW : 2 * 0 + (rest.map fun v => v.category).sum ≤ W)
    (hf : rm.frames + 1 ≤ R.frames) (hl : W + (ymax + 11) + rm.locals ≤ R.locals) (hc : ck + rm.cells ≤ R.cells) (hs : cn + rm.slots ≤ R.slots) {ck' cn' : Nat} (hck : ck + rm.cells = ck') (hcn : cn + rm.slots = cn')
    (k : ∀ v s' h', Cx p s' m meth c Z code maxL own ret → Wv s0 s' h' → Q' v h' → Go p l e R s' m args below meth c n0 FE h' ck' cn' (mkF m pc' Ls (v.toList ++ rest))) : Go p l e R s m args below meth c n0 FE h ck cn (mkF m pc Ls st) := fun T locs X eT hN => by
  obtain ⟨hd, rfl⟩ := hd
  subst hck hcn hst
  obtain ⟨c1, c2, c3, c4, c5, c6, c7⟩ := C
  obtain ⟨vm0, k0, rfl, b, c', d⟩ := HW
  subst eT
  obtain ⟨cq, kq, q1, q2, q3⟩ := isOf c4 rfl E
  obtain ⟨v, vm1, ⟨T', L', k', n'⟩, -, X', hS, hg, ⟨Lc, hQ, l1, l2, l3⟩, st'⟩ := X.virtualBackS c1 (y := x) (z := y) c5 (mvT c4 w1) (mvT c4 w2) (hnf _ c4) (mvT c4 w5) (mvT c4 w6) hy (backOfSV (W := W) (Q := fun v h L => Q' v h ∧ Fr n0 L) (hC []) c4 w4 w3 hf hl hEL d.1) q1 q3 (g := mkF m pc Ls (argsL.reverse ++ .ref a :: rest)) rfl (hsz.trans c3.symm) (Steps.refl _) (argsL := argsL) (rest := rest) (lenOf hpd hlen) rfl hW (hb c2 hd) (fun _ _ => ⟨has, rfl, hc, hs⟩)
  dsimp only [Pt.U, Pt.locs, Pt.cells, Pt.slots] at X' l1 l2 l3 st' hQ hS hg
  subst l1 l2 l3
  exact Go.move hN X' rfl (Fr.app hN hQ.2) (fun _ z => st'.trans z) (k v _ _ ⟨c1, c2, c3, State.Warmed39.trans (t := s0.setVm vm0) c4 hS.1, by show T'.vm.findClass own = _; rw [hS.1.alike.findClass]; exact c5, c6, c7⟩ ⟨T'.vm, T'.heap.size, rfl, b.trans hS (Nat.le_trans c' hg), Nat.le_refl _⟩ hQ.1)
theorem g_retVV (C : Cx p s m meth c Z code maxL own ret) (HW : Wv s0 s h) {pc : Nat} {Ls : Array Slot} {pc' : Nat} (hd : I1 code pc .return_ 1 pc') (hret : ret = none) (hck : ck ≤ K) (hcn : cn ≤ N) (hQ : Q none h) : Go p l e R s m args below meth c n0 (EV s0 n0 K N Q) h ck cn (mkF m pc Ls []) := by
  obtain ⟨hd, -⟩ := hd
  exact retV0 C.2.2.2.2.2.2 (fun _ => rfl) HW hck hcn hQ (fun T locs fs X hr => X.returnOut C.1 (C.2.2.2.2.2.1.trans hret) (hb C.2.1 hd) hr)
theorem g_retIntV (C : Cx p s m meth c Z code maxL own ret) (HW : Wv s0 s h) {pc : Nat} {Ls : Array Slot} {pc' : Nat} {st : List Value} {z : Int32} (hd : I1 code pc .ireturn 1 pc') (hret : ret = some .int) (hck : ck ≤ K) (hcn : cn ≤ N) (hQ : Q (some (.int z)) h) : Go p l e R s m args below meth c n0 (EV s0 n0 K N Q) h ck cn (mkF m pc Ls (.int z :: st)) := by
  obtain ⟨hd, -⟩ := hd
  have hr' := C.2.2.2.2.2.1.trans hret
  exact retV0 C.2.2.2.2.2.2 (fun q => by rw [hr'] at q; cases q) HW hck hcn hQ (fun T locs fs X hr => retOut X C.1 hr' rfl (Or.inl ⟨rfl, Or.inl rfl, z, rfl⟩) (hb C.2.1 hd) hr)
theorem g_retRefV (C : Cx p s m meth c Z code maxL own ret) (HW : Wv s0 s h) {pc : Nat} {Ls : Array Slot} {pc' : Nat} {st : List Value} {v : Value} {t : FieldType} (hd : I1 code pc .areturn 1 pc') (hret : ret = some t) (ht : t.isReference = true) (hv : v.isRef = true) (hck : ck ≤ K) (hcn : cn ≤ N) (hQ : Q (some (v)) h) : Go p l e R s m args below meth c n0 (EV s0 n0 K N Q) h ck cn (mkF m pc Ls (v :: st)) := by
  obtain ⟨hd, -⟩ := hd
  have hr' := C.2.2.2.2.2.1.trans hret
  exact retV0 C.2.2.2.2.2.2 (fun q => by rw [hr'] at q; cases q) HW hck hcn hQ (fun T locs fs X hr => retOut X C.1 hr' (nar_ref hv) (Or.inr (Or.inr (Or.inr (Or.inr ⟨rfl, ht, hv⟩)))) (hb C.2.1 hd) hr)
theorem g_retNarV (C : Cx p s m meth c Z code maxL own ret) (HW : Wv s0 s h) {pc : Nat} {Ls : Array Slot} {pc' : Nat} {st : List Value} {z : Int32} {t : FieldType} (hd : I1 code pc .ireturn 1 pc') (hret : ret = some t) (ht : t = .boolean ∨ t = .byte ∨ t = .char ∨ t = .short) (hck : ck ≤ K) (hcn : cn ≤ N) (hQ : Q (some (.int (nar t z))) h) : Go p l e R s m args below meth c n0 (EV s0 n0 K N Q) h ck cn (mkF m pc Ls (.int z :: st)) := by
  obtain ⟨hd, -⟩ := hd
  have hr' := C.2.2.2.2.2.1.trans hret
  exact retV0 C.2.2.2.2.2.2 (fun q => by rw [hr'] at q; cases q) HW hck hcn hQ (fun T locs fs X hr => retN X C.1 hr' ht (hb C.2.1 hd) hr)
/-- the same entry again -/
theorem g_ldcA (C : Cx p s m meth c Z code maxL own ret) {pc pc' : Nat} {Ls : Array Slot} {st : List Value} {text : String} {index : Nat} {a : Addr} (HW : Wv s0 s h) (hd : I1 code pc (.ldc index) 2 pc') (w : (Cond.stringLink own index text).before a0 Z = true) (L : Lit s own index a)
    (k : Go p l e R s m args below meth c n0 FE h ck cn (mkF m pc' Ls (.ref a :: st))) : Go p l e R s m args below meth c n0 FE h ck cn (mkF m pc Ls st) := by
  obtain ⟨hd, rfl⟩ := hd
  obtain ⟨vm0, k0, rfl, b, c'⟩ := HW
  exact Go.step (fun T locs X eT t k => ldcAgain X C.1 C.2.2.2.1 C.2.2.2.2.1 w L (g := mkF m pc Ls st) rfl (hb C.2.1 hd) _ k) k
theorem Safe.av {vm : Vm} {x : Addr} {ty : FieldType} {n : Nat} {f : Nat → Value} (hal : Z.vm.Alike vm) (F : AV Z h x ty n f) (ht : ty ≠ .byte) : Safe Z EL vm h x := by
  obtain ⟨cl, A, -⟩ := F; exact Jvm.RoadKit.Safe.arr hal A ht
end

end Jvm.OwnGo
namespace Jvm.OwnGo
open Jvm.RoadKit
theorem nar_b (x : Int32) : nar .boolean x = x &&& 1 := rfl
theorem nbT {P : Prop} [Decidable P] : nar .boolean (if P then (1 : Int32) else (0 : Int32)) = 1 ↔ P := by
  by_cases h : P
  · simp only [if_pos h]; exact ⟨fun _ => h, fun _ => rfl⟩
  · simp only [if_neg h]; exact ⟨fun q => absurd q (by decide), fun q => absurd q h⟩
theorem own_nat {i : Nat} (h : i < 2147483648) : i.toInt32.toInt = i := len_toInt h
theorem own_cl {i : Nat} (h : i < 2147483648) : i.toInt32.toNatClampNeg = i := by simp only [Int32.toNatClampNeg, own_nat h]; omega
theorem own_lt {i n : Nat} (hi : i < 2147483648) (hn : n < 2147483648) : i.toInt32 < n.toInt32 ↔ i < n := by
  rw [Int32.lt_iff_toInt_lt, own_nat hi, own_nat hn]; omega
theorem own_inN {i n : Nat} (hi : i < 2147483648) (h : i < n) : Inb i.toInt32 n := inb_int (by rw [own_nat hi]; omega) (by rw [own_nat hi]; omega)
theorem own_rd {α : Type} (F : Nat → α) {i : Nat} (h : i < 2147483648) : F i.toInt32.toNatClampNeg = F i := by rw [own_cl h]
theorem own_succ {i : Nat} (h : i < 2147483647) : i.toInt32 + (1 : Int32) = (i + 1).toInt32 := by
  rw [← Int32.toInt_inj]
  have h1 := c_iadd i.toInt32 1
  have h2 := rng32 (i.toInt32 + 1)
  have h3 : (1 : Int32).toInt = 1 := rfl
  rw [own_nat (by omega), h3] at h1
  rw [own_nat (by omega)]
  omega
theorem AV.small {Z : State} {h : Heap} {a : Addr} {ty : ClassFile.FieldType} {n : Nat} {f : Nat → Value} (V : AV Z h a ty n f) : n < 2147483648 := by
  obtain ⟨c, -, -, r, -⟩ := V; exact r
theorem own_inb {Z : State} {h : Heap} {a : Addr} {ty : ClassFile.FieldType} {n : Nat} {f : Nat → Value} (V : AV Z h a ty n f) {j : Int32} (h0 : ¬ (j < (0 : Int32))) (h1 : j < n.toInt32) : Inb j n := by
  have hn := V.small
  have e0 : (0 : Int32).toInt = 0 := rfl
  rw [Int32.lt_iff_toInt_lt] at h0 h1
  rw [own_nat hn] at h1
  exact inb_int (by omega) (by omega)
end Jvm.OwnGo
namespace Jvm.Pilot.@@N@@
open Jvm Jvm.ClassFile Sem Op Lib Jvm.Free Jvm.Stand Jvm.LawKit Jvm.RoadKit Bundle Jvm.Pilot.@@N@@.Jvm.D
open Jvm.OwnGo
theorem own_EWL {Z : State} {aZ : Array Value} (hw : ∀ d ∈ tables_1, d.before aZ Z = true) : EW Z aZ consts_1 := (EW.cons (hw _ (List.mem_of_getElem? (i := 29) rfl)) (by decide) (EW.cons (hw _ (List.mem_of_getElem? (i := 21) rfl)) (by decide) (EW.cons (hw _ (List.mem_of_getElem? (i := 36) rfl)) (by decide) (EW.cons (hw _ (List.mem_of_getElem? (i := 30) rfl)) (by decide) EW.nil))))
theorem own_wS {Z : State} {aZ : Array Value} (hw : ∀ d ∈ tables_1, d.before aZ Z = true) : ∀ a ∈ Bundle.stringAtoms, a.before aZ Z = true := by
  intro d hd
  simp only [Bundle.stringAtoms, List.mem_cons, List.not_mem_nil, or_false] at hd
  rcases hd with rfl | rfl | rfl | rfl | rfl | rfl | rfl <;> first | exact (hw _ (List.mem_of_getElem? (i := 22) rfl)) | exact (hw _ (List.mem_of_getElem? (i := 23) rfl)) | exact (hw _ (List.mem_of_getElem? (i := 24) rfl)) | exact (hw _ (List.mem_of_getElem? (i := 25) rfl)) | exact (hw _ (List.mem_of_getElem? (i := 26) rfl)) | exact (hw _ (List.mem_of_getElem? (i := 27) rfl)) | exact (hw _ (List.mem_of_getElem? (i := 28) rfl))
theorem own_neS {Z : State} {h : Heap} {a a' b1 b2 : Addr} {O f d : String} {t : FieldType} {n1 n2 : Nat} {f1 f2 : Nat → Value} (F1 : Fld Z h a O f d (.ref b1)) (F2 : Fld Z h a' O f d (.ref b2)) (V1 : AV Z h b1 t n1 f1) (V2 : AV Z h b2 t n2 f2) (hn : n1 ≠ n2) : a ≠ a' := by
  rintro rfl
  obtain ⟨c1, cf1, k1, i1, g1, q1, q2, -, -, -, -, q3⟩ := F1
  obtain ⟨c2, cf2, k2, i2, g2, r1, r2, -, -, -, -, r3⟩ := F2
  cases q1.symm.trans r1
  cases q2.symm.trans r2
  cases q3.symm.trans r3
  obtain ⟨x1, A1, s1, -⟩ := V1
  obtain ⟨x2, A2, s2, -⟩ := V2
  cases A1.1.symm.trans A2.1
  exact hn (s1.symm.trans s2)
def own_tx0 (ix : Nat) : Int32 := ([84, 82, 85, 69] : List Int32).getD ix 0
def own_tx1 (ix : Nat) : Int32 := ([70, 65, 76, 83, 69] : List Int32).getD ix 0
theorem pn0 : plainFor (⟨"java/lang/StringLatin1", "equals", "([B[B)Z"⟩ : MethodName) = true := by decide +kernel
theorem iL0_0 : I1 jdk_43_method_13_code 0 (.aload_n 0) 1 1 := ⟨(by decide +kernel), rfl⟩
theorem iL0_1 : I1 jdk_43_method_13_code 1 (.arraylength) 1 2 := ⟨(by decide +kernel), rfl⟩
theorem iL0_2 : I1 jdk_43_method_13_code 2 (.aload_n 1) 1 3 := ⟨(by decide +kernel), rfl⟩
theorem iL0_3 : I1 jdk_43_method_13_code 3 (.arraylength) 1 4 := ⟨(by decide +kernel), rfl⟩
theorem iL0_4 : B1 jdk_43_method_13_code 4 (.if_icmp .ne 30) 30 34 7 := ⟨(by decide +kernel), rfl, by decide, by decide⟩
theorem iL0_7 : I1 jdk_43_method_13_code 7 (.iconst 0) 1 8 := ⟨(by decide +kernel), rfl⟩
theorem iL0_8 : I1 jdk_43_method_13_code 8 (.istore_n 2) 1 9 := ⟨(by decide +kernel), rfl⟩
theorem iL0_9 : I1 jdk_43_method_13_code 9 (.iload_n 2) 1 10 := ⟨(by decide +kernel), rfl⟩
theorem iL0_10 : I1 jdk_43_method_13_code 10 (.aload_n 0) 1 11 := ⟨(by decide +kernel), rfl⟩
theorem iL0_11 : I1 jdk_43_method_13_code 11 (.arraylength) 1 12 := ⟨(by decide +kernel), rfl⟩
theorem iL0_12 : B1 jdk_43_method_13_code 12 (.if_icmp .ge 20) 20 32 15 := ⟨(by decide +kernel), rfl, by decide, by decide⟩
theorem iL0_15 : I1 jdk_43_method_13_code 15 (.aload_n 0) 1 16 := ⟨(by decide +kernel), rfl⟩
theorem iL0_16 : I1 jdk_43_method_13_code 16 (.iload_n 2) 1 17 := ⟨(by decide +kernel), rfl⟩
theorem iL0_17 : I1 jdk_43_method_13_code 17 (.baload) 1 18 := ⟨(by decide +kernel), rfl⟩
theorem iL0_18 : I1 jdk_43_method_13_code 18 (.aload_n 1) 1 19 := ⟨(by decide +kernel), rfl⟩
theorem iL0_19 : I1 jdk_43_method_13_code 19 (.iload_n 2) 1 20 := ⟨(by decide +kernel), rfl⟩
theorem iL0_20 : I1 jdk_43_method_13_code 20 (.baload) 1 21 := ⟨(by decide +kernel), rfl⟩
theorem iL0_21 : B1 jdk_43_method_13_code 21 (.if_icmp .eq 5) 5 26 24 := ⟨(by decide +kernel), rfl, by decide, by decide⟩
theorem iL0_26 : I1 jdk_43_method_13_code 26 (.iinc 2 1) 3 29 := ⟨(by decide +kernel), rfl⟩
theorem iL0_29 : B1 jdk_43_method_13_code 29 (.goto (-20)) (-20) 9 32 := ⟨(by decide +kernel), rfl, by decide, by decide⟩
theorem iL0_32 : I1 jdk_43_method_13_code 32 (.iconst 1) 1 33 := ⟨(by decide +kernel), rfl⟩
theorem iL0_33 : I1 jdk_43_method_13_code 33 (.ireturn) 1 34 := ⟨(by decide +kernel), rfl⟩
theorem efL0 (m : MethodId) (a0 : Addr) (a1 : Addr) : entryFrame m #[(.ref a0), (.ref a1)] 3 = mkF m 0 #[.val (.ref a0), .val (.ref a1), .unset] [] := by first | (simp [entryFrame, mkF, argsToLocals, Value.category]; done) | rfl
def QL0 (Z : State) (a0 : Addr) (a1 : Addr) (h0 : Heap) (n0 : Nat) (v : Option Value) (h : Heap) : Prop := v = some (.int (1 : Int32)) ∧ h = h0
set_option maxRecDepth 65536 in
set_option maxHeartbeats 40000000 in
theorem rmL0 (l : Launch) (Z : State) (aZ : Array Value) (hw : ∀ d ∈ tables_1, d.before aZ Z = true) (a0 : Addr) (a1 : Addr) (h0 : Heap) (n0 : Nat) (Z0 : n0 ≤ h0.size) (V_a0 : AV Z h0 a0 .byte 4 (fun ix => .int (own_tx0 ix))) (V_a1 : AV Z h0 a1 .byte 4 (fun ix => .int (own_tx0 ix))) :
    Ctr l Z (⟨"java/lang/StringLatin1", "equals", "([B[B)Z"⟩ : MethodName) jdk_43_method_13_code 3 (some .boolean) ({ frames := 0, cells := 0, slots := 0, locals := 0 } : Room) #[(.ref a0), (.ref a1)] h0 n0 (QL0 Z a0 a1 h0 n0) := by
  refine Ctr.of_go pn0 (fun m => efL0 m a0 a1) ?_
  intro p e s m below meth c hnm C
  refine g_aloadN C iL0_0 rfl rfl ?_
  refine g_alen C (4 : Int32) iL0_1 V_a0 rfl ?_
  refine g_aloadN C iL0_2 rfl rfl ?_
  refine g_alen C (4 : Int32) iL0_3 V_a1 rfl ?_
  refine g_icmp_ne C iL0_4 (fun _ => ?_) (fun q => absurd (by decide) q)
  refine g_iconst C (0 : Int32) iL0_7 rfl ?_
  refine g_istoreN C (Ls' := #[.val (.ref a0), .val (.ref a1), .val (.int (0 : Int32))]) iL0_8 rfl ?_
  refine g_iloadN C iL0_9 rfl ?_
  refine g_aloadN C iL0_10 rfl rfl ?_
  refine g_alen C (4 : Int32) iL0_11 V_a0 rfl ?_
  refine g_icmp_ge C iL0_12 (fun _ => ?_) (fun q => absurd (by decide) q)
  refine g_aloadN C iL0_15 rfl rfl ?_
  refine g_iloadN C iL0_16 rfl ?_
  refine g_bald C (.int (84 : Int32)) iL0_17 V_a0 ⟨by decide, by decide⟩ rfl ?_
  refine g_aloadN C iL0_18 rfl rfl ?_
  refine g_iloadN C iL0_19 rfl ?_
  refine g_bald C (.int (84 : Int32)) iL0_20 V_a1 ⟨by decide, by decide⟩ rfl ?_
  refine g_icmp_eq C iL0_21 (fun _ => ?_) (fun q => absurd (by decide) q)
  refine g_iinc C (Ls' := #[.val (.ref a0), .val (.ref a1), .val (.int (1 : Int32))]) iL0_26 rfl rfl ?_
  refine g_goto C iL0_29 ?_
  refine g_iloadN C iL0_9 rfl ?_
  refine g_aloadN C iL0_10 rfl rfl ?_
  refine g_alen C (4 : Int32) iL0_11 V_a0 rfl ?_
  refine g_icmp_ge C iL0_12 (fun _ => ?_) (fun q => absurd (by decide) q)
  refine g_aloadN C iL0_15 rfl rfl ?_
  refine g_iloadN C iL0_16 rfl ?_
  refine g_bald C (.int (82 : Int32)) iL0_17 V_a0 ⟨by decide, by decide⟩ rfl ?_
  refine g_aloadN C iL0_18 rfl rfl ?_
  refine g_iloadN C iL0_19 rfl ?_
  refine g_bald C (.int (82 : Int32)) iL0_20 V_a1 ⟨by decide, by decide⟩ rfl ?_
  refine g_icmp_eq C iL0_21 (fun _ => ?_) (fun q => absurd (by decide) q)
  refine g_iinc C (Ls' := #[.val (.ref a0), .val (.ref a1), .val (.int (2 : Int32))]) iL0_26 rfl rfl ?_
  refine g_goto C iL0_29 ?_
  refine g_iloadN C iL0_9 rfl ?_
  refine g_aloadN C iL0_10 rfl rfl ?_
  refine g_alen C (4 : Int32) iL0_11 V_a0 rfl ?_
  refine g_icmp_ge C iL0_12 (fun _ => ?_) (fun q => absurd (by decide) q)
  refine g_aloadN C iL0_15 rfl rfl ?_
  refine g_iloadN C iL0_16 rfl ?_
  refine g_bald C (.int (85 : Int32)) iL0_17 V_a0 ⟨by decide, by decide⟩ rfl ?_
  refine g_aloadN C iL0_18 rfl rfl ?_
  refine g_iloadN C iL0_19 rfl ?_
  refine g_bald C (.int (85 : Int32)) iL0_20 V_a1 ⟨by decide, by decide⟩ rfl ?_
  refine g_icmp_eq C iL0_21 (fun _ => ?_) (fun q => absurd (by decide) q)
  refine g_iinc C (Ls' := #[.val (.ref a0), .val (.ref a1), .val (.int (3 : Int32))]) iL0_26 rfl rfl ?_
  refine g_goto C iL0_29 ?_
  refine g_iloadN C iL0_9 rfl ?_
  refine g_aloadN C iL0_10 rfl rfl ?_
  refine g_alen C (4 : Int32) iL0_11 V_a0 rfl ?_
  refine g_icmp_ge C iL0_12 (fun _ => ?_) (fun q => absurd (by decide) q)
  refine g_aloadN C iL0_15 rfl rfl ?_
  refine g_iloadN C iL0_16 rfl ?_
  refine g_bald C (.int (69 : Int32)) iL0_17 V_a0 ⟨by decide, by decide⟩ rfl ?_
  refine g_aloadN C iL0_18 rfl rfl ?_
  refine g_iloadN C iL0_19 rfl ?_
  refine g_bald C (.int (69 : Int32)) iL0_20 V_a1 ⟨by decide, by decide⟩ rfl ?_
  refine g_icmp_eq C iL0_21 (fun _ => ?_) (fun q => absurd (by decide) q)
  refine g_iinc C (Ls' := #[.val (.ref a0), .val (.ref a1), .val (.int (4 : Int32))]) iL0_26 rfl rfl ?_
  refine g_goto C iL0_29 ?_
  refine g_iloadN C iL0_9 rfl ?_
  refine g_aloadN C iL0_10 rfl rfl ?_
  refine g_alen C (4 : Int32) iL0_11 V_a0 rfl ?_
  refine g_icmp_ge C iL0_12 (fun q => absurd q (by decide)) (fun _ => ?_)
  refine g_iconst C (1 : Int32) iL0_32 rfl ?_
  exact g_retNar C (t := .boolean) iL0_33 rfl (by simp) (by decide) (by decide) ⟨rfl, rfl⟩
theorem pd0 : parseMethodDescriptor "([B[B)Z" = some ⟨[(.array .byte), (.array .byte)], some .boolean⟩ := by decide +kernel
theorem pn1 : plainFor (⟨"java/lang/String", "equals", "(Ljava/lang/Object;)Z"⟩ : MethodName) = true := by decide +kernel
theorem iE0_0 : I1 jdk_42_method_66_code 0 (.aload_n 0) 1 1 := ⟨(by decide +kernel), rfl⟩
theorem iE0_1 : I1 jdk_42_method_66_code 1 (.aload_n 1) 1 2 := ⟨(by decide +kernel), rfl⟩
theorem iE0_2 : B1 jdk_42_method_66_code 2 (.if_acmp .ne 5) 5 7 5 := ⟨(by decide +kernel), rfl, by decide, by decide⟩
theorem iE0_5 : I1 jdk_42_method_66_code 5 (.iconst 1) 1 6 := ⟨(by decide +kernel), rfl⟩
theorem iE0_6 : I1 jdk_42_method_66_code 6 (.ireturn) 1 7 := ⟨(by decide +kernel), rfl⟩
theorem iE0_7 : I1 jdk_42_method_66_code 7 (.aload_n 1) 1 8 := ⟨(by decide +kernel), rfl⟩
theorem iE0_8 : I1 jdk_42_method_66_code 8 (.instanceof 10) 3 11 := ⟨(by decide +kernel), rfl⟩
theorem iE0_11 : B1 jdk_42_method_66_code 11 (.ifCond .eq 43) 43 54 14 := ⟨(by decide +kernel), rfl, by decide, by decide⟩
theorem iE0_14 : I1 jdk_42_method_66_code 14 (.aload_n 1) 1 15 := ⟨(by decide +kernel), rfl⟩
theorem iE0_15 : I1 jdk_42_method_66_code 15 (.checkcast 10) 3 18 := ⟨(by decide +kernel), rfl⟩
theorem iE0_18 : I1 jdk_42_method_66_code 18 (.astore_n 2) 1 19 := ⟨(by decide +kernel), rfl⟩
theorem iE0_19 : I1 jdk_42_method_66_code 19 (.getstatic 38) 3 22 := ⟨(by decide +kernel), rfl⟩
theorem iE0_22 : B1 jdk_42_method_66_code 22 (.ifCond .eq 14) 14 36 25 := ⟨(by decide +kernel), rfl, by decide, by decide⟩
theorem iE0_25 : I1 jdk_42_method_66_code 25 (.aload_n 0) 1 26 := ⟨(by decide +kernel), rfl⟩
theorem iE0_26 : I1 jdk_42_method_66_code 26 (.getfield 15) 3 29 := ⟨(by decide +kernel), rfl⟩
theorem iE0_29 : I1 jdk_42_method_66_code 29 (.aload_n 2) 1 30 := ⟨(by decide +kernel), rfl⟩
theorem iE0_30 : I1 jdk_42_method_66_code 30 (.getfield 15) 3 33 := ⟨(by decide +kernel), rfl⟩
theorem iE0_33 : B1 jdk_42_method_66_code 33 (.if_icmp .ne 21) 21 54 36 := ⟨(by decide +kernel), rfl, by decide, by decide⟩
theorem iE0_36 : I1 jdk_42_method_66_code 36 (.aload_n 0) 1 37 := ⟨(by decide +kernel), rfl⟩
theorem iE0_37 : I1 jdk_42_method_66_code 37 (.getfield 9) 3 40 := ⟨(by decide +kernel), rfl⟩
theorem iE0_40 : I1 jdk_42_method_66_code 40 (.aload_n 2) 1 41 := ⟨(by decide +kernel), rfl⟩
theorem iE0_41 : I1 jdk_42_method_66_code 41 (.getfield 9) 3 44 := ⟨(by decide +kernel), rfl⟩
theorem iE0_44 : I1 jdk_42_method_66_code 44 (.invokestatic 541) 3 47 := ⟨(by decide +kernel), rfl⟩
theorem iE0_47 : B1 jdk_42_method_66_code 47 (.ifCond .eq 7) 7 54 50 := ⟨(by decide +kernel), rfl, by decide, by decide⟩
theorem iE0_50 : I1 jdk_42_method_66_code 50 (.iconst 1) 1 51 := ⟨(by decide +kernel), rfl⟩
theorem iE0_51 : B1 jdk_42_method_66_code 51 (.goto 4) 4 55 54 := ⟨(by decide +kernel), rfl, by decide, by decide⟩
theorem iE0_55 : I1 jdk_42_method_66_code 55 (.ireturn) 1 56 := ⟨(by decide +kernel), rfl⟩
theorem efE0 (m : MethodId) (a0 : Addr) (a1 : Addr) : entryFrame m #[(.ref a0), (.ref a1)] 3 = mkF m 0 #[.val (.ref a0), .val (.ref a1), .unset] [] := by first | (simp [entryFrame, mkF, argsToLocals, Value.category]; done) | rfl
def QE0 (Z : State) (a0 : Addr) (a1 : Addr) (b0 : Addr) (b1 : Addr) (cs : Int32) (h0 : Heap) (n0 : Nat) (v : Option Value) (h : Heap) : Prop := v = some (.int (1 : Int32)) ∧ h = h0
set_option maxRecDepth 65536 in
set_option maxHeartbeats 40000000 in
theorem rmE0 (l : Launch) (Z : State) (aZ : Array Value) (hw : ∀ d ∈ tables_1, d.before aZ Z = true) (a0 : Addr) (a1 : Addr) (b0 : Addr) (b1 : Addr) (cs : Int32) (h0 : Heap) (n0 : Nat) (Z0 : n0 ≤ h0.size) (E_a0 : Exa Z h0 a0 "java/lang/String") (C_a0 : Fld Z h0 a0 "java/lang/String" "coder" "B" (.int (0 : Int32))) (W_a0 : Fld Z h0 a0 "java/lang/String" "value" "[B" (.ref b0)) (V_b0 : AV Z h0 b0 .byte 4 (fun ix => .int (own_tx0 ix))) (E_a1 : Exa Z h0 a1 "java/lang/String") (C_a1 : Fld Z h0 a1 "java/lang/String" "coder" "B" (.int (0 : Int32))) (W_a1 : Fld Z h0 a1 "java/lang/String" "value" "[B" (.ref b1)) (V_b1 : AV Z h0 b1 .byte 4 (fun ix => .int (own_tx0 ix))) (OLD : Old Z n0 h0) (S_c : Sta Z Z.heap "java/lang/String" "COMPACT_STRINGS" "Z" (.int cs)) (hcs : ¬ (cs = (0 : Int32))) :
    Ctr l Z (⟨"java/lang/String", "equals", "(Ljava/lang/Object;)Z"⟩ : MethodName) jdk_42_method_66_code 3 (some .boolean) ({ frames := 1, cells := 0, slots := 0, locals := 14 } : Room) #[(.ref a0), (.ref a1)] h0 n0 (QE0 Z a0 a1 b0 b1 cs h0 n0) := by
  refine Ctr.of_go pn1 (fun m => efE0 m a0 a1) ?_
  intro p e s m below meth c hnm C
  refine g_aloadN C iE0_0 rfl rfl ?_
  refine g_aloadN C iE0_1 rfl rfl ?_
  refine g_acmp_ne C rfl rfl iE0_2 (fun ha2 => ?_) (fun ha2 => ?_)
  · refine g_iconst C (1 : Int32) iE0_5 rfl ?_
    exact g_retNar C (t := .boolean) iE0_6 rfl (by simp) (by decide) (by decide) ⟨rfl, rfl⟩
  · refine g_aloadN C iE0_7 rfl rfl ?_
    refine g_instY C iE0_8 (hw _ (List.mem_of_getElem? (i := 37) rfl)) (Ins.self E_a1) ?_
    refine g_if_eq C iE0_11 (fun q => absurd q (by decide)) (fun _ => ?_)
    refine g_aloadN C iE0_14 rfl rfl ?_
    refine g_castY C iE0_15 (hw _ (List.mem_of_getElem? (i := 37) rfl)) (Ins.self E_a1) ?_
    refine g_astoreN C (Ls' := #[.val (.ref a0), .val (.ref a1), .val (.ref a1)]) iE0_18 rfl rfl ?_
    refine g_getS C iE0_19 (host := "") (Or.inl (hw _ (List.mem_of_getElem? (i := 39) rfl))) Via.refl (Sta.ext OLD.2 S_c) ?_
    refine g_if_eq C iE0_22 (fun q => absurd q hcs) (fun _ => ?_)
    refine g_aloadN C iE0_25 rfl rfl ?_
    refine g_getF C iE0_26 (host := "") (Or.inl (hw _ (List.mem_of_getElem? (i := 40) rfl))) Via.refl C_a0 ?_
    refine g_aloadN C iE0_29 rfl rfl ?_
    refine g_getF C iE0_30 (host := "") (Or.inl (hw _ (List.mem_of_getElem? (i := 40) rfl))) Via.refl C_a1 ?_
    refine g_icmp_ne C iE0_33 (fun _ => ?_) (fun q => absurd (by decide) q)
    refine g_aloadN C iE0_36 rfl rfl ?_
    refine g_getF C iE0_37 (host := "") (Or.inl (hw _ (List.mem_of_getElem? (i := 41) rfl))) Via.refl W_a0 ?_
    refine g_aloadN C iE0_40 rfl rfl ?_
    refine g_getF C iE0_41 (host := "") (Or.inl (hw _ (List.mem_of_getElem? (i := 41) rfl))) Via.refl W_a1 ?_
    refine g_callS C (rmL0 l Z aZ hw b0 b1 h0 n0 Z0 V_b0 V_b1) iE0_44 (hw _ (List.mem_of_getElem? (i := 42) rfl)) (hw _ (List.mem_of_getElem? (i := 43) rfl)) (hw _ (List.mem_of_getElem? (i := 44) rfl)) (hw _ (List.mem_of_getElem? (i := 45) rfl)) (by decide) (argsL := [(.ref b0), (.ref b1)]) (rest := []) rfl rfl pd0 rfl rfl 0 (Nat.le_of_eq rfl) (by decide) (by decide) (by decide) (by decide) rfl rfl ?_
    rintro _ _ ⟨rfl, he1⟩
    refine Go.heap he1.symm ?_
    refine Go.some' ?_
    refine g_if_eq C iE0_47 (fun q => absurd q (by decide)) (fun _ => ?_)
    refine g_iconst C (1 : Int32) iE0_50 rfl ?_
    refine g_goto C iE0_51 ?_
    exact g_retNar C (t := .boolean) iE0_55 rfl (by simp) (by decide) (by decide) ⟨rfl, rfl⟩
theorem iL1_0 : I1 jdk_43_method_13_code 0 (.aload_n 0) 1 1 := ⟨(by decide +kernel), rfl⟩
theorem iL1_1 : I1 jdk_43_method_13_code 1 (.arraylength) 1 2 := ⟨(by decide +kernel), rfl⟩
theorem iL1_2 : I1 jdk_43_method_13_code 2 (.aload_n 1) 1 3 := ⟨(by decide +kernel), rfl⟩
theorem iL1_3 : I1 jdk_43_method_13_code 3 (.arraylength) 1 4 := ⟨(by decide +kernel), rfl⟩
theorem iL1_4 : B1 jdk_43_method_13_code 4 (.if_icmp .ne 30) 30 34 7 := ⟨(by decide +kernel), rfl, by decide, by decide⟩
theorem iL1_7 : I1 jdk_43_method_13_code 7 (.iconst 0) 1 8 := ⟨(by decide +kernel), rfl⟩
theorem iL1_8 : I1 jdk_43_method_13_code 8 (.istore_n 2) 1 9 := ⟨(by decide +kernel), rfl⟩
theorem iL1_9 : I1 jdk_43_method_13_code 9 (.iload_n 2) 1 10 := ⟨(by decide +kernel), rfl⟩
theorem iL1_10 : I1 jdk_43_method_13_code 10 (.aload_n 0) 1 11 := ⟨(by decide +kernel), rfl⟩
theorem iL1_11 : I1 jdk_43_method_13_code 11 (.arraylength) 1 12 := ⟨(by decide +kernel), rfl⟩
theorem iL1_12 : B1 jdk_43_method_13_code 12 (.if_icmp .ge 20) 20 32 15 := ⟨(by decide +kernel), rfl, by decide, by decide⟩
theorem iL1_15 : I1 jdk_43_method_13_code 15 (.aload_n 0) 1 16 := ⟨(by decide +kernel), rfl⟩
theorem iL1_16 : I1 jdk_43_method_13_code 16 (.iload_n 2) 1 17 := ⟨(by decide +kernel), rfl⟩
theorem iL1_17 : I1 jdk_43_method_13_code 17 (.baload) 1 18 := ⟨(by decide +kernel), rfl⟩
theorem iL1_18 : I1 jdk_43_method_13_code 18 (.aload_n 1) 1 19 := ⟨(by decide +kernel), rfl⟩
theorem iL1_19 : I1 jdk_43_method_13_code 19 (.iload_n 2) 1 20 := ⟨(by decide +kernel), rfl⟩
theorem iL1_20 : I1 jdk_43_method_13_code 20 (.baload) 1 21 := ⟨(by decide +kernel), rfl⟩
theorem iL1_21 : B1 jdk_43_method_13_code 21 (.if_icmp .eq 5) 5 26 24 := ⟨(by decide +kernel), rfl, by decide, by decide⟩
theorem iL1_26 : I1 jdk_43_method_13_code 26 (.iinc 2 1) 3 29 := ⟨(by decide +kernel), rfl⟩
theorem iL1_29 : B1 jdk_43_method_13_code 29 (.goto (-20)) (-20) 9 32 := ⟨(by decide +kernel), rfl, by decide, by decide⟩
theorem iL1_32 : I1 jdk_43_method_13_code 32 (.iconst 1) 1 33 := ⟨(by decide +kernel), rfl⟩
theorem iL1_33 : I1 jdk_43_method_13_code 33 (.ireturn) 1 34 := ⟨(by decide +kernel), rfl⟩
theorem efL1 (m : MethodId) (a0 : Addr) (a1 : Addr) : entryFrame m #[(.ref a0), (.ref a1)] 3 = mkF m 0 #[.val (.ref a0), .val (.ref a1), .unset] [] := by first | (simp [entryFrame, mkF, argsToLocals, Value.category]; done) | rfl
def QL1 (Z : State) (a0 : Addr) (a1 : Addr) (h0 : Heap) (n0 : Nat) (v : Option Value) (h : Heap) : Prop := v = some (.int (1 : Int32)) ∧ h = h0
set_option maxRecDepth 65536 in
set_option maxHeartbeats 40000000 in
theorem rmL1 (l : Launch) (Z : State) (aZ : Array Value) (hw : ∀ d ∈ tables_1, d.before aZ Z = true) (a0 : Addr) (a1 : Addr) (h0 : Heap) (n0 : Nat) (Z0 : n0 ≤ h0.size) (V_a0 : AV Z h0 a0 .byte 5 (fun ix => .int (own_tx1 ix))) (V_a1 : AV Z h0 a1 .byte 5 (fun ix => .int (own_tx1 ix))) :
    Ctr l Z (⟨"java/lang/StringLatin1", "equals", "([B[B)Z"⟩ : MethodName) jdk_43_method_13_code 3 (some .boolean) ({ frames := 0, cells := 0, slots := 0, locals := 0 } : Room) #[(.ref a0), (.ref a1)] h0 n0 (QL1 Z a0 a1 h0 n0) := by
  refine Ctr.of_go pn0 (fun m => efL1 m a0 a1) ?_
  intro p e s m below meth c hnm C
  refine g_aloadN C iL1_0 rfl rfl ?_
  refine g_alen C (5 : Int32) iL1_1 V_a0 rfl ?_
  refine g_aloadN C iL1_2 rfl rfl ?_
  refine g_alen C (5 : Int32) iL1_3 V_a1 rfl ?_
  refine g_icmp_ne C iL1_4 (fun _ => ?_) (fun q => absurd (by decide) q)
  refine g_iconst C (0 : Int32) iL1_7 rfl ?_
  refine g_istoreN C (Ls' := #[.val (.ref a0), .val (.ref a1), .val (.int (0 : Int32))]) iL1_8 rfl ?_
  refine g_iloadN C iL1_9 rfl ?_
  refine g_aloadN C iL1_10 rfl rfl ?_
  refine g_alen C (5 : Int32) iL1_11 V_a0 rfl ?_
  refine g_icmp_ge C iL1_12 (fun _ => ?_) (fun q => absurd (by decide) q)
  refine g_aloadN C iL1_15 rfl rfl ?_
  refine g_iloadN C iL1_16 rfl ?_
  refine g_bald C (.int (70 : Int32)) iL1_17 V_a0 ⟨by decide, by decide⟩ rfl ?_
  refine g_aloadN C iL1_18 rfl rfl ?_
  refine g_iloadN C iL1_19 rfl ?_
  refine g_bald C (.int (70 : Int32)) iL1_20 V_a1 ⟨by decide, by decide⟩ rfl ?_
  refine g_icmp_eq C iL1_21 (fun _ => ?_) (fun q => absurd (by decide) q)
  refine g_iinc C (Ls' := #[.val (.ref a0), .val (.ref a1), .val (.int (1 : Int32))]) iL1_26 rfl rfl ?_
  refine g_goto C iL1_29 ?_
  refine g_iloadN C iL1_9 rfl ?_
  refine g_aloadN C iL1_10 rfl rfl ?_
  refine g_alen C (5 : Int32) iL1_11 V_a0 rfl ?_
  refine g_icmp_ge C iL1_12 (fun _ => ?_) (fun q => absurd (by decide) q)
  refine g_aloadN C iL1_15 rfl rfl ?_
  refine g_iloadN C iL1_16 rfl ?_
  refine g_bald C (.int (65 : Int32)) iL1_17 V_a0 ⟨by decide, by decide⟩ rfl ?_
  refine g_aloadN C iL1_18 rfl rfl ?_
  refine g_iloadN C iL1_19 rfl ?_
  refine g_bald C (.int (65 : Int32)) iL1_20 V_a1 ⟨by decide, by decide⟩ rfl ?_
  refine g_icmp_eq C iL1_21 (fun _ => ?_) (fun q => absurd (by decide) q)
  refine g_iinc C (Ls' := #[.val (.ref a0), .val (.ref a1), .val (.int (2 : Int32))]) iL1_26 rfl rfl ?_
  refine g_goto C iL1_29 ?_
  refine g_iloadN C iL1_9 rfl ?_
  refine g_aloadN C iL1_10 rfl rfl ?_
  refine g_alen C (5 : Int32) iL1_11 V_a0 rfl ?_
  refine g_icmp_ge C iL1_12 (fun _ => ?_) (fun q => absurd (by decide) q)
  refine g_aloadN C iL1_15 rfl rfl ?_
  refine g_iloadN C iL1_16 rfl ?_
  refine g_bald C (.int (76 : Int32)) iL1_17 V_a0 ⟨by decide, by decide⟩ rfl ?_
  refine g_aloadN C iL1_18 rfl rfl ?_
  refine g_iloadN C iL1_19 rfl ?_
  refine g_bald C (.int (76 : Int32)) iL1_20 V_a1 ⟨by decide, by decide⟩ rfl ?_
  refine g_icmp_eq C iL1_21 (fun _ => ?_) (fun q => absurd (by decide) q)
  refine g_iinc C (Ls' := #[.val (.ref a0), .val (.ref a1), .val (.int (3 : Int32))]) iL1_26 rfl rfl ?_
  refine g_goto C iL1_29 ?_
  refine g_iloadN C iL1_9 rfl ?_
  refine g_aloadN C iL1_10 rfl rfl ?_
  refine g_alen C (5 : Int32) iL1_11 V_a0 rfl ?_
  refine g_icmp_ge C iL1_12 (fun _ => ?_) (fun q => absurd (by decide) q)
  refine g_aloadN C iL1_15 rfl rfl ?_
  refine g_iloadN C iL1_16 rfl ?_
  refine g_bald C (.int (83 : Int32)) iL1_17 V_a0 ⟨by decide, by decide⟩ rfl ?_
  refine g_aloadN C iL1_18 rfl rfl ?_
  refine g_iloadN C iL1_19 rfl ?_
  refine g_bald C (.int (83 : Int32)) iL1_20 V_a1 ⟨by decide, by decide⟩ rfl ?_
  refine g_icmp_eq C iL1_21 (fun _ => ?_) (fun q => absurd (by decide) q)
  refine g_iinc C (Ls' := #[.val (.ref a0), .val (.ref a1), .val (.int (4 : Int32))]) iL1_26 rfl rfl ?_
  refine g_goto C iL1_29 ?_
  refine g_iloadN C iL1_9 rfl ?_
  refine g_aloadN C iL1_10 rfl rfl ?_
  refine g_alen C (5 : Int32) iL1_11 V_a0 rfl ?_
  refine g_icmp_ge C iL1_12 (fun _ => ?_) (fun q => absurd (by decide) q)
  refine g_aloadN C iL1_15 rfl rfl ?_
  refine g_iloadN C iL1_16 rfl ?_
  refine g_bald C (.int (69 : Int32)) iL1_17 V_a0 ⟨by decide, by decide⟩ rfl ?_
  refine g_aloadN C iL1_18 rfl rfl ?_
  refine g_iloadN C iL1_19 rfl ?_
  refine g_bald C (.int (69 : Int32)) iL1_20 V_a1 ⟨by decide, by decide⟩ rfl ?_
  refine g_icmp_eq C iL1_21 (fun _ => ?_) (fun q => absurd (by decide) q)
  refine g_iinc C (Ls' := #[.val (.ref a0), .val (.ref a1), .val (.int (5 : Int32))]) iL1_26 rfl rfl ?_
  refine g_goto C iL1_29 ?_
  refine g_iloadN C iL1_9 rfl ?_
  refine g_aloadN C iL1_10 rfl rfl ?_
  refine g_alen C (5 : Int32) iL1_11 V_a0 rfl ?_
  refine g_icmp_ge C iL1_12 (fun q => absurd q (by decide)) (fun _ => ?_)
  refine g_iconst C (1 : Int32) iL1_32 rfl ?_
  exact g_retNar C (t := .boolean) iL1_33 rfl (by simp) (by decide) (by decide) ⟨rfl, rfl⟩
theorem iE1_0 : I1 jdk_42_method_66_code 0 (.aload_n 0) 1 1 := ⟨(by decide +kernel), rfl⟩
theorem iE1_1 : I1 jdk_42_method_66_code 1 (.aload_n 1) 1 2 := ⟨(by decide +kernel), rfl⟩
theorem iE1_2 : B1 jdk_42_method_66_code 2 (.if_acmp .ne 5) 5 7 5 := ⟨(by decide +kernel), rfl, by decide, by decide⟩
theorem iE1_5 : I1 jdk_42_method_66_code 5 (.iconst 1) 1 6 := ⟨(by decide +kernel), rfl⟩
theorem iE1_6 : I1 jdk_42_method_66_code 6 (.ireturn) 1 7 := ⟨(by decide +kernel), rfl⟩
theorem iE1_7 : I1 jdk_42_method_66_code 7 (.aload_n 1) 1 8 := ⟨(by decide +kernel), rfl⟩
theorem iE1_8 : I1 jdk_42_method_66_code 8 (.instanceof 10) 3 11 := ⟨(by decide +kernel), rfl⟩
theorem iE1_11 : B1 jdk_42_method_66_code 11 (.ifCond .eq 43) 43 54 14 := ⟨(by decide +kernel), rfl, by decide, by decide⟩
theorem iE1_14 : I1 jdk_42_method_66_code 14 (.aload_n 1) 1 15 := ⟨(by decide +kernel), rfl⟩
theorem iE1_15 : I1 jdk_42_method_66_code 15 (.checkcast 10) 3 18 := ⟨(by decide +kernel), rfl⟩
theorem iE1_18 : I1 jdk_42_method_66_code 18 (.astore_n 2) 1 19 := ⟨(by decide +kernel), rfl⟩
theorem iE1_19 : I1 jdk_42_method_66_code 19 (.getstatic 38) 3 22 := ⟨(by decide +kernel), rfl⟩
theorem iE1_22 : B1 jdk_42_method_66_code 22 (.ifCond .eq 14) 14 36 25 := ⟨(by decide +kernel), rfl, by decide, by decide⟩
theorem iE1_25 : I1 jdk_42_method_66_code 25 (.aload_n 0) 1 26 := ⟨(by decide +kernel), rfl⟩
theorem iE1_26 : I1 jdk_42_method_66_code 26 (.getfield 15) 3 29 := ⟨(by decide +kernel), rfl⟩
theorem iE1_29 : I1 jdk_42_method_66_code 29 (.aload_n 2) 1 30 := ⟨(by decide +kernel), rfl⟩
theorem iE1_30 : I1 jdk_42_method_66_code 30 (.getfield 15) 3 33 := ⟨(by decide +kernel), rfl⟩
theorem iE1_33 : B1 jdk_42_method_66_code 33 (.if_icmp .ne 21) 21 54 36 := ⟨(by decide +kernel), rfl, by decide, by decide⟩
theorem iE1_36 : I1 jdk_42_method_66_code 36 (.aload_n 0) 1 37 := ⟨(by decide +kernel), rfl⟩
theorem iE1_37 : I1 jdk_42_method_66_code 37 (.getfield 9) 3 40 := ⟨(by decide +kernel), rfl⟩
theorem iE1_40 : I1 jdk_42_method_66_code 40 (.aload_n 2) 1 41 := ⟨(by decide +kernel), rfl⟩
theorem iE1_41 : I1 jdk_42_method_66_code 41 (.getfield 9) 3 44 := ⟨(by decide +kernel), rfl⟩
theorem iE1_44 : I1 jdk_42_method_66_code 44 (.invokestatic 541) 3 47 := ⟨(by decide +kernel), rfl⟩
theorem iE1_47 : B1 jdk_42_method_66_code 47 (.ifCond .eq 7) 7 54 50 := ⟨(by decide +kernel), rfl, by decide, by decide⟩
theorem iE1_50 : I1 jdk_42_method_66_code 50 (.iconst 1) 1 51 := ⟨(by decide +kernel), rfl⟩
theorem iE1_51 : B1 jdk_42_method_66_code 51 (.goto 4) 4 55 54 := ⟨(by decide +kernel), rfl, by decide, by decide⟩
theorem iE1_55 : I1 jdk_42_method_66_code 55 (.ireturn) 1 56 := ⟨(by decide +kernel), rfl⟩
theorem efE1 (m : MethodId) (a0 : Addr) (a1 : Addr) : entryFrame m #[(.ref a0), (.ref a1)] 3 = mkF m 0 #[.val (.ref a0), .val (.ref a1), .unset] [] := by first | (simp [entryFrame, mkF, argsToLocals, Value.category]; done) | rfl
def QE1 (Z : State) (a0 : Addr) (a1 : Addr) (b0 : Addr) (b1 : Addr) (cs : Int32) (h0 : Heap) (n0 : Nat) (v : Option Value) (h : Heap) : Prop := v = some (.int (1 : Int32)) ∧ h = h0
set_option maxRecDepth 65536 in
set_option maxHeartbeats 40000000 in
theorem rmE1 (l : Launch) (Z : State) (aZ : Array Value) (hw : ∀ d ∈ tables_1, d.before aZ Z = true) (a0 : Addr) (a1 : Addr) (b0 : Addr) (b1 : Addr) (cs : Int32) (h0 : Heap) (n0 : Nat) (Z0 : n0 ≤ h0.size) (E_a0 : Exa Z h0 a0 "java/lang/String") (C_a0 : Fld Z h0 a0 "java/lang/String" "coder" "B" (.int (0 : Int32))) (W_a0 : Fld Z h0 a0 "java/lang/String" "value" "[B" (.ref b0)) (V_b0 : AV Z h0 b0 .byte 5 (fun ix => .int (own_tx1 ix))) (E_a1 : Exa Z h0 a1 "java/lang/String") (C_a1 : Fld Z h0 a1 "java/lang/String" "coder" "B" (.int (0 : Int32))) (W_a1 : Fld Z h0 a1 "java/lang/String" "value" "[B" (.ref b1)) (V_b1 : AV Z h0 b1 .byte 5 (fun ix => .int (own_tx1 ix))) (OLD : Old Z n0 h0) (S_c : Sta Z Z.heap "java/lang/String" "COMPACT_STRINGS" "Z" (.int cs)) (hcs : ¬ (cs = (0 : Int32))) :
    Ctr l Z (⟨"java/lang/String", "equals", "(Ljava/lang/Object;)Z"⟩ : MethodName) jdk_42_method_66_code 3 (some .boolean) ({ frames := 1, cells := 0, slots := 0, locals := 14 } : Room) #[(.ref a0), (.ref a1)] h0 n0 (QE1 Z a0 a1 b0 b1 cs h0 n0) := by
  refine Ctr.of_go pn1 (fun m => efE1 m a0 a1) ?_
  intro p e s m below meth c hnm C
  refine g_aloadN C iE1_0 rfl rfl ?_
  refine g_aloadN C iE1_1 rfl rfl ?_
  refine g_acmp_ne C rfl rfl iE1_2 (fun ha2 => ?_) (fun ha2 => ?_)
  · refine g_iconst C (1 : Int32) iE1_5 rfl ?_
    exact g_retNar C (t := .boolean) iE1_6 rfl (by simp) (by decide) (by decide) ⟨rfl, rfl⟩
  · refine g_aloadN C iE1_7 rfl rfl ?_
    refine g_instY C iE1_8 (hw _ (List.mem_of_getElem? (i := 37) rfl)) (Ins.self E_a1) ?_
    refine g_if_eq C iE1_11 (fun q => absurd q (by decide)) (fun _ => ?_)
    refine g_aloadN C iE1_14 rfl rfl ?_
    refine g_castY C iE1_15 (hw _ (List.mem_of_getElem? (i := 37) rfl)) (Ins.self E_a1) ?_
    refine g_astoreN C (Ls' := #[.val (.ref a0), .val (.ref a1), .val (.ref a1)]) iE1_18 rfl rfl ?_
    refine g_getS C iE1_19 (host := "") (Or.inl (hw _ (List.mem_of_getElem? (i := 39) rfl))) Via.refl (Sta.ext OLD.2 S_c) ?_
    refine g_if_eq C iE1_22 (fun q => absurd q hcs) (fun _ => ?_)
    refine g_aloadN C iE1_25 rfl rfl ?_
    refine g_getF C iE1_26 (host := "") (Or.inl (hw _ (List.mem_of_getElem? (i := 40) rfl))) Via.refl C_a0 ?_
    refine g_aloadN C iE1_29 rfl rfl ?_
    refine g_getF C iE1_30 (host := "") (Or.inl (hw _ (List.mem_of_getElem? (i := 40) rfl))) Via.refl C_a1 ?_
    refine g_icmp_ne C iE1_33 (fun _ => ?_) (fun q => absurd (by decide) q)
    refine g_aloadN C iE1_36 rfl rfl ?_
    refine g_getF C iE1_37 (host := "") (Or.inl (hw _ (List.mem_of_getElem? (i := 41) rfl))) Via.refl W_a0 ?_
    refine g_aloadN C iE1_40 rfl rfl ?_
    refine g_getF C iE1_41 (host := "") (Or.inl (hw _ (List.mem_of_getElem? (i := 41) rfl))) Via.refl W_a1 ?_
    refine g_callS C (rmL1 l Z aZ hw b0 b1 h0 n0 Z0 V_b0 V_b1) iE1_44 (hw _ (List.mem_of_getElem? (i := 42) rfl)) (hw _ (List.mem_of_getElem? (i := 43) rfl)) (hw _ (List.mem_of_getElem? (i := 44) rfl)) (hw _ (List.mem_of_getElem? (i := 45) rfl)) (by decide) (argsL := [(.ref b0), (.ref b1)]) (rest := []) rfl rfl pd0 rfl rfl 0 (Nat.le_of_eq rfl) (by decide) (by decide) (by decide) (by decide) rfl rfl ?_
    rintro _ _ ⟨rfl, he2⟩
    refine Go.heap he2.symm ?_
    refine Go.some' ?_
    refine g_if_eq C iE1_47 (fun q => absurd q (by decide)) (fun _ => ?_)
    refine g_iconst C (1 : Int32) iE1_50 rfl ?_
    refine g_goto C iE1_51 ?_
    exact g_retNar C (t := .boolean) iE1_55 rfl (by simp) (by decide) (by decide) ⟨rfl, rfl⟩
theorem iL2_0 : I1 jdk_43_method_13_code 0 (.aload_n 0) 1 1 := ⟨(by decide +kernel), rfl⟩
theorem iL2_1 : I1 jdk_43_method_13_code 1 (.arraylength) 1 2 := ⟨(by decide +kernel), rfl⟩
theorem iL2_2 : I1 jdk_43_method_13_code 2 (.aload_n 1) 1 3 := ⟨(by decide +kernel), rfl⟩
theorem iL2_3 : I1 jdk_43_method_13_code 3 (.arraylength) 1 4 := ⟨(by decide +kernel), rfl⟩
theorem iL2_4 : B1 jdk_43_method_13_code 4 (.if_icmp .ne 30) 30 34 7 := ⟨(by decide +kernel), rfl, by decide, by decide⟩
theorem iL2_34 : I1 jdk_43_method_13_code 34 (.iconst 0) 1 35 := ⟨(by decide +kernel), rfl⟩
theorem iL2_35 : I1 jdk_43_method_13_code 35 (.ireturn) 1 36 := ⟨(by decide +kernel), rfl⟩
theorem efL2 (m : MethodId) (a0 : Addr) (a1 : Addr) : entryFrame m #[(.ref a0), (.ref a1)] 3 = mkF m 0 #[.val (.ref a0), .val (.ref a1), .unset] [] := by first | (simp [entryFrame, mkF, argsToLocals, Value.category]; done) | rfl
def QL2 (Z : State) (a0 : Addr) (a1 : Addr) (h0 : Heap) (n0 : Nat) (v : Option Value) (h : Heap) : Prop := v = some (.int (0 : Int32)) ∧ h = h0
set_option maxRecDepth 65536 in
set_option maxHeartbeats 40000000 in
theorem rmL2 (l : Launch) (Z : State) (aZ : Array Value) (hw : ∀ d ∈ tables_1, d.before aZ Z = true) (a0 : Addr) (a1 : Addr) (h0 : Heap) (n0 : Nat) (Z0 : n0 ≤ h0.size) (V_a0 : AV Z h0 a0 .byte 4 (fun ix => .int (own_tx0 ix))) (V_a1 : AV Z h0 a1 .byte 5 (fun ix => .int (own_tx1 ix))) :
    Ctr l Z (⟨"java/lang/StringLatin1", "equals", "([B[B)Z"⟩ : MethodName) jdk_43_method_13_code 3 (some .boolean) ({ frames := 0, cells := 0, slots := 0, locals := 0 } : Room) #[(.ref a0), (.ref a1)] h0 n0 (QL2 Z a0 a1 h0 n0) := by
  refine Ctr.of_go pn0 (fun m => efL2 m a0 a1) ?_
  intro p e s m below meth c hnm C
  refine g_aloadN C iL2_0 rfl rfl ?_
  refine g_alen C (4 : Int32) iL2_1 V_a0 rfl ?_
  refine g_aloadN C iL2_2 rfl rfl ?_
  refine g_alen C (5 : Int32) iL2_3 V_a1 rfl ?_
  refine g_icmp_ne C iL2_4 (fun q => absurd q (by decide)) (fun _ => ?_)
  refine g_iconst C (0 : Int32) iL2_34 rfl ?_
  exact g_retNar C (t := .boolean) iL2_35 rfl (by simp) (by decide) (by decide) ⟨rfl, rfl⟩
theorem iE2_0 : I1 jdk_42_method_66_code 0 (.aload_n 0) 1 1 := ⟨(by decide +kernel), rfl⟩
theorem iE2_1 : I1 jdk_42_method_66_code 1 (.aload_n 1) 1 2 := ⟨(by decide +kernel), rfl⟩
theorem iE2_2 : B1 jdk_42_method_66_code 2 (.if_acmp .ne 5) 5 7 5 := ⟨(by decide +kernel), rfl, by decide, by decide⟩
theorem iE2_7 : I1 jdk_42_method_66_code 7 (.aload_n 1) 1 8 := ⟨(by decide +kernel), rfl⟩
theorem iE2_8 : I1 jdk_42_method_66_code 8 (.instanceof 10) 3 11 := ⟨(by decide +kernel), rfl⟩
theorem iE2_11 : B1 jdk_42_method_66_code 11 (.ifCond .eq 43) 43 54 14 := ⟨(by decide +kernel), rfl, by decide, by decide⟩
theorem iE2_14 : I1 jdk_42_method_66_code 14 (.aload_n 1) 1 15 := ⟨(by decide +kernel), rfl⟩
theorem iE2_15 : I1 jdk_42_method_66_code 15 (.checkcast 10) 3 18 := ⟨(by decide +kernel), rfl⟩
theorem iE2_18 : I1 jdk_42_method_66_code 18 (.astore_n 2) 1 19 := ⟨(by decide +kernel), rfl⟩
theorem iE2_19 : I1 jdk_42_method_66_code 19 (.getstatic 38) 3 22 := ⟨(by decide +kernel), rfl⟩
theorem iE2_22 : B1 jdk_42_method_66_code 22 (.ifCond .eq 14) 14 36 25 := ⟨(by decide +kernel), rfl, by decide, by decide⟩
theorem iE2_25 : I1 jdk_42_method_66_code 25 (.aload_n 0) 1 26 := ⟨(by decide +kernel), rfl⟩
theorem iE2_26 : I1 jdk_42_method_66_code 26 (.getfield 15) 3 29 := ⟨(by decide +kernel), rfl⟩
theorem iE2_29 : I1 jdk_42_method_66_code 29 (.aload_n 2) 1 30 := ⟨(by decide +kernel), rfl⟩
theorem iE2_30 : I1 jdk_42_method_66_code 30 (.getfield 15) 3 33 := ⟨(by decide +kernel), rfl⟩
theorem iE2_33 : B1 jdk_42_method_66_code 33 (.if_icmp .ne 21) 21 54 36 := ⟨(by decide +kernel), rfl, by decide, by decide⟩
theorem iE2_36 : I1 jdk_42_method_66_code 36 (.aload_n 0) 1 37 := ⟨(by decide +kernel), rfl⟩
theorem iE2_37 : I1 jdk_42_method_66_code 37 (.getfield 9) 3 40 := ⟨(by decide +kernel), rfl⟩
theorem iE2_40 : I1 jdk_42_method_66_code 40 (.aload_n 2) 1 41 := ⟨(by decide +kernel), rfl⟩
theorem iE2_41 : I1 jdk_42_method_66_code 41 (.getfield 9) 3 44 := ⟨(by decide +kernel), rfl⟩
theorem iE2_44 : I1 jdk_42_method_66_code 44 (.invokestatic 541) 3 47 := ⟨(by decide +kernel), rfl⟩
theorem iE2_47 : B1 jdk_42_method_66_code 47 (.ifCond .eq 7) 7 54 50 := ⟨(by decide +kernel), rfl, by decide, by decide⟩
theorem iE2_54 : I1 jdk_42_method_66_code 54 (.iconst 0) 1 55 := ⟨(by decide +kernel), rfl⟩
theorem iE2_55 : I1 jdk_42_method_66_code 55 (.ireturn) 1 56 := ⟨(by decide +kernel), rfl⟩
theorem efE2 (m : MethodId) (a0 : Addr) (a1 : Addr) : entryFrame m #[(.ref a0), (.ref a1)] 3 = mkF m 0 #[.val (.ref a0), .val (.ref a1), .unset] [] := by first | (simp [entryFrame, mkF, argsToLocals, Value.category]; done) | rfl
def QE2 (Z : State) (a0 : Addr) (a1 : Addr) (b0 : Addr) (b1 : Addr) (cs : Int32) (h0 : Heap) (n0 : Nat) (v : Option Value) (h : Heap) : Prop := v = some (.int (0 : Int32)) ∧ h = h0
set_option maxRecDepth 65536 in
set_option maxHeartbeats 40000000 in
theorem rmE2 (l : Launch) (Z : State) (aZ : Array Value) (hw : ∀ d ∈ tables_1, d.before aZ Z = true) (a0 : Addr) (a1 : Addr) (b0 : Addr) (b1 : Addr) (cs : Int32) (h0 : Heap) (n0 : Nat) (Z0 : n0 ≤ h0.size) (E_a0 : Exa Z h0 a0 "java/lang/String") (C_a0 : Fld Z h0 a0 "java/lang/String" "coder" "B" (.int (0 : Int32))) (W_a0 : Fld Z h0 a0 "java/lang/String" "value" "[B" (.ref b0)) (V_b0 : AV Z h0 b0 .byte 4 (fun ix => .int (own_tx0 ix))) (E_a1 : Exa Z h0 a1 "java/lang/String") (C_a1 : Fld Z h0 a1 "java/lang/String" "coder" "B" (.int (0 : Int32))) (W_a1 : Fld Z h0 a1 "java/lang/String" "value" "[B" (.ref b1)) (V_b1 : AV Z h0 b1 .byte 5 (fun ix => .int (own_tx1 ix))) (OLD : Old Z n0 h0) (S_c : Sta Z Z.heap "java/lang/String" "COMPACT_STRINGS" "Z" (.int cs)) (hcs : ¬ (cs = (0 : Int32))) :
    Ctr l Z (⟨"java/lang/String", "equals", "(Ljava/lang/Object;)Z"⟩ : MethodName) jdk_42_method_66_code 3 (some .boolean) ({ frames := 1, cells := 0, slots := 0, locals := 14 } : Room) #[(.ref a0), (.ref a1)] h0 n0 (QE2 Z a0 a1 b0 b1 cs h0 n0) := by
  refine Ctr.of_go pn1 (fun m => efE2 m a0 a1) ?_
  intro p e s m below meth c hnm C
  refine g_aloadN C iE2_0 rfl rfl ?_
  refine g_aloadN C iE2_1 rfl rfl ?_
  refine g_acmp_ne C rfl rfl iE2_2 (fun q => absurd (Value.ref.inj q) (own_neS W_a0 W_a1 V_b0 V_b1 (by decide))) (fun _ => ?_)
  refine g_aloadN C iE2_7 rfl rfl ?_
  refine g_instY C iE2_8 (hw _ (List.mem_of_getElem? (i := 37) rfl)) (Ins.self E_a1) ?_
  refine g_if_eq C iE2_11 (fun q => absurd q (by decide)) (fun _ => ?_)
  refine g_aloadN C iE2_14 rfl rfl ?_
  refine g_castY C iE2_15 (hw _ (List.mem_of_getElem? (i := 37) rfl)) (Ins.self E_a1) ?_
  refine g_astoreN C (Ls' := #[.val (.ref a0), .val (.ref a1), .val (.ref a1)]) iE2_18 rfl rfl ?_
  refine g_getS C iE2_19 (host := "") (Or.inl (hw _ (List.mem_of_getElem? (i := 39) rfl))) Via.refl (Sta.ext OLD.2 S_c) ?_
  refine g_if_eq C iE2_22 (fun q => absurd q hcs) (fun _ => ?_)
  refine g_aloadN C iE2_25 rfl rfl ?_
  refine g_getF C iE2_26 (host := "") (Or.inl (hw _ (List.mem_of_getElem? (i := 40) rfl))) Via.refl C_a0 ?_
  refine g_aloadN C iE2_29 rfl rfl ?_
  refine g_getF C iE2_30 (host := "") (Or.inl (hw _ (List.mem_of_getElem? (i := 40) rfl))) Via.refl C_a1 ?_
  refine g_icmp_ne C iE2_33 (fun _ => ?_) (fun q => absurd (by decide) q)
  refine g_aloadN C iE2_36 rfl rfl ?_
  refine g_getF C iE2_37 (host := "") (Or.inl (hw _ (List.mem_of_getElem? (i := 41) rfl))) Via.refl W_a0 ?_
  refine g_aloadN C iE2_40 rfl rfl ?_
  refine g_getF C iE2_41 (host := "") (Or.inl (hw _ (List.mem_of_getElem? (i := 41) rfl))) Via.refl W_a1 ?_
  refine g_callS C (rmL2 l Z aZ hw b0 b1 h0 n0 Z0 V_b0 V_b1) iE2_44 (hw _ (List.mem_of_getElem? (i := 42) rfl)) (hw _ (List.mem_of_getElem? (i := 43) rfl)) (hw _ (List.mem_of_getElem? (i := 44) rfl)) (hw _ (List.mem_of_getElem? (i := 45) rfl)) (by decide) (argsL := [(.ref b0), (.ref b1)]) (rest := []) rfl rfl pd0 rfl rfl 0 (Nat.le_of_eq rfl) (by decide) (by decide) (by decide) (by decide) rfl rfl ?_
  rintro _ _ ⟨rfl, he3⟩
  refine Go.heap he3.symm ?_
  refine Go.some' ?_
  refine g_if_eq C iE2_47 (fun _ => ?_) (fun q => absurd (by decide) q)
  refine g_iconst C (0 : Int32) iE2_54 rfl ?_
  exact g_retNar C (t := .boolean) iE2_55 rfl (by simp) (by decide) (by decide) ⟨rfl, rfl⟩
theorem iL3_0 : I1 jdk_43_method_13_code 0 (.aload_n 0) 1 1 := ⟨(by decide +kernel), rfl⟩
theorem iL3_1 : I1 jdk_43_method_13_code 1 (.arraylength) 1 2 := ⟨(by decide +kernel), rfl⟩
theorem iL3_2 : I1 jdk_43_method_13_code 2 (.aload_n 1) 1 3 := ⟨(by decide +kernel), rfl⟩
theorem iL3_3 : I1 jdk_43_method_13_code 3 (.arraylength) 1 4 := ⟨(by decide +kernel), rfl⟩
theorem iL3_4 : B1 jdk_43_method_13_code 4 (.if_icmp .ne 30) 30 34 7 := ⟨(by decide +kernel), rfl, by decide, by decide⟩
theorem iL3_34 : I1 jdk_43_method_13_code 34 (.iconst 0) 1 35 := ⟨(by decide +kernel), rfl⟩
theorem iL3_35 : I1 jdk_43_method_13_code 35 (.ireturn) 1 36 := ⟨(by decide +kernel), rfl⟩
theorem efL3 (m : MethodId) (a0 : Addr) (a1 : Addr) : entryFrame m #[(.ref a0), (.ref a1)] 3 = mkF m 0 #[.val (.ref a0), .val (.ref a1), .unset] [] := by first | (simp [entryFrame, mkF, argsToLocals, Value.category]; done) | rfl
def QL3 (Z : State) (a0 : Addr) (a1 : Addr) (h0 : Heap) (n0 : Nat) (v : Option Value) (h : Heap) : Prop := v = some (.int (0 : Int32)) ∧ h = h0
set_option maxRecDepth 65536 in
set_option maxHeartbeats 40000000 in
theorem rmL3 (l : Launch) (Z : State) (aZ : Array Value) (hw : ∀ d ∈ tables_1, d.before aZ Z = true) (a0 : Addr) (a1 : Addr) (h0 : Heap) (n0 : Nat) (Z0 : n0 ≤ h0.size) (V_a0 : AV Z h0 a0 .byte 5 (fun ix => .int (own_tx1 ix))) (V_a1 : AV Z h0 a1 .byte 4 (fun ix => .int (own_tx0 ix))) :
    Ctr l Z (⟨"java/lang/StringLatin1", "equals", "([B[B)Z"⟩ : MethodName) jdk_43_method_13_code 3 (some .boolean) ({ frames := 0, cells := 0, slots := 0, locals := 0 } : Room) #[(.ref a0), (.ref a1)] h0 n0 (QL3 Z a0 a1 h0 n0) := by
  refine Ctr.of_go pn0 (fun m => efL3 m a0 a1) ?_
  intro p e s m below meth c hnm C
  refine g_aloadN C iL3_0 rfl rfl ?_
  refine g_alen C (5 : Int32) iL3_1 V_a0 rfl ?_
  refine g_aloadN C iL3_2 rfl rfl ?_
  refine g_alen C (4 : Int32) iL3_3 V_a1 rfl ?_
  refine g_icmp_ne C iL3_4 (fun q => absurd q (by decide)) (fun _ => ?_)
  refine g_iconst C (0 : Int32) iL3_34 rfl ?_
  exact g_retNar C (t := .boolean) iL3_35 rfl (by simp) (by decide) (by decide) ⟨rfl, rfl⟩
theorem iE3_0 : I1 jdk_42_method_66_code 0 (.aload_n 0) 1 1 := ⟨(by decide +kernel), rfl⟩
theorem iE3_1 : I1 jdk_42_method_66_code 1 (.aload_n 1) 1 2 := ⟨(by decide +kernel), rfl⟩
theorem iE3_2 : B1 jdk_42_method_66_code 2 (.if_acmp .ne 5) 5 7 5 := ⟨(by decide +kernel), rfl, by decide, by decide⟩
theorem iE3_7 : I1 jdk_42_method_66_code 7 (.aload_n 1) 1 8 := ⟨(by decide +kernel), rfl⟩
theorem iE3_8 : I1 jdk_42_method_66_code 8 (.instanceof 10) 3 11 := ⟨(by decide +kernel), rfl⟩
theorem iE3_11 : B1 jdk_42_method_66_code 11 (.ifCond .eq 43) 43 54 14 := ⟨(by decide +kernel), rfl, by decide, by decide⟩
theorem iE3_14 : I1 jdk_42_method_66_code 14 (.aload_n 1) 1 15 := ⟨(by decide +kernel), rfl⟩
theorem iE3_15 : I1 jdk_42_method_66_code 15 (.checkcast 10) 3 18 := ⟨(by decide +kernel), rfl⟩
theorem iE3_18 : I1 jdk_42_method_66_code 18 (.astore_n 2) 1 19 := ⟨(by decide +kernel), rfl⟩
theorem iE3_19 : I1 jdk_42_method_66_code 19 (.getstatic 38) 3 22 := ⟨(by decide +kernel), rfl⟩
theorem iE3_22 : B1 jdk_42_method_66_code 22 (.ifCond .eq 14) 14 36 25 := ⟨(by decide +kernel), rfl, by decide, by decide⟩
theorem iE3_25 : I1 jdk_42_method_66_code 25 (.aload_n 0) 1 26 := ⟨(by decide +kernel), rfl⟩
theorem iE3_26 : I1 jdk_42_method_66_code 26 (.getfield 15) 3 29 := ⟨(by decide +kernel), rfl⟩
theorem iE3_29 : I1 jdk_42_method_66_code 29 (.aload_n 2) 1 30 := ⟨(by decide +kernel), rfl⟩
theorem iE3_30 : I1 jdk_42_method_66_code 30 (.getfield 15) 3 33 := ⟨(by decide +kernel), rfl⟩
theorem iE3_33 : B1 jdk_42_method_66_code 33 (.if_icmp .ne 21) 21 54 36 := ⟨(by decide +kernel), rfl, by decide, by decide⟩
theorem iE3_36 : I1 jdk_42_method_66_code 36 (.aload_n 0) 1 37 := ⟨(by decide +kernel), rfl⟩
theorem iE3_37 : I1 jdk_42_method_66_code 37 (.getfield 9) 3 40 := ⟨(by decide +kernel), rfl⟩
theorem iE3_40 : I1 jdk_42_method_66_code 40 (.aload_n 2) 1 41 := ⟨(by decide +kernel), rfl⟩
theorem iE3_41 : I1 jdk_42_method_66_code 41 (.getfield 9) 3 44 := ⟨(by decide +kernel), rfl⟩
theorem iE3_44 : I1 jdk_42_method_66_code 44 (.invokestatic 541) 3 47 := ⟨(by decide +kernel), rfl⟩
theorem iE3_47 : B1 jdk_42_method_66_code 47 (.ifCond .eq 7) 7 54 50 := ⟨(by decide +kernel), rfl, by decide, by decide⟩
theorem iE3_54 : I1 jdk_42_method_66_code 54 (.iconst 0) 1 55 := ⟨(by decide +kernel), rfl⟩
theorem iE3_55 : I1 jdk_42_method_66_code 55 (.ireturn) 1 56 := ⟨(by decide +kernel), rfl⟩
theorem efE3 (m : MethodId) (a0 : Addr) (a1 : Addr) : entryFrame m #[(.ref a0), (.ref a1)] 3 = mkF m 0 #[.val (.ref a0), .val (.ref a1), .unset] [] := by first | (simp [entryFrame, mkF, argsToLocals, Value.category]; done) | rfl
def QE3 (Z : State) (a0 : Addr) (a1 : Addr) (b0 : Addr) (b1 : Addr) (cs : Int32) (h0 : Heap) (n0 : Nat) (v : Option Value) (h : Heap) : Prop := v = some (.int (0 : Int32)) ∧ h = h0
set_option maxRecDepth 65536 in
set_option maxHeartbeats 40000000 in
theorem rmE3 (l : Launch) (Z : State) (aZ : Array Value) (hw : ∀ d ∈ tables_1, d.before aZ Z = true) (a0 : Addr) (a1 : Addr) (b0 : Addr) (b1 : Addr) (cs : Int32) (h0 : Heap) (n0 : Nat) (Z0 : n0 ≤ h0.size) (E_a0 : Exa Z h0 a0 "java/lang/String") (C_a0 : Fld Z h0 a0 "java/lang/String" "coder" "B" (.int (0 : Int32))) (W_a0 : Fld Z h0 a0 "java/lang/String" "value" "[B" (.ref b0)) (V_b0 : AV Z h0 b0 .byte 5 (fun ix => .int (own_tx1 ix))) (E_a1 : Exa Z h0 a1 "java/lang/String") (C_a1 : Fld Z h0 a1 "java/lang/String" "coder" "B" (.int (0 : Int32))) (W_a1 : Fld Z h0 a1 "java/lang/String" "value" "[B" (.ref b1)) (V_b1 : AV Z h0 b1 .byte 4 (fun ix => .int (own_tx0 ix))) (OLD : Old Z n0 h0) (S_c : Sta Z Z.heap "java/lang/String" "COMPACT_STRINGS" "Z" (.int cs)) (hcs : ¬ (cs = (0 : Int32))) :
    Ctr l Z (⟨"java/lang/String", "equals", "(Ljava/lang/Object;)Z"⟩ : MethodName) jdk_42_method_66_code 3 (some .boolean) ({ frames := 1, cells := 0, slots := 0, locals := 14 } : Room) #[(.ref a0), (.ref a1)] h0 n0 (QE3 Z a0 a1 b0 b1 cs h0 n0) := by
  refine Ctr.of_go pn1 (fun m => efE3 m a0 a1) ?_
  intro p e s m below meth c hnm C
  refine g_aloadN C iE3_0 rfl rfl ?_
  refine g_aloadN C iE3_1 rfl rfl ?_
  refine g_acmp_ne C rfl rfl iE3_2 (fun q => absurd (Value.ref.inj q) (own_neS W_a0 W_a1 V_b0 V_b1 (by decide))) (fun _ => ?_)
  refine g_aloadN C iE3_7 rfl rfl ?_
  refine g_instY C iE3_8 (hw _ (List.mem_of_getElem? (i := 37) rfl)) (Ins.self E_a1) ?_
  refine g_if_eq C iE3_11 (fun q => absurd q (by decide)) (fun _ => ?_)
  refine g_aloadN C iE3_14 rfl rfl ?_
  refine g_castY C iE3_15 (hw _ (List.mem_of_getElem? (i := 37) rfl)) (Ins.self E_a1) ?_
  refine g_astoreN C (Ls' := #[.val (.ref a0), .val (.ref a1), .val (.ref a1)]) iE3_18 rfl rfl ?_
  refine g_getS C iE3_19 (host := "") (Or.inl (hw _ (List.mem_of_getElem? (i := 39) rfl))) Via.refl (Sta.ext OLD.2 S_c) ?_
  refine g_if_eq C iE3_22 (fun q => absurd q hcs) (fun _ => ?_)
  refine g_aloadN C iE3_25 rfl rfl ?_
  refine g_getF C iE3_26 (host := "") (Or.inl (hw _ (List.mem_of_getElem? (i := 40) rfl))) Via.refl C_a0 ?_
  refine g_aloadN C iE3_29 rfl rfl ?_
  refine g_getF C iE3_30 (host := "") (Or.inl (hw _ (List.mem_of_getElem? (i := 40) rfl))) Via.refl C_a1 ?_
  refine g_icmp_ne C iE3_33 (fun _ => ?_) (fun q => absurd (by decide) q)
  refine g_aloadN C iE3_36 rfl rfl ?_
  refine g_getF C iE3_37 (host := "") (Or.inl (hw _ (List.mem_of_getElem? (i := 41) rfl))) Via.refl W_a0 ?_
  refine g_aloadN C iE3_40 rfl rfl ?_
  refine g_getF C iE3_41 (host := "") (Or.inl (hw _ (List.mem_of_getElem? (i := 41) rfl))) Via.refl W_a1 ?_
  refine g_callS C (rmL3 l Z aZ hw b0 b1 h0 n0 Z0 V_b0 V_b1) iE3_44 (hw _ (List.mem_of_getElem? (i := 42) rfl)) (hw _ (List.mem_of_getElem? (i := 43) rfl)) (hw _ (List.mem_of_getElem? (i := 44) rfl)) (hw _ (List.mem_of_getElem? (i := 45) rfl)) (by decide) (argsL := [(.ref b0), (.ref b1)]) (rest := []) rfl rfl pd0 rfl rfl 0 (Nat.le_of_eq rfl) (by decide) (by decide) (by decide) (by decide) rfl rfl ?_
  rintro _ _ ⟨rfl, he4⟩
  refine Go.heap he4.symm ?_
  refine Go.some' ?_
  refine g_if_eq C iE3_47 (fun _ => ?_) (fun q => absurd (by decide) q)
  refine g_iconst C (0 : Int32) iE3_54 rfl ?_
  exact g_retNar C (t := .boolean) iE3_55 rfl (by simp) (by decide) (by decide) ⟨rfl, rfl⟩
theorem pn2 : plainFor (⟨"java/lang/Record", "<init>", "()V"⟩ : MethodName) = true := by decide +kernel
theorem iR_0 : I1 jdk_30_method_1_code 0 (.aload_n 0) 1 1 := ⟨(by decide +kernel), rfl⟩
theorem iR_1 : I1 jdk_30_method_1_code 1 (.invokespecial 1) 3 4 := ⟨(by decide +kernel), rfl⟩
theorem iR_4 : I1 jdk_30_method_1_code 4 (.return_) 1 5 := ⟨(by decide +kernel), rfl⟩
theorem efR (m : MethodId) (a0 : Addr) : entryFrame m #[(.ref a0)] 1 = mkF m 0 #[.val (.ref a0)] [] := by first | (simp [entryFrame, mkF, argsToLocals, Value.category]; done) | rfl
def QR (Z : State) (a0 : Addr) (h0 : Heap) (n0 : Nat) (v : Option Value) (h : Heap) : Prop := v = none ∧ h = h0
set_option maxRecDepth 65536 in
set_option maxHeartbeats 40000000 in
theorem rmR (l : Launch) (Z : State) (aZ : Array Value) (hw : ∀ d ∈ tables_1, d.before aZ Z = true) (a0 : Addr) (h0 : Heap) (n0 : Nat) (Z0 : n0 ≤ h0.size) :
    Ctr l Z (⟨"java/lang/Record", "<init>", "()V"⟩ : MethodName) jdk_30_method_1_code 1 none ({ frames := 1, cells := 0, slots := 0, locals := 12 } : Room) #[(.ref a0)] h0 n0 (QR Z a0 h0 n0) := by
  refine Ctr.of_go pn2 (fun m => efR m a0) ?_
  intro p e s m below meth c hnm C
  refine g_aloadN C iR_0 rfl rfl ?_
  refine g_initO C iR_1 (hw _ (List.mem_of_getElem? (i := 11) rfl)) (hw _ (List.mem_of_getElem? (i := 12) rfl)) (hw _ (List.mem_of_getElem? (i := 13) rfl)) rfl (by decide) 0 (Nat.le_of_eq rfl) (by decide) ?_
  exact g_retV C iR_4 rfl (by decide) (by decide) ⟨rfl, rfl⟩
theorem pd1 : parseMethodDescriptor "()V" = some ⟨[], none⟩ := by decide +kernel
theorem pn3 : plainFor (⟨"com/example/strict_aspect/strictaspect/model/BooleanValue", "<init>", "(Z)V"⟩ : MethodName) = true := by decide +kernel
theorem iI0_0 : I1 prog_34_method_1_code 0 (.aload_n 0) 1 1 := ⟨(by decide +kernel), rfl⟩
theorem iI0_1 : I1 prog_34_method_1_code 1 (.invokespecial 1) 3 4 := ⟨(by decide +kernel), rfl⟩
theorem iI0_4 : I1 prog_34_method_1_code 4 (.aload_n 0) 1 5 := ⟨(by decide +kernel), rfl⟩
theorem iI0_5 : I1 prog_34_method_1_code 5 (.iload_n 1) 1 6 := ⟨(by decide +kernel), rfl⟩
theorem iI0_6 : I1 prog_34_method_1_code 6 (.putfield 7) 3 9 := ⟨(by decide +kernel), rfl⟩
theorem iI0_9 : I1 prog_34_method_1_code 9 (.return_) 1 10 := ⟨(by decide +kernel), rfl⟩
theorem efI0 (m : MethodId) (a0 : Addr) : entryFrame m #[(.ref a0), (.int (0 : Int32))] 2 = mkF m 0 #[.val (.ref a0), .val (.int (0 : Int32))] [] := by first | (simp [entryFrame, mkF, argsToLocals, Value.category]; done) | rfl
def QI0 (Z : State) (a0 : Addr) (w_value_a0 : Int32) (h0 : Heap) (n0 : Nat) (v : Option Value) (h : Heap) : Prop := v = none ∧ Keep h0 h [a0] ∧ Exa Z h a0 "com/example/strict_aspect/strictaspect/model/BooleanValue" ∧ Fld Z h a0 "com/example/strict_aspect/strictaspect/model/BooleanValue" "value" "Z" (.int (0 : Int32))
set_option maxRecDepth 65536 in
set_option maxHeartbeats 40000000 in
theorem rmI0 (l : Launch) (Z : State) (aZ : Array Value) (hw : ∀ d ∈ tables_1, d.before aZ Z = true) (a0 : Addr) (w_value_a0 : Int32) (h0 : Heap) (n0 : Nat) (Z0 : n0 ≤ h0.size) (E_a0 : Exa Z h0 a0 "com/example/strict_aspect/strictaspect/model/BooleanValue") (F_value_a0 : Fld Z h0 a0 "com/example/strict_aspect/strictaspect/model/BooleanValue" "value" "Z" (.int w_value_a0)) (g_a0 : n0 ≤ a0) :
    Ctr l Z (⟨"com/example/strict_aspect/strictaspect/model/BooleanValue", "<init>", "(Z)V"⟩ : MethodName) prog_34_method_1_code 2 none ({ frames := 2, cells := 0, slots := 0, locals := 24 } : Room) #[(.ref a0), (.int (0 : Int32))] h0 n0 (QI0 Z a0 w_value_a0 h0 n0) := by
  refine Ctr.of_go pn3 (fun m => efI0 m a0) ?_
  intro p e s m below meth c hnm C
  refine g_aloadN C iI0_0 rfl rfl ?_
  refine g_callI C (rmR l Z aZ hw a0 h0 n0 Z0) (a := a0) iI0_1 rfl (hw _ (List.mem_of_getElem? (i := 6) rfl)) (hw _ (List.mem_of_getElem? (i := 7) rfl)) (hw _ (List.mem_of_getElem? (i := 9) rfl)) (hw _ (List.mem_of_getElem? (i := 10) rfl)) rfl (by decide) (argsL := []) (rest := []) rfl rfl pd1 rfl rfl 0 (Nat.le_of_eq rfl) (by decide) (by decide) (by decide) (by decide) rfl rfl ?_
  rintro _ _ ⟨rfl, he6⟩
  refine Go.heap he6.symm ?_
  refine Go.none' ?_
  refine g_aloadN C iI0_4 rfl rfl ?_
  refine g_iloadN C iI0_5 rfl ?_
  refine g_putFN C (v' := (.int (0 : Int32))) iI0_6 (hw _ (List.mem_of_getElem? (i := 14) rfl)) Via.refl F_value_a0 E_a0 (Or.inr ⟨(hw _ (List.mem_of_getElem? (i := 15) rfl)), rfl, hnm⟩) (hw _ (List.mem_of_getElem? (i := 1) rfl)) (ty := .boolean) (by decide) rfl (by decide) g_a0 (fun h7 W7 => ?_)
  have E_a0_c7 := Exa.wr W7 E_a0
  have Fw7 := Fld.same W7 F_value_a0
  have K7 := Keep.wr (Keep.refl h0 [a0]) W7 (Or.inl (List.mem_of_getElem? (i := 0) rfl))
  have Z7 : n0 ≤ h7.size := Nat.le_trans Z0 (Keep.of_wr W7).1
  exact g_retV C iI0_9 rfl (by decide) (by decide) ⟨rfl, K7, E_a0_c7, Fw7⟩
theorem iI1_0 : I1 prog_34_method_1_code 0 (.aload_n 0) 1 1 := ⟨(by decide +kernel), rfl⟩
theorem iI1_1 : I1 prog_34_method_1_code 1 (.invokespecial 1) 3 4 := ⟨(by decide +kernel), rfl⟩
theorem iI1_4 : I1 prog_34_method_1_code 4 (.aload_n 0) 1 5 := ⟨(by decide +kernel), rfl⟩
theorem iI1_5 : I1 prog_34_method_1_code 5 (.iload_n 1) 1 6 := ⟨(by decide +kernel), rfl⟩
theorem iI1_6 : I1 prog_34_method_1_code 6 (.putfield 7) 3 9 := ⟨(by decide +kernel), rfl⟩
theorem iI1_9 : I1 prog_34_method_1_code 9 (.return_) 1 10 := ⟨(by decide +kernel), rfl⟩
theorem efI1 (m : MethodId) (a0 : Addr) : entryFrame m #[(.ref a0), (.int (1 : Int32))] 2 = mkF m 0 #[.val (.ref a0), .val (.int (1 : Int32))] [] := by first | (simp [entryFrame, mkF, argsToLocals, Value.category]; done) | rfl
def QI1 (Z : State) (a0 : Addr) (w_value_a0 : Int32) (h0 : Heap) (n0 : Nat) (v : Option Value) (h : Heap) : Prop := v = none ∧ Keep h0 h [a0] ∧ Exa Z h a0 "com/example/strict_aspect/strictaspect/model/BooleanValue" ∧ Fld Z h a0 "com/example/strict_aspect/strictaspect/model/BooleanValue" "value" "Z" (.int (1 : Int32))
set_option maxRecDepth 65536 in
set_option maxHeartbeats 40000000 in
theorem rmI1 (l : Launch) (Z : State) (aZ : Array Value) (hw : ∀ d ∈ tables_1, d.before aZ Z = true) (a0 : Addr) (w_value_a0 : Int32) (h0 : Heap) (n0 : Nat) (Z0 : n0 ≤ h0.size) (E_a0 : Exa Z h0 a0 "com/example/strict_aspect/strictaspect/model/BooleanValue") (F_value_a0 : Fld Z h0 a0 "com/example/strict_aspect/strictaspect/model/BooleanValue" "value" "Z" (.int w_value_a0)) (g_a0 : n0 ≤ a0) :
    Ctr l Z (⟨"com/example/strict_aspect/strictaspect/model/BooleanValue", "<init>", "(Z)V"⟩ : MethodName) prog_34_method_1_code 2 none ({ frames := 2, cells := 0, slots := 0, locals := 24 } : Room) #[(.ref a0), (.int (1 : Int32))] h0 n0 (QI1 Z a0 w_value_a0 h0 n0) := by
  refine Ctr.of_go pn3 (fun m => efI1 m a0) ?_
  intro p e s m below meth c hnm C
  refine g_aloadN C iI1_0 rfl rfl ?_
  refine g_callI C (rmR l Z aZ hw a0 h0 n0 Z0) (a := a0) iI1_1 rfl (hw _ (List.mem_of_getElem? (i := 6) rfl)) (hw _ (List.mem_of_getElem? (i := 7) rfl)) (hw _ (List.mem_of_getElem? (i := 9) rfl)) (hw _ (List.mem_of_getElem? (i := 10) rfl)) rfl (by decide) (argsL := []) (rest := []) rfl rfl pd1 rfl rfl 0 (Nat.le_of_eq rfl) (by decide) (by decide) (by decide) (by decide) rfl rfl ?_
  rintro _ _ ⟨rfl, he8⟩
  refine Go.heap he8.symm ?_
  refine Go.none' ?_
  refine g_aloadN C iI1_4 rfl rfl ?_
  refine g_iloadN C iI1_5 rfl ?_
  refine g_putFN C (v' := (.int (1 : Int32))) iI1_6 (hw _ (List.mem_of_getElem? (i := 14) rfl)) Via.refl F_value_a0 E_a0 (Or.inr ⟨(hw _ (List.mem_of_getElem? (i := 15) rfl)), rfl, hnm⟩) (hw _ (List.mem_of_getElem? (i := 1) rfl)) (ty := .boolean) (by decide) rfl (by decide) g_a0 (fun h9 W9 => ?_)
  have E_a0_c9 := Exa.wr W9 E_a0
  have Fw9 := Fld.same W9 F_value_a0
  have K9 := Keep.wr (Keep.refl h0 [a0]) W9 (Or.inl (List.mem_of_getElem? (i := 0) rfl))
  have Z9 : n0 ≤ h9.size := Nat.le_trans Z0 (Keep.of_wr W9).1
  exact g_retV C iI1_9 rfl (by decide) (by decide) ⟨rfl, K9, E_a0_c9, Fw9⟩
theorem pn4 : plainFor (⟨"com/example/strict_aspect/strictaspect/model/BooleanValue", "toString", "()Ljava/lang/String;"⟩ : MethodName) = true := by decide +kernel
theorem iT0_0 : I1 prog_34_method_4_code 0 (.aload_n 0) 1 1 := ⟨(by decide +kernel), rfl⟩
theorem iT0_1 : I1 prog_34_method_4_code 1 (.getfield 7) 3 4 := ⟨(by decide +kernel), rfl⟩
theorem iT0_4 : B1 prog_34_method_4_code 4 (.ifCond .eq 8) 8 12 7 := ⟨(by decide +kernel), rfl, by decide, by decide⟩
theorem iT0_12 : I1 prog_34_method_4_code 12 (.ldc 27) 2 14 := ⟨(by decide +kernel), rfl⟩
theorem iT0_14 : I1 prog_34_method_4_code 14 (.areturn) 1 15 := ⟨(by decide +kernel), rfl⟩
theorem efT0 (m : MethodId) (a0 : Addr) : entryFrame m #[(.ref a0)] 1 = mkF m 0 #[.val (.ref a0)] [] := by first | (simp [entryFrame, mkF, argsToLocals, Value.category]; done) | rfl
def QT0 (Z : State) (a0 : Addr) (h0 : Heap) (n0 : Nat) (v : Option Value) (h : Heap) : Prop := ∃ fb0 fb1 : Addr, v = some (.ref fb0) ∧ Keep h0 h [] ∧ Exa Z h fb0 "java/lang/String" ∧ Fld Z h fb0 "java/lang/String" "coder" "B" (.int (0 : Int32)) ∧ Fld Z h fb0 "java/lang/String" "value" "[B" (.ref fb1) ∧ AV Z h fb1 .byte 5 (fun ix => .int (own_tx1 ix))
set_option maxRecDepth 65536 in
set_option maxHeartbeats 40000000 in
theorem rmT0 (l : Launch) (Z : State) (aZ : Array Value) (hw : ∀ d ∈ tables_1, d.before aZ Z = true) (a0 : Addr) (h0 : Heap) (n0 : Nat) (Z0 : n0 ≤ h0.size) (E_a0 : Exa Z h0 a0 "com/example/strict_aspect/strictaspect/model/BooleanValue") (F_v : Fld Z h0 a0 "com/example/strict_aspect/strictaspect/model/BooleanValue" "value" "Z" (.int (0 : Int32))) :
    CtrC l Z consts_1 (⟨"com/example/strict_aspect/strictaspect/model/BooleanValue", "toString", "()Ljava/lang/String;"⟩ : MethodName) prog_34_method_4_code 1 (some (.object "java/lang/String")) ({ frames := 0, cells := 2, slots := 24, locals := 0 } : Room) #[(.ref a0)] h0 n0 (QT0 Z a0 h0 n0) := by
  refine CtrC.of_go pn4 (fun m => efT0 m a0) ?_
  intro p e s m below meth c hnm C HW
  refine g_aloadN C iT0_0 rfl rfl ?_
  refine g_getF C iT0_1 (host := "") (Or.inl (hw _ (List.mem_of_getElem? (i := 14) rfl))) Via.refl F_v ?_
  refine g_if_eq C iT0_4 (fun _ => ?_) (fun q => absurd (by decide) q)
  refine g_ldcC C (text := "FALSE") (vs := [.int (70 : Int32), .int (65 : Int32), .int (76 : Int32), .int (83 : Int32), .int (69 : Int32)]) (z := (5 : Int32)) (len := 5) (f := own_tx1) HW (own_EWL hw) iT0_12 (hw _ (List.mem_of_getElem? (i := 21) rfl)) (own_wS hw) (by decide) ⟨by decide, rfl⟩ (by decide) rfl rfl (fun ix hx => by match ix, hx with | 0, _ => rfl | 1, _ => rfl | 2, _ => rfl | 3, _ => rfl | 4, _ => rfl | (q + 5), h => exact absurd h (by omega)) 20 (by decide) (by decide) (by decide) (by decide) rfl rfl (fun s h10 sa10 sb10 C HW E10 X10 Fc10 Fv10 V10 Lt10 => ?_)
  have K10 := Keep.ext (Keep.refl h0 []) E10
  have Z10 : n0 ≤ h10.size := Nat.le_trans Z0 E10.1
  have E_a0_c10 := Exa.ext E10 E_a0
  have F_value_a0_c10 := Fld.ext E10 F_v
  exact g_retRefC C HW (own_EWL hw) (t := (.object "java/lang/String")) iT0_14 rfl rfl rfl (by decide) (by decide) ⟨sa10, sb10, rfl, K10, X10, Fc10, Fv10, AV.congr V10 (fun _ _ => rfl)⟩
theorem iT1_0 : I1 prog_34_method_4_code 0 (.aload_n 0) 1 1 := ⟨(by decide +kernel), rfl⟩
theorem iT1_1 : I1 prog_34_method_4_code 1 (.getfield 7) 3 4 := ⟨(by decide +kernel), rfl⟩
theorem iT1_4 : B1 prog_34_method_4_code 4 (.ifCond .eq 8) 8 12 7 := ⟨(by decide +kernel), rfl, by decide, by decide⟩
theorem iT1_7 : I1 prog_34_method_4_code 7 (.ldc 26) 2 9 := ⟨(by decide +kernel), rfl⟩
theorem iT1_9 : B1 prog_34_method_4_code 9 (.goto 5) 5 14 12 := ⟨(by decide +kernel), rfl, by decide, by decide⟩
theorem iT1_14 : I1 prog_34_method_4_code 14 (.areturn) 1 15 := ⟨(by decide +kernel), rfl⟩
theorem efT1 (m : MethodId) (a0 : Addr) : entryFrame m #[(.ref a0)] 1 = mkF m 0 #[.val (.ref a0)] [] := by first | (simp [entryFrame, mkF, argsToLocals, Value.category]; done) | rfl
def QT1 (Z : State) (a0 : Addr) (h0 : Heap) (n0 : Nat) (v : Option Value) (h : Heap) : Prop := ∃ fb0 fb1 : Addr, v = some (.ref fb0) ∧ Keep h0 h [] ∧ Exa Z h fb0 "java/lang/String" ∧ Fld Z h fb0 "java/lang/String" "coder" "B" (.int (0 : Int32)) ∧ Fld Z h fb0 "java/lang/String" "value" "[B" (.ref fb1) ∧ AV Z h fb1 .byte 4 (fun ix => .int (own_tx0 ix))
set_option maxRecDepth 65536 in
set_option maxHeartbeats 40000000 in
theorem rmT1 (l : Launch) (Z : State) (aZ : Array Value) (hw : ∀ d ∈ tables_1, d.before aZ Z = true) (a0 : Addr) (h0 : Heap) (n0 : Nat) (Z0 : n0 ≤ h0.size) (E_a0 : Exa Z h0 a0 "com/example/strict_aspect/strictaspect/model/BooleanValue") (F_v : Fld Z h0 a0 "com/example/strict_aspect/strictaspect/model/BooleanValue" "value" "Z" (.int (1 : Int32))) :
    CtrC l Z consts_1 (⟨"com/example/strict_aspect/strictaspect/model/BooleanValue", "toString", "()Ljava/lang/String;"⟩ : MethodName) prog_34_method_4_code 1 (some (.object "java/lang/String")) ({ frames := 0, cells := 2, slots := 20, locals := 0 } : Room) #[(.ref a0)] h0 n0 (QT1 Z a0 h0 n0) := by
  refine CtrC.of_go pn4 (fun m => efT1 m a0) ?_
  intro p e s m below meth c hnm C HW
  refine g_aloadN C iT1_0 rfl rfl ?_
  refine g_getF C iT1_1 (host := "") (Or.inl (hw _ (List.mem_of_getElem? (i := 14) rfl))) Via.refl F_v ?_
  refine g_if_eq C iT1_4 (fun q => absurd q (by decide)) (fun _ => ?_)
  refine g_ldcC C (text := "TRUE") (vs := [.int (84 : Int32), .int (82 : Int32), .int (85 : Int32), .int (69 : Int32)]) (z := (4 : Int32)) (len := 4) (f := own_tx0) HW (own_EWL hw) iT1_7 (hw _ (List.mem_of_getElem? (i := 29) rfl)) (own_wS hw) (by decide) ⟨by decide, rfl⟩ (by decide) rfl rfl (fun ix hx => by match ix, hx with | 0, _ => rfl | 1, _ => rfl | 2, _ => rfl | 3, _ => rfl | (q + 4), h => exact absurd h (by omega)) 16 (by decide) (by decide) (by decide) (by decide) rfl rfl (fun s h11 sa11 sb11 C HW E11 X11 Fc11 Fv11 V11 Lt11 => ?_)
  have K11 := Keep.ext (Keep.refl h0 []) E11
  have Z11 : n0 ≤ h11.size := Nat.le_trans Z0 E11.1
  have E_a0_c11 := Exa.ext E11 E_a0
  have F_value_a0_c11 := Fld.ext E11 F_v
  refine g_goto C iT1_9 ?_
  exact g_retRefC C HW (own_EWL hw) (t := (.object "java/lang/String")) iT1_14 rfl rfl rfl (by decide) (by decide) ⟨sa11, sb11, rfl, K11, X11, Fc11, Fv11, AV.congr V11 (fun _ _ => rfl)⟩
theorem pd2 : parseMethodDescriptor "(Z)V" = some ⟨[.boolean], none⟩ := by decide +kernel
theorem pd3 : parseMethodDescriptor "()Ljava/lang/String;" = some ⟨[], some (.object "java/lang/String")⟩ := by decide +kernel
theorem pd4 : parseMethodDescriptor "(Ljava/lang/Object;)Z" = some ⟨[(.object "java/lang/Object")], some .boolean⟩ := by decide +kernel
theorem pn5 : plainFor (⟨"com/example/strict_aspect/strictaspect/model/BooleanValueToStringPinLaw", "law", "(I)Z"⟩ : MethodName) = true := by decide +kernel
theorem iM_0 : I1 code 0 (.iload_n 0) 1 1 := ⟨at_0, rfl⟩
theorem iM_1 : I1 code 1 (.iconst 1) 1 2 := ⟨at_1, rfl⟩
theorem iM_2 : I1 code 2 (.iand) 1 3 := ⟨at_2, rfl⟩
theorem iM_3 : B1 code 3 (.ifCond .eq 7) 7 10 6 := ⟨at_3, rfl, by decide, by decide⟩
theorem iM_6 : I1 code 6 (.iconst 1) 1 7 := ⟨at_6, rfl⟩
theorem iM_7 : B1 code 7 (.goto 4) 4 11 10 := ⟨at_7, rfl, by decide, by decide⟩
theorem iM_10 : I1 code 10 (.iconst 0) 1 11 := ⟨at_10, rfl⟩
theorem iM_11 : I1 code 11 (.istore_n 1) 1 12 := ⟨at_11, rfl⟩
theorem iM_12 : I1 code 12 (.new 7) 3 15 := ⟨at_12, rfl⟩
theorem iM_15 : I1 code 15 (.dup) 1 16 := ⟨at_15, rfl⟩
theorem iM_16 : I1 code 16 (.iload_n 1) 1 17 := ⟨at_16, rfl⟩
theorem iM_17 : I1 code 17 (.invokespecial 9) 3 20 := ⟨at_17, rfl⟩
theorem iM_20 : I1 code 20 (.astore_n 2) 1 21 := ⟨at_20, rfl⟩
theorem iM_21 : I1 code 21 (.new 7) 3 24 := ⟨at_21, rfl⟩
theorem iM_24 : I1 code 24 (.dup) 1 25 := ⟨at_24, rfl⟩
theorem iM_25 : I1 code 25 (.iload_n 1) 1 26 := ⟨at_25, rfl⟩
theorem iM_26 : B1 code 26 (.ifCond .ne 7) 7 33 29 := ⟨at_26, rfl, by decide, by decide⟩
theorem iM_29 : I1 code 29 (.iconst 1) 1 30 := ⟨at_29, rfl⟩
theorem iM_30 : B1 code 30 (.goto 4) 4 34 33 := ⟨at_30, rfl, by decide, by decide⟩
theorem iM_33 : I1 code 33 (.iconst 0) 1 34 := ⟨at_33, rfl⟩
theorem iM_34 : I1 code 34 (.invokespecial 9) 3 37 := ⟨at_34, rfl⟩
theorem iM_37 : I1 code 37 (.astore_n 3) 1 38 := ⟨at_37, rfl⟩
theorem iM_38 : I1 code 38 (.aload_n 2) 1 39 := ⟨at_38, rfl⟩
theorem iM_39 : I1 code 39 (.invokevirtual 12) 3 42 := ⟨at_39, rfl⟩
theorem iM_42 : I1 code 42 (.astore 4) 2 44 := ⟨at_42, rfl⟩
theorem iM_44 : I1 code 44 (.aload_n 3) 1 45 := ⟨at_44, rfl⟩
theorem iM_45 : I1 code 45 (.invokevirtual 12) 3 48 := ⟨at_45, rfl⟩
theorem iM_48 : I1 code 48 (.astore 5) 2 50 := ⟨at_48, rfl⟩
theorem iM_50 : I1 code 50 (.aload 4) 2 52 := ⟨at_50, rfl⟩
theorem iM_52 : B1 code 52 (.ifnull 8) 8 60 55 := ⟨at_52, rfl, by decide, by decide⟩
theorem iM_55 : I1 code 55 (.aload 5) 2 57 := ⟨at_55, rfl⟩
theorem iM_57 : B1 code 57 (.ifnonnull 5) 5 62 60 := ⟨at_57, rfl, by decide, by decide⟩
theorem iM_62 : I1 code 62 (.iload_n 1) 1 63 := ⟨at_62, rfl⟩
theorem iM_63 : B1 code 63 (.ifCond .eq 33) 33 96 66 := ⟨at_63, rfl, by decide, by decide⟩
theorem iM_66 : I1 code 66 (.aload 4) 2 68 := ⟨at_66, rfl⟩
theorem iM_68 : I1 code 68 (.ldc 16) 2 70 := ⟨at_68, rfl⟩
theorem iM_70 : I1 code 70 (.invokevirtual 18) 3 73 := ⟨at_70, rfl⟩
theorem iM_73 : B1 code 73 (.ifCond .eq 17) 17 90 76 := ⟨at_73, rfl, by decide, by decide⟩
theorem iM_76 : I1 code 76 (.aload 5) 2 78 := ⟨at_76, rfl⟩
theorem iM_78 : I1 code 78 (.ldc 24) 2 80 := ⟨at_78, rfl⟩
theorem iM_80 : I1 code 80 (.invokevirtual 18) 3 83 := ⟨at_80, rfl⟩
theorem iM_83 : B1 code 83 (.ifCond .eq 7) 7 90 86 := ⟨at_83, rfl, by decide, by decide⟩
theorem iM_86 : I1 code 86 (.iconst 1) 1 87 := ⟨at_86, rfl⟩
theorem iM_87 : B1 code 87 (.goto 4) 4 91 90 := ⟨at_87, rfl, by decide, by decide⟩
theorem iM_91 : I1 code 91 (.istore 6) 2 93 := ⟨at_91, rfl⟩
theorem iM_93 : B1 code 93 (.goto 30) 30 123 96 := ⟨at_93, rfl, by decide, by decide⟩
theorem iM_96 : I1 code 96 (.aload 4) 2 98 := ⟨at_96, rfl⟩
theorem iM_98 : I1 code 98 (.ldc 24) 2 100 := ⟨at_98, rfl⟩
theorem iM_100 : I1 code 100 (.invokevirtual 18) 3 103 := ⟨at_100, rfl⟩
theorem iM_103 : B1 code 103 (.ifCond .eq 17) 17 120 106 := ⟨at_103, rfl, by decide, by decide⟩
theorem iM_106 : I1 code 106 (.aload 5) 2 108 := ⟨at_106, rfl⟩
theorem iM_108 : I1 code 108 (.ldc 16) 2 110 := ⟨at_108, rfl⟩
theorem iM_110 : I1 code 110 (.invokevirtual 18) 3 113 := ⟨at_110, rfl⟩
theorem iM_113 : B1 code 113 (.ifCond .eq 7) 7 120 116 := ⟨at_113, rfl, by decide, by decide⟩
theorem iM_116 : I1 code 116 (.iconst 1) 1 117 := ⟨at_116, rfl⟩
theorem iM_117 : B1 code 117 (.goto 4) 4 121 120 := ⟨at_117, rfl, by decide, by decide⟩
theorem iM_121 : I1 code 121 (.istore 6) 2 123 := ⟨at_121, rfl⟩
theorem iM_123 : I1 code 123 (.iload 6) 2 125 := ⟨at_123, rfl⟩
theorem iM_125 : B1 code 125 (.ifCond .eq 17) 17 142 128 := ⟨at_125, rfl, by decide, by decide⟩
theorem iM_128 : I1 code 128 (.aload 4) 2 130 := ⟨at_128, rfl⟩
theorem iM_130 : I1 code 130 (.aload 5) 2 132 := ⟨at_130, rfl⟩
theorem iM_132 : I1 code 132 (.invokevirtual 18) 3 135 := ⟨at_132, rfl⟩
theorem iM_135 : B1 code 135 (.ifCond .ne 7) 7 142 138 := ⟨at_135, rfl, by decide, by decide⟩
theorem iM_138 : I1 code 138 (.iconst 1) 1 139 := ⟨at_138, rfl⟩
theorem iM_139 : B1 code 139 (.goto 4) 4 143 142 := ⟨at_139, rfl, by decide, by decide⟩
theorem iM_143 : I1 code 143 (.ireturn) 1 144 := ⟨at_143, rfl⟩
set_option maxRecDepth 65536 in
set_option maxHeartbeats 40000000 in
theorem leafM_0 (p0 : Int32) (cs : Int32) (hc3_1 : (p0 &&& (1 : Int32)) = (0 : Int32)) : nar .boolean (1 : Int32) = 1 := by
  decide
set_option maxRecDepth 65536 in
set_option maxHeartbeats 40000000 in
theorem leafM_1 (p0 : Int32) (cs : Int32) (hc3_1 : ¬ ((p0 &&& (1 : Int32)) = (0 : Int32))) : nar .boolean (1 : Int32) = 1 := by
  decide
theorem efM (m : MethodId) (p0 : Int32) : entryFrame m #[(.int p0)] maxLocals = mkF m 0 #[.val (.int p0), .unset, .unset, .unset, .unset, .unset, .unset] [] := by first | (simp [entryFrame, mkF, argsToLocals, Value.category, maxLocals]; done) | rfl
def QM (Z : State) (p0 : Int32) (cs : Int32) (h0 : Heap) (n0 : Nat) (v : Option Value) (h : Heap) : Prop := v = some (.int 1)
set_option maxRecDepth 65536 in
set_option maxHeartbeats 40000000 in
theorem rmM (l : Launch) (Z : State) (aZ : Array Value) (hw : ∀ d ∈ tables_1, d.before aZ Z = true) (p0 : Int32) (cs : Int32) (h0 : Heap) (n0 : Nat) (Z0 : n0 ≤ h0.size) (OLD : Old Z n0 h0) (S_c : Sta Z Z.heap "java/lang/String" "COMPACT_STRINGS" "Z" (.int cs)) (hcs : ¬ (cs = (0 : Int32))) :
    CtrC l Z consts_1 x code maxLocals ret room_1 #[(.int p0)] h0 n0 (QM Z p0 cs h0 n0) := by
  refine CtrC.of_go pn5 (fun m => efM m p0) ?_
  intro p e s m below meth c hnm C HW
  refine g_iloadN C iM_0 rfl ?_
  refine g_iconst C (1 : Int32) iM_1 rfl ?_
  refine g_iand C iM_2 ?_
  refine g_if_eq C iM_3 (fun hc3_1 => ?_) (fun hc3_1 => ?_)
  · refine g_iconst C (0 : Int32) iM_10 rfl ?_
    refine g_istoreN C (Ls' := #[.val (.int p0), .val (.int (0 : Int32)), .unset, .unset, .unset, .unset, .unset]) iM_11 rfl ?_
    refine g_newO C iM_12 (hw _ (List.mem_of_getElem? (i := 0) rfl)) (hw _ (List.mem_of_getElem? (i := 1) rfl)) (hw _ (List.mem_of_getElem? (i := 2) rfl)) (by decide) (by decide) rfl rfl (fun h12 b12 g12 E12 A12 D12 => ?_)
    have ge12 : n0 ≤ b12 := Nat.le_trans Z0 (Nat.le_of_eq g12.symm)
    have fr12 : h0.size ≤ b12 := Nat.le_trans (Keep.refl h0 []).1 (Nat.le_of_eq g12.symm)
    have K12 := Keep.ext (Keep.refl h0 []) E12
    have Z12 : n0 ≤ h12.size := Nat.le_trans Z0 E12.1
    have HW := HW.ext E12
    have OLD12 := Old.ext OLD E12
    have F12_value : Fld Z h12 b12 "com/example/strict_aspect/strictaspect/model/BooleanValue" "value" "Z" (.int (0 : Int32)) := D12 (Or.inr (hw _ (List.mem_of_getElem? (i := 15) rfl))) (ty := .boolean) (by decide)
    refine g_dup C iM_15 rfl ?_
    refine g_iloadN C iM_16 rfl ?_
    refine g_callI C (rmI0 l Z aZ hw b12 (0 : Int32) h12 n0 Z12 A12 F12_value ge12) (a := b12) iM_17 rfl (hw _ (List.mem_of_getElem? (i := 3) rfl)) (hw _ (List.mem_of_getElem? (i := 4) rfl)) (hw _ (List.mem_of_getElem? (i := 2) rfl)) (hw _ (List.mem_of_getElem? (i := 5) rfl)) rfl (by decide) (argsL := [(.int (0 : Int32))]) (rest := [(.ref b12)]) rfl rfl pd2 rfl rfl 1 (Nat.le_of_eq rfl) (by decide) (by decide) (by decide) (by decide) rfl rfl ?_
    rintro _ h13 ⟨rfl, KC13, P13_0, P13_1⟩
    refine Go.none' ?_
    have HW := HW.keep KC13 (allS (Safe.exa C.2.2.2.1.alike A12 (by decide) (by decide)) all0)
    have OLDC13 := Old.keep OLD12 KC13 (allS ge12 all0)
    have E_b12_cC13 := Exa.keep A12 KC13
    have K13 := Keep.trans K12 KC13 (allS (Or.inr fr12) all0)
    have Z13 : n0 ≤ h13.size := Nat.le_trans Z12 KC13.1
    have P13_1 : Fld Z h13 b12 "com/example/strict_aspect/strictaspect/model/BooleanValue" "value" "Z" (.int (0 : Int32)) := P13_1
    refine g_astoreN C (Ls' := #[.val (.int p0), .val (.int (0 : Int32)), .val (.ref b12), .unset, .unset, .unset, .unset]) iM_20 rfl rfl ?_
    refine g_newO C iM_21 (hw _ (List.mem_of_getElem? (i := 0) rfl)) (hw _ (List.mem_of_getElem? (i := 1) rfl)) (hw _ (List.mem_of_getElem? (i := 2) rfl)) (by decide) (by decide) rfl rfl (fun h14 b14 g14 E14 A14 D14 => ?_)
    have ne_b12_b14 : b12 ≠ b14 := Nat.ne_of_lt (Nat.lt_of_lt_of_le P13_0.lt (Nat.le_of_eq g14.symm))
    have ge14 : n0 ≤ b14 := Nat.le_trans Z13 (Nat.le_of_eq g14.symm)
    have fr14 : h0.size ≤ b14 := Nat.le_trans K13.1 (Nat.le_of_eq g14.symm)
    have K14 := Keep.ext K13 E14
    have Z14 : n0 ≤ h14.size := Nat.le_trans Z13 E14.1
    have HW := HW.ext E14
    have OLD14 := Old.ext OLDC13 E14
    have E_b12_c14 := Exa.ext E14 P13_0
    have F_value_b12_c14 := Fld.ext E14 P13_1
    have F14_value : Fld Z h14 b14 "com/example/strict_aspect/strictaspect/model/BooleanValue" "value" "Z" (.int (0 : Int32)) := D14 (Or.inr (hw _ (List.mem_of_getElem? (i := 15) rfl))) (ty := .boolean) (by decide)
    refine g_dup C iM_24 rfl ?_
    refine g_iloadN C iM_25 rfl ?_
    refine g_if_ne C iM_26 (fun _ => ?_) (fun q => absurd (by decide) q)
    refine g_iconst C (1 : Int32) iM_29 rfl ?_
    refine g_goto C iM_30 ?_
    refine g_callI C (rmI1 l Z aZ hw b14 (0 : Int32) h14 n0 Z14 A14 F14_value ge14) (a := b14) iM_34 rfl (hw _ (List.mem_of_getElem? (i := 3) rfl)) (hw _ (List.mem_of_getElem? (i := 4) rfl)) (hw _ (List.mem_of_getElem? (i := 2) rfl)) (hw _ (List.mem_of_getElem? (i := 5) rfl)) rfl (by decide) (argsL := [(.int (1 : Int32))]) (rest := [(.ref b14)]) rfl rfl pd2 rfl rfl 1 (Nat.le_of_eq rfl) (by decide) (by decide) (by decide) (by decide) rfl rfl ?_
    rintro _ h15 ⟨rfl, KC15, P15_0, P15_1⟩
    refine Go.none' ?_
    have HW := HW.keep KC15 (allS (Safe.exa C.2.2.2.1.alike A14 (by decide) (by decide)) all0)
    have OLDC15 := Old.keep OLD14 KC15 (allS ge14 all0)
    have E_b12_cC15 := Exa.keep E_b12_c14 KC15
    have F_value_b12_cC15 := Fld.keep F_value_b12_c14 KC15 (ninS ne_b12_b14 nin0)
    have E_b14_cC15 := Exa.keep A14 KC15
    have K15 := Keep.trans K14 KC15 (allS (Or.inr fr14) all0)
    have Z15 : n0 ≤ h15.size := Nat.le_trans Z14 KC15.1
    have P15_1 : Fld Z h15 b14 "com/example/strict_aspect/strictaspect/model/BooleanValue" "value" "Z" (.int (1 : Int32)) := P15_1
    refine g_astoreN C (Ls' := #[.val (.int p0), .val (.int (0 : Int32)), .val (.ref b12), .val (.ref b14), .unset, .unset, .unset]) iM_37 rfl rfl ?_
    refine g_aloadN C iM_38 rfl rfl ?_
    refine g_callVC C HW (own_EWL hw) (rmT0 l Z aZ hw b12 h15 n0 Z15 E_b12_cC15 F_value_b12_cC15) (a := b12) iM_39 (hw _ (List.mem_of_getElem? (i := 16) rfl)) (hw _ (List.mem_of_getElem? (i := 17) rfl)) (fun s hZ => notFace_of_selects (args := #[]) (mvT hZ (hw _ (List.mem_of_getElem? (i := 19) rfl)))) (hw _ (List.mem_of_getElem? (i := 19) rfl)) (hw _ (List.mem_of_getElem? (i := 18) rfl)) (hw _ (List.mem_of_getElem? (i := 2) rfl)) (hw _ (List.mem_of_getElem? (i := 20) rfl)) (by decide) E_b12_cC15 (argsL := []) (rest := []) rfl rfl pd3 rfl rfl 0 (Nat.le_of_eq rfl) (by decide) (by decide) (by decide) (by decide) rfl rfl ?_
    rintro _ s h16 C HW ⟨r16_fb0, r16_fb1, rfl, KC16, P16_0, P16_1, P16_2, P16_3⟩
    refine Go.some' ?_
    have OLDC16 := Old.keep OLDC15 KC16 all0
    have E_b12_cC16 := Exa.keep E_b12_cC15 KC16
    have F_value_b12_cC16 := Fld.keep F_value_b12_cC15 KC16 nin0
    have E_b14_cC16 := Exa.keep P15_0 KC16
    have F_value_b14_cC16 := Fld.keep P15_1 KC16 nin0
    have K16 := Keep.trans K15 KC16 all0
    have Z16 : n0 ≤ h16.size := Nat.le_trans Z15 KC16.1
    have P16_1 : Fld Z h16 r16_fb0 "java/lang/String" "coder" "B" (.int (0 : Int32)) := P16_1
    refine g_astore C (Ls' := #[.val (.int p0), .val (.int (0 : Int32)), .val (.ref b12), .val (.ref b14), .val (.ref r16_fb0), .unset, .unset]) iM_42 rfl rfl ?_
    refine g_aloadN C iM_44 rfl rfl ?_
    refine g_callVC C HW (own_EWL hw) (rmT1 l Z aZ hw b14 h16 n0 Z16 E_b14_cC16 F_value_b14_cC16) (a := b14) iM_45 (hw _ (List.mem_of_getElem? (i := 16) rfl)) (hw _ (List.mem_of_getElem? (i := 17) rfl)) (fun s hZ => notFace_of_selects (args := #[]) (mvT hZ (hw _ (List.mem_of_getElem? (i := 19) rfl)))) (hw _ (List.mem_of_getElem? (i := 19) rfl)) (hw _ (List.mem_of_getElem? (i := 18) rfl)) (hw _ (List.mem_of_getElem? (i := 2) rfl)) (hw _ (List.mem_of_getElem? (i := 20) rfl)) (by decide) E_b14_cC16 (argsL := []) (rest := []) rfl rfl pd3 rfl rfl 0 (Nat.le_of_eq rfl) (by decide) (by decide) (by decide) (by decide) rfl rfl ?_
    rintro _ s h17 C HW ⟨r17_fb0, r17_fb1, rfl, KC17, P17_0, P17_1, P17_2, P17_3⟩
    refine Go.some' ?_
    have OLDC17 := Old.keep OLDC16 KC17 all0
    have E_b12_cC17 := Exa.keep E_b12_cC16 KC17
    have F_value_b12_cC17 := Fld.keep F_value_b12_cC16 KC17 nin0
    have E_b14_cC17 := Exa.keep E_b14_cC16 KC17
    have F_value_b14_cC17 := Fld.keep F_value_b14_cC16 KC17 nin0
    have E_r16_fb0_cC17 := Exa.keep P16_0 KC17
    have F_coder_r16_fb0_cC17 := Fld.keep P16_1 KC17 nin0
    have F_value_r16_fb0_cC17 := Fld.keep P16_2 KC17 nin0
    have V_r16_fb1_cC17 := AV.keep P16_3 KC17 nin0
    have K17 := Keep.trans K16 KC17 all0
    have Z17 : n0 ≤ h17.size := Nat.le_trans Z16 KC17.1
    have P17_1 : Fld Z h17 r17_fb0 "java/lang/String" "coder" "B" (.int (0 : Int32)) := P17_1
    refine g_astore C (Ls' := #[.val (.int p0), .val (.int (0 : Int32)), .val (.ref b12), .val (.ref b14), .val (.ref r16_fb0), .val (.ref r17_fb0), .unset]) iM_48 rfl rfl ?_
    refine g_aload C iM_50 rfl rfl ?_
    refine g_ifnullN C iM_52 ?_
    refine g_aload C iM_55 rfl rfl ?_
    refine g_ifnonnullY C iM_57 ?_
    refine g_iloadN C iM_62 rfl ?_
    refine g_if_eq C iM_63 (fun _ => ?_) (fun q => absurd (by decide) q)
    refine g_aload C iM_96 rfl rfl ?_
    refine g_ldcC C (text := "FALSE") (vs := [.int (70 : Int32), .int (65 : Int32), .int (76 : Int32), .int (83 : Int32), .int (69 : Int32)]) (z := (5 : Int32)) (len := 5) (f := own_tx1) HW (own_EWL hw) iM_98 (hw _ (List.mem_of_getElem? (i := 30) rfl)) (own_wS hw) (by decide) ⟨by decide, rfl⟩ (by decide) rfl rfl (fun ix hx => by match ix, hx with | 0, _ => rfl | 1, _ => rfl | 2, _ => rfl | 3, _ => rfl | 4, _ => rfl | (q + 5), h => exact absurd h (by omega)) 20 (by decide) (by decide) (by decide) (by decide) rfl rfl (fun s h18 sa18 sb18 C HW E18 X18 Fc18 Fv18 V18 Lt18 => ?_)
    have K18 := Keep.ext K17 E18
    have Z18 : n0 ≤ h18.size := Nat.le_trans Z17 E18.1
    have OLD18 := Old.ext OLDC17 E18
    have E_b12_c18 := Exa.ext E18 E_b12_cC17
    have F_value_b12_c18 := Fld.ext E18 F_value_b12_cC17
    have E_b14_c18 := Exa.ext E18 E_b14_cC17
    have F_value_b14_c18 := Fld.ext E18 F_value_b14_cC17
    have E_r16_fb0_c18 := Exa.ext E18 E_r16_fb0_cC17
    have F_coder_r16_fb0_c18 := Fld.ext E18 F_coder_r16_fb0_cC17
    have F_value_r16_fb0_c18 := Fld.ext E18 F_value_r16_fb0_cC17
    have V_r16_fb1_c18 := V_r16_fb1_cC17.ext E18
    have E_r17_fb0_c18 := Exa.ext E18 P17_0
    have F_coder_r17_fb0_c18 := Fld.ext E18 P17_1
    have F_value_r17_fb0_c18 := Fld.ext E18 P17_2
    have V_r17_fb1_c18 := P17_3.ext E18
    refine g_callV C (rmE1 l Z aZ hw r16_fb0 sa18 r16_fb1 sb18 cs h18 n0 Z18 E_r16_fb0_c18 F_coder_r16_fb0_c18 F_value_r16_fb0_c18 V_r16_fb1_c18 X18 Fc18 Fv18 V18 OLD18 S_c (by assumption)) (a := r16_fb0) iM_100 (hw _ (List.mem_of_getElem? (i := 31) rfl)) (hw _ (List.mem_of_getElem? (i := 32) rfl)) (fun s hZ => notFace_of_selects (args := #[]) (mvT hZ (hw _ (List.mem_of_getElem? (i := 34) rfl)))) (hw _ (List.mem_of_getElem? (i := 34) rfl)) (hw _ (List.mem_of_getElem? (i := 33) rfl)) (hw _ (List.mem_of_getElem? (i := 22) rfl)) (hw _ (List.mem_of_getElem? (i := 35) rfl)) (by decide) E_r16_fb0_c18 (argsL := [(.ref sa18)]) (rest := []) rfl rfl pd4 rfl rfl 0 (Nat.le_of_eq rfl) (by decide) (by decide) (by decide) (by decide) rfl rfl ?_
    rintro _ _ ⟨rfl, he19⟩
    refine Go.heap he19.symm ?_
    refine Go.some' ?_
    refine g_if_eq C iM_103 (fun q => absurd q (by decide)) (fun _ => ?_)
    refine g_aload C iM_106 rfl rfl ?_
    refine g_ldcC C (text := "TRUE") (vs := [.int (84 : Int32), .int (82 : Int32), .int (85 : Int32), .int (69 : Int32)]) (z := (4 : Int32)) (len := 4) (f := own_tx0) HW (own_EWL hw) iM_108 (hw _ (List.mem_of_getElem? (i := 36) rfl)) (own_wS hw) (by decide) ⟨by decide, rfl⟩ (by decide) rfl rfl (fun ix hx => by match ix, hx with | 0, _ => rfl | 1, _ => rfl | 2, _ => rfl | 3, _ => rfl | (q + 4), h => exact absurd h (by omega)) 16 (by decide) (by decide) (by decide) (by decide) rfl rfl (fun s h20 sa20 sb20 C HW E20 X20 Fc20 Fv20 V20 Lt20 => ?_)
    have K20 := Keep.ext K18 E20
    have Z20 : n0 ≤ h20.size := Nat.le_trans Z18 E20.1
    have OLD20 := Old.ext OLD18 E20
    have E_b12_c20 := Exa.ext E20 E_b12_c18
    have F_value_b12_c20 := Fld.ext E20 F_value_b12_c18
    have E_b14_c20 := Exa.ext E20 E_b14_c18
    have F_value_b14_c20 := Fld.ext E20 F_value_b14_c18
    have E_r16_fb0_c20 := Exa.ext E20 E_r16_fb0_c18
    have F_coder_r16_fb0_c20 := Fld.ext E20 F_coder_r16_fb0_c18
    have F_value_r16_fb0_c20 := Fld.ext E20 F_value_r16_fb0_c18
    have V_r16_fb1_c20 := V_r16_fb1_c18.ext E20
    have E_r17_fb0_c20 := Exa.ext E20 E_r17_fb0_c18
    have F_coder_r17_fb0_c20 := Fld.ext E20 F_coder_r17_fb0_c18
    have F_value_r17_fb0_c20 := Fld.ext E20 F_value_r17_fb0_c18
    have V_r17_fb1_c20 := V_r17_fb1_c18.ext E20
    have E_sa18_c20 := Exa.ext E20 X18
    have F_coder_sa18_c20 := Fld.ext E20 Fc18
    have F_value_sa18_c20 := Fld.ext E20 Fv18
    have V_sb18_c20 := V18.ext E20
    refine g_callV C (rmE0 l Z aZ hw r17_fb0 sa20 r17_fb1 sb20 cs h20 n0 Z20 E_r17_fb0_c20 F_coder_r17_fb0_c20 F_value_r17_fb0_c20 V_r17_fb1_c20 X20 Fc20 Fv20 V20 OLD20 S_c (by assumption)) (a := r17_fb0) iM_110 (hw _ (List.mem_of_getElem? (i := 31) rfl)) (hw _ (List.mem_of_getElem? (i := 32) rfl)) (fun s hZ => notFace_of_selects (args := #[]) (mvT hZ (hw _ (List.mem_of_getElem? (i := 34) rfl)))) (hw _ (List.mem_of_getElem? (i := 34) rfl)) (hw _ (List.mem_of_getElem? (i := 33) rfl)) (hw _ (List.mem_of_getElem? (i := 22) rfl)) (hw _ (List.mem_of_getElem? (i := 35) rfl)) (by decide) E_r17_fb0_c20 (argsL := [(.ref sa20)]) (rest := []) rfl rfl pd4 rfl rfl 0 (Nat.le_of_eq rfl) (by decide) (by decide) (by decide) (by decide) rfl rfl ?_
    rintro _ _ ⟨rfl, he21⟩
    refine Go.heap he21.symm ?_
    refine Go.some' ?_
    refine g_if_eq C iM_113 (fun q => absurd q (by decide)) (fun _ => ?_)
    refine g_iconst C (1 : Int32) iM_116 rfl ?_
    refine g_goto C iM_117 ?_
    refine g_istore C (Ls' := #[.val (.int p0), .val (.int (0 : Int32)), .val (.ref b12), .val (.ref b14), .val (.ref r16_fb0), .val (.ref r17_fb0), .val (.int (1 : Int32))]) iM_121 rfl ?_
    refine g_iload C iM_123 rfl ?_
    refine g_if_eq C iM_125 (fun q => absurd q (by decide)) (fun _ => ?_)
    refine g_aload C iM_128 rfl rfl ?_
    refine g_aload C iM_130 rfl rfl ?_
    refine g_callV C (rmE3 l Z aZ hw r16_fb0 r17_fb0 r16_fb1 r17_fb1 cs h20 n0 Z20 E_r16_fb0_c20 F_coder_r16_fb0_c20 F_value_r16_fb0_c20 V_r16_fb1_c20 E_r17_fb0_c20 F_coder_r17_fb0_c20 F_value_r17_fb0_c20 V_r17_fb1_c20 OLD20 S_c (by assumption)) (a := r16_fb0) iM_132 (hw _ (List.mem_of_getElem? (i := 31) rfl)) (hw _ (List.mem_of_getElem? (i := 32) rfl)) (fun s hZ => notFace_of_selects (args := #[]) (mvT hZ (hw _ (List.mem_of_getElem? (i := 34) rfl)))) (hw _ (List.mem_of_getElem? (i := 34) rfl)) (hw _ (List.mem_of_getElem? (i := 33) rfl)) (hw _ (List.mem_of_getElem? (i := 22) rfl)) (hw _ (List.mem_of_getElem? (i := 35) rfl)) (by decide) E_r16_fb0_c20 (argsL := [(.ref r17_fb0)]) (rest := []) rfl rfl pd4 rfl rfl 0 (Nat.le_of_eq rfl) (by decide) (by decide) (by decide) (by decide) rfl rfl ?_
    rintro _ _ ⟨rfl, he22⟩
    refine Go.heap he22.symm ?_
    refine Go.some' ?_
    refine g_if_ne C iM_135 (fun _ => ?_) (fun q => absurd (by decide) q)
    refine g_iconst C (1 : Int32) iM_138 rfl ?_
    refine g_goto C iM_139 ?_
    exact g_retNarC C HW (own_EWL hw) (t := .boolean) iM_143 rfl (by simp) (by decide) (by decide) (show _ = _ from congrArg (fun z => some (Value.int z)) (leafM_0 p0 cs hc3_1))
  · refine g_iconst C (1 : Int32) iM_6 rfl ?_
    refine g_goto C iM_7 ?_
    refine g_istoreN C (Ls' := #[.val (.int p0), .val (.int (1 : Int32)), .unset, .unset, .unset, .unset, .unset]) iM_11 rfl ?_
    refine g_newO C iM_12 (hw _ (List.mem_of_getElem? (i := 0) rfl)) (hw _ (List.mem_of_getElem? (i := 1) rfl)) (hw _ (List.mem_of_getElem? (i := 2) rfl)) (by decide) (by decide) rfl rfl (fun h23 b23 g23 E23 A23 D23 => ?_)
    have ge23 : n0 ≤ b23 := Nat.le_trans Z0 (Nat.le_of_eq g23.symm)
    have fr23 : h0.size ≤ b23 := Nat.le_trans (Keep.refl h0 []).1 (Nat.le_of_eq g23.symm)
    have K23 := Keep.ext (Keep.refl h0 []) E23
    have Z23 : n0 ≤ h23.size := Nat.le_trans Z0 E23.1
    have HW := HW.ext E23
    have OLD23 := Old.ext OLD E23
    have F23_value : Fld Z h23 b23 "com/example/strict_aspect/strictaspect/model/BooleanValue" "value" "Z" (.int (0 : Int32)) := D23 (Or.inr (hw _ (List.mem_of_getElem? (i := 15) rfl))) (ty := .boolean) (by decide)
    refine g_dup C iM_15 rfl ?_
    refine g_iloadN C iM_16 rfl ?_
    refine g_callI C (rmI1 l Z aZ hw b23 (0 : Int32) h23 n0 Z23 A23 F23_value ge23) (a := b23) iM_17 rfl (hw _ (List.mem_of_getElem? (i := 3) rfl)) (hw _ (List.mem_of_getElem? (i := 4) rfl)) (hw _ (List.mem_of_getElem? (i := 2) rfl)) (hw _ (List.mem_of_getElem? (i := 5) rfl)) rfl (by decide) (argsL := [(.int (1 : Int32))]) (rest := [(.ref b23)]) rfl rfl pd2 rfl rfl 1 (Nat.le_of_eq rfl) (by decide) (by decide) (by decide) (by decide) rfl rfl ?_
    rintro _ h24 ⟨rfl, KC24, P24_0, P24_1⟩
    refine Go.none' ?_
    have HW := HW.keep KC24 (allS (Safe.exa C.2.2.2.1.alike A23 (by decide) (by decide)) all0)
    have OLDC24 := Old.keep OLD23 KC24 (allS ge23 all0)
    have E_b23_cC24 := Exa.keep A23 KC24
    have K24 := Keep.trans K23 KC24 (allS (Or.inr fr23) all0)
    have Z24 : n0 ≤ h24.size := Nat.le_trans Z23 KC24.1
    have P24_1 : Fld Z h24 b23 "com/example/strict_aspect/strictaspect/model/BooleanValue" "value" "Z" (.int (1 : Int32)) := P24_1
    refine g_astoreN C (Ls' := #[.val (.int p0), .val (.int (1 : Int32)), .val (.ref b23), .unset, .unset, .unset, .unset]) iM_20 rfl rfl ?_
    refine g_newO C iM_21 (hw _ (List.mem_of_getElem? (i := 0) rfl)) (hw _ (List.mem_of_getElem? (i := 1) rfl)) (hw _ (List.mem_of_getElem? (i := 2) rfl)) (by decide) (by decide) rfl rfl (fun h25 b25 g25 E25 A25 D25 => ?_)
    have ne_b23_b25 : b23 ≠ b25 := Nat.ne_of_lt (Nat.lt_of_lt_of_le P24_0.lt (Nat.le_of_eq g25.symm))
    have ge25 : n0 ≤ b25 := Nat.le_trans Z24 (Nat.le_of_eq g25.symm)
    have fr25 : h0.size ≤ b25 := Nat.le_trans K24.1 (Nat.le_of_eq g25.symm)
    have K25 := Keep.ext K24 E25
    have Z25 : n0 ≤ h25.size := Nat.le_trans Z24 E25.1
    have HW := HW.ext E25
    have OLD25 := Old.ext OLDC24 E25
    have E_b23_c25 := Exa.ext E25 P24_0
    have F_value_b23_c25 := Fld.ext E25 P24_1
    have F25_value : Fld Z h25 b25 "com/example/strict_aspect/strictaspect/model/BooleanValue" "value" "Z" (.int (0 : Int32)) := D25 (Or.inr (hw _ (List.mem_of_getElem? (i := 15) rfl))) (ty := .boolean) (by decide)
    refine g_dup C iM_24 rfl ?_
    refine g_iloadN C iM_25 rfl ?_
    refine g_if_ne C iM_26 (fun q => absurd q (by decide)) (fun _ => ?_)
    refine g_iconst C (0 : Int32) iM_33 rfl ?_
    refine g_callI C (rmI0 l Z aZ hw b25 (0 : Int32) h25 n0 Z25 A25 F25_value ge25) (a := b25) iM_34 rfl (hw _ (List.mem_of_getElem? (i := 3) rfl)) (hw _ (List.mem_of_getElem? (i := 4) rfl)) (hw _ (List.mem_of_getElem? (i := 2) rfl)) (hw _ (List.mem_of_getElem? (i := 5) rfl)) rfl (by decide) (argsL := [(.int (0 : Int32))]) (rest := [(.ref b25)]) rfl rfl pd2 rfl rfl 1 (Nat.le_of_eq rfl) (by decide) (by decide) (by decide) (by decide) rfl rfl ?_
    rintro _ h26 ⟨rfl, KC26, P26_0, P26_1⟩
    refine Go.none' ?_
    have HW := HW.keep KC26 (allS (Safe.exa C.2.2.2.1.alike A25 (by decide) (by decide)) all0)
    have OLDC26 := Old.keep OLD25 KC26 (allS ge25 all0)
    have E_b23_cC26 := Exa.keep E_b23_c25 KC26
    have F_value_b23_cC26 := Fld.keep F_value_b23_c25 KC26 (ninS ne_b23_b25 nin0)
    have E_b25_cC26 := Exa.keep A25 KC26
    have K26 := Keep.trans K25 KC26 (allS (Or.inr fr25) all0)
    have Z26 : n0 ≤ h26.size := Nat.le_trans Z25 KC26.1
    have P26_1 : Fld Z h26 b25 "com/example/strict_aspect/strictaspect/model/BooleanValue" "value" "Z" (.int (0 : Int32)) := P26_1
    refine g_astoreN C (Ls' := #[.val (.int p0), .val (.int (1 : Int32)), .val (.ref b23), .val (.ref b25), .unset, .unset, .unset]) iM_37 rfl rfl ?_
    refine g_aloadN C iM_38 rfl rfl ?_
    refine g_callVC C HW (own_EWL hw) (rmT1 l Z aZ hw b23 h26 n0 Z26 E_b23_cC26 F_value_b23_cC26) (a := b23) iM_39 (hw _ (List.mem_of_getElem? (i := 16) rfl)) (hw _ (List.mem_of_getElem? (i := 17) rfl)) (fun s hZ => notFace_of_selects (args := #[]) (mvT hZ (hw _ (List.mem_of_getElem? (i := 19) rfl)))) (hw _ (List.mem_of_getElem? (i := 19) rfl)) (hw _ (List.mem_of_getElem? (i := 18) rfl)) (hw _ (List.mem_of_getElem? (i := 2) rfl)) (hw _ (List.mem_of_getElem? (i := 20) rfl)) (by decide) E_b23_cC26 (argsL := []) (rest := []) rfl rfl pd3 rfl rfl 0 (Nat.le_of_eq rfl) (by decide) (by decide) (by decide) (by decide) rfl rfl ?_
    rintro _ s h27 C HW ⟨r27_fb0, r27_fb1, rfl, KC27, P27_0, P27_1, P27_2, P27_3⟩
    refine Go.some' ?_
    have OLDC27 := Old.keep OLDC26 KC27 all0
    have E_b23_cC27 := Exa.keep E_b23_cC26 KC27
    have F_value_b23_cC27 := Fld.keep F_value_b23_cC26 KC27 nin0
    have E_b25_cC27 := Exa.keep P26_0 KC27
    have F_value_b25_cC27 := Fld.keep P26_1 KC27 nin0
    have K27 := Keep.trans K26 KC27 all0
    have Z27 : n0 ≤ h27.size := Nat.le_trans Z26 KC27.1
    have P27_1 : Fld Z h27 r27_fb0 "java/lang/String" "coder" "B" (.int (0 : Int32)) := P27_1
    refine g_astore C (Ls' := #[.val (.int p0), .val (.int (1 : Int32)), .val (.ref b23), .val (.ref b25), .val (.ref r27_fb0), .unset, .unset]) iM_42 rfl rfl ?_
    refine g_aloadN C iM_44 rfl rfl ?_
    refine g_callVC C HW (own_EWL hw) (rmT0 l Z aZ hw b25 h27 n0 Z27 E_b25_cC27 F_value_b25_cC27) (a := b25) iM_45 (hw _ (List.mem_of_getElem? (i := 16) rfl)) (hw _ (List.mem_of_getElem? (i := 17) rfl)) (fun s hZ => notFace_of_selects (args := #[]) (mvT hZ (hw _ (List.mem_of_getElem? (i := 19) rfl)))) (hw _ (List.mem_of_getElem? (i := 19) rfl)) (hw _ (List.mem_of_getElem? (i := 18) rfl)) (hw _ (List.mem_of_getElem? (i := 2) rfl)) (hw _ (List.mem_of_getElem? (i := 20) rfl)) (by decide) E_b25_cC27 (argsL := []) (rest := []) rfl rfl pd3 rfl rfl 0 (Nat.le_of_eq rfl) (by decide) (by decide) (by decide) (by decide) rfl rfl ?_
    rintro _ s h28 C HW ⟨r28_fb0, r28_fb1, rfl, KC28, P28_0, P28_1, P28_2, P28_3⟩
    refine Go.some' ?_
    have OLDC28 := Old.keep OLDC27 KC28 all0
    have E_b23_cC28 := Exa.keep E_b23_cC27 KC28
    have F_value_b23_cC28 := Fld.keep F_value_b23_cC27 KC28 nin0
    have E_b25_cC28 := Exa.keep E_b25_cC27 KC28
    have F_value_b25_cC28 := Fld.keep F_value_b25_cC27 KC28 nin0
    have E_r27_fb0_cC28 := Exa.keep P27_0 KC28
    have F_coder_r27_fb0_cC28 := Fld.keep P27_1 KC28 nin0
    have F_value_r27_fb0_cC28 := Fld.keep P27_2 KC28 nin0
    have V_r27_fb1_cC28 := AV.keep P27_3 KC28 nin0
    have K28 := Keep.trans K27 KC28 all0
    have Z28 : n0 ≤ h28.size := Nat.le_trans Z27 KC28.1
    have P28_1 : Fld Z h28 r28_fb0 "java/lang/String" "coder" "B" (.int (0 : Int32)) := P28_1
    refine g_astore C (Ls' := #[.val (.int p0), .val (.int (1 : Int32)), .val (.ref b23), .val (.ref b25), .val (.ref r27_fb0), .val (.ref r28_fb0), .unset]) iM_48 rfl rfl ?_
    refine g_aload C iM_50 rfl rfl ?_
    refine g_ifnullN C iM_52 ?_
    refine g_aload C iM_55 rfl rfl ?_
    refine g_ifnonnullY C iM_57 ?_
    refine g_iloadN C iM_62 rfl ?_
    refine g_if_eq C iM_63 (fun q => absurd q (by decide)) (fun _ => ?_)
    refine g_aload C iM_66 rfl rfl ?_
    refine g_ldcC C (text := "TRUE") (vs := [.int (84 : Int32), .int (82 : Int32), .int (85 : Int32), .int (69 : Int32)]) (z := (4 : Int32)) (len := 4) (f := own_tx0) HW (own_EWL hw) iM_68 (hw _ (List.mem_of_getElem? (i := 36) rfl)) (own_wS hw) (by decide) ⟨by decide, rfl⟩ (by decide) rfl rfl (fun ix hx => by match ix, hx with | 0, _ => rfl | 1, _ => rfl | 2, _ => rfl | 3, _ => rfl | (q + 4), h => exact absurd h (by omega)) 16 (by decide) (by decide) (by decide) (by decide) rfl rfl (fun s h29 sa29 sb29 C HW E29 X29 Fc29 Fv29 V29 Lt29 => ?_)
    have K29 := Keep.ext K28 E29
    have Z29 : n0 ≤ h29.size := Nat.le_trans Z28 E29.1
    have OLD29 := Old.ext OLDC28 E29
    have E_b23_c29 := Exa.ext E29 E_b23_cC28
    have F_value_b23_c29 := Fld.ext E29 F_value_b23_cC28
    have E_b25_c29 := Exa.ext E29 E_b25_cC28
    have F_value_b25_c29 := Fld.ext E29 F_value_b25_cC28
    have E_r27_fb0_c29 := Exa.ext E29 E_r27_fb0_cC28
    have F_coder_r27_fb0_c29 := Fld.ext E29 F_coder_r27_fb0_cC28
    have F_value_r27_fb0_c29 := Fld.ext E29 F_value_r27_fb0_cC28
    have V_r27_fb1_c29 := V_r27_fb1_cC28.ext E29
    have E_r28_fb0_c29 := Exa.ext E29 P28_0
    have F_coder_r28_fb0_c29 := Fld.ext E29 P28_1
    have F_value_r28_fb0_c29 := Fld.ext E29 P28_2
    have V_r28_fb1_c29 := P28_3.ext E29
    refine g_callV C (rmE0 l Z aZ hw r27_fb0 sa29 r27_fb1 sb29 cs h29 n0 Z29 E_r27_fb0_c29 F_coder_r27_fb0_c29 F_value_r27_fb0_c29 V_r27_fb1_c29 X29 Fc29 Fv29 V29 OLD29 S_c (by assumption)) (a := r27_fb0) iM_70 (hw _ (List.mem_of_getElem? (i := 31) rfl)) (hw _ (List.mem_of_getElem? (i := 32) rfl)) (fun s hZ => notFace_of_selects (args := #[]) (mvT hZ (hw _ (List.mem_of_getElem? (i := 34) rfl)))) (hw _ (List.mem_of_getElem? (i := 34) rfl)) (hw _ (List.mem_of_getElem? (i := 33) rfl)) (hw _ (List.mem_of_getElem? (i := 22) rfl)) (hw _ (List.mem_of_getElem? (i := 35) rfl)) (by decide) E_r27_fb0_c29 (argsL := [(.ref sa29)]) (rest := []) rfl rfl pd4 rfl rfl 0 (Nat.le_of_eq rfl) (by decide) (by decide) (by decide) (by decide) rfl rfl ?_
    rintro _ _ ⟨rfl, he30⟩
    refine Go.heap he30.symm ?_
    refine Go.some' ?_
    refine g_if_eq C iM_73 (fun q => absurd q (by decide)) (fun _ => ?_)
    refine g_aload C iM_76 rfl rfl ?_
    refine g_ldcC C (text := "FALSE") (vs := [.int (70 : Int32), .int (65 : Int32), .int (76 : Int32), .int (83 : Int32), .int (69 : Int32)]) (z := (5 : Int32)) (len := 5) (f := own_tx1) HW (own_EWL hw) iM_78 (hw _ (List.mem_of_getElem? (i := 30) rfl)) (own_wS hw) (by decide) ⟨by decide, rfl⟩ (by decide) rfl rfl (fun ix hx => by match ix, hx with | 0, _ => rfl | 1, _ => rfl | 2, _ => rfl | 3, _ => rfl | 4, _ => rfl | (q + 5), h => exact absurd h (by omega)) 20 (by decide) (by decide) (by decide) (by decide) rfl rfl (fun s h31 sa31 sb31 C HW E31 X31 Fc31 Fv31 V31 Lt31 => ?_)
    have K31 := Keep.ext K29 E31
    have Z31 : n0 ≤ h31.size := Nat.le_trans Z29 E31.1
    have OLD31 := Old.ext OLD29 E31
    have E_b23_c31 := Exa.ext E31 E_b23_c29
    have F_value_b23_c31 := Fld.ext E31 F_value_b23_c29
    have E_b25_c31 := Exa.ext E31 E_b25_c29
    have F_value_b25_c31 := Fld.ext E31 F_value_b25_c29
    have E_r27_fb0_c31 := Exa.ext E31 E_r27_fb0_c29
    have F_coder_r27_fb0_c31 := Fld.ext E31 F_coder_r27_fb0_c29
    have F_value_r27_fb0_c31 := Fld.ext E31 F_value_r27_fb0_c29
    have V_r27_fb1_c31 := V_r27_fb1_c29.ext E31
    have E_r28_fb0_c31 := Exa.ext E31 E_r28_fb0_c29
    have F_coder_r28_fb0_c31 := Fld.ext E31 F_coder_r28_fb0_c29
    have F_value_r28_fb0_c31 := Fld.ext E31 F_value_r28_fb0_c29
    have V_r28_fb1_c31 := V_r28_fb1_c29.ext E31
    have E_sa29_c31 := Exa.ext E31 X29
    have F_coder_sa29_c31 := Fld.ext E31 Fc29
    have F_value_sa29_c31 := Fld.ext E31 Fv29
    have V_sb29_c31 := V29.ext E31
    refine g_callV C (rmE1 l Z aZ hw r28_fb0 sa31 r28_fb1 sb31 cs h31 n0 Z31 E_r28_fb0_c31 F_coder_r28_fb0_c31 F_value_r28_fb0_c31 V_r28_fb1_c31 X31 Fc31 Fv31 V31 OLD31 S_c (by assumption)) (a := r28_fb0) iM_80 (hw _ (List.mem_of_getElem? (i := 31) rfl)) (hw _ (List.mem_of_getElem? (i := 32) rfl)) (fun s hZ => notFace_of_selects (args := #[]) (mvT hZ (hw _ (List.mem_of_getElem? (i := 34) rfl)))) (hw _ (List.mem_of_getElem? (i := 34) rfl)) (hw _ (List.mem_of_getElem? (i := 33) rfl)) (hw _ (List.mem_of_getElem? (i := 22) rfl)) (hw _ (List.mem_of_getElem? (i := 35) rfl)) (by decide) E_r28_fb0_c31 (argsL := [(.ref sa31)]) (rest := []) rfl rfl pd4 rfl rfl 0 (Nat.le_of_eq rfl) (by decide) (by decide) (by decide) (by decide) rfl rfl ?_
    rintro _ _ ⟨rfl, he32⟩
    refine Go.heap he32.symm ?_
    refine Go.some' ?_
    refine g_if_eq C iM_83 (fun q => absurd q (by decide)) (fun _ => ?_)
    refine g_iconst C (1 : Int32) iM_86 rfl ?_
    refine g_goto C iM_87 ?_
    refine g_istore C (Ls' := #[.val (.int p0), .val (.int (1 : Int32)), .val (.ref b23), .val (.ref b25), .val (.ref r27_fb0), .val (.ref r28_fb0), .val (.int (1 : Int32))]) iM_91 rfl ?_
    refine g_goto C iM_93 ?_
    refine g_iload C iM_123 rfl ?_
    refine g_if_eq C iM_125 (fun q => absurd q (by decide)) (fun _ => ?_)
    refine g_aload C iM_128 rfl rfl ?_
    refine g_aload C iM_130 rfl rfl ?_
    refine g_callV C (rmE2 l Z aZ hw r27_fb0 r28_fb0 r27_fb1 r28_fb1 cs h31 n0 Z31 E_r27_fb0_c31 F_coder_r27_fb0_c31 F_value_r27_fb0_c31 V_r27_fb1_c31 E_r28_fb0_c31 F_coder_r28_fb0_c31 F_value_r28_fb0_c31 V_r28_fb1_c31 OLD31 S_c (by assumption)) (a := r27_fb0) iM_132 (hw _ (List.mem_of_getElem? (i := 31) rfl)) (hw _ (List.mem_of_getElem? (i := 32) rfl)) (fun s hZ => notFace_of_selects (args := #[]) (mvT hZ (hw _ (List.mem_of_getElem? (i := 34) rfl)))) (hw _ (List.mem_of_getElem? (i := 34) rfl)) (hw _ (List.mem_of_getElem? (i := 33) rfl)) (hw _ (List.mem_of_getElem? (i := 22) rfl)) (hw _ (List.mem_of_getElem? (i := 35) rfl)) (by decide) E_r27_fb0_c31 (argsL := [(.ref r28_fb0)]) (rest := []) rfl rfl pd4 rfl rfl 0 (Nat.le_of_eq rfl) (by decide) (by decide) (by decide) (by decide) rfl rfl ?_
    rintro _ _ ⟨rfl, he33⟩
    refine Go.heap he33.symm ?_
    refine Go.some' ?_
    refine g_if_ne C iM_135 (fun _ => ?_) (fun q => absurd (by decide) q)
    refine g_iconst C (1 : Int32) iM_138 rfl ?_
    refine g_goto C iM_139 ?_
    exact g_retNarC C HW (own_EWL hw) (t := .boolean) iM_143 rfl (by simp) (by decide) (by decide) (show _ = _ from congrArg (fun z => some (Value.int z)) (leafM_1 p0 cs hc3_1))
set_option maxRecDepth 65536 in
set_option maxHeartbeats 40000000 in
theorem comes_1 {Post : Tables → Env → Array Value → State → Outcome → State → Prop} (hpost : ∀ tb e args s v u, (limb_1_1.after args s (.returned v) u = true ∧ limb_1_2.after args s (.returned v) u = true ∧ True) → Jvm.D.FramedW s (.returned v) u (Jvm.fieldLocs frame_1_writes args s ++ Jvm.arrayLocs frame_1_arrays args s ++ Jvm.staticLocs frame_1_statics s) 24 4224 → Post tb e args s (.returned v) u) :
    ArmFor flags0 classFile x code maxLocals ret World_1 tables_1 room_1 Calls_1 rest_1 Pre_1 Post := by
  intro l hfl _ _ p e ha hc hk s m args below hf hA hF happ hP
  obtain ⟨hcalls, hrest, hpre⟩ := hP
  obtain ⟨-, -, -, hnamed, -, -, -, hat⟩ := (Spec.applies_iff hf).mp happ
  obtain ⟨hg, hn⟩ := and_e (Cond.before_iff.mp (show (Jvm.Cond.and given_1 narrow_1).before args s = true from hpre))
  obtain ⟨gg1, gg2⟩ := and_e hg
  obtain ⟨w0, rfl⟩ : ∃ w0 : Value, args = #[w0] := by
    have hs : args.size = 1 := by simpa [Cond.value, given_1] using gg1
    obtain ⟨L⟩ := args
    match L, hs with
    | [w0], _ => exact ⟨w0, rfl⟩
  have hw := fun d (hd : d ∈ tables_1) => atoms_spec (ws := Jvm.Cond.code x code maxLocals ret :: tables_1) hat d (List.mem_cons_of_mem _ hd)
  have hfit : Fit s := fun {y c} hc i hi => by
    obtain ⟨ha, rfl⟩ := Array.getElem?_eq_some_iff.mp hc
    have q := List.all_eq_true.mp ((Array.all_eq_true_iff_forall_mem.mp hF) _ (Array.getElem_mem ha)) i (List.mem_range.mpr hi)
    simpa [Array.getElem?_eq_getElem hi] using q
  obtain ⟨hsets, hown0⟩ := atoms_of _ (rest_1_c_eq ▸ (show rest_1_c.before _ s = true from hrest))
  have hr0 := Cond.before_iff.mp hown0
  obtain ⟨i0, ei0⟩ := is_v gg2
  obtain rfl : w0 = (.int i0) := Option.some.inj ei0
  obtain ⟨cs, ecs⟩ := is_v (Cond.before_iff.mp (hsets _ (List.mem_of_getElem? (i := 1) rfl)))
  have S_c := Sta.start ecs (Or.inl (hsets _ (List.mem_of_getElem? (i := 0) rfl)))
  have hcs : ¬ (cs = (0 : Int32)) := fun q => by
    have hn := (Cond.before_iff.mp (hsets _ (List.mem_of_getElem? (i := 2) rfl)))
    subst q
    simp [Cond.value, ecs, Term.int_eval] at hn
  obtain ⟨n, o, h1, h2, h3, _, L, rfl, ⟨rfl, N⟩, -, hq⟩ := rmM l s _ hw i0 cs s.heap s.heap.size (Nat.le_refl _) (Old.start s) S_c hcs tables_1 p e ha hc hk s m _ below hf ((Spec.applies_iff_loose hf).mp happ).1 ⟨rfl, State.Warmed39.refl s, rfl, CHv.start (own_EWL hw) (fun p hp => hcalls.1 p hp) (hsets _ (List.mem_of_getElem? (i := 2) rfl)) (hw _ (List.mem_of_getElem? (i := 24) rfl)) (hw _ (List.mem_of_getElem? (i := 23) rfl))⟩ trivial
  refine ⟨n, _, h1, h2, h3, hpost _ _ _ _ _ _ ⟨Cond.after_iff.mpr rfl, Cond.after_iff.mpr (eq_i res_at (Term.int_eval (1)) rfl), trivial⟩ ⟨hq.1, hq.2.1, hq.2.2.1, (hq.2.2.2.sift fun y hy => Or.inr (N y hy)).mono (by decide) (by decide)⟩⟩
theorem main_1_1 : Claimed_1_1 := comes_1 fun _ _ _ _ _ _ h hF => ⟨h.1, hF⟩
theorem main_1_2 : Claimed_1_2 := comes_1 fun _ _ _ _ _ _ h hF => ⟨h.2.1, hF⟩
end Jvm.Pilot.@@N@@
namespace Jvm.Pilot.@@N@@
open Jvm Jvm.ClassFile Sem Op Lib Jvm.Free Jvm.Stand Jvm.Pilot.@@N@@.Jvm.D
/-! MADE BY PROGRAM (witnessworld.py) out of the Statement's table words and the real class files: 19 classes; the members and pool entries that the words name. The judged class is class 1, her method 1. -/
namespace start1
open Jvm.ClassFile
def u (s : String) : CpInfo := .utf8 (stringToUtf16 s)
/-- a pool by its gaps: so many unusable entries, then the entry; so many at the end -/
def gap : Nat → List CpInfo → List CpInfo
  | 0, r => r
  | n + 1, r => .unusable :: gap n r
def poolList (es : List (Nat × CpInfo)) (last : Nat) : List CpInfo := es.foldr (fun e r => gap e.1 (e.2 :: r)) (gap last [])
def pool (es : List (Nat × CpInfo)) (last : Nat) : Array CpInfo := ⟨poolList es last⟩
def fileOf (pool : Array CpInfo) (this : Nat) (attrs : Array Attribute := #[]) (ms : Array MethodInfo := #[]) (fl : Nat := 33) (sup : Nat := 0) (ifs : Array Nat := #[]) (fds : Array FieldInfo := #[]) : ClassFile where
  minorVersion := 0
  majorVersion := 65
  constantPool := pool
  accessFlags := fl
  thisClass := this
  superClass := sup
  interfaces := ifs
  fields := fds
  methods := ms
  attributes := attrs
def plain (name : String) (sup : Option ClassId) : Class where
  name := name
  kind := .ordinary
  loader := none
  accessFlags := 33
  super := sup
  interfaces := #[]
  cf := none
  fields := #[]
  methods := #[]
  instanceTypes := #[]
  staticTypes := #[]
  resolved := #[]
  callSites := []
  init := .initialized
  statics := none
  mirror := none

def pool0 : Array CpInfo := pool [(5, u "<init>"), (0, u "()V"), (1, .class_ 10), (1, u "java/lang/Object")] 113

def k0c0 : Code := { maxStack := 0, maxLocals := 1, code := object_method_1_code, exceptionTable := #[], attributes := #[] }
def k0m0 : Method := { name := "<init>", desc := "()V", sig := { parameters := [], returnType := none }, accessFlags := 1, code := some k0c0 }
/-- java/lang/Object -/
def k0 : Class := { plain "java/lang/Object" none with
  accessFlags := 33
  interfaces := #[]
  cf := some (fileOf pool0 8 #[] #[{ accessFlags := 1, nameIndex := 5, descriptorIndex := 6, attributes := #[] }] 33 0 #[] #[])
  fields := #[]
  methods := #[k0m0]
  instanceTypes := #[]
  staticTypes := #[]
  resolved := Array.replicate 124 none
  statics := none }

def pool1 : Array CpInfo := pool [(2, .class_ 4), (1, u "java/lang/Object"), (0, u "<init>"), (0, u "()V"), (0, .class_ 8), (0, u "com/example/strict_aspect/strictaspect/model/BooleanValue"), (0, .methodref 7 10), (0, .nameAndType 5 11), (0, u "(Z)V"), (0, .methodref 7 13), (0, .nameAndType 14 15), (0, u "toString"), (0, u "()Ljava/lang/String;"), (0, .string 17), (0, u "TRUE"), (0, .methodref 19 20), (0, .class_ 21), (0, .nameAndType 22 23), (0, u "java/lang/String"), (0, u "equals"), (0, u "(Ljava/lang/Object;)Z"), (0, .string 25), (0, u "FALSE"), (0, .class_ 27), (0, u "com/example/strict_aspect/strictaspect/model/BooleanValueToStringPinLaw"), (2, u "law"), (0, u "(I)Z")] 3

def k1m0 : Method := { name := "<init>", desc := "()V", sig := { parameters := [], returnType := none }, accessFlags := 1, code := none }
def k1c1 : Code := { maxStack := 3, maxLocals := 7, code := code, exceptionTable := #[], attributes := #[] }
def k1m1 : Method := { name := "law", desc := "(I)Z", sig := { parameters := [.int], returnType := some .boolean }, accessFlags := 9, code := some k1c1 }
/-- com/example/strict_aspect/strictaspect/model/BooleanValueToStringPinLaw -/
def k1 : Class := { plain "com/example/strict_aspect/strictaspect/model/BooleanValueToStringPinLaw" (some 0) with
  accessFlags := 49
  interfaces := #[]
  cf := some (fileOf pool1 26 #[] #[{ accessFlags := 1, nameIndex := 5, descriptorIndex := 6, attributes := #[] }, { accessFlags := 9, nameIndex := 30, descriptorIndex := 31, attributes := #[] }] 49 2 #[] #[])
  fields := #[]
  methods := #[k1m0, k1m1]
  instanceTypes := #[]
  staticTypes := #[]
  resolved := Array.replicate 35 none
  statics := none }

def pool2 : Array CpInfo := pool [(1, .methodref 2 3), (0, .class_ 4), (0, .nameAndType 5 6), (0, u "java/lang/Object"), (0, u "<init>"), (0, u "()V"), (0, .class_ 8), (0, u "java/lang/Record")] 13

def k2c0 : Code := { maxStack := 1, maxLocals := 1, code := jdk_30_method_1_code, exceptionTable := #[], attributes := #[] }
def k2m0 : Method := { name := "<init>", desc := "()V", sig := { parameters := [], returnType := none }, accessFlags := 4, code := some k2c0 }
/-- java/lang/Record -/
def k2 : Class := { plain "java/lang/Record" (some 0) with
  accessFlags := 1057
  interfaces := #[]
  cf := some (fileOf pool2 7 #[] #[{ accessFlags := 4, nameIndex := 5, descriptorIndex := 6, attributes := #[] }] 1057 2 #[] #[])
  fields := #[]
  methods := #[k2m0]
  instanceTypes := #[]
  staticTypes := #[]
  resolved := Array.replicate 22 none
  statics := none }

def pool3 : Array CpInfo := pool [(1, .class_ 2), (0, u "com/example/strict_aspect/strictaspect/model/Value"), (0, .class_ 4), (0, u "java/lang/Object")] 11

/-- com/example/strict_aspect/strictaspect/model/Value -/
def k3 : Class := { plain "com/example/strict_aspect/strictaspect/model/Value" (some 0) with
  accessFlags := 1537
  interfaces := #[]
  cf := some (fileOf pool3 1 #[] #[] 1537 3 #[] #[])
  fields := #[]
  methods := #[]
  instanceTypes := #[]
  staticTypes := #[]
  resolved := Array.replicate 16 none
  statics := none }

def pool4 : Array CpInfo := pool [(1, .methodref 2 3), (0, .class_ 4), (0, .nameAndType 5 6), (0, u "java/lang/Record"), (0, u "<init>"), (0, u "()V"), (0, .fieldref 8 9), (0, .class_ 10), (0, .nameAndType 11 12), (0, u "com/example/strict_aspect/strictaspect/model/BooleanValue"), (0, u "value"), (0, u "Z"), (2, u "TRUE"), (0, u "Lcom/example/strict_aspect/strictaspect/model/BooleanValue;"), (2, u "FALSE"), (6, .string 15), (0, .string 19), (10, u "(Z)V"), (0, .class_ 40), (0, u "com/example/strict_aspect/strictaspect/model/Value"), (8, u "toString"), (0, u "()Ljava/lang/String;")] 25

def k4c0 : Code := { maxStack := 2, maxLocals := 2, code := prog_34_method_1_code, exceptionTable := #[], attributes := #[] }
def k4m0 : Method := { name := "<init>", desc := "(Z)V", sig := { parameters := [.boolean], returnType := none }, accessFlags := 1, code := some k4c0 }
def k4c1 : Code := { maxStack := 1, maxLocals := 1, code := prog_34_method_4_code, exceptionTable := #[], attributes := #[] }
def k4m1 : Method := { name := "toString", desc := "()Ljava/lang/String;", sig := { parameters := [], returnType := some (.object "java/lang/String") }, accessFlags := 1, code := some k4c1 }
/-- com/example/strict_aspect/strictaspect/model/BooleanValue -/
def k4 : Class := { plain "com/example/strict_aspect/strictaspect/model/BooleanValue" (some 2) with
  accessFlags := 49
  interfaces := #[3]
  cf := some (fileOf pool4 8 #[] #[{ accessFlags := 1, nameIndex := 5, descriptorIndex := 38, attributes := #[] }, { accessFlags := 1, nameIndex := 49, descriptorIndex := 50, attributes := #[] }] 49 2 #[39] #[{ accessFlags := 18, nameIndex := 11, descriptorIndex := 12, attributes := #[] }, { accessFlags := 25, nameIndex := 15, descriptorIndex := 16, attributes := #[] }, { accessFlags := 25, nameIndex := 19, descriptorIndex := 16, attributes := #[] }])
  fields := #[{ name := "value", type := .boolean, accessFlags := 18, slot := 0, constantValue := 0 }, { name := "TRUE", type := (.object "com/example/strict_aspect/strictaspect/model/BooleanValue"), accessFlags := 25, slot := 0, constantValue := 0 }, { name := "FALSE", type := (.object "com/example/strict_aspect/strictaspect/model/BooleanValue"), accessFlags := 25, slot := 1, constantValue := 0 }]
  methods := #[k4m0, k4m1]
  instanceTypes := #[.boolean]
  staticTypes := #[(.object "com/example/strict_aspect/strictaspect/model/BooleanValue"), (.object "com/example/strict_aspect/strictaspect/model/BooleanValue")]
  resolved := Array.replicate 76 none
  statics := none }

def pool5 : Array CpInfo := pool [(1, .class_ 2), (0, u "java/io/Serializable"), (0, .class_ 4), (0, u "java/lang/Object")] 2

/-- java/io/Serializable -/
def k5 : Class := { plain "java/io/Serializable" (some 0) with
  accessFlags := 1537
  interfaces := #[]
  cf := some (fileOf pool5 1 #[] #[] 1537 3 #[] #[])
  fields := #[]
  methods := #[]
  instanceTypes := #[]
  staticTypes := #[]
  resolved := Array.replicate 7 none
  statics := none }

def pool6 : Array CpInfo := pool [(1, .class_ 2), (0, u "java/lang/Comparable"), (0, .class_ 4), (0, u "java/lang/Object")] 7

/-- java/lang/Comparable -/
def k6 : Class := { plain "java/lang/Comparable" (some 0) with
  accessFlags := 1537
  interfaces := #[]
  cf := some (fileOf pool6 1 #[] #[] 1537 3 #[] #[])
  fields := #[]
  methods := #[]
  instanceTypes := #[]
  staticTypes := #[]
  resolved := Array.replicate 12 none
  statics := none }

def pool7 : Array CpInfo := pool [(2, .class_ 4), (1, u "java/lang/CharSequence"), (42, .class_ 48), (0, u "java/lang/CharSequence$1CodePointIterator"), (10, .class_ 60), (0, u "java/lang/CharSequence$1CharIterator"), (5, .class_ 67), (0, u "java/lang/Object")] 63

/-- java/lang/CharSequence -/
def k7 : Class := { plain "java/lang/CharSequence" (some 0) with
  accessFlags := 1537
  interfaces := #[]
  cf := some (fileOf pool7 2 #[.nestMembers #[47, 59]] #[] 1537 66 #[] #[])
  fields := #[]
  methods := #[]
  instanceTypes := #[]
  staticTypes := #[]
  resolved := Array.replicate 131 none
  statics := none }

def pool8 : Array CpInfo := pool [(1, .class_ 2), (0, u "java/lang/constant/Constable"), (0, .class_ 4), (0, u "java/lang/Object")] 6

/-- java/lang/constant/Constable -/
def k8 : Class := { plain "java/lang/constant/Constable" (some 0) with
  accessFlags := 1537
  interfaces := #[]
  cf := some (fileOf pool8 1 #[] #[] 1537 3 #[] #[])
  fields := #[]
  methods := #[]
  instanceTypes := #[]
  staticTypes := #[]
  resolved := Array.replicate 11 none
  statics := none }

def pool9 : Array CpInfo := pool [(1, .class_ 2), (0, u "java/lang/constant/ConstantDesc"), (0, .class_ 4), (0, u "java/lang/Object")] 32

/-- java/lang/constant/ConstantDesc -/
def k9 : Class := { plain "java/lang/constant/ConstantDesc" (some 0) with
  accessFlags := 1537
  interfaces := #[]
  cf := some (fileOf pool9 1 #[] #[] 1537 3 #[] #[])
  fields := #[]
  methods := #[]
  instanceTypes := #[]
  staticTypes := #[]
  resolved := Array.replicate 37 none
  statics := none }

def pool10 : Array CpInfo := pool [(2, .class_ 4), (1, u "java/lang/Object"), (0, u "<init>"), (0, u "()V"), (2, .fieldref 10 11), (0, .class_ 12), (0, .nameAndType 13 14), (0, u "java/lang/String"), (0, u "value"), (0, u "[B"), (0, .fieldref 10 16), (0, .nameAndType 17 18), (0, u "coder"), (0, u "B"), (2, u "hash"), (0, u "I"), (2, u "hashIsZero"), (0, u "Z"), (11, .fieldref 10 39), (0, .nameAndType 40 26), (0, u "COMPACT_STRINGS"), (66, .class_ 109), (1, u "java/lang/StringLatin1"), (431, .methodref 107 542), (0, .nameAndType 543 544), (0, u "equals"), (0, u "([B[B)Z"), (28, u "(Ljava/lang/Object;)Z"), (1, .class_ 576), (0, u "java/lang/CharSequence"), (22, u "CASE_INSENSITIVE_ORDER"), (0, u "Ljava/util/Comparator;"), (500, u "serialPersistentFields"), (0, u "[Ljava/io/ObjectStreamField;"), (0, .class_ 1104), (0, u "java/lang/String$CaseInsensitiveComparator"), (1, .class_ 1107), (0, u "java/io/Serializable"), (0, .class_ 1109), (0, u "java/lang/Comparable"), (0, .class_ 1111), (0, u "java/lang/constant/Constable"), (0, .class_ 1113), (0, u "java/lang/constant/ConstantDesc"), (2, u "serialVersionUID"), (0, u "J"), (3, u "REPL"), (0, u "C"), (2, u "LATIN1"), (1, u "UTF16")] 323

def k10m0 : Method := { name := "<init>", desc := "()V", sig := { parameters := [], returnType := none }, accessFlags := 1, code := none }
def k10c1 : Code := { maxStack := 2, maxLocals := 3, code := jdk_42_method_66_code, exceptionTable := #[], attributes := #[] }
def k10m1 : Method := { name := "equals", desc := "(Ljava/lang/Object;)Z", sig := { parameters := [(.object "java/lang/Object")], returnType := some .boolean }, accessFlags := 1, code := some k10c1 }
/-- java/lang/String -/
def k10 : Class := { plain "java/lang/String" (some 0) with
  accessFlags := 49
  interfaces := #[5, 6, 7, 8, 9]
  cf := some (fileOf pool10 10 #[.nestMembers #[1103]] #[{ accessFlags := 1, nameIndex := 5, descriptorIndex := 6, attributes := #[] }, { accessFlags := 1, nameIndex := 543, descriptorIndex := 573, attributes := #[] }] 49 2 #[1106, 1108, 575, 1110, 1112] #[{ accessFlags := 18, nameIndex := 13, descriptorIndex := 14, attributes := #[] }, { accessFlags := 18, nameIndex := 17, descriptorIndex := 18, attributes := #[] }, { accessFlags := 2, nameIndex := 21, descriptorIndex := 22, attributes := #[] }, { accessFlags := 2, nameIndex := 25, descriptorIndex := 26, attributes := #[] }, { accessFlags := 26, nameIndex := 1116, descriptorIndex := 1117, attributes := #[] }, { accessFlags := 24, nameIndex := 40, descriptorIndex := 26, attributes := #[] }, { accessFlags := 26, nameIndex := 1101, descriptorIndex := 1102, attributes := #[] }, { accessFlags := 26, nameIndex := 1121, descriptorIndex := 1122, attributes := #[] }, { accessFlags := 25, nameIndex := 599, descriptorIndex := 600, attributes := #[] }, { accessFlags := 24, nameIndex := 1125, descriptorIndex := 18, attributes := #[] }, { accessFlags := 24, nameIndex := 1127, descriptorIndex := 18, attributes := #[] }])
  fields := #[{ name := "value", type := (.array .byte), accessFlags := 18, slot := 0, constantValue := 0 }, { name := "coder", type := .byte, accessFlags := 18, slot := 1, constantValue := 0 }, { name := "hash", type := .int, accessFlags := 2, slot := 2, constantValue := 0 }, { name := "hashIsZero", type := .boolean, accessFlags := 2, slot := 3, constantValue := 0 }, { name := "serialVersionUID", type := .long, accessFlags := 26, slot := 0, constantValue := 0 }, { name := "COMPACT_STRINGS", type := .boolean, accessFlags := 24, slot := 1, constantValue := 0 }, { name := "serialPersistentFields", type := (.array (.object "java/io/ObjectStreamField")), accessFlags := 26, slot := 2, constantValue := 0 }, { name := "REPL", type := .char, accessFlags := 26, slot := 3, constantValue := 0 }, { name := "CASE_INSENSITIVE_ORDER", type := (.object "java/util/Comparator"), accessFlags := 25, slot := 4, constantValue := 0 }, { name := "LATIN1", type := .byte, accessFlags := 24, slot := 5, constantValue := 0 }, { name := "UTF16", type := .byte, accessFlags := 24, slot := 6, constantValue := 0 }]
  methods := #[k10m0, k10m1]
  instanceTypes := #[(.array .byte), .byte, .int, .boolean]
  staticTypes := #[.long, .boolean, (.array (.object "java/io/ObjectStreamField")), .char, (.object "java/util/Comparator"), .byte, .byte]
  resolved := Array.replicate 1451 none
  statics := some 0 }

def pool11 : Array CpInfo := pool [(4, .class_ 6), (1, u "java/lang/Object"), (0, u "<init>"), (0, u "()V"), (5, .class_ 16), (1, u "java/lang/StringLatin1"), (104, u "$assertionsDisabled"), (0, u "Z"), (98, .class_ 223), (1, u "java/lang/StringLatin1$LinesSpliterator"), (57, u "equals"), (0, u "([B[B)Z"), (107, .class_ 391), (0, u "java/lang/StringLatin1$CharsSpliterator")] 3

def k11m0 : Method := { name := "<init>", desc := "()V", sig := { parameters := [], returnType := none }, accessFlags := 0, code := none }
def k11c1 : Code := { maxStack := 3, maxLocals := 3, code := jdk_43_method_13_code, exceptionTable := #[], attributes := #[] }
def k11m1 : Method := { name := "equals", desc := "([B[B)Z", sig := { parameters := [(.array .byte), (.array .byte)], returnType := some .boolean }, accessFlags := 9, code := some k11c1 }
/-- java/lang/StringLatin1 -/
def k11 : Class := { plain "java/lang/StringLatin1" (some 0) with
  accessFlags := 48
  interfaces := #[]
  cf := some (fileOf pool11 14 #[.nestMembers #[390, 221]] #[{ accessFlags := 0, nameIndex := 7, descriptorIndex := 8, attributes := #[] }, { accessFlags := 9, nameIndex := 281, descriptorIndex := 282, attributes := #[] }] 48 4 #[] #[{ accessFlags := 4120, nameIndex := 121, descriptorIndex := 122, attributes := #[] }])
  fields := #[{ name := "$assertionsDisabled", type := .boolean, accessFlags := 4120, slot := 0, constantValue := 0 }]
  methods := #[k11m0, k11m1]
  instanceTypes := #[]
  staticTypes := #[.boolean]
  resolved := Array.replicate 395 none
  statics := none }

def pool12 : Array CpInfo := pool [(2, .class_ 4), (1, u "java/lang/Object"), (0, u "<init>"), (0, u "()V"), (17, .class_ 26), (1, u "jdk/internal/util/Preconditions"), (28, .class_ 56), (0, u "jdk/internal/util/Preconditions$4"), (57, .class_ 115), (0, u "jdk/internal/util/Preconditions$1"), (7, u "SIOOBE_FORMATTER"), (0, u "Ljava/util/function/BiFunction;"), (0, .class_ 126), (0, u "jdk/internal/util/Preconditions$2"), (3, u "AIOOBE_FORMATTER"), (0, .class_ 132), (0, u "jdk/internal/util/Preconditions$3"), (3, u "IOOBE_FORMATTER")] 57

def k12m0 : Method := { name := "<init>", desc := "()V", sig := { parameters := [], returnType := none }, accessFlags := 1, code := none }
/-- jdk/internal/util/Preconditions -/
def k12 : Class := { plain "jdk/internal/util/Preconditions" (some 0) with
  accessFlags := 33
  interfaces := #[]
  cf := some (fileOf pool12 24 #[.nestMembers #[55, 131, 125, 114]] #[{ accessFlags := 1, nameIndex := 5, descriptorIndex := 6, attributes := #[] }] 33 2 #[] #[{ accessFlags := 25, nameIndex := 123, descriptorIndex := 124, attributes := #[] }, { accessFlags := 25, nameIndex := 130, descriptorIndex := 124, attributes := #[] }, { accessFlags := 25, nameIndex := 136, descriptorIndex := 124, attributes := #[] }])
  fields := #[{ name := "SIOOBE_FORMATTER", type := (.object "java/util/function/BiFunction"), accessFlags := 25, slot := 0, constantValue := 0 }, { name := "AIOOBE_FORMATTER", type := (.object "java/util/function/BiFunction"), accessFlags := 25, slot := 1, constantValue := 0 }, { name := "IOOBE_FORMATTER", type := (.object "java/util/function/BiFunction"), accessFlags := 25, slot := 2, constantValue := 0 }]
  methods := #[k12m0]
  instanceTypes := #[]
  staticTypes := #[(.object "java/util/function/BiFunction"), (.object "java/util/function/BiFunction"), (.object "java/util/function/BiFunction")]
  resolved := Array.replicate 194 none
  statics := some 1 }

def pool13 : Array CpInfo := pool [(9, u "<init>"), (6, .class_ 18), (1, u "java/lang/Object"), (0, u "()V"), (1, .class_ 23), (1, u "jdk/internal/util/ArraysSupport"), (0, u "LOG2_ARRAY_LONG_INDEX_SCALE"), (0, u "I"), (2, u "U"), (0, u "Ljdk/internal/misc/Unsafe;"), (8, u "BIG_ENDIAN"), (0, u "Z"), (8, u "LOG2_BYTE_BIT_SIZE"), (4, u "LOG2_ARRAY_INT_INDEX_SCALE"), (54, u "JLA"), (0, u "Ljdk/internal/access/JavaLangAccess;"), (11, u "LOG2_ARRAY_BOOLEAN_INDEX_SCALE"), (9, u "LOG2_ARRAY_BYTE_INDEX_SCALE"), (5, u "LOG2_ARRAY_CHAR_INDEX_SCALE"), (5, u "LOG2_ARRAY_SHORT_INDEX_SCALE"), (18, u "LOG2_ARRAY_FLOAT_INDEX_SCALE"), (24, u "LOG2_ARRAY_DOUBLE_INDEX_SCALE"), (89, u "T_BOOLEAN"), (2, u "T_CHAR"), (1, u "T_FLOAT"), (1, u "T_DOUBLE"), (1, u "T_BYTE"), (1, u "T_SHORT"), (1, u "T_INT"), (1, u "T_LONG"), (1, u "SOFT_MAX_ARRAY_LENGTH")] 83

def k13m0 : Method := { name := "<init>", desc := "()V", sig := { parameters := [], returnType := none }, accessFlags := 2, code := none }
/-- jdk/internal/util/ArraysSupport -/
def k13 : Class := { plain "jdk/internal/util/ArraysSupport" (some 0) with
  accessFlags := 33
  interfaces := #[]
  cf := some (fileOf pool13 21 #[] #[{ accessFlags := 2, nameIndex := 9, descriptorIndex := 19, attributes := #[] }] 33 16 #[] #[{ accessFlags := 24, nameIndex := 28, descriptorIndex := 29, attributes := #[] }, { accessFlags := 26, nameIndex := 38, descriptorIndex := 39, attributes := #[] }, { accessFlags := 25, nameIndex := 121, descriptorIndex := 25, attributes := #[] }, { accessFlags := 25, nameIndex := 131, descriptorIndex := 25, attributes := #[] }, { accessFlags := 25, nameIndex := 137, descriptorIndex := 25, attributes := #[] }, { accessFlags := 25, nameIndex := 143, descriptorIndex := 25, attributes := #[] }, { accessFlags := 25, nameIndex := 53, descriptorIndex := 25, attributes := #[] }, { accessFlags := 25, nameIndex := 24, descriptorIndex := 25, attributes := #[] }, { accessFlags := 25, nameIndex := 162, descriptorIndex := 25, attributes := #[] }, { accessFlags := 25, nameIndex := 187, descriptorIndex := 25, attributes := #[] }, { accessFlags := 26, nameIndex := 48, descriptorIndex := 25, attributes := #[] }, { accessFlags := 25, nameIndex := 277, descriptorIndex := 25, attributes := #[] }, { accessFlags := 25, nameIndex := 280, descriptorIndex := 25, attributes := #[] }, { accessFlags := 25, nameIndex := 282, descriptorIndex := 25, attributes := #[] }, { accessFlags := 25, nameIndex := 284, descriptorIndex := 25, attributes := #[] }, { accessFlags := 25, nameIndex := 286, descriptorIndex := 25, attributes := #[] }, { accessFlags := 25, nameIndex := 288, descriptorIndex := 25, attributes := #[] }, { accessFlags := 25, nameIndex := 290, descriptorIndex := 25, attributes := #[] }, { accessFlags := 25, nameIndex := 292, descriptorIndex := 25, attributes := #[] }, { accessFlags := 26, nameIndex := 108, descriptorIndex := 109, attributes := #[] }, { accessFlags := 25, nameIndex := 294, descriptorIndex := 25, attributes := #[] }])
  fields := #[{ name := "U", type := (.object "jdk/internal/misc/Unsafe"), accessFlags := 24, slot := 0, constantValue := 0 }, { name := "BIG_ENDIAN", type := .boolean, accessFlags := 26, slot := 1, constantValue := 0 }, { name := "LOG2_ARRAY_BOOLEAN_INDEX_SCALE", type := .int, accessFlags := 25, slot := 2, constantValue := 0 }, { name := "LOG2_ARRAY_BYTE_INDEX_SCALE", type := .int, accessFlags := 25, slot := 3, constantValue := 0 }, { name := "LOG2_ARRAY_CHAR_INDEX_SCALE", type := .int, accessFlags := 25, slot := 4, constantValue := 0 }, { name := "LOG2_ARRAY_SHORT_INDEX_SCALE", type := .int, accessFlags := 25, slot := 5, constantValue := 0 }, { name := "LOG2_ARRAY_INT_INDEX_SCALE", type := .int, accessFlags := 25, slot := 6, constantValue := 0 }, { name := "LOG2_ARRAY_LONG_INDEX_SCALE", type := .int, accessFlags := 25, slot := 7, constantValue := 0 }, { name := "LOG2_ARRAY_FLOAT_INDEX_SCALE", type := .int, accessFlags := 25, slot := 8, constantValue := 0 }, { name := "LOG2_ARRAY_DOUBLE_INDEX_SCALE", type := .int, accessFlags := 25, slot := 9, constantValue := 0 }, { name := "LOG2_BYTE_BIT_SIZE", type := .int, accessFlags := 26, slot := 10, constantValue := 0 }, { name := "T_BOOLEAN", type := .int, accessFlags := 25, slot := 11, constantValue := 0 }, { name := "T_CHAR", type := .int, accessFlags := 25, slot := 12, constantValue := 0 }, { name := "T_FLOAT", type := .int, accessFlags := 25, slot := 13, constantValue := 0 }, { name := "T_DOUBLE", type := .int, accessFlags := 25, slot := 14, constantValue := 0 }, { name := "T_BYTE", type := .int, accessFlags := 25, slot := 15, constantValue := 0 }, { name := "T_SHORT", type := .int, accessFlags := 25, slot := 16, constantValue := 0 }, { name := "T_INT", type := .int, accessFlags := 25, slot := 17, constantValue := 0 }, { name := "T_LONG", type := .int, accessFlags := 25, slot := 18, constantValue := 0 }, { name := "JLA", type := (.object "jdk/internal/access/JavaLangAccess"), accessFlags := 26, slot := 19, constantValue := 0 }, { name := "SOFT_MAX_ARRAY_LENGTH", type := .int, accessFlags := 25, slot := 20, constantValue := 0 }]
  methods := #[k13m0]
  instanceTypes := #[]
  staticTypes := #[(.object "jdk/internal/misc/Unsafe"), .boolean, .int, .int, .int, .int, .int, .int, .int, .int, .int, .int, .int, .int, .int, .int, .int, .int, .int, (.object "jdk/internal/access/JavaLangAccess"), .int]
  resolved := Array.replicate 378 none
  statics := none }

def pool14 : Array CpInfo := pool [(1, u "java/lang/Cloneable"), (0, .class_ 1), (0, u "java/lang/Object"), (0, .class_ 3)] 3

/-- java/lang/Cloneable -/
def k14 : Class := { plain "java/lang/Cloneable" (some 0) with
  accessFlags := 1537
  interfaces := #[]
  cf := some (fileOf pool14 2 #[] #[] 1537 4 #[] #[])
  fields := #[]
  methods := #[]
  instanceTypes := #[]
  staticTypes := #[]
  resolved := Array.replicate 8 none
  statics := none }

/-- the primitive byte -/
def k15 : Class := { plain "byte" none with kind := .primitive 'B', accessFlags := 0x411 }
/-- [B -/
def k16 : Class := { plain "[B" (some 0) with kind := .array 15 .byte, interfaces := #[14, 5], accessFlags := 1041 }

/-- the primitive int -/
def k17 : Class := { plain "int" none with kind := .primitive 'I', accessFlags := 0x411 }
/-- [I -/
def k18 : Class := { plain "[I" (some 0) with kind := .array 17 .int, interfaces := #[14, 5], accessFlags := 1041 }

def heap : Heap := #[{ cls := 10, slots := #[.long 0, .int 1, .null, .int 0, .null, .int 0, .int 0], vm := .statics 10 },
  { cls := 12, slots := #[.null, .null, .null], vm := .statics 12 }]
def classes : Array Class := #[k0, k1, k2, k3, k4, k5, k6, k7, k8, k9, k10, k11, k12, k13, k14, k15, k16, k17, k18]
def interned : List (Array UInt16 × Addr) := []
def slotsUsed : Nat := 10
def theMethod : MethodId := ⟨1, 1⟩
def args0 : Array Value := #[.int 5]
def aboutOver (below : List Frame) : State where
  vm := { classes := classes, interned := interned.toArray }
  heap := heap
  slotsUsed := slotsUsed
  threads := #[{ frames := .invoking theMethod args0 :: below }]
def below0 : List Frame := [.native { method := ⟨0, 0⟩, args := #[] }]
def about1 : State := aboutOver below0
def p0 : Program := .bare "" "" ""
def e0 : Env := launch0.env 0 0 0
theorem w_frames : about1.frames = Frame.invoking theMethod args0 :: below0 := rfl
set_option maxRecDepth 65536 in
theorem w_args : argsFit about1.vm theMethod args0 = true := by decide +kernel
set_option maxRecDepth 65536 in
theorem w_heap : heapFits about1 = true := by decide +kernel
set_option maxRecDepth 65536 in
theorem w_runnable : about1.curStatus? = some .runnable := by decide +kernel
set_option maxRecDepth 65536 in
theorem w_alone : about1.alone = true := by decide +kernel
set_option maxRecDepth 65536 in
theorem w_named : about1.methodNamed? x = some theMethod := by decide +kernel
set_option maxRecDepth 65536 in
theorem w_hears : about1.hears theMethod below0 = true := by decide +kernel
set_option maxRecDepth 65536 in
theorem w_ripe : about1.ripe theMethod args0 below0 = true := by decide +kernel
theorem w_running : about1.status = .running := rfl
set_option maxRecDepth 65536 in
theorem w_room : about1.hasRoom e0.platform room_1 = true :=
  launch0.hasRoom_least _ room_1 (by decide +kernel) (by decide +kernel) (by decide +kernel) (by decide +kernel) (by decide +kernel) (by decide +kernel)
theorem allAtoms_all (ts : List Jvm.Cond) (a : Array Jvm.Value) (st : Jvm.State) : (allAtoms ts).before a st = ts.all (fun c => c.before a st) := by
  induction ts with
  | nil => rfl
  | cons c t ih =>
    show (Jvm.Cond.and c (allAtoms t)).before a st = _
    rw [Jvm.Cond.before_and, ih, List.all_cons]
def words1 : List Jvm.Cond := Jvm.Cond.code x code maxLocals ret :: tables_1
/-- a 'code' word, met by the world's own term for the bytes: nothing is compared byte by byte -/
theorem code_word {y : MethodName} {bytes : ByteArray} {mx : Nat} {rt : Option FieldType} {a : Array Value} {s : State} {m : MethodId} {meth : Method} {c : Code} (h1 : s.methodNamed? y = some m) (h2 : s.vm.method? m = some meth) (h3 : meth.code = some c) (h4 : c.code = bytes)
    (h5 : (c.maxLocals == mx && c.exceptionTable.isEmpty && decide (c.maxStack ≤ mostOperands) && decide (meth.sig.returnType = rt) && !meth.locks && decide (parseMethodDescriptor y.desc = some meth.sig)) = true) : (Jvm.Cond.code y bytes mx rt).before a s = true := by
  simp only [Bool.and_eq_true, beq_iff_eq, Bool.not_eq_true', decide_eq_true_eq] at h5
  obtain ⟨⟨⟨⟨⟨g1, g2⟩, g3⟩, g4⟩, g5⟩, g6⟩ := h5
  simp [Cond.before, Cond.holds, Cond.value, h1, h2, h3, h4, g1, g2, g3, g4, g5, g6]
def isCode : Jvm.Cond → Bool
  | .code _ _ _ _ => true
  | _ => false
theorem all_split {L : List Jvm.Cond} {P : Jvm.Cond → Bool} (h1 : L.all (fun c => isCode c || P c) = true) (h2 : ∀ c ∈ L.filter isCode, P c = true) : L.all P = true := by
  refine List.all_eq_true.mpr fun c hc => ?_
  have h := List.all_eq_true.mp h1 c hc
  rcases Bool.eq_false_or_eq_true (isCode c) with hi | hi
  · exact h2 c (List.mem_filter.mpr ⟨hc, hi⟩)
  · simpa [hi] using h
set_option maxRecDepth 65536 in
theorem w_c0 : (Jvm.Cond.code x code maxLocals ret).before args0 about1 = true := code_word (m := ⟨1, 1⟩) (meth := k1m1) (c := k1c1) (by decide +kernel) rfl rfl rfl (by decide +kernel)
set_option maxRecDepth 65536 in
theorem w_c1 : (Jvm.Cond.code ({ cls := "com/example/strict_aspect/strictaspect/model/BooleanValue", name := "<init>", desc := "(Z)V" } : Jvm.MethodName) prog_34_method_1_code (2 : Nat) (Option.none : Option Jvm.ClassFile.FieldType)).before args0 about1 = true := code_word (m := ⟨4, 0⟩) (meth := k4m0) (c := k4c0) (by decide +kernel) rfl rfl rfl (by decide +kernel)
set_option maxRecDepth 65536 in
theorem w_c2 : (Jvm.Cond.code ({ cls := "java/lang/Record", name := "<init>", desc := "()V" } : Jvm.MethodName) jdk_30_method_1_code (1 : Nat) (Option.none : Option Jvm.ClassFile.FieldType)).before args0 about1 = true := code_word (m := ⟨2, 0⟩) (meth := k2m0) (c := k2c0) (by decide +kernel) rfl rfl rfl (by decide +kernel)
set_option maxRecDepth 65536 in
theorem w_c3 : (Jvm.Cond.code ({ cls := "java/lang/Object", name := "<init>", desc := "()V" } : Jvm.MethodName) object_method_1_code (1 : Nat) (Option.none : Option Jvm.ClassFile.FieldType)).before args0 about1 = true := code_word (m := ⟨0, 0⟩) (meth := k0m0) (c := k0c0) (by decide +kernel) rfl rfl rfl (by decide +kernel)
set_option maxRecDepth 65536 in
theorem w_c4 : (Jvm.Cond.code ({ cls := "com/example/strict_aspect/strictaspect/model/BooleanValue", name := "toString", desc := "()Ljava/lang/String;" } : Jvm.MethodName) prog_34_method_4_code (1 : Nat) (Option.some (Jvm.ClassFile.FieldType.object "java/lang/String"))).before args0 about1 = true := code_word (m := ⟨4, 1⟩) (meth := k4m1) (c := k4c1) (by decide +kernel) rfl rfl rfl (by decide +kernel)
set_option maxRecDepth 65536 in
theorem w_c5 : (Jvm.Cond.code ({ cls := "java/lang/String", name := "equals", desc := "(Ljava/lang/Object;)Z" } : Jvm.MethodName) jdk_42_method_66_code (3 : Nat) (Option.some Jvm.ClassFile.FieldType.boolean)).before args0 about1 = true := code_word (m := ⟨10, 1⟩) (meth := k10m1) (c := k10c1) (by decide +kernel) rfl rfl rfl (by decide +kernel)
set_option maxRecDepth 65536 in
theorem w_c6 : (Jvm.Cond.code ({ cls := "java/lang/StringLatin1", name := "equals", desc := "([B[B)Z" } : Jvm.MethodName) jdk_43_method_13_code (3 : Nat) (Option.some Jvm.ClassFile.FieldType.boolean)).before args0 about1 = true := code_word (m := ⟨11, 1⟩) (meth := k11m1) (c := k11c1) (by decide +kernel) rfl rfl rfl (by decide +kernel)
def codes1 : List Jvm.Cond := [Jvm.Cond.code x code maxLocals ret, Jvm.Cond.code ({ cls := "com/example/strict_aspect/strictaspect/model/BooleanValue", name := "<init>", desc := "(Z)V" } : Jvm.MethodName) prog_34_method_1_code (2 : Nat) (Option.none : Option Jvm.ClassFile.FieldType), Jvm.Cond.code ({ cls := "java/lang/Record", name := "<init>", desc := "()V" } : Jvm.MethodName) jdk_30_method_1_code (1 : Nat) (Option.none : Option Jvm.ClassFile.FieldType), Jvm.Cond.code ({ cls := "java/lang/Object", name := "<init>", desc := "()V" } : Jvm.MethodName) object_method_1_code (1 : Nat) (Option.none : Option Jvm.ClassFile.FieldType), Jvm.Cond.code ({ cls := "com/example/strict_aspect/strictaspect/model/BooleanValue", name := "toString", desc := "()Ljava/lang/String;" } : Jvm.MethodName) prog_34_method_4_code (1 : Nat) (Option.some (Jvm.ClassFile.FieldType.object "java/lang/String")), Jvm.Cond.code ({ cls := "java/lang/String", name := "equals", desc := "(Ljava/lang/Object;)Z" } : Jvm.MethodName) jdk_42_method_66_code (3 : Nat) (Option.some Jvm.ClassFile.FieldType.boolean), Jvm.Cond.code ({ cls := "java/lang/StringLatin1", name := "equals", desc := "([B[B)Z" } : Jvm.MethodName) jdk_43_method_13_code (3 : Nat) (Option.some Jvm.ClassFile.FieldType.boolean)]
set_option maxRecDepth 65536 in
theorem codes_eq : words1.filter isCode = codes1 := rfl
theorem w_codes : ∀ c ∈ words1.filter isCode, c.before args0 about1 = true := by
  rw [codes_eq]
  intro c hc
  simp only [codes1, List.mem_cons, List.not_mem_nil, or_false] at hc
  rcases hc with rfl | rfl | rfl | rfl | rfl | rfl | rfl
  · exact w_c0
  · exact w_c1
  · exact w_c2
  · exact w_c3
  · exact w_c4
  · exact w_c5
  · exact w_c6
set_option maxRecDepth 65536 in
theorem w_t1 : (words1.take 24).all (fun c => isCode c || c.before args0 about1) = true := by decide +kernel
set_option maxRecDepth 65536 in
theorem w_t2 : (words1.drop 24).all (fun c => isCode c || c.before args0 about1) = true := by decide +kernel
theorem w_tables : (allAtoms (Jvm.Cond.code x code maxLocals ret :: tables_1)).before args0 about1 = true := by
  rw [allAtoms_all]
  show words1.all (fun c => c.before args0 about1) = true
  refine all_split ?_ w_codes
  rw [← List.take_append_drop 24 words1, List.all_append, w_t1, w_t2]
  rfl
set_option maxRecDepth 65536 in
theorem w_rest : rest_1_c.before args0 about1 = true := by decide +kernel
set_option maxRecDepth 65536 in
theorem w_case : (Jvm.Cond.and given_1 narrow_1).before args0 about1 = true := by decide +kernel
set_option maxRecDepth 65536 in
theorem w_consts : constsHeld consts_1 about1 := Jvm.Lit.constsHeldB_iff.mp (by decide +kernel)
theorem w_applies : (headSpec (Jvm.Cond.code x code maxLocals ret :: tables_1) room_1).applies x e0.platform about1 = true :=
  (Spec.applies_iff w_frames).mpr ⟨w_running, w_runnable, w_alone, w_named, w_hears, w_ripe, w_room, w_tables⟩
theorem atStart : AtStart classFile x code maxLocals ret World_1 tables_1 room_1 Calls_1 rest_1 Pre_1 launch0 p0 e0 about1 theMethod args0 below0 :=
  ⟨lists_1, trivial, launch0.admits_env _ _ _, launch0.least_env, fairChoices_fair.cas, fairChoices_fair.clock, w_frames, w_args, w_heap, w_applies, ⟨w_consts, trivial⟩, w_rest, w_case⟩
end start1
theorem witness_1 : WitnessClaimed_1 := ⟨start1.p0, start1.e0, start1.about1, start1.theMethod, start1.args0, start1.below0, start1.atStart⟩
end Jvm.Pilot.@@N@@
