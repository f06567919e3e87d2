import JvmDerived
import JvmDerived.Pilot.@@N@@Statement
import JvmDerived.Pilot.@@N@@Code
set_option linter.unusedVariables false
set_option linter.unusedSimpArgs false
namespace Jvm.OwnGo
open Sem ClassFile Op Lib Jvm.Stand Jvm.Free Jvm.LawKit Jvm.RoadKit
/-- one instruction: where it stands, what it is, its length, the next pc -/
def I1 (code : ByteArray) (pc : Nat) (i : Instr) (len pc' : Nat) : Prop := decode code pc = .ok (i, len) ∧ pc + len = pc'
/-- a branch: besides, where it leads -/
def B1 (code : ByteArray) (pc : Nat) (i : Instr) (o : Int) (pcT pcF : Nat) : Prop := decode code pc = .ok (i, 3) ∧ pc + 3 = pcF ∧ 0 ≤ (pc : Int) + o ∧ ((pc : Int) + o).toNat = pcT
/-- what is fixed while a body runs -/
def Cx (p : Program) (s : State) (m : MethodId) (meth : Method) (c : Code) (Z : State) (code : ByteArray) (maxL : Nat) (own : String) (ret : Option FieldType) : Prop :=
  p.tables.exec = Jvm.exec ∧ c.code = code ∧ c.maxLocals = maxL ∧ Z.Warmed39 s.vm ∧ s.vm.findClass own = some m.cls ∧ meth.sig.returnType = ret ∧ meth.locks = false
/-- from the frame g, over every state that stands there with the heap h, the body ends, and ends in Q -/
def Go (p : Program) (l : Launch) (e : Env) (R : Room) (s : State) (m : MethodId) (args : Array Value) (below : List Frame) (meth : Method) (c : Code) (n0 : Nat) (FE : State → Outcome → Prop) (h : Heap) (ck cn : Nat) (g : JFrame) : Prop :=
  ∀ (T : State) (locs : List Loc), Stand p l e R s m args below meth c T locs ck cn → T.heap = h → Fr n0 locs →
    ∃ s₂ o, Steps p.tables e below (T.setTop g) s₂ ∧ s₂.status = .running ∧ Ended s₂ below o ∧ FE s₂ o
/-- a narrow ending -/
def EN (s : State) (n0 K N : Nat) (Q : Option Value → Heap → Prop) (s₂ : State) (o : Outcome) : Prop := ∃ v L, o = .returned v ∧ (Q v s₂.heap ∧ Fr n0 L) ∧ FrameEnd s o s₂ L K N
/-- a body's contract: from these arguments over this heap it returns as Q says, and writes nothing below n0 -/
def Ctr (l : Launch) (Z : State) (y : MethodName) (code : ByteArray) (maxL : Nat) (ret : Option FieldType) (rm : Room) (as' : Array Value) (h0 : Heap) (n0 : Nat) (Q : Option Value → Heap → Prop) : Prop :=
  ∀ ws : List Cond, MetFree l y (head1 (Cond.code y code maxL ret :: ws) rm) (fun a U => a = as' ∧ Z.Warmed39 U.vm ∧ U.heap = h0) (fun _ _ _ _ _ => True)
    (fun _ U o U' => ∃ v L, o = .returned v ∧ (Q v U'.heap ∧ Fr n0 L) ∧ FrameEnd U o U' L rm.cells rm.slots)
section
variable {p : Program} {l : Launch} {e : Env} {R : Room} {s : State} {m : MethodId} {args : Array Value} {below : List Frame} {meth : Method} {c : Code} {n0 K N : Nat} {Q : Option Value → Heap → Prop} {FE : State → Outcome → Prop} {h : Heap} {ck cn : Nat} {Z : State} {a0 : Array Value} {code : ByteArray} {maxL : Nat} {own : String} {ret : Option FieldType}
theorem Ctr.of_go {y : MethodName} {rm : Room} {as' : Array Value} {h0 : Heap} {Ls : Array Slot} (hpl : plainFor y = true) (hef : ∀ m, entryFrame m as' maxL = mkF m 0 Ls [])
    (hgo : ∀ p e s m below meth c, meth.name = y.name → Cx p s m meth c Z code maxL y.cls ret → Go p l e rm s m as' below meth c n0 (EN s n0 rm.cells rm.slots Q) h0 0 0 (mkF m 0 Ls [])) : Ctr l Z y code maxL ret rm as' h0 n0 Q := fun ws => by
  refine MetFree.of_bodySF hpl hisR ?_
  intro p e s m args below meth c s₁ Bd hml0 hP hK
  obtain ⟨rfl, hZ, hh⟩ := hP
  have X0 : Stand p l e rm s m args below meth c s₁ [] 0 0 := Stand.of_body Bd
  have e0 : s₁.heap = h0 := by rw [← hh, Bd.state]; rfl
  obtain ⟨s₂, o, g1, g2, g3, v, L, g4, g5, g6⟩ := hgo p e s m below meth c (name_of_methodNamed Bd.named Bd.method).1 ⟨Bd.exec, Bd.bytes, hml0, hZ, findClass_of_methodNamed Bd.named, Bd.returns, Bd.notSynchronized⟩ s₁ [] X0 e0 (Fr.nil n0)
  exact ⟨s₂, o, castTop (hef m) g1, g2, g3, v, L, g4, g5, g6⟩
theorem Go.step {g g' : JFrame} (st : ∀ (T : State) (locs : List Loc), Stand p l e R s m args below meth c T locs ck cn → T.heap = h → ∀ target, Steps p.tables e below (T.setTop g') target → Steps p.tables e below (T.setTop g) target)
    (k : Go p l e R s m args below meth c n0 FE h ck cn g') : Go p l e R s m args below meth c n0 FE h ck cn g := fun T locs X eT hN => by
  obtain ⟨s₂, o, h1, r⟩ := k T locs X eT hN
  exact ⟨s₂, o, st T locs X eT _ h1, r⟩
/-- a step that moves the state: heap, counts -/
theorem Go.move {g g' : JFrame} {h' : Heap} {ck' cn' : Nat} {T : State} {locs : List Loc} (hN : Fr n0 locs) {T' : State} {locs' : List Loc} (X' : Stand p l e R s m args below meth c T' locs' ck' cn') (e' : T'.heap = h') (hN' : Fr n0 locs')
    (st : ∀ target, Steps p.tables e below (T'.setTop g') target → Steps p.tables e below (T.setTop g) target) (k : Go p l e R s m args below meth c n0 FE h' ck' cn' g') :
    ∃ s₂ o, Steps p.tables e below (T.setTop g) s₂ ∧ s₂.status = .running ∧ Ended s₂ below o ∧ FE s₂ o := by
  obtain ⟨s₂, o, h1, r⟩ := k T' locs' X' e' hN'
  exact ⟨s₂, o, st _ h1, r⟩
theorem Go.join {g : JFrame} (g' : JFrame) (J : Go p l e R s m args below meth c n0 FE h ck cn g') (k : Go p l e R s m args below meth c n0 FE h ck cn g' → Go p l e R s m args below meth c n0 FE h ck cn g) : Go p l e R s m args below meth c n0 FE h ck cn g := k J
theorem Go.cast {g g' : JFrame} (k : Go p l e R s m args below meth c n0 FE h ck cn g') (q : g = g') : Go p l e R s m args below meth c n0 FE h ck cn g := q ▸ k
theorem Go.more {g : JFrame} {ck' cn' : Nat} (hc : ck ≤ ck') (hs : cn ≤ cn') (k : Go p l e R s m args below meth c n0 FE h ck' cn' g) : Go p l e R s m args below meth c n0 FE h ck cn g := fun T locs X eT hN => k T locs (X.more hc hs) eT hN
theorem Go.heap {g : JFrame} {h' : Heap} (q : h' = h) (k : Go p l e R s m args below meth c n0 FE h' ck cn g) : Go p l e R s m args below meth c n0 FE h ck cn g := q ▸ k
theorem Go.some' {v : Value} {pc : Nat} {Ls : Array Slot} {st : List Value} (k : Go p l e R s m args below meth c n0 FE h ck cn (mkF m pc Ls (v :: st))) : Go p l e R s m args below meth c n0 FE h ck cn (mkF m pc Ls ((some v).toList ++ st)) := k
theorem Go.none' {pc : Nat} {Ls : Array Slot} {st : List Value} (k : Go p l e R s m args below meth c n0 FE h ck cn (mkF m pc Ls st)) : Go p l e R s m args below meth c n0 FE h ck cn (mkF m pc Ls ((none : Option Value).toList ++ st)) := k
theorem g_iadd (C : Cx p s m meth c Z code maxL own ret) {pc pc' : Nat} {Ls : Array Slot} {st : List Value} {x y : Int32} (hd : I1 code pc (.iadd) 1 pc') (k : Go p l e R s m args below meth c n0 FE h ck cn (mkF m pc' Ls (.int (x + y) :: st))) : Go p l e R s m args below meth c n0 FE h ck cn (mkF m pc Ls (.int y :: .int x :: st)) := by
  obtain ⟨hd, rfl⟩ := hd
  exact Go.step (fun T locs X _ t k => XS.iadd X.here C.1 rfl (hb C.2.1 hd) rfl k) k
theorem g_isub (C : Cx p s m meth c Z code maxL own ret) {pc pc' : Nat} {Ls : Array Slot} {st : List Value} {x y : Int32} (hd : I1 code pc (.isub) 1 pc') (k : Go p l e R s m args below meth c n0 FE h ck cn (mkF m pc' Ls (.int (x - y) :: st))) : Go p l e R s m args below meth c n0 FE h ck cn (mkF m pc Ls (.int y :: .int x :: st)) := by
  obtain ⟨hd, rfl⟩ := hd
  exact Go.step (fun T locs X _ t k => XS.isub X.here C.1 rfl (hb C.2.1 hd) rfl k) k
theorem g_imul (C : Cx p s m meth c Z code maxL own ret) {pc pc' : Nat} {Ls : Array Slot} {st : List Value} {x y : Int32} (hd : I1 code pc (.imul) 1 pc') (k : Go p l e R s m args below meth c n0 FE h ck cn (mkF m pc' Ls (.int (x * y) :: st))) : Go p l e R s m args below meth c n0 FE h ck cn (mkF m pc Ls (.int y :: .int x :: st)) := by
  obtain ⟨hd, rfl⟩ := hd
  exact Go.step (fun T locs X _ t k => XS.imul X.here C.1 rfl (hb C.2.1 hd) rfl k) k
theorem g_iand (C : Cx p s m meth c Z code maxL own ret) {pc pc' : Nat} {Ls : Array Slot} {st : List Value} {x y : Int32} (hd : I1 code pc (.iand) 1 pc') (k : Go p l e R s m args below meth c n0 FE h ck cn (mkF m pc' Ls (.int (x &&& y) :: st))) : Go p l e R s m args below meth c n0 FE h ck cn (mkF m pc Ls (.int y :: .int x :: st)) := by
  obtain ⟨hd, rfl⟩ := hd
  exact Go.step (fun T locs X _ t k => XS.iand X.here C.1 rfl (hb C.2.1 hd) rfl k) k
theorem g_ior (C : Cx p s m meth c Z code maxL own ret) {pc pc' : Nat} {Ls : Array Slot} {st : List Value} {x y : Int32} (hd : I1 code pc (.ior) 1 pc') (k : Go p l e R s m args below meth c n0 FE h ck cn (mkF m pc' Ls (.int (x ||| y) :: st))) : Go p l e R s m args below meth c n0 FE h ck cn (mkF m pc Ls (.int y :: .int x :: st)) := by
  obtain ⟨hd, rfl⟩ := hd
  exact Go.step (fun T locs X _ t k => XS.ior X.here C.1 rfl (hb C.2.1 hd) rfl k) k
theorem g_ixor (C : Cx p s m meth c Z code maxL own ret) {pc pc' : Nat} {Ls : Array Slot} {st : List Value} {x y : Int32} (hd : I1 code pc (.ixor) 1 pc') (k : Go p l e R s m args below meth c n0 FE h ck cn (mkF m pc' Ls (.int (x ^^^ y) :: st))) : Go p l e R s m args below meth c n0 FE h ck cn (mkF m pc Ls (.int y :: .int x :: st)) := by
  obtain ⟨hd, rfl⟩ := hd
  exact Go.step (fun T locs X _ t k => XS.ixor X.here C.1 rfl (hb C.2.1 hd) rfl k) k
theorem g_ishl (C : Cx p s m meth c Z code maxL own ret) {pc pc' : Nat} {Ls : Array Slot} {st : List Value} {x y : Int32} (hd : I1 code pc (.ishl) 1 pc') (k : Go p l e R s m args below meth c n0 FE h ck cn (mkF m pc' Ls (.int (x <<< (y &&& 31)) :: st))) : Go p l e R s m args below meth c n0 FE h ck cn (mkF m pc Ls (.int y :: .int x :: st)) := by
  obtain ⟨hd, rfl⟩ := hd
  exact Go.step (fun T locs X _ t k => XS.ishl X.here C.1 rfl (hb C.2.1 hd) rfl k) k
theorem g_ishr (C : Cx p s m meth c Z code maxL own ret) {pc pc' : Nat} {Ls : Array Slot} {st : List Value} {x y : Int32} (hd : I1 code pc (.ishr) 1 pc') (k : Go p l e R s m args below meth c n0 FE h ck cn (mkF m pc' Ls (.int (x >>> (y &&& 31)) :: st))) : Go p l e R s m args below meth c n0 FE h ck cn (mkF m pc Ls (.int y :: .int x :: st)) := by
  obtain ⟨hd, rfl⟩ := hd
  exact Go.step (fun T locs X _ t k => XS.ishr X.here C.1 rfl (hb C.2.1 hd) rfl k) k
theorem g_iushr (C : Cx p s m meth c Z code maxL own ret) {pc pc' : Nat} {Ls : Array Slot} {st : List Value} {x y : Int32} (hd : I1 code pc (.iushr) 1 pc') (k : Go p l e R s m args below meth c n0 FE h ck cn (mkF m pc' Ls (.int ((x.toUInt32 >>> (y &&& 31).toUInt32).toInt32) :: st))) : Go p l e R s m args below meth c n0 FE h ck cn (mkF m pc Ls (.int y :: .int x :: st)) := by
  obtain ⟨hd, rfl⟩ := hd
  exact Go.step (fun T locs X _ t k => XS.iushr X.here C.1 rfl (hb C.2.1 hd) rfl k) k
theorem g_ladd (C : Cx p s m meth c Z code maxL own ret) {pc pc' : Nat} {Ls : Array Slot} {st : List Value} {x y : Int64} (hd : I1 code pc (.ladd) 1 pc') (k : Go p l e R s m args below meth c n0 FE h ck cn (mkF m pc' Ls (.long (x + y) :: st))) : Go p l e R s m args below meth c n0 FE h ck cn (mkF m pc Ls (.long y :: .long x :: st)) := by
  obtain ⟨hd, rfl⟩ := hd
  exact Go.step (fun T locs X _ t k => XS.ladd X.here C.1 rfl (hb C.2.1 hd) rfl k) k
theorem g_lsub (C : Cx p s m meth c Z code maxL own ret) {pc pc' : Nat} {Ls : Array Slot} {st : List Value} {x y : Int64} (hd : I1 code pc (.lsub) 1 pc') (k : Go p l e R s m args below meth c n0 FE h ck cn (mkF m pc' Ls (.long (x - y) :: st))) : Go p l e R s m args below meth c n0 FE h ck cn (mkF m pc Ls (.long y :: .long x :: st)) := by
  obtain ⟨hd, rfl⟩ := hd
  exact Go.step (fun T locs X _ t k => XS.lsub X.here C.1 rfl (hb C.2.1 hd) rfl k) k
theorem g_lmul (C : Cx p s m meth c Z code maxL own ret) {pc pc' : Nat} {Ls : Array Slot} {st : List Value} {x y : Int64} (hd : I1 code pc (.lmul) 1 pc') (k : Go p l e R s m args below meth c n0 FE h ck cn (mkF m pc' Ls (.long (x * y) :: st))) : Go p l e R s m args below meth c n0 FE h ck cn (mkF m pc Ls (.long y :: .long x :: st)) := by
  obtain ⟨hd, rfl⟩ := hd
  exact Go.step (fun T locs X _ t k => XS.lmul X.here C.1 rfl (hb C.2.1 hd) rfl k) k
theorem g_land (C : Cx p s m meth c Z code maxL own ret) {pc pc' : Nat} {Ls : Array Slot} {st : List Value} {x y : Int64} (hd : I1 code pc (.land) 1 pc') (k : Go p l e R s m args below meth c n0 FE h ck cn (mkF m pc' Ls (.long (x &&& y) :: st))) : Go p l e R s m args below meth c n0 FE h ck cn (mkF m pc Ls (.long y :: .long x :: st)) := by
  obtain ⟨hd, rfl⟩ := hd
  exact Go.step (fun T locs X _ t k => XS.land X.here C.1 rfl (hb C.2.1 hd) rfl k) k
theorem g_lor (C : Cx p s m meth c Z code maxL own ret) {pc pc' : Nat} {Ls : Array Slot} {st : List Value} {x y : Int64} (hd : I1 code pc (.lor) 1 pc') (k : Go p l e R s m args below meth c n0 FE h ck cn (mkF m pc' Ls (.long (x ||| y) :: st))) : Go p l e R s m args below meth c n0 FE h ck cn (mkF m pc Ls (.long y :: .long x :: st)) := by
  obtain ⟨hd, rfl⟩ := hd
  exact Go.step (fun T locs X _ t k => XS.lor X.here C.1 rfl (hb C.2.1 hd) rfl k) k
theorem g_lxor (C : Cx p s m meth c Z code maxL own ret) {pc pc' : Nat} {Ls : Array Slot} {st : List Value} {x y : Int64} (hd : I1 code pc (.lxor) 1 pc') (k : Go p l e R s m args below meth c n0 FE h ck cn (mkF m pc' Ls (.long (x ^^^ y) :: st))) : Go p l e R s m args below meth c n0 FE h ck cn (mkF m pc Ls (.long y :: .long x :: st)) := by
  obtain ⟨hd, rfl⟩ := hd
  exact Go.step (fun T locs X _ t k => XS.lxor X.here C.1 rfl (hb C.2.1 hd) rfl k) k
theorem g_lshl (C : Cx p s m meth c Z code maxL own ret) {pc pc' : Nat} {Ls : Array Slot} {st : List Value} {x : Int64} {y : Int32} (hd : I1 code pc (.lshl) 1 pc') (k : Go p l e R s m args below meth c n0 FE h ck cn (mkF m pc' Ls (.long (x <<< (y &&& 0x3f).toInt64) :: st))) : Go p l e R s m args below meth c n0 FE h ck cn (mkF m pc Ls (.int y :: .long x :: st)) := by
  obtain ⟨hd, rfl⟩ := hd
  exact Go.step (fun T locs X _ t k => XS.lshl X.here C.1 rfl (hb C.2.1 hd) rfl k) k
theorem g_lshr (C : Cx p s m meth c Z code maxL own ret) {pc pc' : Nat} {Ls : Array Slot} {st : List Value} {x : Int64} {y : Int32} (hd : I1 code pc (.lshr) 1 pc') (k : Go p l e R s m args below meth c n0 FE h ck cn (mkF m pc' Ls (.long (x >>> (y &&& 0x3f).toInt64) :: st))) : Go p l e R s m args below meth c n0 FE h ck cn (mkF m pc Ls (.int y :: .long x :: st)) := by
  obtain ⟨hd, rfl⟩ := hd
  exact Go.step (fun T locs X _ t k => XS.lshr X.here C.1 rfl (hb C.2.1 hd) rfl k) k
theorem g_lushr (C : Cx p s m meth c Z code maxL own ret) {pc pc' : Nat} {Ls : Array Slot} {st : List Value} {x : Int64} {y : Int32} (hd : I1 code pc (.lushr) 1 pc') (k : Go p l e R s m args below meth c n0 FE h ck cn (mkF m pc' Ls (.long ((x.toUInt64 >>> (y &&& 0x3f).toInt64.toUInt64).toInt64) :: st))) : Go p l e R s m args below meth c n0 FE h ck cn (mkF m pc Ls (.int y :: .long x :: st)) := by
  obtain ⟨hd, rfl⟩ := hd
  exact Go.step (fun T locs X _ t k => XS.lushr X.here C.1 rfl (hb C.2.1 hd) rfl k) k
theorem g_lcmp (C : Cx p s m meth c Z code maxL own ret) {pc pc' : Nat} {Ls : Array Slot} {st : List Value} {x y : Int64} (hd : I1 code pc (.lcmp) 1 pc') (k : Go p l e R s m args below meth c n0 FE h ck cn (mkF m pc' Ls (.int (lcmpW x y) :: st))) : Go p l e R s m args below meth c n0 FE h ck cn (mkF m pc Ls (.long y :: .long x :: st)) := by
  obtain ⟨hd, rfl⟩ := hd
  exact Go.step (fun T locs X _ t k => XS.lcmp X.here C.1 rfl (hb C.2.1 hd) rfl k) k
theorem g_ineg (C : Cx p s m meth c Z code maxL own ret) {pc pc' : Nat} {Ls : Array Slot} {st : List Value} {x : Int32} (hd : I1 code pc (.ineg) 1 pc') (k : Go p l e R s m args below meth c n0 FE h ck cn (mkF m pc' Ls (.int (-x) :: st))) : Go p l e R s m args below meth c n0 FE h ck cn (mkF m pc Ls (.int x :: st)) := by
  obtain ⟨hd, rfl⟩ := hd
  exact Go.step (fun T locs X _ t k => XS.ineg X.here C.1 rfl (hb C.2.1 hd) rfl k) k
theorem g_lneg (C : Cx p s m meth c Z code maxL own ret) {pc pc' : Nat} {Ls : Array Slot} {st : List Value} {x : Int64} (hd : I1 code pc (.lneg) 1 pc') (k : Go p l e R s m args below meth c n0 FE h ck cn (mkF m pc' Ls (.long (-x) :: st))) : Go p l e R s m args below meth c n0 FE h ck cn (mkF m pc Ls (.long x :: st)) := by
  obtain ⟨hd, rfl⟩ := hd
  exact Go.step (fun T locs X _ t k => XS.lneg X.here C.1 rfl (hb C.2.1 hd) rfl k) k
theorem g_i2l (C : Cx p s m meth c Z code maxL own ret) {pc pc' : Nat} {Ls : Array Slot} {st : List Value} {x : Int32} (hd : I1 code pc (.i2l) 1 pc') (k : Go p l e R s m args below meth c n0 FE h ck cn (mkF m pc' Ls (.long x.toInt64 :: st))) : Go p l e R s m args below meth c n0 FE h ck cn (mkF m pc Ls (.int x :: st)) := by
  obtain ⟨hd, rfl⟩ := hd
  exact Go.step (fun T locs X _ t k => XS.i2l X.here C.1 rfl (hb C.2.1 hd) rfl k) k
theorem g_l2i (C : Cx p s m meth c Z code maxL own ret) {pc pc' : Nat} {Ls : Array Slot} {st : List Value} {x : Int64} (hd : I1 code pc (.l2i) 1 pc') (k : Go p l e R s m args below meth c n0 FE h ck cn (mkF m pc' Ls (.int x.toInt32 :: st))) : Go p l e R s m args below meth c n0 FE h ck cn (mkF m pc Ls (.long x :: st)) := by
  obtain ⟨hd, rfl⟩ := hd
  exact Go.step (fun T locs X _ t k => XS.l2i X.here C.1 rfl (hb C.2.1 hd) rfl k) k
theorem g_i2b (C : Cx p s m meth c Z code maxL own ret) {pc pc' : Nat} {Ls : Array Slot} {st : List Value} {x : Int32} (hd : I1 code pc (.i2b) 1 pc') (k : Go p l e R s m args below meth c n0 FE h ck cn (mkF m pc' Ls (.int x.toInt8.toInt32 :: st))) : Go p l e R s m args below meth c n0 FE h ck cn (mkF m pc Ls (.int x :: st)) := by
  obtain ⟨hd, rfl⟩ := hd
  exact Go.step (fun T locs X _ t k => XS.i2b X.here C.1 rfl (hb C.2.1 hd) rfl k) k
theorem g_i2s (C : Cx p s m meth c Z code maxL own ret) {pc pc' : Nat} {Ls : Array Slot} {st : List Value} {x : Int32} (hd : I1 code pc (.i2s) 1 pc') (k : Go p l e R s m args below meth c n0 FE h ck cn (mkF m pc' Ls (.int x.toInt16.toInt32 :: st))) : Go p l e R s m args below meth c n0 FE h ck cn (mkF m pc Ls (.int x :: st)) := by
  obtain ⟨hd, rfl⟩ := hd
  exact Go.step (fun T locs X _ t k => XS.i2s X.here C.1 rfl (hb C.2.1 hd) rfl k) k
theorem g_i2c (C : Cx p s m meth c Z code maxL own ret) {pc pc' : Nat} {Ls : Array Slot} {st : List Value} {x : Int32} (hd : I1 code pc (.i2c) 1 pc') (k : Go p l e R s m args below meth c n0 FE h ck cn (mkF m pc' Ls (.int x.toUInt32.toUInt16.toUInt32.toInt32 :: st))) : Go p l e R s m args below meth c n0 FE h ck cn (mkF m pc Ls (.int x :: st)) := by
  obtain ⟨hd, rfl⟩ := hd
  exact Go.step (fun T locs X _ t k => XS.i2c X.here C.1 rfl (hb C.2.1 hd) rfl k) k
theorem g_idiv (C : Cx p s m meth c Z code maxL own ret) {pc pc' : Nat} {Ls : Array Slot} {st : List Value} {x y : Int32} (hd : I1 code pc (.idiv) 1 pc') (hy : y ≠ 0) (k : Go p l e R s m args below meth c n0 FE h ck cn (mkF m pc' Ls (.int (x / y) :: st))) : Go p l e R s m args below meth c n0 FE h ck cn (mkF m pc Ls (.int y :: .int x :: st)) := by
  obtain ⟨hd, rfl⟩ := hd
  exact Go.step (fun T locs X _ t k => XS.idiv X.here C.1 rfl (hb C.2.1 hd) rfl hy k) k
theorem g_ldiv (C : Cx p s m meth c Z code maxL own ret) {pc pc' : Nat} {Ls : Array Slot} {st : List Value} {x y : Int64} (hd : I1 code pc (.ldiv) 1 pc') (hy : y ≠ 0) (k : Go p l e R s m args below meth c n0 FE h ck cn (mkF m pc' Ls (.long (x / y) :: st))) : Go p l e R s m args below meth c n0 FE h ck cn (mkF m pc Ls (.long y :: .long x :: st)) := by
  obtain ⟨hd, rfl⟩ := hd
  exact Go.step (fun T locs X _ t k => XS.ldiv X.here C.1 rfl (hb C.2.1 hd) rfl hy k) k
theorem g_irem (C : Cx p s m meth c Z code maxL own ret) {pc pc' : Nat} {Ls : Array Slot} {st : List Value} {x y : Int32} (hd : I1 code pc .irem 1 pc') (hy : y ≠ 0) (k : Go p l e R s m args below meth c n0 FE h ck cn (mkF m pc' Ls (.int (x % y) :: st))) : Go p l e R s m args below meth c n0 FE h ck cn (mkF m pc Ls (.int y :: .int x :: st)) := by
  obtain ⟨hd, rfl⟩ := hd
  exact Go.step (fun T locs X _ t k => iremM X C.1 rfl (hb C.2.1 hd) rfl hy k) k
theorem g_lrem (C : Cx p s m meth c Z code maxL own ret) {pc pc' : Nat} {Ls : Array Slot} {st : List Value} {x y : Int64} (hd : I1 code pc .lrem 1 pc') (hy : y ≠ 0) (k : Go p l e R s m args below meth c n0 FE h ck cn (mkF m pc' Ls (.long (x % y) :: st))) : Go p l e R s m args below meth c n0 FE h ck cn (mkF m pc Ls (.long y :: .long x :: st)) := by
  obtain ⟨hd, rfl⟩ := hd
  exact Go.step (fun T locs X _ t k => XS.lrem X.here C.1 rfl (hb C.2.1 hd) rfl hy (by rw [lrem_mod]; exact k)) k
theorem g_iloadN (C : Cx p s m meth c Z code maxL own ret) {pc pc' : Nat} {Ls : Array Slot} {st : List Value} {k : Fin 4} {v : Int32} (hd : I1 code pc (.iload_n k) 1 pc') (hl : Ls[k.val]? = some (.val (.int v))) (k : Go p l e R s m args below meth c n0 FE h ck cn (mkF m pc' Ls (.int v :: st))) : Go p l e R s m args below meth c n0 FE h ck cn (mkF m pc Ls (st)) := by
  obtain ⟨hd, rfl⟩ := hd
  exact Go.step (fun T locs X _ t k => XS.iloadN X.here C.1 rfl (hb C.2.1 hd) hl k) k
theorem g_iload (C : Cx p s m meth c Z code maxL own ret) {pc pc' : Nat} {Ls : Array Slot} {st : List Value} {k : Nat} {v : Int32} (hd : I1 code pc (.iload k) 2 pc') (hl : Ls[k]? = some (.val (.int v))) (k : Go p l e R s m args below meth c n0 FE h ck cn (mkF m pc' Ls (.int v :: st))) : Go p l e R s m args below meth c n0 FE h ck cn (mkF m pc Ls (st)) := by
  obtain ⟨hd, rfl⟩ := hd
  exact Go.step (fun T locs X _ t k => XS.iload X.here C.1 rfl (hb C.2.1 hd) hl k) k
theorem g_istoreN (C : Cx p s m meth c Z code maxL own ret) {pc pc' : Nat} {Ls : Array Slot} {st : List Value} {k : Fin 4} {x : Int32} {Ls' : Array Slot} (hd : I1 code pc (.istore_n k) 1 pc') (hl : storeLocals Ls k.val (.int x) = some Ls') (k : Go p l e R s m args below meth c n0 FE h ck cn (mkF m pc' Ls' (st))) : Go p l e R s m args below meth c n0 FE h ck cn (mkF m pc Ls (.int x :: st)) := by
  obtain ⟨hd, rfl⟩ := hd
  exact Go.step (fun T locs X _ t k => XS.istoreN X.here C.1 rfl (hb C.2.1 hd) rfl hl k) k
theorem g_istore (C : Cx p s m meth c Z code maxL own ret) {pc pc' : Nat} {Ls : Array Slot} {st : List Value} {k : Nat} {x : Int32} {Ls' : Array Slot} (hd : I1 code pc (.istore k) 2 pc') (hl : storeLocals Ls k (.int x) = some Ls') (k : Go p l e R s m args below meth c n0 FE h ck cn (mkF m pc' Ls' (st))) : Go p l e R s m args below meth c n0 FE h ck cn (mkF m pc Ls (.int x :: st)) := by
  obtain ⟨hd, rfl⟩ := hd
  exact Go.step (fun T locs X _ t k => XS.istore X.here C.1 rfl (hb C.2.1 hd) rfl hl k) k
theorem g_lloadN (C : Cx p s m meth c Z code maxL own ret) {pc pc' : Nat} {Ls : Array Slot} {st : List Value} {k : Fin 4} {v : Int64} (hd : I1 code pc (.lload_n k) 1 pc') (hl : Ls[k.val]? = some (.val (.long v))) (k : Go p l e R s m args below meth c n0 FE h ck cn (mkF m pc' Ls (.long v :: st))) : Go p l e R s m args below meth c n0 FE h ck cn (mkF m pc Ls (st)) := by
  obtain ⟨hd, rfl⟩ := hd
  exact Go.step (fun T locs X _ t k => XS.lloadN X.here C.1 rfl (hb C.2.1 hd) hl k) k
theorem g_lload (C : Cx p s m meth c Z code maxL own ret) {pc pc' : Nat} {Ls : Array Slot} {st : List Value} {k : Nat} {v : Int64} (hd : I1 code pc (.lload k) 2 pc') (hl : Ls[k]? = some (.val (.long v))) (k : Go p l e R s m args below meth c n0 FE h ck cn (mkF m pc' Ls (.long v :: st))) : Go p l e R s m args below meth c n0 FE h ck cn (mkF m pc Ls (st)) := by
  obtain ⟨hd, rfl⟩ := hd
  exact Go.step (fun T locs X _ t k => XS.lload X.here C.1 rfl (hb C.2.1 hd) hl k) k
theorem g_lstoreN (C : Cx p s m meth c Z code maxL own ret) {pc pc' : Nat} {Ls : Array Slot} {st : List Value} {k : Fin 4} {x : Int64} {Ls' : Array Slot} (hd : I1 code pc (.lstore_n k) 1 pc') (hl : storeLocals Ls k.val (.long x) = some Ls') (k : Go p l e R s m args below meth c n0 FE h ck cn (mkF m pc' Ls' (st))) : Go p l e R s m args below meth c n0 FE h ck cn (mkF m pc Ls (.long x :: st)) := by
  obtain ⟨hd, rfl⟩ := hd
  exact Go.step (fun T locs X _ t k => XS.lstoreN X.here C.1 rfl (hb C.2.1 hd) rfl hl k) k
theorem g_lstore (C : Cx p s m meth c Z code maxL own ret) {pc pc' : Nat} {Ls : Array Slot} {st : List Value} {k : Nat} {x : Int64} {Ls' : Array Slot} (hd : I1 code pc (.lstore k) 2 pc') (hl : storeLocals Ls k (.long x) = some Ls') (k : Go p l e R s m args below meth c n0 FE h ck cn (mkF m pc' Ls' (st))) : Go p l e R s m args below meth c n0 FE h ck cn (mkF m pc Ls (.long x :: st)) := by
  obtain ⟨hd, rfl⟩ := hd
  exact Go.step (fun T locs X _ t k => XS.lstore X.here C.1 rfl (hb C.2.1 hd) rfl hl k) k
theorem g_aloadN (C : Cx p s m meth c Z code maxL own ret) {pc pc' : Nat} {Ls : Array Slot} {st : List Value} {k : Fin 4} {v : Value} (hd : I1 code pc (.aload_n k) 1 pc') (hl : Ls[k.val]? = some (.val v)) (hv : v.isRef = true) (k : Go p l e R s m args below meth c n0 FE h ck cn (mkF m pc' Ls (v :: st))) : Go p l e R s m args below meth c n0 FE h ck cn (mkF m pc Ls (st)) := by
  obtain ⟨hd, rfl⟩ := hd
  exact Go.step (fun T locs X _ t k => XS.aloadN X.here C.1 rfl (hb C.2.1 hd) hl hv k) k
theorem g_aload (C : Cx p s m meth c Z code maxL own ret) {pc pc' : Nat} {Ls : Array Slot} {st : List Value} {k : Nat} {v : Value} (hd : I1 code pc (.aload k) 2 pc') (hl : Ls[k]? = some (.val v)) (hv : v.isRef = true) (k : Go p l e R s m args below meth c n0 FE h ck cn (mkF m pc' Ls (v :: st))) : Go p l e R s m args below meth c n0 FE h ck cn (mkF m pc Ls (st)) := by
  obtain ⟨hd, rfl⟩ := hd
  exact Go.step (fun T locs X _ t k => XS.aload X.here C.1 rfl (hb C.2.1 hd) hl hv k) k
theorem g_astoreN (C : Cx p s m meth c Z code maxL own ret) {pc pc' : Nat} {Ls : Array Slot} {st : List Value} {k : Fin 4} {x : Value} {Ls' : Array Slot} (hd : I1 code pc (.astore_n k) 1 pc') (hv : x.isRef = true) (hl : storeLocals Ls k.val x = some Ls') (k : Go p l e R s m args below meth c n0 FE h ck cn (mkF m pc' Ls' (st))) : Go p l e R s m args below meth c n0 FE h ck cn (mkF m pc Ls (x :: st)) := by
  obtain ⟨hd, rfl⟩ := hd
  exact Go.step (fun T locs X _ t k => XS.astoreN X.here C.1 rfl (hb C.2.1 hd) rfl hv hl k) k
theorem g_astore (C : Cx p s m meth c Z code maxL own ret) {pc pc' : Nat} {Ls : Array Slot} {st : List Value} {k : Nat} {x : Value} {Ls' : Array Slot} (hd : I1 code pc (.astore k) 2 pc') (hv : x.isRef = true) (hl : storeLocals Ls k x = some Ls') (k : Go p l e R s m args below meth c n0 FE h ck cn (mkF m pc' Ls' (st))) : Go p l e R s m args below meth c n0 FE h ck cn (mkF m pc Ls (x :: st)) := by
  obtain ⟨hd, rfl⟩ := hd
  exact Go.step (fun T locs X _ t k => XS.astore X.here C.1 rfl (hb C.2.1 hd) rfl hv hl k) k
theorem g_iinc (C : Cx p s m meth c Z code maxL own ret) {pc pc' : Nat} {Ls : Array Slot} {st : List Value} {k : Nat} {cst : Int} {x : Int32} {Ls' : Array Slot} (hd : I1 code pc (.iinc k cst) 3 pc') (hl : Ls[k]? = some (.val (.int x))) (hl' : storeLocals Ls k (.int (x + Int32.ofInt cst)) = some Ls') (k : Go p l e R s m args below meth c n0 FE h ck cn (mkF m pc' Ls' (st))) : Go p l e R s m args below meth c n0 FE h ck cn (mkF m pc Ls (st)) := by
  obtain ⟨hd, rfl⟩ := hd
  exact Go.step (fun T locs X _ t k => XS.iinc X.here C.1 rfl (hb C.2.1 hd) hl hl' k) k
theorem g_iconst (C : Cx p s m meth c Z code maxL own ret) {pc pc' : Nat} {Ls : Array Slot} {st : List Value} {i : Int} (v : Int32) (hd : I1 code pc (.iconst i) 1 pc') (hv : Int32.ofInt i = v) (k : Go p l e R s m args below meth c n0 FE h ck cn (mkF m pc' Ls (.int v :: st))) : Go p l e R s m args below meth c n0 FE h ck cn (mkF m pc Ls st) := by
  obtain ⟨hd, rfl⟩ := hd
  subst hv
  exact Go.step (fun T locs X _ t k => XS.iconst X.here C.1 rfl (hb C.2.1 hd) k) k
theorem g_bipush (C : Cx p s m meth c Z code maxL own ret) {pc pc' : Nat} {Ls : Array Slot} {st : List Value} {i : Int} (v : Int32) (hd : I1 code pc (.bipush i) 2 pc') (hv : (Int8.ofInt i).toInt32 = v) (k : Go p l e R s m args below meth c n0 FE h ck cn (mkF m pc' Ls (.int v :: st))) : Go p l e R s m args below meth c n0 FE h ck cn (mkF m pc Ls st) := by
  obtain ⟨hd, rfl⟩ := hd
  subst hv
  exact Go.step (fun T locs X _ t k => XS.bipush X.here C.1 rfl (hb C.2.1 hd) k) k
theorem g_sipush (C : Cx p s m meth c Z code maxL own ret) {pc pc' : Nat} {Ls : Array Slot} {st : List Value} {i : Int} (v : Int32) (hd : I1 code pc (.sipush i) 3 pc') (hv : (Int16.ofInt i).toInt32 = v) (k : Go p l e R s m args below meth c n0 FE h ck cn (mkF m pc' Ls (.int v :: st))) : Go p l e R s m args below meth c n0 FE h ck cn (mkF m pc Ls st) := by
  obtain ⟨hd, rfl⟩ := hd
  subst hv
  exact Go.step (fun T locs X _ t k => XS.sipush X.here C.1 rfl (hb C.2.1 hd) k) k
theorem g_lconst (C : Cx p s m meth c Z code maxL own ret) {pc pc' : Nat} {Ls : Array Slot} {st : List Value} {i : Fin 2} (v : Int64) (hd : I1 code pc (.lconst i) 1 pc') (hv : Int64.ofNat i = v) (k : Go p l e R s m args below meth c n0 FE h ck cn (mkF m pc' Ls (.long v :: st))) : Go p l e R s m args below meth c n0 FE h ck cn (mkF m pc Ls st) := by
  obtain ⟨hd, rfl⟩ := hd
  subst hv
  exact Go.step (fun T locs X _ t k => XS.lconst X.here C.1 rfl (hb C.2.1 hd) k) k
theorem g_aconstNull (C : Cx p s m meth c Z code maxL own ret) {pc pc' : Nat} {Ls : Array Slot} {st : List Value}  (hd : I1 code pc (.aconst_null) 1 pc') (k : Go p l e R s m args below meth c n0 FE h ck cn (mkF m pc' Ls (.null :: st))) : Go p l e R s m args below meth c n0 FE h ck cn (mkF m pc Ls (st)) := by
  obtain ⟨hd, rfl⟩ := hd
  exact Go.step (fun T locs X _ t k => XS.aconstNull X.here C.1 rfl (hb C.2.1 hd)  k) k
theorem g_ldcInt (C : Cx p s m meth c Z code maxL own ret) {pc pc' : Nat} {Ls : Array Slot} {st : List Value} {i : Nat} {v : Int32} (hd : I1 code pc (.ldc i) 2 pc') (w : (Cond.constant own i v).before a0 Z = true) (k : Go p l e R s m args below meth c n0 FE h ck cn (mkF m pc' Ls (.int v :: st))) : Go p l e R s m args below meth c n0 FE h ck cn (mkF m pc Ls st) := by
  obtain ⟨hd, rfl⟩ := hd
  exact Go.step (fun T locs X _ t k => X.ldcInt C.1 C.2.2.2.2.1 (mvT C.2.2.2.1 w) (g := mkF m pc Ls st) rfl (hb C.2.1 hd) _ k) k
theorem g_ldcwInt (C : Cx p s m meth c Z code maxL own ret) {pc pc' : Nat} {Ls : Array Slot} {st : List Value} {i : Nat} {v : Int32} (hd : I1 code pc (.ldc_w i) 3 pc') (w : (Cond.constant own i v).before a0 Z = true) (k : Go p l e R s m args below meth c n0 FE h ck cn (mkF m pc' Ls (.int v :: st))) : Go p l e R s m args below meth c n0 FE h ck cn (mkF m pc Ls st) := by
  obtain ⟨hd, rfl⟩ := hd
  exact Go.step (fun T locs X _ t k => X.ldcwInt C.1 C.2.2.2.2.1 (mvT C.2.2.2.1 w) (g := mkF m pc Ls st) rfl (hb C.2.1 hd) _ k) k
theorem g_ldc2Long (C : Cx p s m meth c Z code maxL own ret) {pc pc' : Nat} {Ls : Array Slot} {st : List Value} {i : Nat} {v : Int64} (hd : I1 code pc (.ldc2_w i) 3 pc') (w : (Cond.constantLong own i v).before a0 Z = true) (k : Go p l e R s m args below meth c n0 FE h ck cn (mkF m pc' Ls (.long v :: st))) : Go p l e R s m args below meth c n0 FE h ck cn (mkF m pc Ls st) := by
  obtain ⟨hd, rfl⟩ := hd
  exact Go.step (fun T locs X _ t k => X.ldc2Long C.1 C.2.2.2.2.1 (mvT C.2.2.2.1 w) (g := mkF m pc Ls st) rfl (hb C.2.1 hd) _ k) k
theorem g_dup (C : Cx p s m meth c Z code maxL own ret) {pc pc' : Nat} {Ls : Array Slot} {st : List Value} {x : Value} (hd : I1 code pc (.dup) 1 pc') (hc : x.category = 1) (k : Go p l e R s m args below meth c n0 FE h ck cn (mkF m pc' Ls (x :: x :: st))) : Go p l e R s m args below meth c n0 FE h ck cn (mkF m pc Ls (x :: st)) := by
  obtain ⟨hd, rfl⟩ := hd
  exact Go.step (fun T locs X _ t k => XS.dup X.here C.1 rfl (hb C.2.1 hd) rfl hc k) k
theorem g_pop (C : Cx p s m meth c Z code maxL own ret) {pc pc' : Nat} {Ls : Array Slot} {st : List Value} {x : Value} (hd : I1 code pc (.pop) 1 pc') (hc : x.category = 1) (k : Go p l e R s m args below meth c n0 FE h ck cn (mkF m pc' Ls (st))) : Go p l e R s m args below meth c n0 FE h ck cn (mkF m pc Ls (x :: st)) := by
  obtain ⟨hd, rfl⟩ := hd
  exact Go.step (fun T locs X _ t k => XS.pop X.here C.1 rfl (hb C.2.1 hd) rfl hc k) k
theorem g_dupX1 (C : Cx p s m meth c Z code maxL own ret) {pc pc' : Nat} {Ls : Array Slot} {st : List Value} {x y : Value} (hd : I1 code pc (.dup_x1) 1 pc') (hc : x.category = 1) (hc' : y.category = 1) (k : Go p l e R s m args below meth c n0 FE h ck cn (mkF m pc' Ls (x :: y :: x :: st))) : Go p l e R s m args below meth c n0 FE h ck cn (mkF m pc Ls (x :: y :: st)) := by
  obtain ⟨hd, rfl⟩ := hd
  exact Go.step (fun T locs X _ t k => XS.dupX1 X.here C.1 rfl (hb C.2.1 hd) rfl hc hc' k) k
theorem g_dup2 (C : Cx p s m meth c Z code maxL own ret) {pc pc' : Nat} {Ls : Array Slot} {st : List Value} {x y : Value} (hd : I1 code pc (.dup2) 1 pc') (hc : x.category = 1) (hc' : y.category = 1) (k : Go p l e R s m args below meth c n0 FE h ck cn (mkF m pc' Ls (x :: y :: x :: y :: st))) : Go p l e R s m args below meth c n0 FE h ck cn (mkF m pc Ls (x :: y :: st)) := by
  obtain ⟨hd, rfl⟩ := hd
  exact Go.step (fun T locs X _ t k => Jvm.Free.XT.dup2 X.here C.1 rfl (hb C.2.1 hd) rfl hc hc' k) k
theorem g_dup2L (C : Cx p s m meth c Z code maxL own ret) {pc pc' : Nat} {Ls : Array Slot} {st : List Value} {x : Int64} (hd : I1 code pc (.dup2) 1 pc') (k : Go p l e R s m args below meth c n0 FE h ck cn (mkF m pc' Ls (.long x :: .long x :: st))) : Go p l e R s m args below meth c n0 FE h ck cn (mkF m pc Ls (.long x :: st)) := by
  obtain ⟨hd, rfl⟩ := hd
  exact Go.step (fun T locs X _ t k => Jvm.Free.XT.dup2L X.here C.1 rfl (hb C.2.1 hd) rfl k) k
theorem g_goto (C : Cx p s m meth c Z code maxL own ret) {pc pcT pcF : Nat} {Ls : Array Slot} {st : List Value} {o : Int} (hd : B1 code pc (.goto o) o pcT pcF) (k : Go p l e R s m args below meth c n0 FE h ck cn (mkF m pcT Ls st)) : Go p l e R s m args below meth c n0 FE h ck cn (mkF m pc Ls st) := by
  obtain ⟨hd, -, ho, hp⟩ := hd
  exact Go.step (fun T locs X _ t k => XS.goto X.here C.1 rfl (pc0 := pc) rfl (hb C.2.1 hd) ho hp k) k
theorem g_icmp_lt (C : Cx p s m meth c Z code maxL own ret) {pc pcT pcF : Nat} {Ls : Array Slot} {st : List Value} {o : Int} {x y : Int32} (hd : B1 code pc (.if_icmp .lt o) o pcT pcF) (kt : x < y → Go p l e R s m args below meth c n0 FE h ck cn (mkF m pcT Ls st)) (kf : ¬ (x < y) → Go p l e R s m args below meth c n0 FE h ck cn (mkF m pcF Ls st)) : Go p l e R s m args below meth c n0 FE h ck cn (mkF m pc Ls (.int y :: .int x :: st)) := by
  obtain ⟨hd, rfl, ho, hp⟩ := hd
  by_cases q : x < y
  · exact Go.step (fun T locs X _ t k => XS.icmpYes X.here C.1 rfl (pc0 := pc) rfl (hb C.2.1 hd) rfl ((tlt q).1) ho hp k) (kt q)
  · exact Go.step (fun T locs X _ t k => XS.icmpNo X.here C.1 rfl (hb C.2.1 hd) rfl ((flt q).1) k) (kf q)
theorem g_if_lt (C : Cx p s m meth c Z code maxL own ret) {pc pcT pcF : Nat} {Ls : Array Slot} {st : List Value} {o : Int} {x : Int32} (hd : B1 code pc (.ifCond .lt o) o pcT pcF) (kt : x < 0 → Go p l e R s m args below meth c n0 FE h ck cn (mkF m pcT Ls st)) (kf : ¬ (x < 0) → Go p l e R s m args below meth c n0 FE h ck cn (mkF m pcF Ls st)) : Go p l e R s m args below meth c n0 FE h ck cn (mkF m pc Ls (.int x :: st)) := by
  obtain ⟨hd, rfl, ho, hp⟩ := hd
  by_cases q : x < 0
  · exact Go.step (fun T locs X _ t k => XS.ifYes X.here C.1 rfl (pc0 := pc) rfl (hb C.2.1 hd) rfl ((if0 _ _).trans (tlt q).1) ho hp k) (kt q)
  · exact Go.step (fun T locs X _ t k => XS.ifNo X.here C.1 rfl (hb C.2.1 hd) rfl ((if0 _ _).trans (flt q).1) k) (kf q)
theorem g_ifl_lt (C : Cx p s m meth c Z code maxL own ret) {pc pcT pcF : Nat} {Ls : Array Slot} {st : List Value} {o : Int} {x y : Int64} (hd : B1 code pc (.ifCond .lt o) o pcT pcF) (kt : x < y → Go p l e R s m args below meth c n0 FE h ck cn (mkF m pcT Ls st)) (kf : ¬ (x < y) → Go p l e R s m args below meth c n0 FE h ck cn (mkF m pcF Ls st)) : Go p l e R s m args below meth c n0 FE h ck cn (mkF m pc Ls (.int (lcmpW x y) :: st)) := by
  obtain ⟨hd, rfl, ho, hp⟩ := hd
  by_cases q : x < y
  · exact Go.step (fun T locs X _ t k => XS.ifYes X.here C.1 rfl (pc0 := pc) rfl (hb C.2.1 hd) rfl ((if0 _ _).trans (tlt ((lw_lt x y).mpr q)).1) ho hp k) (kt q)
  · exact Go.step (fun T locs X _ t k => XS.ifNo X.here C.1 rfl (hb C.2.1 hd) rfl ((if0 _ _).trans (flt (fun z => q ((lw_lt x y).mp z))).1) k) (kf q)
theorem g_icmp_ge (C : Cx p s m meth c Z code maxL own ret) {pc pcT pcF : Nat} {Ls : Array Slot} {st : List Value} {o : Int} {x y : Int32} (hd : B1 code pc (.if_icmp .ge o) o pcT pcF) (kt : x < y → Go p l e R s m args below meth c n0 FE h ck cn (mkF m pcF Ls st)) (kf : ¬ (x < y) → Go p l e R s m args below meth c n0 FE h ck cn (mkF m pcT Ls st)) : Go p l e R s m args below meth c n0 FE h ck cn (mkF m pc Ls (.int y :: .int x :: st)) := by
  obtain ⟨hd, rfl, ho, hp⟩ := hd
  by_cases q : x < y
  · exact Go.step (fun T locs X _ t k => XS.icmpNo X.here C.1 rfl (hb C.2.1 hd) rfl ((tlt q).2.1) k) (kt q)
  · exact Go.step (fun T locs X _ t k => XS.icmpYes X.here C.1 rfl (pc0 := pc) rfl (hb C.2.1 hd) rfl ((flt q).2.1) ho hp k) (kf q)
theorem g_if_ge (C : Cx p s m meth c Z code maxL own ret) {pc pcT pcF : Nat} {Ls : Array Slot} {st : List Value} {o : Int} {x : Int32} (hd : B1 code pc (.ifCond .ge o) o pcT pcF) (kt : x < 0 → Go p l e R s m args below meth c n0 FE h ck cn (mkF m pcF Ls st)) (kf : ¬ (x < 0) → Go p l e R s m args below meth c n0 FE h ck cn (mkF m pcT Ls st)) : Go p l e R s m args below meth c n0 FE h ck cn (mkF m pc Ls (.int x :: st)) := by
  obtain ⟨hd, rfl, ho, hp⟩ := hd
  by_cases q : x < 0
  · exact Go.step (fun T locs X _ t k => XS.ifNo X.here C.1 rfl (hb C.2.1 hd) rfl ((if0 _ _).trans (tlt q).2.1) k) (kt q)
  · exact Go.step (fun T locs X _ t k => XS.ifYes X.here C.1 rfl (pc0 := pc) rfl (hb C.2.1 hd) rfl ((if0 _ _).trans (flt q).2.1) ho hp k) (kf q)
theorem g_ifl_ge (C : Cx p s m meth c Z code maxL own ret) {pc pcT pcF : Nat} {Ls : Array Slot} {st : List Value} {o : Int} {x y : Int64} (hd : B1 code pc (.ifCond .ge o) o pcT pcF) (kt : x < y → Go p l e R s m args below meth c n0 FE h ck cn (mkF m pcF Ls st)) (kf : ¬ (x < y) → Go p l e R s m args below meth c n0 FE h ck cn (mkF m pcT Ls st)) : Go p l e R s m args below meth c n0 FE h ck cn (mkF m pc Ls (.int (lcmpW x y) :: st)) := by
  obtain ⟨hd, rfl, ho, hp⟩ := hd
  by_cases q : x < y
  · exact Go.step (fun T locs X _ t k => XS.ifNo X.here C.1 rfl (hb C.2.1 hd) rfl ((if0 _ _).trans (tlt ((lw_lt x y).mpr q)).2.1) k) (kt q)
  · exact Go.step (fun T locs X _ t k => XS.ifYes X.here C.1 rfl (pc0 := pc) rfl (hb C.2.1 hd) rfl ((if0 _ _).trans (flt (fun z => q ((lw_lt x y).mp z))).2.1) ho hp k) (kf q)
theorem g_icmp_gt (C : Cx p s m meth c Z code maxL own ret) {pc pcT pcF : Nat} {Ls : Array Slot} {st : List Value} {o : Int} {x y : Int32} (hd : B1 code pc (.if_icmp .gt o) o pcT pcF) (kt : y < x → Go p l e R s m args below meth c n0 FE h ck cn (mkF m pcT Ls st)) (kf : ¬ (y < x) → Go p l e R s m args below meth c n0 FE h ck cn (mkF m pcF Ls st)) : Go p l e R s m args below meth c n0 FE h ck cn (mkF m pc Ls (.int y :: .int x :: st)) := by
  obtain ⟨hd, rfl, ho, hp⟩ := hd
  by_cases q : y < x
  · exact Go.step (fun T locs X _ t k => XS.icmpYes X.here C.1 rfl (pc0 := pc) rfl (hb C.2.1 hd) rfl ((tlt q).2.2.1) ho hp k) (kt q)
  · exact Go.step (fun T locs X _ t k => XS.icmpNo X.here C.1 rfl (hb C.2.1 hd) rfl ((flt q).2.2.1) k) (kf q)
theorem g_if_gt (C : Cx p s m meth c Z code maxL own ret) {pc pcT pcF : Nat} {Ls : Array Slot} {st : List Value} {o : Int} {x : Int32} (hd : B1 code pc (.ifCond .gt o) o pcT pcF) (kt : 0 < x → Go p l e R s m args below meth c n0 FE h ck cn (mkF m pcT Ls st)) (kf : ¬ (0 < x) → Go p l e R s m args below meth c n0 FE h ck cn (mkF m pcF Ls st)) : Go p l e R s m args below meth c n0 FE h ck cn (mkF m pc Ls (.int x :: st)) := by
  obtain ⟨hd, rfl, ho, hp⟩ := hd
  by_cases q : 0 < x
  · exact Go.step (fun T locs X _ t k => XS.ifYes X.here C.1 rfl (pc0 := pc) rfl (hb C.2.1 hd) rfl ((if0 _ _).trans (tlt q).2.2.1) ho hp k) (kt q)
  · exact Go.step (fun T locs X _ t k => XS.ifNo X.here C.1 rfl (hb C.2.1 hd) rfl ((if0 _ _).trans (flt q).2.2.1) k) (kf q)
theorem g_ifl_gt (C : Cx p s m meth c Z code maxL own ret) {pc pcT pcF : Nat} {Ls : Array Slot} {st : List Value} {o : Int} {x y : Int64} (hd : B1 code pc (.ifCond .gt o) o pcT pcF) (kt : y < x → Go p l e R s m args below meth c n0 FE h ck cn (mkF m pcT Ls st)) (kf : ¬ (y < x) → Go p l e R s m args below meth c n0 FE h ck cn (mkF m pcF Ls st)) : Go p l e R s m args below meth c n0 FE h ck cn (mkF m pc Ls (.int (lcmpW x y) :: st)) := by
  obtain ⟨hd, rfl, ho, hp⟩ := hd
  by_cases q : y < x
  · exact Go.step (fun T locs X _ t k => XS.ifYes X.here C.1 rfl (pc0 := pc) rfl (hb C.2.1 hd) rfl ((if0 _ _).trans (tlt ((lw_gt x y).mpr q)).2.2.1) ho hp k) (kt q)
  · exact Go.step (fun T locs X _ t k => XS.ifNo X.here C.1 rfl (hb C.2.1 hd) rfl ((if0 _ _).trans (flt (fun z => q ((lw_gt x y).mp z))).2.2.1) k) (kf q)
theorem g_icmp_le (C : Cx p s m meth c Z code maxL own ret) {pc pcT pcF : Nat} {Ls : Array Slot} {st : List Value} {o : Int} {x y : Int32} (hd : B1 code pc (.if_icmp .le o) o pcT pcF) (kt : y < x → Go p l e R s m args below meth c n0 FE h ck cn (mkF m pcF Ls st)) (kf : ¬ (y < x) → Go p l e R s m args below meth c n0 FE h ck cn (mkF m pcT Ls st)) : Go p l e R s m args below meth c n0 FE h ck cn (mkF m pc Ls (.int y :: .int x :: st)) := by
  obtain ⟨hd, rfl, ho, hp⟩ := hd
  by_cases q : y < x
  · exact Go.step (fun T locs X _ t k => XS.icmpNo X.here C.1 rfl (hb C.2.1 hd) rfl ((tlt q).2.2.2) k) (kt q)
  · exact Go.step (fun T locs X _ t k => XS.icmpYes X.here C.1 rfl (pc0 := pc) rfl (hb C.2.1 hd) rfl ((flt q).2.2.2) ho hp k) (kf q)
theorem g_if_le (C : Cx p s m meth c Z code maxL own ret) {pc pcT pcF : Nat} {Ls : Array Slot} {st : List Value} {o : Int} {x : Int32} (hd : B1 code pc (.ifCond .le o) o pcT pcF) (kt : 0 < x → Go p l e R s m args below meth c n0 FE h ck cn (mkF m pcF Ls st)) (kf : ¬ (0 < x) → Go p l e R s m args below meth c n0 FE h ck cn (mkF m pcT Ls st)) : Go p l e R s m args below meth c n0 FE h ck cn (mkF m pc Ls (.int x :: st)) := by
  obtain ⟨hd, rfl, ho, hp⟩ := hd
  by_cases q : 0 < x
  · exact Go.step (fun T locs X _ t k => XS.ifNo X.here C.1 rfl (hb C.2.1 hd) rfl ((if0 _ _).trans (tlt q).2.2.2) k) (kt q)
  · exact Go.step (fun T locs X _ t k => XS.ifYes X.here C.1 rfl (pc0 := pc) rfl (hb C.2.1 hd) rfl ((if0 _ _).trans (flt q).2.2.2) ho hp k) (kf q)
theorem g_ifl_le (C : Cx p s m meth c Z code maxL own ret) {pc pcT pcF : Nat} {Ls : Array Slot} {st : List Value} {o : Int} {x y : Int64} (hd : B1 code pc (.ifCond .le o) o pcT pcF) (kt : y < x → Go p l e R s m args below meth c n0 FE h ck cn (mkF m pcF Ls st)) (kf : ¬ (y < x) → Go p l e R s m args below meth c n0 FE h ck cn (mkF m pcT Ls st)) : Go p l e R s m args below meth c n0 FE h ck cn (mkF m pc Ls (.int (lcmpW x y) :: st)) := by
  obtain ⟨hd, rfl, ho, hp⟩ := hd
  by_cases q : y < x
  · exact Go.step (fun T locs X _ t k => XS.ifNo X.here C.1 rfl (hb C.2.1 hd) rfl ((if0 _ _).trans (tlt ((lw_gt x y).mpr q)).2.2.2) k) (kt q)
  · exact Go.step (fun T locs X _ t k => XS.ifYes X.here C.1 rfl (pc0 := pc) rfl (hb C.2.1 hd) rfl ((if0 _ _).trans (flt (fun z => q ((lw_gt x y).mp z))).2.2.2) ho hp k) (kf q)
theorem g_icmp_eq (C : Cx p s m meth c Z code maxL own ret) {pc pcT pcF : Nat} {Ls : Array Slot} {st : List Value} {o : Int} {x y : Int32} (hd : B1 code pc (.if_icmp .eq o) o pcT pcF) (kt : x = y → Go p l e R s m args below meth c n0 FE h ck cn (mkF m pcT Ls st)) (kf : ¬ (x = y) → Go p l e R s m args below meth c n0 FE h ck cn (mkF m pcF Ls st)) : Go p l e R s m args below meth c n0 FE h ck cn (mkF m pc Ls (.int y :: .int x :: st)) := by
  obtain ⟨hd, rfl, ho, hp⟩ := hd
  by_cases q : x = y
  · exact Go.step (fun T locs X _ t k => XS.icmpYes X.here C.1 rfl (pc0 := pc) rfl (hb C.2.1 hd) rfl ((teq q).1) ho hp k) (kt q)
  · exact Go.step (fun T locs X _ t k => XS.icmpNo X.here C.1 rfl (hb C.2.1 hd) rfl ((feq q).1) k) (kf q)
theorem g_if_eq (C : Cx p s m meth c Z code maxL own ret) {pc pcT pcF : Nat} {Ls : Array Slot} {st : List Value} {o : Int} {x : Int32} (hd : B1 code pc (.ifCond .eq o) o pcT pcF) (kt : x = 0 → Go p l e R s m args below meth c n0 FE h ck cn (mkF m pcT Ls st)) (kf : ¬ (x = 0) → Go p l e R s m args below meth c n0 FE h ck cn (mkF m pcF Ls st)) : Go p l e R s m args below meth c n0 FE h ck cn (mkF m pc Ls (.int x :: st)) := by
  obtain ⟨hd, rfl, ho, hp⟩ := hd
  by_cases q : x = 0
  · exact Go.step (fun T locs X _ t k => XS.ifYes X.here C.1 rfl (pc0 := pc) rfl (hb C.2.1 hd) rfl ((if0 _ _).trans (teq q).1) ho hp k) (kt q)
  · exact Go.step (fun T locs X _ t k => XS.ifNo X.here C.1 rfl (hb C.2.1 hd) rfl ((if0 _ _).trans (feq q).1) k) (kf q)
theorem g_ifl_eq (C : Cx p s m meth c Z code maxL own ret) {pc pcT pcF : Nat} {Ls : Array Slot} {st : List Value} {o : Int} {x y : Int64} (hd : B1 code pc (.ifCond .eq o) o pcT pcF) (kt : x = y → Go p l e R s m args below meth c n0 FE h ck cn (mkF m pcT Ls st)) (kf : ¬ (x = y) → Go p l e R s m args below meth c n0 FE h ck cn (mkF m pcF Ls st)) : Go p l e R s m args below meth c n0 FE h ck cn (mkF m pc Ls (.int (lcmpW x y) :: st)) := by
  obtain ⟨hd, rfl, ho, hp⟩ := hd
  by_cases q : x = y
  · exact Go.step (fun T locs X _ t k => XS.ifYes X.here C.1 rfl (pc0 := pc) rfl (hb C.2.1 hd) rfl ((if0 _ _).trans (teq ((lw_eq x y).mpr q)).1) ho hp k) (kt q)
  · exact Go.step (fun T locs X _ t k => XS.ifNo X.here C.1 rfl (hb C.2.1 hd) rfl ((if0 _ _).trans (feq (fun z => q ((lw_eq x y).mp z))).1) k) (kf q)
theorem g_icmp_ne (C : Cx p s m meth c Z code maxL own ret) {pc pcT pcF : Nat} {Ls : Array Slot} {st : List Value} {o : Int} {x y : Int32} (hd : B1 code pc (.if_icmp .ne o) o pcT pcF) (kt : x = y → Go p l e R s m args below meth c n0 FE h ck cn (mkF m pcF Ls st)) (kf : ¬ (x = y) → Go p l e R s m args below meth c n0 FE h ck cn (mkF m pcT Ls st)) : Go p l e R s m args below meth c n0 FE h ck cn (mkF m pc Ls (.int y :: .int x :: st)) := by
  obtain ⟨hd, rfl, ho, hp⟩ := hd
  by_cases q : x = y
  · exact Go.step (fun T locs X _ t k => XS.icmpNo X.here C.1 rfl (hb C.2.1 hd) rfl ((teq q).2) k) (kt q)
  · exact Go.step (fun T locs X _ t k => XS.icmpYes X.here C.1 rfl (pc0 := pc) rfl (hb C.2.1 hd) rfl ((feq q).2) ho hp k) (kf q)
theorem g_if_ne (C : Cx p s m meth c Z code maxL own ret) {pc pcT pcF : Nat} {Ls : Array Slot} {st : List Value} {o : Int} {x : Int32} (hd : B1 code pc (.ifCond .ne o) o pcT pcF) (kt : x = 0 → Go p l e R s m args below meth c n0 FE h ck cn (mkF m pcF Ls st)) (kf : ¬ (x = 0) → Go p l e R s m args below meth c n0 FE h ck cn (mkF m pcT Ls st)) : Go p l e R s m args below meth c n0 FE h ck cn (mkF m pc Ls (.int x :: st)) := by
  obtain ⟨hd, rfl, ho, hp⟩ := hd
  by_cases q : x = 0
  · exact Go.step (fun T locs X _ t k => XS.ifNo X.here C.1 rfl (hb C.2.1 hd) rfl ((if0 _ _).trans (teq q).2) k) (kt q)
  · exact Go.step (fun T locs X _ t k => XS.ifYes X.here C.1 rfl (pc0 := pc) rfl (hb C.2.1 hd) rfl ((if0 _ _).trans (feq q).2) ho hp k) (kf q)
theorem g_ifl_ne (C : Cx p s m meth c Z code maxL own ret) {pc pcT pcF : Nat} {Ls : Array Slot} {st : List Value} {o : Int} {x y : Int64} (hd : B1 code pc (.ifCond .ne o) o pcT pcF) (kt : x = y → Go p l e R s m args below meth c n0 FE h ck cn (mkF m pcF Ls st)) (kf : ¬ (x = y) → Go p l e R s m args below meth c n0 FE h ck cn (mkF m pcT Ls st)) : Go p l e R s m args below meth c n0 FE h ck cn (mkF m pc Ls (.int (lcmpW x y) :: st)) := by
  obtain ⟨hd, rfl, ho, hp⟩ := hd
  by_cases q : x = y
  · exact Go.step (fun T locs X _ t k => XS.ifNo X.here C.1 rfl (hb C.2.1 hd) rfl ((if0 _ _).trans (teq ((lw_eq x y).mpr q)).2) k) (kt q)
  · exact Go.step (fun T locs X _ t k => XS.ifYes X.here C.1 rfl (pc0 := pc) rfl (hb C.2.1 hd) rfl ((if0 _ _).trans (feq (fun z => q ((lw_eq x y).mp z))).2) ho hp k) (kf q)
theorem g_ifnullN (C : Cx p s m meth c Z code maxL own ret) {pc pcT pcF : Nat} {Ls : Array Slot} {st : List Value} {o : Int} {b : Addr} (hd : B1 code pc (.ifnull o) o pcT pcF) (k : Go p l e R s m args below meth c n0 FE h ck cn (mkF m pcF Ls st)) : Go p l e R s m args below meth c n0 FE h ck cn (mkF m pc Ls (.ref b :: st)) := by
  obtain ⟨hd, rfl, ho, hp⟩ := hd
  exact Go.step (fun T locs X _ t k => XS.ifnullNo X.here C.1 rfl (hb C.2.1 hd) rfl k) k
theorem g_ifnullY (C : Cx p s m meth c Z code maxL own ret) {pc pcT pcF : Nat} {Ls : Array Slot} {st : List Value} {o : Int} (hd : B1 code pc (.ifnull o) o pcT pcF) (k : Go p l e R s m args below meth c n0 FE h ck cn (mkF m pcT Ls st)) : Go p l e R s m args below meth c n0 FE h ck cn (mkF m pc Ls (.null :: st)) := by
  obtain ⟨hd, rfl, ho, hp⟩ := hd
  exact Go.step (fun T locs X _ t k => XS.ifnullYes X.here C.1 rfl (pc0 := pc) rfl (hb C.2.1 hd) rfl ho hp k) k
theorem g_ifnonnullY (C : Cx p s m meth c Z code maxL own ret) {pc pcT pcF : Nat} {Ls : Array Slot} {st : List Value} {o : Int} {b : Addr} (hd : B1 code pc (.ifnonnull o) o pcT pcF) (k : Go p l e R s m args below meth c n0 FE h ck cn (mkF m pcT Ls st)) : Go p l e R s m args below meth c n0 FE h ck cn (mkF m pc Ls (.ref b :: st)) := by
  obtain ⟨hd, rfl, ho, hp⟩ := hd
  exact Go.step (fun T locs X _ t k => XS.ifnonnullYes X.here C.1 rfl (pc0 := pc) rfl (hb C.2.1 hd) rfl ho hp k) k
theorem g_ifnonnullN (C : Cx p s m meth c Z code maxL own ret) {pc pcT pcF : Nat} {Ls : Array Slot} {st : List Value} {o : Int} (hd : B1 code pc (.ifnonnull o) o pcT pcF) (k : Go p l e R s m args below meth c n0 FE h ck cn (mkF m pcF Ls st)) : Go p l e R s m args below meth c n0 FE h ck cn (mkF m pc Ls (.null :: st)) := by
  obtain ⟨hd, rfl, ho, hp⟩ := hd
  exact Go.step (fun T locs X _ t k => XS.ifnonnullNo X.here C.1 rfl (hb C.2.1 hd) rfl k) k
theorem g_acmp_eq (C : Cx p s m meth c Z code maxL own ret) {pc pcT pcF : Nat} {Ls : Array Slot} {st : List Value} {o : Int} {x y : Value} (h1 : x.isRef = true) (h2 : y.isRef = true) (hd : B1 code pc (.if_acmp .eq o) o pcT pcF) (kt : x = y → Go p l e R s m args below meth c n0 FE h ck cn (mkF m pcT Ls st)) (kf : ¬ x = y → Go p l e R s m args below meth c n0 FE h ck cn (mkF m pcF Ls st)) : Go p l e R s m args below meth c n0 FE h ck cn (mkF m pc Ls (y :: x :: st)) := by
  obtain ⟨hd, rfl, ho, rfl⟩ := hd
  by_cases q : x = y
  · exact Go.step (fun T locs X _ t k => Jvm.RoadKit.acmp X C.1 rfl h1 h2 (pc0 := pc) (same := true) rfl (hb C.2.1 hd) rfl (by simp [q]) ho rfl k) (kt q)
  · exact Go.step (fun T locs X _ t k => Jvm.RoadKit.acmp X C.1 rfl h1 h2 (pc0 := pc) (same := false) rfl (hb C.2.1 hd) rfl (by simp [q]) ho rfl k) (kf q)
theorem g_acmp_ne (C : Cx p s m meth c Z code maxL own ret) {pc pcT pcF : Nat} {Ls : Array Slot} {st : List Value} {o : Int} {x y : Value} (h1 : x.isRef = true) (h2 : y.isRef = true) (hd : B1 code pc (.if_acmp .ne o) o pcT pcF) (kt : x = y → Go p l e R s m args below meth c n0 FE h ck cn (mkF m pcF Ls st)) (kf : ¬ x = y → Go p l e R s m args below meth c n0 FE h ck cn (mkF m pcT Ls st)) : Go p l e R s m args below meth c n0 FE h ck cn (mkF m pc Ls (y :: x :: st)) := by
  obtain ⟨hd, rfl, ho, rfl⟩ := hd
  by_cases q : x = y
  · exact Go.step (fun T locs X _ t k => Jvm.RoadKit.acmp X C.1 rfl h1 h2 (pc0 := pc) (same := true) rfl (hb C.2.1 hd) rfl (by simp [q]) ho rfl k) (kt q)
  · exact Go.step (fun T locs X _ t k => Jvm.RoadKit.acmp X C.1 rfl h1 h2 (pc0 := pc) (same := false) rfl (hb C.2.1 hd) rfl (by simp [q]) ho rfl k) (kf q)
theorem ret0 {v : Option Value} {g : JFrame} (hlk : meth.locks = false) (hret : meth.sig.returnType = none → v = none) (hck : ck ≤ K) (hcn : cn ≤ N) (hQ : Q v h)
    (st : ∀ (T : State) (locs : List Loc) (fs : List Frame), Stand p l e R s m args below meth c T locs ck cn → (∀ (f : JFrame) (acts : List Action), f.method = m → f.locked = none → f.entered = [] → (doReturn e (T.setTop f) acts v).1 = T.setFrames fs) → Steps p.tables e below (T.setTop g) (T.setFrames fs)) :
    Go p l e R s m args below meth c n0 (EN s n0 K N Q) h ck cn g := fun T locs X eT hN => by
  obtain ⟨fs, hr, hrun, hended, hW, hsame⟩ := X.leave (v := v) hret hlk
  exact ⟨_, _, st T locs fs X hr, hrun, hended, v, locs, rfl, ⟨by show Q v T.heap; rw [eT]; exact hQ, hN⟩, ⟨_, rfl⟩, hW, hsame.mono hck hcn⟩
theorem g_retV (C : Cx p s m meth c Z code maxL own ret) {pc : Nat} {Ls : Array Slot} {pc' : Nat} (hd : I1 code pc .return_ 1 pc') (hret : ret = none) (hck : ck ≤ K) (hcn : cn ≤ N) (hQ : Q none h) : Go p l e R s m args below meth c n0 (EN s n0 K N Q) h ck cn (mkF m pc Ls []) := by
  obtain ⟨hd, -⟩ := hd
  exact ret0 C.2.2.2.2.2.2 (fun _ => rfl) hck hcn hQ (fun T locs fs X hr => X.returnOut C.1 (C.2.2.2.2.2.1.trans hret) (hb C.2.1 hd) hr)
theorem g_retInt (C : Cx p s m meth c Z code maxL own ret) {pc : Nat} {Ls : Array Slot} {pc' : Nat} {st : List Value} {z : Int32} (hd : I1 code pc .ireturn 1 pc') (hret : ret = some .int) (hck : ck ≤ K) (hcn : cn ≤ N) (hQ : Q (some (.int z)) h) : Go p l e R s m args below meth c n0 (EN s n0 K N Q) h ck cn (mkF m pc Ls (.int z :: st)) := by
  obtain ⟨hd, -⟩ := hd
  have hr' := C.2.2.2.2.2.1.trans hret
  exact ret0 C.2.2.2.2.2.2 (fun q => by rw [hr'] at q; cases q) hck hcn hQ (fun T locs fs X hr => retOut X C.1 hr' rfl (Or.inl ⟨rfl, Or.inl rfl, z, rfl⟩) (hb C.2.1 hd) hr)
theorem g_retLong (C : Cx p s m meth c Z code maxL own ret) {pc : Nat} {Ls : Array Slot} {pc' : Nat} {st : List Value} {z : Int64} (hd : I1 code pc .lreturn 1 pc') (hret : ret = some .long) (hck : ck ≤ K) (hcn : cn ≤ N) (hQ : Q (some (.long z)) h) : Go p l e R s m args below meth c n0 (EN s n0 K N Q) h ck cn (mkF m pc Ls (.long z :: st)) := by
  obtain ⟨hd, -⟩ := hd
  have hr' := C.2.2.2.2.2.1.trans hret
  exact ret0 C.2.2.2.2.2.2 (fun q => by rw [hr'] at q; cases q) hck hcn hQ (fun T locs fs X hr => retOut X C.1 hr' rfl (Or.inr (Or.inl ⟨rfl, rfl, z, rfl⟩)) (hb C.2.1 hd) hr)
theorem nar_ref {t : FieldType} {v : Value} (hv : v.isRef = true) : narrow t v = v := by
  rcases ref_cases hv with rfl | ⟨a, rfl⟩ <;> cases t <;> rfl
theorem g_retRef (C : Cx p s m meth c Z code maxL own ret) {pc : Nat} {Ls : Array Slot} {pc' : Nat} {st : List Value} {v : Value} {t : FieldType} (hd : I1 code pc .areturn 1 pc') (hret : ret = some t) (ht : t.isReference = true) (hv : v.isRef = true) (hck : ck ≤ K) (hcn : cn ≤ N) (hQ : Q (some v) h) : Go p l e R s m args below meth c n0 (EN s n0 K N Q) h ck cn (mkF m pc Ls (v :: st)) := by
  obtain ⟨hd, -⟩ := hd
  have hr' := C.2.2.2.2.2.1.trans hret
  exact ret0 C.2.2.2.2.2.2 (fun q => by rw [hr'] at q; cases q) hck hcn hQ (fun T locs fs X hr => retOut X C.1 hr' (nar_ref hv) (Or.inr (Or.inr (Or.inr (Or.inr ⟨rfl, ht, hv⟩)))) (hb C.2.1 hd) hr)
theorem g_retNar (C : Cx p s m meth c Z code maxL own ret) {pc : Nat} {Ls : Array Slot} {pc' : Nat} {st : List Value} {z : Int32} {t : FieldType} (hd : I1 code pc .ireturn 1 pc') (hret : ret = some t) (ht : t = .boolean ∨ t = .byte ∨ t = .char ∨ t = .short) (hck : ck ≤ K) (hcn : cn ≤ N) (hQ : Q (some (.int (nar t z))) h) : Go p l e R s m args below meth c n0 (EN s n0 K N Q) h ck cn (mkF m pc Ls (.int z :: st)) := by
  obtain ⟨hd, -⟩ := hd
  have hr' := C.2.2.2.2.2.1.trans hret
  exact ret0 C.2.2.2.2.2.2 (fun q => by rw [hr'] at q; cases q) hck hcn hQ (fun T locs fs X hr => retN X C.1 hr' ht (hb C.2.1 hd) hr)
theorem g_getF (C : Cx p s m meth c Z code maxL own ret) {pc pc' : Nat} {Ls : Array Slot} {st : List Value} {R0 O n d host : String} {index : Nat} {a : Addr} {v : Value} (hd : I1 code pc (.getfield index) 3 pc') (w : (Cond.fieldLink own index R0 n d).before a0 Z = true ∨ (Cond.fieldLinkNest own index R0 n d host).before a0 Z = true) (via : Via Z R0 O n d) (F : Fld Z h a O n d v)
    (k : Go p l e R s m args below meth c n0 FE h ck cn (mkF m pc' Ls (v :: st))) : Go p l e R s m args below meth c n0 FE h ck cn (mkF m pc Ls (.ref a :: st)) := fun T locs X eT hN => by
  obtain ⟨hd, rfl⟩ := hd
  obtain ⟨T', X', e', st'⟩ := Jvm.RoadKit.getF X C.1 C.2.2.2.1 C.2.2.2.2.1 w via eT F (g := mkF m pc Ls (.ref a :: st)) rfl rfl (hb C.2.1 hd)
  exact Go.move hN X' e' hN st' k
theorem g_getS (C : Cx p s m meth c Z code maxL own ret) {pc pc' : Nat} {Ls : Array Slot} {st : List Value} {R0 O n d host : String} {index : Nat} {v : Value} (hd : I1 code pc (.getstatic index) 3 pc') (w : (Cond.fieldLink own index R0 n d).before a0 Z = true ∨ (Cond.fieldLinkNest own index R0 n d host).before a0 Z = true) (via : Via Z R0 O n d) (F : Sta Z h O n d v)
    (k : Go p l e R s m args below meth c n0 FE h ck cn (mkF m pc' Ls (v :: st))) : Go p l e R s m args below meth c n0 FE h ck cn (mkF m pc Ls st) := fun T locs X eT hN => by
  obtain ⟨hd, rfl⟩ := hd
  obtain ⟨T', X', e', st'⟩ := Jvm.RoadKit.getS2 X C.1 C.2.2.2.1 C.2.2.2.2.1 w via eT F (g := mkF m pc Ls st) rfl (hb C.2.1 hd)
  exact Go.move hN X' e' hN st' k
theorem g_putF (C : Cx p s m meth c Z code maxL own ret) {pc pc' : Nat} {Ls : Array Slot} {st : List Value} {R0 O n d host Cl : String} {index kk : Nat} {ty : FieldType} {a : Addr} {v old : Value} (hd : I1 code pc (.putfield index) 3 pc') (w : (Cond.fieldLink own index R0 n d).before a0 Z = true ∨ (Cond.fieldLinkNest own index R0 n d host).before a0 Z = true) (via : Via Z R0 O n d) (F : Fld Z h a O n d old) (E : Exa Z h a Cl)
    (L : (Cond.lays Cl O n d).before a0 Z = true ∨ ((Cond.laysFinal Cl O n d).before a0 Z = true ∧ own = O ∧ meth.name = "<init>")) (wi : (Cond.instantiable Cl kk).before a0 Z = true) (hty : parseFieldDescriptor d = some ty) (hn : narrow ty v = v) (hf : fits ty v = true) (ha : n0 ≤ a)
    (k : ∀ h', Wr h h' a (Jvm.RoadKit.slotOf Z O n d) v → Go p l e R s m args below meth c n0 FE h' ck cn (mkF m pc' Ls st)) : Go p l e R s m args below meth c n0 FE h ck cn (mkF m pc Ls (v :: .ref a :: st)) := fun T locs X eT hN => by
  obtain ⟨hd, rfl⟩ := hd
  obtain ⟨T', h', X', e', W, st'⟩ := Jvm.RoadKit.putF X C.1 C.2.2.2.1 C.2.2.2.2.1 w via eT F E L wi hty hn hf (g := mkF m pc Ls (v :: .ref a :: st)) rfl rfl (hb C.2.1 hd)
  exact Go.move hN X' e' (Fr.snoc X' hN ha) st' (k h' W)
theorem g_putFN (C : Cx p s m meth c Z code maxL own ret) {pc pc' : Nat} {Ls : Array Slot} {st : List Value} {R0 O n d Cl : String} {index kk : Nat} {ty : FieldType} {a : Addr} {v v' old : Value} (hd : I1 code pc (.putfield index) 3 pc') (w : (Cond.fieldLink own index R0 n d).before a0 Z = true) (via : Via Z R0 O n d) (F : Fld Z h a O n d old) (E : Exa Z h a Cl)
    (L : (Cond.lays Cl O n d).before a0 Z = true ∨ ((Cond.laysFinal Cl O n d).before a0 Z = true ∧ own = O ∧ meth.name = "<init>")) (wi : (Cond.instantiable Cl kk).before a0 Z = true) (hty : parseFieldDescriptor d = some ty) (hn : narrow ty v = v') (hf : fits ty v' = true) (ha : n0 ≤ a)
    (k : ∀ h', Wr h h' a (Jvm.RoadKit.slotOf Z O n d) v' → Go p l e R s m args below meth c n0 FE h' ck cn (mkF m pc' Ls st)) : Go p l e R s m args below meth c n0 FE h ck cn (mkF m pc Ls (v :: .ref a :: st)) := fun T locs X eT hN => by
  obtain ⟨hd, rfl⟩ := hd
  obtain ⟨T', h', X', e', W, st'⟩ := Jvm.RoadKit.putFN X C.1 C.2.2.2.1 C.2.2.2.2.1 w via eT F E L wi hty hn hf (g := mkF m pc Ls (v :: .ref a :: st)) rfl rfl (hb C.2.1 hd)
  exact Go.move hN X' e' (Fr.snoc X' hN ha) st' (k h' W)
theorem g_newO (C : Cx p s m meth c Z code maxL own ret) {pc pc' : Nat} {Ls : Array Slot} {st : List Value} {Cl : String} {index n : Nat} (hd : I1 code pc (.new index) 3 pc') (w : (Cond.classLink own index Cl).before a0 Z = true) (wi : (Cond.instantiable Cl n).before a0 Z = true) (wz : (Cond.initialized Cl).before a0 Z = true) (hc : ck + 1 ≤ R.cells) (hl : cn + n ≤ R.slots) {ck' cn' : Nat} (hck : ck + 1 = ck') (hcn : cn + n = cn')
    (k : ∀ (h' : Heap) (a : Addr), a = h.size → Ext h h' → Exa Z h' a Cl → (∀ {O nm d : String} {ty : FieldType}, Laid Z a0 Cl O nm d → parseFieldDescriptor d = some ty → Fld Z h' a O nm d (defaultValue ty)) → Go p l e R s m args below meth c n0 FE h' ck' cn' (mkF m pc' Ls (.ref a :: st))) : Go p l e R s m args below meth c n0 FE h ck cn (mkF m pc Ls st) := fun T locs X eT hN => by
  obtain ⟨hd, rfl⟩ := hd
  subst hck hcn
  obtain ⟨T', h', X', e', E, A, D, -, st'⟩ := Jvm.RoadKit.newO X C.1 C.2.2.2.1 C.2.2.2.2.1 w wi wz eT (g := mkF m pc Ls st) rfl (hb C.2.1 hd) hc hl
  exact Go.move hN X' e' hN st' (k h' _ rfl E A D)
theorem g_initO (C : Cx p s m meth c Z code maxL own ret) {pc pc' : Nat} {Ls : Array Slot} {st : List Value} {a : Addr} {idx : Nat} (hd : I1 code pc (.invokespecial idx) 3 pc') (w1 : (Cond.methodLink own idx Lib.objectInit).before a0 Z = true) (w2 : (Cond.instanceMethod Lib.objectInit).before a0 Z = true) (w3 : (Cond.code Lib.objectInit ⟨#[0xb1]⟩ 1 none).before a0 Z = true) (hsz : Ls.size = maxL)
    (hf : 1 ≤ R.frames) (W : Nat) (hW : 2 * 0 + (st.map fun v => v.category).sum ≤ W) (hl : W + 12 ≤ R.locals) (k : Go p l e R s m args below meth c n0 FE h ck cn (mkF m pc' Ls st)) : Go p l e R s m args below meth c n0 FE h ck cn (mkF m pc Ls (.ref a :: st)) := fun T locs X eT hN => by
  obtain ⟨hd, rfl⟩ := hd
  obtain ⟨T', X', e', st'⟩ := Jvm.RoadKit.initO X C.1 C.2.2.2.1 C.2.2.2.2.1 w1 w2 w3 eT (g := mkF m pc Ls (.ref a :: st)) rfl (hsz.trans C.2.2.1.symm) rfl (hb C.2.1 hd) hf (W := W) hW hl
  exact Go.move hN X' e' hN st' k
theorem g_castY (C : Cx p s m meth c Z code maxL own ret) {pc pc' : Nat} {Ls : Array Slot} {st : List Value} {Kl : String} {index : Nat} {a : Addr} (hd : I1 code pc (.checkcast index) 3 pc') (w : (Cond.classLink own index Kl).before a0 Z = true) (F : Ins Z h a Kl true) (k : Go p l e R s m args below meth c n0 FE h ck cn (mkF m pc' Ls (.ref a :: st))) : Go p l e R s m args below meth c n0 FE h ck cn (mkF m pc Ls (.ref a :: st)) := fun T locs X eT hN => by
  obtain ⟨hd, rfl⟩ := hd
  obtain ⟨T', X', e', st'⟩ := Jvm.RoadKit.castY X C.1 C.2.2.2.1 C.2.2.2.2.1 w eT F (g := mkF m pc Ls (.ref a :: st)) rfl rfl (hb C.2.1 hd)
  exact Go.move hN X' e' hN st' k
theorem g_castNull (C : Cx p s m meth c Z code maxL own ret) {pc pc' : Nat} {Ls : Array Slot} {st : List Value} {index : Nat} (hd : I1 code pc (.checkcast index) 3 pc') (k : Go p l e R s m args below meth c n0 FE h ck cn (mkF m pc' Ls (.null :: st))) : Go p l e R s m args below meth c n0 FE h ck cn (mkF m pc Ls (.null :: st)) := by
  obtain ⟨hd, rfl⟩ := hd
  exact Go.step (fun T locs X _ t k => X.checkcastNull C.1 (g := mkF m pc Ls (.null :: st)) rfl rfl (hb C.2.1 hd) _ k) k
theorem g_instY (C : Cx p s m meth c Z code maxL own ret) {pc pc' : Nat} {Ls : Array Slot} {st : List Value} {Kl : String} {index : Nat} {a : Addr} (hd : I1 code pc (.instanceof index) 3 pc') (w : (Cond.classLink own index Kl).before a0 Z = true) (F : Ins Z h a Kl true) (k : Go p l e R s m args below meth c n0 FE h ck cn (mkF m pc' Ls (.int 1 :: st))) : Go p l e R s m args below meth c n0 FE h ck cn (mkF m pc Ls (.ref a :: st)) := fun T locs X eT hN => by
  obtain ⟨hd, rfl⟩ := hd
  obtain ⟨T', X', e', st'⟩ := Jvm.RoadKit.instY X C.1 C.2.2.2.1 C.2.2.2.2.1 w eT F (g := mkF m pc Ls (.ref a :: st)) rfl rfl (hb C.2.1 hd)
  exact Go.move hN X' e' hN st' k
theorem g_instNo (C : Cx p s m meth c Z code maxL own ret) {pc pc' : Nat} {Ls : Array Slot} {st : List Value} {Kl Cl : String} {index : Nat} {a : Addr} (hd : I1 code pc (.instanceof index) 3 pc') (w : (Cond.classLink own index Kl).before a0 Z = true) (E : Exa Z h a Cl) (F : ∃ c t, Z.vm.findClass Cl = some c ∧ Z.vm.findClass Kl = some t ∧ Z.vm.assignable c t = false) (k : Go p l e R s m args below meth c n0 FE h ck cn (mkF m pc' Ls (.int 0 :: st))) : Go p l e R s m args below meth c n0 FE h ck cn (mkF m pc Ls (.ref a :: st)) := fun T locs X eT hN => by
  obtain ⟨hd, rfl⟩ := hd
  obtain ⟨T', X', e', st'⟩ := Jvm.RoadKit.instNo X C.1 C.2.2.2.1 C.2.2.2.2.1 w eT E F (g := mkF m pc Ls (.ref a :: st)) rfl rfl (hb C.2.1 hd)
  exact Go.move hN X' e' hN st' k
theorem g_instNull (C : Cx p s m meth c Z code maxL own ret) {pc pc' : Nat} {Ls : Array Slot} {st : List Value} {index : Nat} (hd : I1 code pc (.instanceof index) 3 pc') (k : Go p l e R s m args below meth c n0 FE h ck cn (mkF m pc' Ls (.int 0 :: st))) : Go p l e R s m args below meth c n0 FE h ck cn (mkF m pc Ls (.null :: st)) := by
  obtain ⟨hd, rfl⟩ := hd
  exact Go.step (fun T locs X _ t k => X.instanceofNull C.1 (g := mkF m pc Ls (.null :: st)) rfl rfl (hb C.2.1 hd) _ k) k
/-- an array of n places: what each holds -/
def AV (Z : State) (h : Heap) (a : Addr) (ty : FieldType) (n : Nat) (f : Nat → Value) : Prop := ∃ c : Cell, Arr Z h a c ty ∧ c.slots.size = n ∧ n < 2 ^ 31 ∧ ∀ i, i < n → c.slots[i]? = some (f i)
theorem AV.lt {a : Addr} {ty : FieldType} {n : Nat} {f : Nat → Value} (F : AV Z h a ty n f) : a < h.size := by obtain ⟨c, A, -⟩ := F; exact A.lt
theorem AV.ext {h' : Heap} {a : Addr} {ty : FieldType} {n : Nat} {f : Nat → Value} (F : AV Z h a ty n f) (E : Ext h h') : AV Z h' a ty n f := by obtain ⟨c, A, r⟩ := F; exact ⟨c, A.ext E, r⟩
theorem AV.other {h' : Heap} {a b : Addr} {sl : Nat} {v : Value} {ty : FieldType} {n : Nat} {f : Nat → Value} (F : AV Z h b ty n f) (W : Wr h h' a sl v) (q : b ≠ a) : AV Z h' b ty n f := by obtain ⟨c, A, r⟩ := F; exact ⟨c, A.other W q, r⟩
theorem AV.keep {h' : Heap} {ws : List Addr} {a : Addr} {ty : FieldType} {n : Nat} {f : Nat → Value} (F : AV Z h a ty n f) (K : Keep h h' ws) (q : a ∉ ws) : AV Z h' a ty n f := by obtain ⟨c, A, r⟩ := F; exact ⟨c, ⟨K.2.1 a c A.1 q, A.2⟩, r⟩
theorem AV.congr {a : Addr} {ty : FieldType} {n : Nat} {f g : Nat → Value} (F : AV Z h a ty n f) (q : ∀ i, i < n → f i = g i) : AV Z h a ty n g := by obtain ⟨c, A, r1, r2, r3⟩ := F; exact ⟨c, A, r1, r2, fun i hi => by rw [← q i hi]; exact r3 i hi⟩
theorem AV.ofNew {a : Addr} {ty : FieldType} {cA : ClassId} {z : Int32} (A : Arr Z h a (newA cA ty z) ty) (q : ¬ z < 0) : AV Z h a ty z.toNatClampNeg (fun _ => defaultValue ty) :=
  ⟨_, A, sz_new _ _ _, (back32 q).2, fun i hi => by simp [newA, hi]⟩
theorem AV.set {h' : Heap} {a : Addr} {ty : FieldType} {n : Nat} {f : Nat → Value} {j : Nat} {v : Value} (F : AV Z h a ty n f) (W : Wr h h' a j v) : AV Z h' a ty n (fun i => if i = j then v else f i) := by
  obtain ⟨c, A, r1, r2, r3⟩ := F
  obtain ⟨cell, w1, w2, w3, w4⟩ := W
  cases w1.symm.trans A.1
  refine ⟨c.setSlot j v, A.same ⟨c, w1, w2, w3, w4⟩, by rw [sz_set, r1], r2, fun i hi => ?_⟩
  by_cases q : i = j
  · subst q; simp [Cell.setSlot, w3]
  · simp only [q, if_false]; rw [← r3 i hi]; exact Array.getElem?_setIfInBounds_ne (Ne.symm q)
/-- the place lies inside -/
def Inb (j : Int32) (n : Nat) : Prop := ¬ j < 0 ∧ j.toNatClampNeg < n
theorem Inb.not {j : Int32} {n : Nat} (q : Inb j n) : ¬ (j < 0 ∨ n ≤ j.toNatClampNeg) := fun r => r.elim q.1 (fun z => Nat.not_lt.mpr z q.2)
theorem inb_int {j : Int32} {n : Nat} (h1 : 0 ≤ j.toInt) (h2 : j.toInt < n) : Inb j n := ⟨by simp only [Int32.lt_iff_toInt_lt, Int32.reduceToInt]; omega, by simp only [Int32.toNatClampNeg]; omega⟩
theorem g_newP (C : Cx p s m meth c Z code maxL own ret) {pc pc' : Nat} {Ls : Array Slot} {st : List Value} {aty : ArrayType} {n : Int32} (hd : I1 code pc (.newarray aty) 2 pc') (w : (Cond.arrayClass (newarray.typeOf aty)).before a0 Z = true) (hn : ¬ n < 0) (cap : Nat) (hcap : n.toNatClampNeg ≤ cap) (hb8 : cap * 8 ≤ 536870912) (hc : ck + 1 ≤ R.cells) (hl : cn + cap ≤ R.slots) {ck' cn' : Nat} (hck : ck + 1 = ck') (hcn : cn + cap = cn')
    (k : ∀ (h' : Heap) (a : Addr), a = h.size → Ext h h' → AV Z h' a (newarray.typeOf aty) n.toNatClampNeg (fun _ => defaultValue (newarray.typeOf aty)) → Go p l e R s m args below meth c n0 FE h' ck' cn' (mkF m pc' Ls (.ref a :: st))) : Go p l e R s m args below meth c n0 FE h ck cn (mkF m pc Ls (.int n :: st)) := fun T locs X eT hN => by
  obtain ⟨hd, rfl⟩ := hd
  subst hck hcn
  obtain ⟨T', h', cA, X', e', E, A, st'⟩ := Jvm.RoadKit.newP X C.1 C.2.2.2.1 w eT (g := mkF m pc Ls (.int n :: st)) rfl (hb C.2.1 hd) rfl hn hcap hb8 hc hl
  exact Go.move hN X' e' hN st' (k h' _ rfl E (AV.ofNew A hn))
theorem g_alen (C : Cx p s m meth c Z code maxL own ret) {pc pc' : Nat} {Ls : Array Slot} {st : List Value} {a : Addr} {ty : FieldType} {n : Nat} {f : Nat → Value} (z : Int32) (hd : I1 code pc .arraylength 1 pc') (F : AV Z h a ty n f) (hz : n.toInt32 = z) (k : Go p l e R s m args below meth c n0 FE h ck cn (mkF m pc' Ls (.int z :: st))) : Go p l e R s m args below meth c n0 FE h ck cn (mkF m pc Ls (.ref a :: st)) := by
  obtain ⟨hd, rfl⟩ := hd
  obtain ⟨cl, A, r1, r2, r3⟩ := F
  subst hz
  exact Go.step (fun T locs X eT t k => X.arraylength C.1 (by rw [eT]; exact A.1) (State.isArrayOf_alike C.2.2.2.1.alike A.2.1) (g := mkF m pc Ls (.ref a :: st)) rfl rfl (hb C.2.1 hd) _ (by rw [r1]; exact k)) k
theorem g_iald (C : Cx p s m meth c Z code maxL own ret) {pc pc' : Nat} {Ls : Array Slot} {st : List Value} {a : Addr} {j : Int32} {n : Nat} {f : Nat → Value} (v : Value) (hd : I1 code pc .iaload 1 pc') (F : AV Z h a .int n f) (hj : Inb j n) (hv : f j.toNatClampNeg = v) (k : Go p l e R s m args below meth c n0 FE h ck cn (mkF m pc' Ls (v :: st))) : Go p l e R s m args below meth c n0 FE h ck cn (mkF m pc Ls (.int j :: .ref a :: st)) := by
  obtain ⟨hd, rfl⟩ := hd
  obtain ⟨cl, A, r1, r2, r3⟩ := F
  subst hv
  exact Go.step (fun T locs X eT t k => X.iaload C.1 (by rw [eT]; exact A.1) (State.isArrayOf_alike C.2.2.2.1.alike A.2.1) A.2.2 (by rw [r1]; exact hj.not) (r3 _ hj.2) (g := mkF m pc Ls (.int j :: .ref a :: st)) rfl rfl (hb C.2.1 hd) _ k) k
theorem g_lald (C : Cx p s m meth c Z code maxL own ret) {pc pc' : Nat} {Ls : Array Slot} {st : List Value} {a : Addr} {j : Int32} {n : Nat} {f : Nat → Value} (v : Value) (hd : I1 code pc .laload 1 pc') (F : AV Z h a .long n f) (hj : Inb j n) (hv : f j.toNatClampNeg = v) (k : Go p l e R s m args below meth c n0 FE h ck cn (mkF m pc' Ls (v :: st))) : Go p l e R s m args below meth c n0 FE h ck cn (mkF m pc Ls (.int j :: .ref a :: st)) := by
  obtain ⟨hd, rfl⟩ := hd
  obtain ⟨cl, A, r1, r2, r3⟩ := F
  subst hv
  exact Go.step (fun T locs X eT t k => X.laload C.1 (by rw [eT]; exact A.1) (State.isArrayOf_alike C.2.2.2.1.alike A.2.1) A.2.2 (by rw [r1]; exact hj.not) (r3 _ hj.2) (g := mkF m pc Ls (.int j :: .ref a :: st)) rfl rfl (hb C.2.1 hd) _ k) k
theorem g_cald (C : Cx p s m meth c Z code maxL own ret) {pc pc' : Nat} {Ls : Array Slot} {st : List Value} {a : Addr} {j : Int32} {n : Nat} {f : Nat → Value} (v : Value) (hd : I1 code pc .caload 1 pc') (F : AV Z h a .char n f) (hj : Inb j n) (hv : f j.toNatClampNeg = v) (k : Go p l e R s m args below meth c n0 FE h ck cn (mkF m pc' Ls (v :: st))) : Go p l e R s m args below meth c n0 FE h ck cn (mkF m pc Ls (.int j :: .ref a :: st)) := by
  obtain ⟨hd, rfl⟩ := hd
  obtain ⟨cl, A, r1, r2, r3⟩ := F
  subst hv
  exact Go.step (fun T locs X eT t k => X.caload C.1 (by rw [eT]; exact A.1) (State.isArrayOf_alike C.2.2.2.1.alike A.2.1) A.2.2 (by rw [r1]; exact hj.not) (r3 _ hj.2) (g := mkF m pc Ls (.int j :: .ref a :: st)) rfl rfl (hb C.2.1 hd) _ k) k
theorem g_sald (C : Cx p s m meth c Z code maxL own ret) {pc pc' : Nat} {Ls : Array Slot} {st : List Value} {a : Addr} {j : Int32} {n : Nat} {f : Nat → Value} (v : Value) (hd : I1 code pc .saload 1 pc') (F : AV Z h a .short n f) (hj : Inb j n) (hv : f j.toNatClampNeg = v) (k : Go p l e R s m args below meth c n0 FE h ck cn (mkF m pc' Ls (v :: st))) : Go p l e R s m args below meth c n0 FE h ck cn (mkF m pc Ls (.int j :: .ref a :: st)) := by
  obtain ⟨hd, rfl⟩ := hd
  obtain ⟨cl, A, r1, r2, r3⟩ := F
  subst hv
  exact Go.step (fun T locs X eT t k => X.saload C.1 (by rw [eT]; exact A.1) (State.isArrayOf_alike C.2.2.2.1.alike A.2.1) A.2.2 (by rw [r1]; exact hj.not) (r3 _ hj.2) (g := mkF m pc Ls (.int j :: .ref a :: st)) rfl rfl (hb C.2.1 hd) _ k) k
theorem g_bald (C : Cx p s m meth c Z code maxL own ret) {pc pc' : Nat} {Ls : Array Slot} {st : List Value} {a : Addr} {j : Int32} {n : Nat} {f : Nat → Value} (v : Value) (hd : I1 code pc .baload 1 pc') (F : AV Z h a .byte n f) (hj : Inb j n) (hv : f j.toNatClampNeg = v) (k : Go p l e R s m args below meth c n0 FE h ck cn (mkF m pc' Ls (v :: st))) : Go p l e R s m args below meth c n0 FE h ck cn (mkF m pc Ls (.int j :: .ref a :: st)) := by
  obtain ⟨hd, rfl⟩ := hd
  obtain ⟨cl, A, r1, r2, r3⟩ := F
  subst hv
  exact Go.step (fun T locs X eT t k => X.baloadBytes C.1 (by rw [eT]; exact A.1) (State.isArrayOf_alike C.2.2.2.1.alike A.2.1) A.2.2 (by rw [r1]; exact hj.not) (r3 _ hj.2) (g := mkF m pc Ls (.int j :: .ref a :: st)) rfl rfl (hb C.2.1 hd) _ k) k
theorem g_zald (C : Cx p s m meth c Z code maxL own ret) {pc pc' : Nat} {Ls : Array Slot} {st : List Value} {a : Addr} {j : Int32} {n : Nat} {f : Nat → Value} (v : Value) (hd : I1 code pc .baload 1 pc') (F : AV Z h a .boolean n f) (hj : Inb j n) (hv : f j.toNatClampNeg = v) (k : Go p l e R s m args below meth c n0 FE h ck cn (mkF m pc' Ls (v :: st))) : Go p l e R s m args below meth c n0 FE h ck cn (mkF m pc Ls (.int j :: .ref a :: st)) := by
  obtain ⟨hd, rfl⟩ := hd
  obtain ⟨cl, A, r1, r2, r3⟩ := F
  subst hv
  exact Go.step (fun T locs X eT t k => X.baloadBooleans C.1 (by rw [eT]; exact A.1) (State.isArrayOf_alike C.2.2.2.1.alike A.2.1) A.2.2 (by rw [r1]; exact hj.not) (r3 _ hj.2) (g := mkF m pc Ls (.int j :: .ref a :: st)) rfl rfl (hb C.2.1 hd) _ k) k
theorem g_aald (C : Cx p s m meth c Z code maxL own ret) {pc pc' : Nat} {Ls : Array Slot} {st : List Value} {a : Addr} {j : Int32} {ty : FieldType} {n : Nat} {f : Nat → Value} (v : Value) (hd : I1 code pc .aaload 1 pc') (F : AV Z h a ty n f) (hj : Inb j n) (hv : f j.toNatClampNeg = v) (ht : ty.isReference = true) (k : Go p l e R s m args below meth c n0 FE h ck cn (mkF m pc' Ls (v :: st))) : Go p l e R s m args below meth c n0 FE h ck cn (mkF m pc Ls (.int j :: .ref a :: st)) := by
  obtain ⟨hd, rfl⟩ := hd
  obtain ⟨cl, A, r1, r2, r3⟩ := F
  subst hv
  exact Go.step (fun T locs X eT t k => X.aaload C.1 (by rw [eT]; exact A.1) (State.isArrayOf_alike C.2.2.2.1.alike A.2.1) ht A.2.2 (by rw [r1]; exact hj.not) (r3 _ hj.2) (g := mkF m pc Ls (.int j :: .ref a :: st)) rfl rfl (hb C.2.1 hd) _ k) k
theorem g_iast (C : Cx p s m meth c Z code maxL own ret) {pc pc' : Nat} {Ls : Array Slot} {st : List Value} {a : Addr} {j : Int32} {x : Int32} {n : Nat} {f : Nat → Value} (hd : I1 code pc .iastore 1 pc') (F : AV Z h a .int n f) (hj : Inb j n) (ha : n0 ≤ a)
    (k : ∀ h', Wr h h' a j.toNatClampNeg (.int x) → AV Z h' a .int n (fun i => if i = j.toNatClampNeg then .int x else f i) → Go p l e R s m args below meth c n0 FE h' ck cn (mkF m pc' Ls st)) : Go p l e R s m args below meth c n0 FE h ck cn (mkF m pc Ls (.int x :: .int j :: .ref a :: st)) := fun T locs X eT hN => by
  obtain ⟨hd, rfl⟩ := hd
  have F' := F
  obtain ⟨cl, A, r1, r2, r3⟩ := F
  obtain ⟨T', h', X', e', W, st'⟩ := Jvm.RoadKit.stI X C.1 C.2.2.2.1 eT A (by rw [r1]; exact hj.not) (g := mkF m pc Ls (.int x :: .int j :: .ref a :: st)) rfl rfl (hb C.2.1 hd)
  exact Go.move hN X' e' (Fr.snoc X' hN ha) st' (k h' W (F'.set W))
theorem g_last (C : Cx p s m meth c Z code maxL own ret) {pc pc' : Nat} {Ls : Array Slot} {st : List Value} {a : Addr} {j : Int32} {x : Int64} {n : Nat} {f : Nat → Value} (hd : I1 code pc .lastore 1 pc') (F : AV Z h a .long n f) (hj : Inb j n) (ha : n0 ≤ a)
    (k : ∀ h', Wr h h' a j.toNatClampNeg (.long x) → AV Z h' a .long n (fun i => if i = j.toNatClampNeg then .long x else f i) → Go p l e R s m args below meth c n0 FE h' ck cn (mkF m pc' Ls st)) : Go p l e R s m args below meth c n0 FE h ck cn (mkF m pc Ls (.long x :: .int j :: .ref a :: st)) := fun T locs X eT hN => by
  obtain ⟨hd, rfl⟩ := hd
  have F' := F
  obtain ⟨cl, A, r1, r2, r3⟩ := F
  obtain ⟨T', h', X', e', W, st'⟩ := Jvm.RoadKit.stJ X C.1 C.2.2.2.1 eT A (by rw [r1]; exact hj.not) (g := mkF m pc Ls (.long x :: .int j :: .ref a :: st)) rfl rfl (hb C.2.1 hd)
  exact Go.move hN X' e' (Fr.snoc X' hN ha) st' (k h' W (F'.set W))
theorem g_cast (C : Cx p s m meth c Z code maxL own ret) {pc pc' : Nat} {Ls : Array Slot} {st : List Value} {a : Addr} {j : Int32} {x : Int32} {n : Nat} {f : Nat → Value} (hd : I1 code pc .castore 1 pc') (F : AV Z h a .char n f) (hj : Inb j n) (ha : n0 ≤ a)
    (k : ∀ h', Wr h h' a j.toNatClampNeg (.int (nar .char x)) → AV Z h' a .char n (fun i => if i = j.toNatClampNeg then .int (nar .char x) else f i) → Go p l e R s m args below meth c n0 FE h' ck cn (mkF m pc' Ls st)) : Go p l e R s m args below meth c n0 FE h ck cn (mkF m pc Ls (.int x :: .int j :: .ref a :: st)) := fun T locs X eT hN => by
  obtain ⟨hd, rfl⟩ := hd
  have F' := F
  obtain ⟨cl, A, r1, r2, r3⟩ := F
  obtain ⟨T', h', X', e', W, st'⟩ := Jvm.RoadKit.stC X C.1 C.2.2.2.1 eT A (by rw [r1]; exact hj.not) (g := mkF m pc Ls (.int x :: .int j :: .ref a :: st)) rfl rfl (hb C.2.1 hd)
  exact Go.move hN X' e' (Fr.snoc X' hN ha) st' (k h' W (F'.set W))
theorem g_sast (C : Cx p s m meth c Z code maxL own ret) {pc pc' : Nat} {Ls : Array Slot} {st : List Value} {a : Addr} {j : Int32} {x : Int32} {n : Nat} {f : Nat → Value} (hd : I1 code pc .sastore 1 pc') (F : AV Z h a .short n f) (hj : Inb j n) (ha : n0 ≤ a)
    (k : ∀ h', Wr h h' a j.toNatClampNeg (.int (nar .short x)) → AV Z h' a .short n (fun i => if i = j.toNatClampNeg then .int (nar .short x) else f i) → Go p l e R s m args below meth c n0 FE h' ck cn (mkF m pc' Ls st)) : Go p l e R s m args below meth c n0 FE h ck cn (mkF m pc Ls (.int x :: .int j :: .ref a :: st)) := fun T locs X eT hN => by
  obtain ⟨hd, rfl⟩ := hd
  have F' := F
  obtain ⟨cl, A, r1, r2, r3⟩ := F
  obtain ⟨T', h', X', e', W, st'⟩ := Jvm.RoadKit.stS X C.1 C.2.2.2.1 eT A (by rw [r1]; exact hj.not) (g := mkF m pc Ls (.int x :: .int j :: .ref a :: st)) rfl rfl (hb C.2.1 hd)
  exact Go.move hN X' e' (Fr.snoc X' hN ha) st' (k h' W (F'.set W))
theorem g_bast (C : Cx p s m meth c Z code maxL own ret) {pc pc' : Nat} {Ls : Array Slot} {st : List Value} {a : Addr} {j : Int32} {x : Int32} {n : Nat} {f : Nat → Value} (hd : I1 code pc .bastore 1 pc') (F : AV Z h a .byte n f) (hj : Inb j n) (ha : n0 ≤ a)
    (k : ∀ h', Wr h h' a j.toNatClampNeg (.int (nar .byte x)) → AV Z h' a .byte n (fun i => if i = j.toNatClampNeg then .int (nar .byte x) else f i) → Go p l e R s m args below meth c n0 FE h' ck cn (mkF m pc' Ls st)) : Go p l e R s m args below meth c n0 FE h ck cn (mkF m pc Ls (.int x :: .int j :: .ref a :: st)) := fun T locs X eT hN => by
  obtain ⟨hd, rfl⟩ := hd
  have F' := F
  obtain ⟨cl, A, r1, r2, r3⟩ := F
  obtain ⟨T', h', X', e', W, st'⟩ := Jvm.RoadKit.stB X C.1 C.2.2.2.1 eT A (by rw [r1]; exact hj.not) (g := mkF m pc Ls (.int x :: .int j :: .ref a :: st)) rfl rfl (hb C.2.1 hd)
  exact Go.move hN X' e' (Fr.snoc X' hN ha) st' (k h' W (F'.set W))
theorem g_zast (C : Cx p s m meth c Z code maxL own ret) {pc pc' : Nat} {Ls : Array Slot} {st : List Value} {a : Addr} {j : Int32} {x : Int32} {n : Nat} {f : Nat → Value} (hd : I1 code pc .bastore 1 pc') (F : AV Z h a .boolean n f) (hj : Inb j n) (ha : n0 ≤ a)
    (k : ∀ h', Wr h h' a j.toNatClampNeg (.int (nar .boolean x)) → AV Z h' a .boolean n (fun i => if i = j.toNatClampNeg then .int (nar .boolean x) else f i) → Go p l e R s m args below meth c n0 FE h' ck cn (mkF m pc' Ls st)) : Go p l e R s m args below meth c n0 FE h ck cn (mkF m pc Ls (.int x :: .int j :: .ref a :: st)) := fun T locs X eT hN => by
  obtain ⟨hd, rfl⟩ := hd
  have F' := F
  obtain ⟨cl, A, r1, r2, r3⟩ := F
  obtain ⟨T', h', X', e', W, st'⟩ := Jvm.RoadKit.stZ X C.1 C.2.2.2.1 eT A (by rw [r1]; exact hj.not) (g := mkF m pc Ls (.int x :: .int j :: .ref a :: st)) rfl rfl (hb C.2.1 hd)
  exact Go.move hN X' e' (Fr.snoc X' hN ha) st' (k h' W (F'.set W))
theorem g_iastI (C : Cx p s m meth c Z code maxL own ret) {pc pc' : Nat} {Ls : Array Slot} {st : List Value} {a : Addr} {j : Int32} {x : Int32} {n : Nat} {f : Nat → Int32} (hd : I1 code pc .iastore 1 pc') (F : AV Z h a .int n (fun ix => .int (f ix))) (hj : Inb j n) (ha : n0 ≤ a)
    (k : ∀ h', Wr h h' a j.toNatClampNeg (.int (x)) → AV Z h' a .int n (fun ix => .int (if ix = j.toNatClampNeg then x else f ix)) → Go p l e R s m args below meth c n0 FE h' ck cn (mkF m pc' Ls st)) : Go p l e R s m args below meth c n0 FE h ck cn (mkF m pc Ls (.int x :: .int j :: .ref a :: st)) :=
  g_iast C hd F hj ha (fun h' W V => k h' W (AV.congr V (fun ix _ => by split <;> rfl)))
theorem g_lastI (C : Cx p s m meth c Z code maxL own ret) {pc pc' : Nat} {Ls : Array Slot} {st : List Value} {a : Addr} {j : Int32} {x : Int64} {n : Nat} {f : Nat → Int64} (hd : I1 code pc .lastore 1 pc') (F : AV Z h a .long n (fun ix => .long (f ix))) (hj : Inb j n) (ha : n0 ≤ a)
    (k : ∀ h', Wr h h' a j.toNatClampNeg (.long (x)) → AV Z h' a .long n (fun ix => .long (if ix = j.toNatClampNeg then x else f ix)) → Go p l e R s m args below meth c n0 FE h' ck cn (mkF m pc' Ls st)) : Go p l e R s m args below meth c n0 FE h ck cn (mkF m pc Ls (.long x :: .int j :: .ref a :: st)) :=
  g_last C hd F hj ha (fun h' W V => k h' W (AV.congr V (fun ix _ => by split <;> rfl)))
theorem g_castI (C : Cx p s m meth c Z code maxL own ret) {pc pc' : Nat} {Ls : Array Slot} {st : List Value} {a : Addr} {j : Int32} {x : Int32} {n : Nat} {f : Nat → Int32} (hd : I1 code pc .castore 1 pc') (F : AV Z h a .char n (fun ix => .int (f ix))) (hj : Inb j n) (ha : n0 ≤ a)
    (k : ∀ h', Wr h h' a j.toNatClampNeg (.int (nar .char x)) → AV Z h' a .char n (fun ix => .int (if ix = j.toNatClampNeg then nar .char x else f ix)) → Go p l e R s m args below meth c n0 FE h' ck cn (mkF m pc' Ls st)) : Go p l e R s m args below meth c n0 FE h ck cn (mkF m pc Ls (.int x :: .int j :: .ref a :: st)) :=
  g_cast C hd F hj ha (fun h' W V => k h' W (AV.congr V (fun ix _ => by split <;> rfl)))
theorem g_sastI (C : Cx p s m meth c Z code maxL own ret) {pc pc' : Nat} {Ls : Array Slot} {st : List Value} {a : Addr} {j : Int32} {x : Int32} {n : Nat} {f : Nat → Int32} (hd : I1 code pc .sastore 1 pc') (F : AV Z h a .short n (fun ix => .int (f ix))) (hj : Inb j n) (ha : n0 ≤ a)
    (k : ∀ h', Wr h h' a j.toNatClampNeg (.int (nar .short x)) → AV Z h' a .short n (fun ix => .int (if ix = j.toNatClampNeg then nar .short x else f ix)) → Go p l e R s m args below meth c n0 FE h' ck cn (mkF m pc' Ls st)) : Go p l e R s m args below meth c n0 FE h ck cn (mkF m pc Ls (.int x :: .int j :: .ref a :: st)) :=
  g_sast C hd F hj ha (fun h' W V => k h' W (AV.congr V (fun ix _ => by split <;> rfl)))
theorem g_bastI (C : Cx p s m meth c Z code maxL own ret) {pc pc' : Nat} {Ls : Array Slot} {st : List Value} {a : Addr} {j : Int32} {x : Int32} {n : Nat} {f : Nat → Int32} (hd : I1 code pc .bastore 1 pc') (F : AV Z h a .byte n (fun ix => .int (f ix))) (hj : Inb j n) (ha : n0 ≤ a)
    (k : ∀ h', Wr h h' a j.toNatClampNeg (.int (nar .byte x)) → AV Z h' a .byte n (fun ix => .int (if ix = j.toNatClampNeg then nar .byte x else f ix)) → Go p l e R s m args below meth c n0 FE h' ck cn (mkF m pc' Ls st)) : Go p l e R s m args below meth c n0 FE h ck cn (mkF m pc Ls (.int x :: .int j :: .ref a :: st)) :=
  g_bast C hd F hj ha (fun h' W V => k h' W (AV.congr V (fun ix _ => by split <;> rfl)))
theorem g_zastI (C : Cx p s m meth c Z code maxL own ret) {pc pc' : Nat} {Ls : Array Slot} {st : List Value} {a : Addr} {j : Int32} {x : Int32} {n : Nat} {f : Nat → Int32} (hd : I1 code pc .bastore 1 pc') (F : AV Z h a .boolean n (fun ix => .int (f ix))) (hj : Inb j n) (ha : n0 ≤ a)
    (k : ∀ h', Wr h h' a j.toNatClampNeg (.int (nar .boolean x)) → AV Z h' a .boolean n (fun ix => .int (if ix = j.toNatClampNeg then nar .boolean x else f ix)) → Go p l e R s m args below meth c n0 FE h' ck cn (mkF m pc' Ls st)) : Go p l e R s m args below meth c n0 FE h ck cn (mkF m pc Ls (.int x :: .int j :: .ref a :: st)) :=
  g_zast C hd F hj ha (fun h' W V => k h' W (AV.congr V (fun ix _ => by split <;> rfl)))
/-- the array class ad holds references of the class C -/
def OvA (Z : State) (ad C : String) : Prop := ∃ cA ty, Z.vm.findClass ad = some cA ∧ OvrA Z cA ty C
/-- what a short array of references holds -/
def rfs (L : List Value) (ix : Nat) : Value := L.getD ix .null
theorem g_newPE (C : Cx p s m meth c Z code maxL own ret) {pc pc' : Nat} {Ls : Array Slot} {st : List Value} {aty : ArrayType} {n : Int32} (hd : I1 code pc (.newarray aty) 2 pc') (w : (Cond.arrayClass (newarray.typeOf aty)).before a0 Z = true) (hn : ¬ n < 0) (cap : Nat) (hcap : n.toNatClampNeg ≤ cap) (hb8 : cap * 8 ≤ 536870912) (hc : ck + 1 ≤ R.cells) (hl : cn + cap ≤ R.slots) {ck' cn' : Nat} (hck : ck + 1 = ck') (hcn : cn + cap = cn') (ad : String) (had : "[" ++ (newarray.typeOf aty).toString = ad)
    (k : ∀ (h' : Heap) (a : Addr), a = h.size → Ext h h' → AV Z h' a (newarray.typeOf aty) n.toNatClampNeg (fun _ => defaultValue (newarray.typeOf aty)) → Exa Z h' a ad → Go p l e R s m args below meth c n0 FE h' ck' cn' (mkF m pc' Ls (.ref a :: st))) : Go p l e R s m args below meth c n0 FE h ck cn (mkF m pc Ls (.int n :: st)) := fun T locs X eT hN => by
  obtain ⟨hd, rfl⟩ := hd
  subst hck hcn
  obtain ⟨T', h', cA, X', e', E, A, Ea, st'⟩ := Jvm.RoadKit.newPE X C.1 C.2.2.2.1 w eT (g := mkF m pc Ls (.int n :: st)) rfl (hb C.2.1 hd) rfl hn hcap hb8 hc hl had
  exact Go.move hN X' e' hN st' (k h' _ rfl E (AV.ofNew A hn) Ea)
theorem g_newRA (C : Cx p s m meth c Z code maxL own ret) {pc pc' : Nat} {Ls : Array Slot} {st : List Value} {ty0 : FieldType} {index : Nat} {n : Int32} {Cl ad : String} (hd : I1 code pc (.anewarray index) 3 pc') (hC : (FieldType.array ty0).toString = Cl) (w1 : (Cond.classLink own index Cl).before a0 Z = true) (w2 : (Cond.arrayOver (.array ty0)).before a0 Z = true) (hn : ¬ n < 0) (cap : Nat) (hcap : n.toNatClampNeg ≤ cap) (hb8 : cap * 8 ≤ 536870912) (hc : ck + 1 ≤ R.cells) (hl : cn + cap ≤ R.slots) {ck' cn' : Nat} (hck : ck + 1 = ck') (hcn : cn + cap = cn') (had : "[" ++ Cl = ad)
    (k : ∀ (h' : Heap) (a : Addr), a = h.size → Ext h h' → AV Z h' a (.array ty0) n.toNatClampNeg (fun _ => .null) → Exa Z h' a ad → OvA Z ad Cl → Go p l e R s m args below meth c n0 FE h' ck' cn' (mkF m pc' Ls (.ref a :: st))) : Go p l e R s m args below meth c n0 FE h ck cn (mkF m pc Ls (.int n :: st)) := fun T locs X eT hN => by
  obtain ⟨hd, rfl⟩ := hd
  subst hck hcn
  obtain ⟨T', h', cA, X', e', E, A, Ea, O, st'⟩ := Jvm.RoadKit.newRA X C.1 C.2.2.2.1 C.2.2.2.2.1 hC w1 w2 eT (g := mkF m pc Ls (.int n :: st)) rfl (hb C.2.1 hd) rfl hn hcap hb8 hc hl had
  refine Go.move hN X' e' hN st' (k h' _ rfl E (AV.ofNew A hn) Ea ⟨cA, ty0, ?_, O⟩)
  obtain ⟨cell, kk, q1, q2, -⟩ := Ea
  cases q1.symm.trans A.1
  exact q2
theorem g_aast (C : Cx p s m meth c Z code maxL own ret) {pc pc' : Nat} {Ls : Array Slot} {st : List Value} {a y : Addr} {j : Int32} {ty : FieldType} {n : Nat} {f : Nat → Value} {ad Cl : String} (hd : I1 code pc .aastore 1 pc') (F : AV Z h a ty n f) (ht : ty.isReference = true) (hj : Inb j n) (ha : n0 ≤ a) (E : Exa Z h a ad) (O : OvA Z ad Cl) (I : Ins Z h y Cl true)
    (k : ∀ h', Wr h h' a j.toNatClampNeg (.ref y) → AV Z h' a ty n (fun i => if i = j.toNatClampNeg then .ref y else f i) → Go p l e R s m args below meth c n0 FE h' ck cn (mkF m pc' Ls st)) : Go p l e R s m args below meth c n0 FE h ck cn (mkF m pc Ls (.ref y :: .int j :: .ref a :: st)) := fun T locs X eT hN => by
  obtain ⟨hd, rfl⟩ := hd
  have F' := F
  obtain ⟨cl, A, r1, r2, r3⟩ := F
  obtain ⟨cell, kk, q1, q2, -⟩ := E
  cases q1.symm.trans A.1
  obtain ⟨cA, ty0, o1, o2⟩ := O
  obtain ⟨T', h', X', e', W, st'⟩ := Jvm.RoadKit.stR X C.1 C.2.2.2.1 eT A (by rw [r1]; exact hj.not) ht (Sto.ofVA A (Option.some.inj (q2.symm.trans o1)) o2 I) (g := mkF m pc Ls (.ref y :: .int j :: .ref a :: st)) rfl rfl (hb C.2.1 hd)
  exact Go.move hN X' e' (Fr.snoc X' hN ha) st' (k h' W (F'.set W))
theorem g_clone (C : Cx p s m meth c Z code maxL own ret) {pc pc' : Nat} {Ls : Array Slot} {st : List Value} {a : Addr} {n : Nat} {f : Nat → Int64} {index : Nat} (hd : I1 code pc (.invokevirtual index) 3 pc')
    (w1 : (Cond.methodLink own index ⟨"[J", "clone", "()Ljava/lang/Object;"⟩).before a0 Z = true) (w2 : (Cond.sameMethod "[J" "java/lang/Object" "clone" "()Ljava/lang/Object;").before a0 Z = true) (w3 : (Cond.native ⟨"java/lang/Object", "clone", "()Ljava/lang/Object;"⟩).before a0 Z = true)
    (w4 : (Cond.instanceMethod ⟨"java/lang/Object", "clone", "()Ljava/lang/Object;"⟩).before a0 Z = true) (w5 : (Cond.selects "[J" ⟨"[J", "clone", "()Ljava/lang/Object;"⟩ ⟨"java/lang/Object", "clone", "()Ljava/lang/Object;"⟩).before a0 Z = true) (w6 : (Cond.castable "[J" "java/lang/Cloneable").before a0 Z = true)
    (F : AV Z h a .long n (fun ix => .long (f ix))) (E : Exa Z h a "[J") (hsz : Ls.size = maxL) (hf : 1 ≤ R.frames) (W : Nat) (hW : 2 * 0 + (st.map fun v => v.category).sum ≤ W) (hl : W + 14 ≤ R.locals) (hc : ck + 1 ≤ R.cells) (hs : cn + n ≤ R.slots) {ck' cn' : Nat} (hck : ck + 1 = ck') (hcn : cn + n = cn')
    (k : ∀ (h' : Heap) (b : Addr), b = h.size → Ext h h' → AV Z h' b .long n (fun ix => .long (f ix)) → Exa Z h' b "[J" → Go p l e R s m args below meth c n0 FE h' ck' cn' (mkF m pc' Ls (.ref b :: st))) : Go p l e R s m args below meth c n0 FE h ck cn (mkF m pc Ls (.ref a :: st)) := fun T locs X eT hN => by
  obtain ⟨hd, rfl⟩ := hd
  subst hck hcn
  obtain ⟨cl, A, r1, r2, r3⟩ := F
  obtain ⟨T', h', X', e', ex, A', E', st'⟩ := Jvm.RoadKit.cloneA X C.1 C.2.2.2.1 C.2.2.2.2.1 w1 w2 w3 w4 w5 w6 eT A E (Jvm.RoadKit.fitC_of A fun i hi v hv => by rw [r3 i (r1 ▸ hi)] at hv; cases hv; rfl) (g := mkF m pc Ls (.ref a :: st)) rfl (hsz.trans C.2.2.1.symm) rfl (hb C.2.1 hd) hf (W := W) hW hl (Nat.le_of_eq r1) hc hs
  exact Go.move hN X' e' hN st' (k h' _ rfl ex ⟨_, A', r1, r2, r3⟩ E')
theorem g_selP {Cl : String} {y z : MethodName} (w : (Cond.selects Cl z z).before a0 Z = true) (hz : z.cls = y.cls) (wp : (Cond.privateMethod y).before a0 Z = true) (wi : (Cond.instanceMethod y).before a0 Z = true) (hy : y.cls ≠ "java/lang/invoke/MethodHandle" ∧ y.cls ≠ "java/lang/invoke/VarHandle") : (Cond.selects y.cls y y).before a0 Z = true := by
  obtain ⟨c2, r2, m2, -, -, q3, -, kP, hkP, hkPi⟩ := Cond.selects_spec w
  exact Jvm.Stand.selects_self_of_private (hz ▸ findClass_of_methodNamed q3) hkP hkPi (Cond.privateMethod_at wp) wi hy
theorem g_callS (C : Cx p s m meth c Z code maxL own ret) {pc pc' : Nat} {Ls : Array Slot} {y : MethodName} {ycode : ByteArray} {ymax : Nat} {yret : Option FieldType} {rm : Room} {as' : Array Value} {Q' : Option Value → Heap → Prop} {index : Nat} (hC : Ctr l Z y ycode ymax yret rm as' h n0 Q') (hd : I1 code pc (.invokestatic index) 3 pc') (w1 : (Cond.methodLink own index y).before a0 Z = true) (w2 : (Cond.static y).before a0 Z = true) (w3 : (Cond.initialized y.cls).before a0 Z = true) (w4 : (Cond.code y ycode ymax yret).before a0 Z = true) (hy : y.cls ≠ "java/lang/invoke/MethodHandle" ∧ y.cls ≠ "java/lang/invoke/VarHandle")
    {argsL st rest : List Value} (hst : st = argsL.reverse ++ rest) (has : argsL.toArray = as') {ps : List FieldType} {r : Option FieldType} (hpd : parseMethodDescriptor y.desc = some ⟨ps, r⟩) (hlen : argsL.length = ps.length) (hsz : Ls.size = maxL) (W : Nat) (hW : 2 * 0 + (rest.map fun v => v.category).sum ≤ W)
    (hf : rm.frames + 1 ≤ R.frames) (hl : W + (ymax + 11) + rm.locals ≤ R.locals) (hc : ck + rm.cells ≤ R.cells) (hs : cn + rm.slots ≤ R.slots) {ck' cn' : Nat} (hck : ck + rm.cells = ck') (hcn : cn + rm.slots = cn')
    (k : ∀ v h', Q' v h' → Go p l e R s m args below meth c n0 FE h' ck' cn' (mkF m pc' Ls (v.toList ++ rest))) : Go p l e R s m args below meth c n0 FE h ck cn (mkF m pc Ls st) := fun T locs X eT hN => by
  obtain ⟨hd, rfl⟩ := hd
  subst hck hcn hst
  obtain ⟨v, _, ⟨T', L', k', n'⟩, -, X', ⟨Lc, hQ, l1, l2, l3⟩, st'⟩ := Jvm.LawKit.callS X C.1 C.2.2.2.2.1 (mvT C.2.2.2.1 w1) (mvT C.2.2.2.1 w2) (mvT C.2.2.2.1 w3) (mvT C.2.2.2.1 w4) hy (backOf (W := W) (Q := fun v h L => Q' v h ∧ Fr n0 L) (hC []) C.2.2.2.1 w4 w3 hf hl) (g := mkF m pc Ls (argsL.reverse ++ rest)) rfl (hsz.trans C.2.2.1.symm) (argsL := argsL) (rest := rest) (lenOf hpd hlen) rfl hW (hb C.2.1 hd) (fun _ _ => ⟨has, eT, hc, hs⟩)
  dsimp only [Pt.U, Pt.locs, Pt.cells, Pt.slots] at X' l1 l2 l3 st' hQ
  subst l1 l2 l3
  exact Go.move hN X' rfl (Fr.app hN hQ.2) st' (k v _ hQ.1)
theorem g_callI (C : Cx p s m meth c Z code maxL own ret) {pc pc' : Nat} {Ls : Array Slot} {y : MethodName} {ycode : ByteArray} {ymax : Nat} {yret : Option FieldType} {rm : Room} {as' : Array Value} {Q' : Option Value → Heap → Prop} {index : Nat} (hC : Ctr l Z y ycode ymax yret rm as' h n0 Q') {a : Addr} (hd : I1 code pc (.invokespecial index) 3 pc') (hy1 : y.name = "<init>") (w1 : (Cond.methodLink own index y).before a0 Z = true) (w2 : (Cond.instanceMethod y).before a0 Z = true) (w3 : (Cond.initialized y.cls).before a0 Z = true) (w4 : (Cond.code y ycode ymax none).before a0 Z = true) (hyr : yret = none) (hy : y.cls ≠ "java/lang/invoke/MethodHandle" ∧ y.cls ≠ "java/lang/invoke/VarHandle")
    {argsL st rest : List Value} (hst : st = argsL.reverse ++ .ref a :: rest) (has : (.ref a :: argsL).toArray = as') {ps : List FieldType} {r : Option FieldType} (hpd : parseMethodDescriptor y.desc = some ⟨ps, r⟩) (hlen : argsL.length = ps.length) (hsz : Ls.size = maxL) (W : Nat) (hW : 2 * 0 + (rest.map fun v => v.category).sum ≤ W)
    (hf : rm.frames + 1 ≤ R.frames) (hl : W + (ymax + 11) + rm.locals ≤ R.locals) (hc : ck + rm.cells ≤ R.cells) (hs : cn + rm.slots ≤ R.slots) {ck' cn' : Nat} (hck : ck + rm.cells = ck') (hcn : cn + rm.slots = cn')
    (k : ∀ v h', Q' v h' → Go p l e R s m args below meth c n0 FE h' ck' cn' (mkF m pc' Ls (v.toList ++ rest))) : Go p l e R s m args below meth c n0 FE h ck cn (mkF m pc Ls st) := fun T locs X eT hN => by
  obtain ⟨hd, rfl⟩ := hd
  subst hck hcn hst
  subst hyr
  obtain ⟨v, _, ⟨T', L', k', n'⟩, -, X', ⟨Lc, hQ, l1, l2, l3⟩, st'⟩ := X.specialBack C.1 hy1 C.2.2.2.2.1 (mvT C.2.2.2.1 w1) (mvT C.2.2.2.1 w2) (mvT C.2.2.2.1 w4) hy (backOf (W := W) (Q := fun v h L => Q' v h ∧ Fr n0 L) (hC []) C.2.2.2.1 w4 w3 hf hl) (g := mkF m pc Ls (argsL.reverse ++ .ref a :: rest)) rfl (hsz.trans C.2.2.1.symm) (Steps.refl _) (a := a) (argsL := argsL) (rest := rest) (lenOf hpd hlen) rfl hW (hb C.2.1 hd) (fun _ _ => ⟨has, eT, hc, hs⟩)
  dsimp only [Pt.U, Pt.locs, Pt.cells, Pt.slots] at X' l1 l2 l3 st' hQ
  subst l1 l2 l3
  exact Go.move hN X' rfl (Fr.app hN hQ.2) (fun _ z => st'.trans z) (k v _ hQ.1)
theorem g_callV (C : Cx p s m meth c Z code maxL own ret) {pc pc' : Nat} {Ls : Array Slot} {y : MethodName} {ycode : ByteArray} {ymax : Nat} {yret : Option FieldType} {rm : Room} {as' : Array Value} {Q' : Option Value → Heap → Prop} {index : Nat} (hC : Ctr l Z y ycode ymax yret rm as' h n0 Q') {a : Addr} {x : MethodName} {Cl : String} (hd : I1 code pc (.invokevirtual index) 3 pc') (w1 : (Cond.methodLink own index x).before a0 Z = true) (w2 : (Cond.declares x).before a0 Z = true) (hnf : ∀ s : State, Z.Warmed39 s.vm → NotFace s x) (w5 : (Cond.selects Cl x y).before a0 Z = true) (w6 : (Cond.instanceMethod y).before a0 Z = true) (w3 : (Cond.initialized y.cls).before a0 Z = true) (w4 : (Cond.code y ycode ymax yret).before a0 Z = true) (hy : x.cls ≠ "java/lang/invoke/MethodHandle" ∧ x.cls ≠ "java/lang/invoke/VarHandle") (E : Exa Z h a Cl)
    {argsL st rest : List Value} (hst : st = argsL.reverse ++ .ref a :: rest) (has : (.ref a :: argsL).toArray = as') {ps : List FieldType} {r : Option FieldType} (hpd : parseMethodDescriptor x.desc = some ⟨ps, r⟩) (hlen : argsL.length = ps.length) (hsz : Ls.size = maxL) (W : Nat) (hW : 2 * 0 + (rest.map fun v => v.category).sum ≤ W)
    (hf : rm.frames + 1 ≤ R.frames) (hl : W + (ymax + 11) + rm.locals ≤ R.locals) (hc : ck + rm.cells ≤ R.cells) (hs : cn + rm.slots ≤ R.slots) {ck' cn' : Nat} (hck : ck + rm.cells = ck') (hcn : cn + rm.slots = cn')
    (k : ∀ v h', Q' v h' → Go p l e R s m args below meth c n0 FE h' ck' cn' (mkF m pc' Ls (v.toList ++ rest))) : Go p l e R s m args below meth c n0 FE h ck cn (mkF m pc Ls st) := fun T locs X eT hN => by
  obtain ⟨hd, rfl⟩ := hd
  subst hck hcn hst
  obtain ⟨cq, kq, q1, q2, q3⟩ := isOf C.2.2.2.1 eT E
  obtain ⟨v, _, ⟨T', L', k', n'⟩, -, X', ⟨Lc, hQ, l1, l2, l3⟩, st'⟩ := X.virtualBack C.1 (y := x) (z := y) C.2.2.2.2.1 (mvT C.2.2.2.1 w1) (mvT C.2.2.2.1 w2) (hnf s C.2.2.2.1) (mvT C.2.2.2.1 w5) (mvT C.2.2.2.1 w6) hy (backOf (W := W) (Q := fun v h L => Q' v h ∧ Fr n0 L) (hC []) C.2.2.2.1 w4 w3 hf hl) q1 q3 (g := mkF m pc Ls (argsL.reverse ++ .ref a :: rest)) rfl (hsz.trans C.2.2.1.symm) (Steps.refl _) (argsL := argsL) (rest := rest) (lenOf hpd hlen) rfl hW (hb C.2.1 hd) (fun _ _ => ⟨has, eT, hc, hs⟩)
  dsimp only [Pt.U, Pt.locs, Pt.cells, Pt.slots] at X' l1 l2 l3 st' hQ
  subst l1 l2 l3
  exact Go.move hN X' rfl (Fr.app hN hQ.2) (fun _ z => st'.trans z) (k v _ hQ.1)
theorem g_callP (C : Cx p s m meth c Z code maxL own ret) {pc pc' : Nat} {Ls : Array Slot} {y : MethodName} {ycode : ByteArray} {ymax : Nat} {yret : Option FieldType} {rm : Room} {as' : Array Value} {Q' : Option Value → Heap → Prop} {index : Nat} (hC : Ctr l Z y ycode ymax yret rm as' h n0 Q') {a : Addr} {Cl : String} (hd : I1 code pc (.invokevirtual index) 3 pc') (w1 : (Cond.methodLink own index y).before a0 Z = true) (w2 : (Cond.instanceMethod y).before a0 Z = true) (w5 : (Cond.selects y.cls y y).before a0 Z = true) (w6 : (Cond.privateMethod y).before a0 Z = true) (w3 : (Cond.initialized y.cls).before a0 Z = true) (w4 : (Cond.code y ycode ymax yret).before a0 Z = true) (hy : y.cls ≠ "java/lang/invoke/MethodHandle" ∧ y.cls ≠ "java/lang/invoke/VarHandle") (E : Exa Z h a Cl)
    {argsL st rest : List Value} (hst : st = argsL.reverse ++ .ref a :: rest) (has : (.ref a :: argsL).toArray = as') {ps : List FieldType} {r : Option FieldType} (hpd : parseMethodDescriptor y.desc = some ⟨ps, r⟩) (hlen : argsL.length = ps.length) (hsz : Ls.size = maxL) (W : Nat) (hW : 2 * 0 + (rest.map fun v => v.category).sum ≤ W)
    (hf : rm.frames + 1 ≤ R.frames) (hl : W + (ymax + 11) + rm.locals ≤ R.locals) (hc : ck + rm.cells ≤ R.cells) (hs : cn + rm.slots ≤ R.slots) {ck' cn' : Nat} (hck : ck + rm.cells = ck') (hcn : cn + rm.slots = cn')
    (k : ∀ v h', Q' v h' → Go p l e R s m args below meth c n0 FE h' ck' cn' (mkF m pc' Ls (v.toList ++ rest))) : Go p l e R s m args below meth c n0 FE h ck cn (mkF m pc Ls st) := fun T locs X eT hN => by
  obtain ⟨hd, rfl⟩ := hd
  subst hck hcn hst
  obtain ⟨cq, q1, q2⟩ := E.cell
  obtain ⟨v, _, ⟨T', L', k', n'⟩, -, X', ⟨Lc, hQ, l1, l2, l3⟩, st'⟩ := X.privateBack C.1 (y := y) C.2.2.2.2.1 (mvT C.2.2.2.1 w1) (mvT C.2.2.2.1 w2) (mvT C.2.2.2.1 w5) (Cond.privateMethod_at (mvP C.2.2.2.1 w6 (args := #[]))) (mvT C.2.2.2.1 w4) hy (backOf (W := W) (Q := fun v h L => Q' v h ∧ Fr n0 L) (hC []) C.2.2.2.1 w4 w3 hf hl) (g := mkF m pc Ls (argsL.reverse ++ .ref a :: rest)) rfl (hsz.trans C.2.2.1.symm) (Steps.refl _) (a := a) (by rw [eT]; exact q1) q2 (argsL := argsL) (rest := rest) (lenOf hpd hlen) rfl hW (hb C.2.1 hd) (fun _ _ => ⟨has, eT, hc, hs⟩)
  dsimp only [Pt.U, Pt.locs, Pt.cells, Pt.slots] at X' l1 l2 l3 st' hQ
  subst l1 l2 l3
  exact Go.move hN X' rfl (Fr.app hN hQ.2) (fun _ z => st'.trans z) (k v _ hQ.1)
end
/-! the wide form: a body that may load String constants -/
/-- the base s stands behind the start s0 of the body: what has been interned since, and the invariant on the booked Strings -/
def Wd (Z : State) (EL : List (String × Nat)) (s0 s : State) (h : Heap) : Prop := ∃ (vm0 : Vm) (k0 : Nat), s = s0.setVm vm0 ∧ s0.Since vm0 k0 ∧ k0 ≤ h.size ∧ CHr Z EL s0.vm s0.heap vm0 h
/-- the same without the invariant -/
def Wv (s0 s : State) (h : Heap) : Prop := ∃ (vm0 : Vm) (k0 : Nat), s = s0.setVm vm0 ∧ s0.Since vm0 k0 ∧ k0 ≤ h.size
/-- endings -/
def EC (Z : State) (EL : List (String × Nat)) (s0 : State) (n0 K N : Nat) (Q : Option Value → Heap → Prop) (s₂ : State) (o : Outcome) : Prop := ∃ v L, o = .returned v ∧ (Q v s₂.heap ∧ Fr n0 L) ∧ CHr Z EL s0.vm s0.heap s₂.vm s₂.heap ∧ ReturnedEndW s0 o s₂ L K N
def EV (s0 : State) (n0 K N : Nat) (Q : Option Value → Heap → Prop) (s₂ : State) (o : Outcome) : Prop := ∃ v L, o = .returned v ∧ (Q v s₂.heap ∧ Fr n0 L) ∧ ReturnedEndW s0 o s₂ L K N
/-- contracts of bodies that may load String constants -/
def CtrC (l : Launch) (Z : State) (EL : List (String × Nat)) (y : MethodName) (code : ByteArray) (maxL : Nat) (ret : Option FieldType) (rm : Room) (as' : Array Value) (h0 : Heap) (n0 : Nat) (Q : Option Value → Heap → Prop) : Prop :=
  ∀ ws : List Cond, MetFree l y (head1 (Cond.code y code maxL ret :: ws) rm) (fun a U => a = as' ∧ Z.Warmed39 U.vm ∧ U.heap = h0 ∧ CHv Z EL U.vm h0) (fun _ _ _ _ _ => True)
    (fun _ U o U' => ∃ v L, o = .returned v ∧ (Q v U'.heap ∧ Fr n0 L) ∧ CHr Z EL U.vm U.heap U'.vm U'.heap ∧ ReturnedEndW U o U' L rm.cells rm.slots)
def CtrV (l : Launch) (Z : State) (EL : List (String × Nat)) (y : MethodName) (code : ByteArray) (maxL : Nat) (ret : Option FieldType) (rm : Room) (as' : Array Value) (h0 : Heap) (n0 : Nat) (Q : Option Value → Heap → Prop) : Prop :=
  ∀ ws : List Cond, MetFree l y (head1 (Cond.code y code maxL ret :: ws) rm) (fun a U => a = as' ∧ Z.Warmed39 U.vm ∧ U.heap = h0 ∧ CHv Z EL U.vm h0) (fun _ _ _ _ _ => True)
    (fun _ U o U' => ∃ v L, o = .returned v ∧ (Q v U'.heap ∧ Fr n0 L) ∧ ReturnedEndW U o U' L rm.cells rm.slots)
section
variable {p : Program} {l : Launch} {e : Env} {R : Room} {s s0 : State} {m : MethodId} {args : Array Value} {below : List Frame} {meth : Method} {c : Code} {n0 K N : Nat} {Q : Option Value → Heap → Prop} {FE : State → Outcome → Prop} {h h' : Heap} {ck cn : Nat} {Z : State} {a0 : Array Value} {code : ByteArray} {maxL : Nat} {own : String} {ret : Option FieldType} {EL : List (String × Nat)}
theorem Wd.v (H : Wd Z EL s0 s h) : Wv s0 s h := by obtain ⟨vm0, k0, a, b, c, -⟩ := H; exact ⟨vm0, k0, a, b, c⟩
theorem Wd.ch (H : Wd Z EL s0 s h) : CHv Z EL s.vm h := by obtain ⟨vm0, k0, rfl, b, c, d⟩ := H; exact d.1
theorem Wd.start (H : CHv Z EL s.vm s.heap) : Wd Z EL s s s.heap := ⟨s.vm, s.heap.size, rfl, (State.WarmedH.refl s).since _, Nat.le_refl _, CHr.refl H⟩
theorem Wd.ext (H : Wd Z EL s0 s h) (E : Ext h h') : Wd Z EL s0 s h' := by
  obtain ⟨vm0, k0, a, b, c, d⟩ := H
  exact ⟨vm0, k0, a, b, Nat.le_trans c E.1, d.trans (CHr.ext E d.1)⟩
theorem Wv.ext (H : Wv s0 s h) (E : Ext h h') : Wv s0 s h' := by
  obtain ⟨vm0, k0, a, b, c⟩ := H
  exact ⟨vm0, k0, a, b, Nat.le_trans c E.1⟩
theorem Wd.keep {ws : List Addr} (H : Wd Z EL s0 s h) (E : Keep h h' ws) (hs : ∀ x ∈ ws, Safe Z EL s.vm h x) : Wd Z EL s0 s h' := by
  obtain ⟨vm0, k0, rfl, b, c, d⟩ := H
  exact ⟨vm0, k0, rfl, b, Nat.le_trans c E.1, d.trans (CHr.keep E hs d.1)⟩
theorem Wv.keep {ws : List Addr} (H : Wv s0 s h) (E : Keep h h' ws) : Wv s0 s h' := by
  obtain ⟨vm0, k0, a, b, c⟩ := H
  exact ⟨vm0, k0, a, b, Nat.le_trans c E.1⟩
theorem Wd.wr {a : Addr} {sl : Nat} {v : Value} (H : Wd Z EL s0 s h) (W : Wr h h' a sl v) (S : Safe Z EL s.vm h a) : Wd Z EL s0 s h' := by
  obtain ⟨vm0, k0, rfl, b, c, d⟩ := H
  exact ⟨vm0, k0, rfl, b, Nat.le_trans c (Keep.of_wr W).1, d.trans (CHr.wr W S d.1)⟩
theorem Wv.wr {a : Addr} {sl : Nat} {v : Value} (H : Wv s0 s h) (W : Wr h h' a sl v) : Wv s0 s h' := by
  obtain ⟨vm0, k0, rfl, b, c⟩ := H
  exact ⟨vm0, k0, rfl, b, Nat.le_trans c (Keep.of_wr W).1⟩
theorem CtrC.of_go {y : MethodName} {rm : Room} {as' : Array Value} {h0 : Heap} {Ls : Array Slot} (hpl : plainFor y = true) (hef : ∀ m, entryFrame m as' maxL = mkF m 0 Ls [])
    (hgo : ∀ p e s m below meth c, meth.name = y.name → Cx p s m meth c Z code maxL y.cls ret → Wd Z EL s s h0 → Go p l e rm s m as' below meth c n0 (EC Z EL s n0 rm.cells rm.slots Q) h0 0 0 (mkF m 0 Ls [])) : CtrC l Z EL y code maxL ret rm as' h0 n0 Q := fun ws => by
  refine MetFree.of_bodySF hpl hisR ?_
  intro p e s m args below meth c s₁ Bd hml0 hP hK
  obtain ⟨rfl, hZ, hh, hch⟩ := hP
  have X0 : Stand p l e rm s m args below meth c s₁ [] 0 0 := Stand.of_body Bd
  have e0 : s₁.heap = h0 := by rw [← hh, Bd.state]; rfl
  subst hh
  obtain ⟨s₂, o, g1, g2, g3, v, L, g4, g5, g6, g7⟩ := hgo p e s m below meth c (name_of_methodNamed Bd.named Bd.method).1 ⟨Bd.exec, Bd.bytes, hml0, hZ, findClass_of_methodNamed Bd.named, Bd.returns, Bd.notSynchronized⟩ (Wd.start hch) s₁ [] X0 e0 (Fr.nil n0)
  exact ⟨s₂, o, castTop (hef m) g1, g2, g3, v, L, g4, g5, g6, g7⟩
theorem CtrV.of_go {y : MethodName} {rm : Room} {as' : Array Value} {h0 : Heap} {Ls : Array Slot} (hpl : plainFor y = true) (hef : ∀ m, entryFrame m as' maxL = mkF m 0 Ls [])
    (hgo : ∀ p e s m below meth c, meth.name = y.name → Cx p s m meth c Z code maxL y.cls ret → Wd Z EL s s h0 → Go p l e rm s m as' below meth c n0 (EV s n0 rm.cells rm.slots Q) h0 0 0 (mkF m 0 Ls [])) : CtrV l Z EL y code maxL ret rm as' h0 n0 Q := fun ws => by
  refine MetFree.of_bodySF hpl hisR ?_
  intro p e s m args below meth c s₁ Bd hml0 hP hK
  obtain ⟨rfl, hZ, hh, hch⟩ := hP
  have X0 : Stand p l e rm s m args below meth c s₁ [] 0 0 := Stand.of_body Bd
  have e0 : s₁.heap = h0 := by rw [← hh, Bd.state]; rfl
  subst hh
  obtain ⟨s₂, o, g1, g2, g3, v, L, g4, g5, g6⟩ := hgo p e s m below meth c (name_of_methodNamed Bd.named Bd.method).1 ⟨Bd.exec, Bd.bytes, hml0, hZ, findClass_of_methodNamed Bd.named, Bd.returns, Bd.notSynchronized⟩ (Wd.start hch) s₁ [] X0 e0 (Fr.nil n0)
  exact ⟨s₂, o, castTop (hef m) g1, g2, g3, v, L, g4, g5, g6⟩
theorem EC.v {s₂ : State} {o : Outcome} (H : EC Z EL s0 n0 K N Q s₂ o) : EV s0 n0 K N Q s₂ o := by obtain ⟨v, L, a, b, -, d⟩ := H; exact ⟨v, L, a, b, d⟩
theorem endW_more {s t : State} {o : Outcome} {L : List Loc} {k n k' n' : Nat} (H : ReturnedEndW s o t L k n) (hk : k ≤ k') (hn : n ≤ n') : ReturnedEndW s o t L k' n' := ⟨H.1, H.2.1, H.2.2.1, H.2.2.2.mono hk hn⟩
theorem retV0 {v : Option Value} {g : JFrame} (hlk : meth.locks = false) (hret : meth.sig.returnType = none → v = none) (HW : Wv s0 s h) (hck : ck ≤ K) (hcn : cn ≤ N) (hQ : Q v h)
    (st : ∀ (T : State) (locs : List Loc) (fs : List Frame), Stand p l e R s m args below meth c T locs ck cn → (∀ (f : JFrame) (acts : List Action), f.method = m → f.locked = none → f.entered = [] → (doReturn e (T.setTop f) acts v).1 = T.setFrames fs) → Steps p.tables e below (T.setTop g) (T.setFrames fs)) :
    Go p l e R s m args below meth c n0 (EV s0 n0 K N Q) h ck cn g := fun T locs X eT hN => by
  obtain ⟨vm0, k0, rfl, b, c'⟩ := HW
  obtain ⟨fs, hr, hrun, hended, hW⟩ := X.leaveW b (by rw [eT]; exact c') (v := v) hret hlk
  exact ⟨_, _, st T locs fs X hr, hrun, hended, v, locs, rfl, ⟨by show Q v T.heap; rw [eT]; exact hQ, hN⟩, endW_more hW hck hcn⟩
theorem retC0 {v : Option Value} {g : JFrame} (C : Cx p s m meth c Z code maxL own ret) (hEL : EW Z a0 EL) (hret : meth.sig.returnType = none → v = none) (HW : Wd Z EL s0 s h) (hck : ck ≤ K) (hcn : cn ≤ N) (hQ : Q v h)
    (st : ∀ (T : State) (locs : List Loc) (fs : List Frame), Stand p l e R s m args below meth c T locs ck cn → (∀ (f : JFrame) (acts : List Action), f.method = m → f.locked = none → f.entered = [] → (doReturn e (T.setTop f) acts v).1 = T.setFrames fs) → Steps p.tables e below (T.setTop g) (T.setFrames fs)) :
    Go p l e R s m args below meth c n0 (EC Z EL s0 n0 K N Q) h ck cn g := fun T locs X eT hN => by
  have hlk := C.2.2.2.2.2.2
  have hZ := C.2.2.2.1
  obtain ⟨vm0, k0, rfl, b, c', d⟩ := HW
  obtain ⟨fs, hr, hrun, hended, hW⟩ := X.leaveW b (by rw [eT]; exact c') (v := v) hret hlk
  refine ⟨_, _, st T locs fs X hr, hrun, hended, v, locs, rfl, ⟨by show Q v T.heap; rw [eT]; exact hQ, hN⟩, ?_, endW_more hW hck hcn⟩
  have A := d.trans (CHv.at X hZ hEL d.1)
  show CHr Z EL s0.vm s0.heap T.vm T.heap
  rw [eT]; exact A
/-- 'ldc' of a String constant -/
theorem g_ldcC (C : Cx p s m meth c Z code maxL own ret) {pc pc' : Nat} {Ls : Array Slot} {st : List Value} {text : String} {index : Nat} (HW : Wd Z EL s0 s h) (hEL : EW Z a0 EL) (hd : I1 code pc (.ldc index) 2 pc') (w : (Cond.stringLink own index text).before a0 Z = true) (wS : ∀ a ∈ Bundle.stringAtoms, a.before a0 Z = true) (hmem : (own, index) ∈ EL)
    {vs : List Value} {z : Int32} {len : Nat} {f : Nat → Int32} (ht : (∀ c ∈ text.toList, c.toNat < 256) ∧ text.toList.map (fun c => Value.int (Jvm.Lit.byteI c.toNat.toUInt16)) = vs) (hz : ¬ z < 0) (hl : z.toNatClampNeg = vs.length) (hlen : vs.length = len) (hf : ∀ i, i < len → vs.getD i (.int 0) = .int (f i))
    (n : Nat) (hn : 4 * text.toList.length ≤ n) (hbig : n ≤ 536870912) (hc : ck + 2 ≤ R.cells) (hl' : cn + (n + 4) ≤ R.slots) {ck' cn' : Nat} (hck : ck + 2 = ck') (hcn : cn + (n + 4) = cn')
    (k : ∀ (s' : State) (h' : Heap) (a b : Addr), Cx p s' m meth c Z code maxL own ret → Wd Z EL s0 s' h' → Ext h h' → Exa Z h' a "java/lang/String" → Fld Z h' a "java/lang/String" "coder" "B" (.int (0 : Int32)) → Fld Z h' a "java/lang/String" "value" "[B" (.ref b) → AV Z h' b .byte len (fun ix => .int (f ix)) → Lit s' own index a → Go p l e R s' m args below meth c n0 FE h' ck' cn' (mkF m pc' Ls (.ref a :: st))) :
    Go p l e R s m args below meth c n0 FE h ck cn (mkF m pc Ls st) := fun T locs X eT hN => by
  obtain ⟨hd, rfl⟩ := hd
  subst hck hcn
  obtain ⟨c1, c2, c3, c4, c5, c6, c7⟩ := C
  obtain ⟨vm0, k0, rfl, b, c', d⟩ := HW
  obtain ⟨a, T', h', k1, bb, kk, X', e', Ex, hS', hk', hW', hown', E1, F1, F2, A1, -, -, H', Lt, -, st'⟩ := ldcCH X c1 c4 c5 w wS eT b c' hEL hmem d.1 ht hz hl (g := mkF m pc Ls st) rfl (hb c2 hd) hn hbig hc hl'
  obtain ⟨cl, A, q1, q2, q3, q4, q5⟩ := A1
  exact Go.move hN X' e' hN st' (k _ h' a bb ⟨c1, c2, c3, hW', hown', c6, c7⟩ ⟨T'.vm, k1, rfl, hS', hk', d.trans H'⟩ Ex E1 F1 F2 ⟨cl, A, by rw [q2, hl, hlen], by have := (back32 q3).2; rw [hl, hlen] at this; exact this, fun i hi => by show cl.slots[i]? = some (Value.int (f i)); rw [← hf i hi]; exact q4 i (by rw [q2, hl, hlen]; exact hi)⟩ Lt)

/-- a callee's contract without the invariant at its end, paid -/
theorem backOfSV {vm0 : Vm} {y : MethodName} {bytes : ByteArray} {maxL : Nat} {ret : Option FieldType} {rm : Room} {len W : Nat} {as' : Array Value} {Q : Option Value → Heap → List Loc → Prop}
    (hM : MetFree l y (head1 [Cond.code y bytes maxL ret] rm) (fun a U => a = as' ∧ Z.Warmed39 U.vm ∧ U.heap = h ∧ CHv Z EL U.vm h) (fun _ _ _ _ _ => True) (fun _ U o U' => ∃ v L, o = .returned v ∧ Q v U'.heap L ∧ ReturnedEndW U o U' L rm.cells rm.slots))
    (hZ : Z.Warmed39 vm0) (wc : (Cond.code y bytes maxL ret).before a0 Z = true) (wz : (Cond.initialized y.cls).before a0 Z = true) (hf : rm.frames + 1 ≤ R.frames) (hl : W + (maxL + 11) + rm.locals ≤ R.locals) (hEL : EW Z a0 EL) (H : CHv Z EL vm0 h) :
    BackS l R p e below (s.setVm vm0) args y len W (fun A a => a = as' ∧ A.U.heap = h ∧ A.cells + rm.cells ≤ R.cells ∧ A.slots + rm.slots ≤ R.slots)
      (fun A _ v B => ∃ L, Q v B.U.heap L ∧ B.locs = A.locs ++ L ∧ B.cells = A.cells + rm.cells ∧ B.slots = A.slots + rm.slots) :=
  BackS.of_freeW (bytes := bytes) (maxL := maxL) (ret := ret) (E := fun _ _ o t L k n => k = rm.cells ∧ n = rm.slots ∧ ∃ v, o = .returned v ∧ Q v t.heap L) hM hf hl
    (fun m meth c A a Y hp => have hU : Z.Warmed39 A.U.vm := wtrans (s := s.setVm vm0) hZ Y.warmed
      ⟨by show (Cond.and _ .tt).before a A.U = true; rw [Cond.before_and, mv hU wc]; rfl, mv hU wc, mv hU wz, hp.2.2.1, hp.2.2.2⟩)
    (fun m meth c A a g mk Y hp => ⟨hp.1, wtrans (s := s.setVm vm0) hZ Y.warmed, hp.2.1, (CHv.at Y hZ hEL H).1⟩) (fun _ _ _ _ _ _ _ _ _ => trivial)
    (fun _ _ _ _ ⟨v, L, h1, h2, h3⟩ => ⟨L, _, _, h3, rfl, rfl, v, h1, h2⟩)
    (fun m meth c A a g mk v t L k n Y hp _ _ ⟨e1, e2, v', e3, e4⟩ => by cases e3; subst e1 e2; exact ⟨L, e4, rfl, rfl, rfl⟩)
theorem g_callSC (C : Cx p s m meth c Z code maxL own ret) {pc pc' : Nat} {Ls : Array Slot} {y : MethodName} {ycode : ByteArray} {ymax : Nat} {yret : Option FieldType} {rm : Room} {as' : Array Value} {Q' : Option Value → Heap → Prop} {index : Nat} (HW : Wd Z EL s0 s h) (hEL : EW Z a0 EL) (hC : CtrC l Z EL y ycode ymax yret rm as' h n0 Q') (hd : I1 code pc (.invokestatic index) 3 pc') (w1 : (Cond.methodLink own index y).before a0 Z = true) (w2 : (Cond.static y).before a0 Z = true) (w3 : (Cond.initialized y.cls).before a0 Z = true) (w4 : (Cond.code y ycode ymax yret).before a0 Z = true) (hy : y.cls ≠ "java/lang/invoke/MethodHandle" ∧ y.cls ≠ "java/lang/invoke/VarHandle")
    {argsL st rest : List Value} (hst : st = argsL.reverse ++ rest) (has : argsL.toArray = as') {ps : List FieldType} {r : Option FieldType} (hpd : parseMethodDescriptor y.desc = some ⟨ps, r⟩) (hlen : argsL.length = ps.length) (hsz : Ls.size = maxL) (W : Nat) (hW : 2 * 0 + (rest.map fun v => v.category).sum ≤ W)
    (hf : rm.frames + 1 ≤ R.frames) (hl : W + (ymax + 11) + rm.locals ≤ R.locals) (hc : ck + rm.cells ≤ R.cells) (hs : cn + rm.slots ≤ R.slots) {ck' cn' : Nat} (hck : ck + rm.cells = ck') (hcn : cn + rm.slots = cn')
    (k : ∀ v s' h', Cx p s' m meth c Z code maxL own ret → Wd Z EL s0 s' h' → Q' v h' → Go p l e R s' m args below meth c n0 FE h' ck' cn' (mkF m pc' Ls (v.toList ++ rest))) : Go p l e R s m args below meth c n0 FE h ck cn (mkF m pc Ls st) := fun T locs X eT hN => by
  obtain ⟨hd, rfl⟩ := hd
  subst hck hcn hst
  obtain ⟨c1, c2, c3, c4, c5, c6, c7⟩ := C
  obtain ⟨vm0, k0, rfl, b, c', d⟩ := HW
  subst eT
  obtain ⟨v, vm1, ⟨T', L', k', n'⟩, -, X', hS, hg, ⟨Lc, hQ, l1, l2, l3, hCH⟩, st'⟩ := callSS X c1 c5 (mvT c4 w1) (mvT c4 w2) (mvT c4 w3) (mvT c4 w4) hy (backOfSH (W := W) (Q := fun v h L => Q' v h ∧ Fr n0 L) (hC []) c4 w4 w3 hf hl hEL d.1) (g := mkF m pc Ls (argsL.reverse ++ rest)) rfl (hsz.trans c3.symm) (argsL := argsL) (rest := rest) (lenOf hpd hlen) rfl hW (hb c2 hd) (fun _ _ => ⟨has, rfl, hc, hs⟩)
  dsimp only [Pt.U, Pt.locs, Pt.cells, Pt.slots] at X' l1 l2 l3 st' hQ hS hg hCH
  subst l1 l2 l3
  exact Go.move hN X' rfl (Fr.app hN hQ.2) (fun _ z => st'.trans z) (k v _ _ ⟨c1, c2, c3, State.Warmed39.trans (t := s0.setVm vm0) c4 hS.1, by show T'.vm.findClass own = _; rw [hS.1.alike.findClass]; exact c5, c6, c7⟩ ⟨T'.vm, T'.heap.size, rfl, b.trans hS (Nat.le_trans c' hg), Nat.le_refl _, d.trans hCH⟩ hQ.1)
theorem g_callIC (C : Cx p s m meth c Z code maxL own ret) {pc pc' : Nat} {Ls : Array Slot} {y : MethodName} {ycode : ByteArray} {ymax : Nat} {yret : Option FieldType} {rm : Room} {as' : Array Value} {Q' : Option Value → Heap → Prop} {index : Nat} {a : Addr} (HW : Wd Z EL s0 s h) (hEL : EW Z a0 EL) (hC : CtrC l Z EL y ycode ymax yret rm as' h n0 Q') (hd : I1 code pc (.invokespecial index) 3 pc') (hy1 : y.name = "<init>") (w1 : (Cond.methodLink own index y).before a0 Z = true) (w2 : (Cond.instanceMethod y).before a0 Z = true) (w3 : (Cond.initialized y.cls).before a0 Z = true) (w4 : (Cond.code y ycode ymax yret).before a0 Z = true) (hyr : yret = none) (hy : y.cls ≠ "java/lang/invoke/MethodHandle" ∧ y.cls ≠ "java/lang/invoke/VarHandle")
    {argsL st rest : List Value} (hst : st = argsL.reverse ++ .ref a :: rest) (has : (.ref a :: argsL).toArray = as') {ps : List FieldType} {r : Option FieldType} (hpd : parseMethodDescriptor y.desc = some ⟨ps, r⟩) (hlen : argsL.length = ps.length) (hsz : Ls.size = maxL) (W : Nat) (hW : 2 * 0 + (rest.map fun v => v.category).sum ≤ W)
    (hf : rm.frames + 1 ≤ R.frames) (hl : W + (ymax + 11) + rm.locals ≤ R.locals) (hc : ck + rm.cells ≤ R.cells) (hs : cn + rm.slots ≤ R.slots) {ck' cn' : Nat} (hck : ck + rm.cells = ck') (hcn : cn + rm.slots = cn')
    (k : ∀ v s' h', Cx p s' m meth c Z code maxL own ret → Wd Z EL s0 s' h' → Q' v h' → Go p l e R s' m args below meth c n0 FE h' ck' cn' (mkF m pc' Ls (v.toList ++ rest))) : Go p l e R s m args below meth c n0 FE h ck cn (mkF m pc Ls st) := fun T locs X eT hN => by
  obtain ⟨hd, rfl⟩ := hd
  subst hck hcn hst
  obtain ⟨c1, c2, c3, c4, c5, c6, c7⟩ := C
  obtain ⟨vm0, k0, rfl, b, c', d⟩ := HW
  subst eT
  subst hyr
  obtain ⟨v, vm1, ⟨T', L', k', n'⟩, -, X', hS, hg, ⟨Lc, hQ, l1, l2, l3, hCH⟩, st'⟩ := X.specialBackS c1 hy1 c5 (mvT c4 w1) (mvT c4 w2) (mvT c4 w4) hy (backOfSH (W := W) (Q := fun v h L => Q' v h ∧ Fr n0 L) (hC []) c4 w4 w3 hf hl hEL d.1) (g := mkF m pc Ls (argsL.reverse ++ .ref a :: rest)) rfl (hsz.trans c3.symm) (Steps.refl _) (a := a) (argsL := argsL) (rest := rest) (lenOf hpd hlen) rfl hW (hb c2 hd) (fun _ _ => ⟨has, rfl, hc, hs⟩)
  dsimp only [Pt.U, Pt.locs, Pt.cells, Pt.slots] at X' l1 l2 l3 st' hQ hS hg hCH
  subst l1 l2 l3
  exact Go.move hN X' rfl (Fr.app hN hQ.2) (fun _ z => st'.trans z) (k v _ _ ⟨c1, c2, c3, State.Warmed39.trans (t := s0.setVm vm0) c4 hS.1, by show T'.vm.findClass own = _; rw [hS.1.alike.findClass]; exact c5, c6, c7⟩ ⟨T'.vm, T'.heap.size, rfl, b.trans hS (Nat.le_trans c' hg), Nat.le_refl _, d.trans hCH⟩ hQ.1)
theorem g_callVC (C : Cx p s m meth c Z code maxL own ret) {pc pc' : Nat} {Ls : Array Slot} {y : MethodName} {ycode : ByteArray} {ymax : Nat} {yret : Option FieldType} {rm : Room} {as' : Array Value} {Q' : Option Value → Heap → Prop} {index : Nat} {a : Addr} {x : MethodName} {Cl : String} (HW : Wd Z EL s0 s h) (hEL : EW Z a0 EL) (hC : CtrC l Z EL y ycode ymax yret rm as' h n0 Q') (hd : I1 code pc (.invokevirtual index) 3 pc') (w1 : (Cond.methodLink own index x).before a0 Z = true) (w2 : (Cond.declares x).before a0 Z = true) (hnf : ∀ s : State, Z.Warmed39 s.vm → NotFace s x) (w5 : (Cond.selects Cl x y).before a0 Z = true) (w6 : (Cond.instanceMethod y).before a0 Z = true) (w3 : (Cond.initialized y.cls).before a0 Z = true) (w4 : (Cond.code y ycode ymax yret).before a0 Z = true) (hy : x.cls ≠ "java/lang/invoke/MethodHandle" ∧ x.cls ≠ "java/lang/invoke/VarHandle") (E : Exa Z h a Cl)
    {argsL st rest : List Value} (hst : st = argsL.reverse ++ .ref a :: rest) (has : (.ref a :: argsL).toArray = as') {ps : List FieldType} {r : Option FieldType} (hpd : parseMethodDescriptor x.desc = some ⟨ps, r⟩) (hlen : argsL.length = ps.length) (hsz : Ls.size = maxL) (W : Nat) (hW : 2 * 0 + (rest.map fun v => v.category).sum ≤ W)
    (hf : rm.frames + 1 ≤ R.frames) (hl : W + (ymax + 11) + rm.locals ≤ R.locals) (hc : ck + rm.cells ≤ R.cells) (hs : cn + rm.slots ≤ R.slots) {ck' cn' : Nat} (hck : ck + rm.cells = ck') (hcn : cn + rm.slots = cn')
    (k : ∀ v s' h', Cx p s' m meth c Z code maxL own ret → Wd Z EL s0 s' h' → Q' v h' → Go p l e R s' m args below meth c n0 FE h' ck' cn' (mkF m pc' Ls (v.toList ++ rest))) : Go p l e R s m args below meth c n0 FE h ck cn (mkF m pc Ls st) := fun T locs X eT hN => by
  obtain ⟨hd, rfl⟩ := hd
  subst hck hcn hst
  obtain ⟨c1, c2, c3, c4, c5, c6, c7⟩ := C
  obtain ⟨vm0, k0, rfl, b, c', d⟩ := HW
  subst eT
  obtain ⟨cq, kq, q1, q2, q3⟩ := isOf c4 rfl E
  obtain ⟨v, vm1, ⟨T', L', k', n'⟩, -, X', hS, hg, ⟨Lc, hQ, l1, l2, l3, hCH⟩, st'⟩ := X.virtualBackS c1 (y := x) (z := y) c5 (mvT c4 w1) (mvT c4 w2) (hnf _ c4) (mvT c4 w5) (mvT c4 w6) hy (backOfSH (W := W) (Q := fun v h L => Q' v h ∧ Fr n0 L) (hC []) c4 w4 w3 hf hl hEL d.1) q1 q3 (g := mkF m pc Ls (argsL.reverse ++ .ref a :: rest)) rfl (hsz.trans c3.symm) (Steps.refl _) (argsL := argsL) (rest := rest) (lenOf hpd hlen) rfl hW (hb c2 hd) (fun _ _ => ⟨has, rfl, hc, hs⟩)
  dsimp only [Pt.U, Pt.locs, Pt.cells, Pt.slots] at X' l1 l2 l3 st' hQ hS hg hCH
  subst l1 l2 l3
  exact Go.move hN X' rfl (Fr.app hN hQ.2) (fun _ z => st'.trans z) (k v _ _ ⟨c1, c2, c3, State.Warmed39.trans (t := s0.setVm vm0) c4 hS.1, by show T'.vm.findClass own = _; rw [hS.1.alike.findClass]; exact c5, c6, c7⟩ ⟨T'.vm, T'.heap.size, rfl, b.trans hS (Nat.le_trans c' hg), Nat.le_refl _, d.trans hCH⟩ hQ.1)
theorem g_retVC (C : Cx p s m meth c Z code maxL own ret) (HW : Wd Z EL s0 s h) (hEL : EW Z a0 EL) {pc : Nat} {Ls : Array Slot} {pc' : Nat} (hd : I1 code pc .return_ 1 pc') (hret : ret = none) (hck : ck ≤ K) (hcn : cn ≤ N) (hQ : Q none h) : Go p l e R s m args below meth c n0 (EC Z EL s0 n0 K N Q) h ck cn (mkF m pc Ls []) := by
  obtain ⟨hd, -⟩ := hd
  exact retC0 C hEL (fun _ => rfl) HW hck hcn hQ (fun T locs fs X hr => X.returnOut C.1 (C.2.2.2.2.2.1.trans hret) (hb C.2.1 hd) hr)
theorem g_retIntC (C : Cx p s m meth c Z code maxL own ret) (HW : Wd Z EL s0 s h) (hEL : EW Z a0 EL) {pc : Nat} {Ls : Array Slot} {pc' : Nat} {st : List Value} {z : Int32} (hd : I1 code pc .ireturn 1 pc') (hret : ret = some .int) (hck : ck ≤ K) (hcn : cn ≤ N) (hQ : Q (some (.int z)) h) : Go p l e R s m args below meth c n0 (EC Z EL s0 n0 K N Q) h ck cn (mkF m pc Ls (.int z :: st)) := by
  obtain ⟨hd, -⟩ := hd
  have hr' := C.2.2.2.2.2.1.trans hret
  exact retC0 C hEL (fun q => by rw [hr'] at q; cases q) HW hck hcn hQ (fun T locs fs X hr => retOut X C.1 hr' rfl (Or.inl ⟨rfl, Or.inl rfl, z, rfl⟩) (hb C.2.1 hd) hr)
theorem g_retRefC (C : Cx p s m meth c Z code maxL own ret) (HW : Wd Z EL s0 s h) (hEL : EW Z a0 EL) {pc : Nat} {Ls : Array Slot} {pc' : Nat} {st : List Value} {v : Value} {t : FieldType} (hd : I1 code pc .areturn 1 pc') (hret : ret = some t) (ht : t.isReference = true) (hv : v.isRef = true) (hck : ck ≤ K) (hcn : cn ≤ N) (hQ : Q (some (v)) h) : Go p l e R s m args below meth c n0 (EC Z EL s0 n0 K N Q) h ck cn (mkF m pc Ls (v :: st)) := by
  obtain ⟨hd, -⟩ := hd
  have hr' := C.2.2.2.2.2.1.trans hret
  exact retC0 C hEL (fun q => by rw [hr'] at q; cases q) HW hck hcn hQ (fun T locs fs X hr => retOut X C.1 hr' (nar_ref hv) (Or.inr (Or.inr (Or.inr (Or.inr ⟨rfl, ht, hv⟩)))) (hb C.2.1 hd) hr)
theorem g_retNarC (C : Cx p s m meth c Z code maxL own ret) (HW : Wd Z EL s0 s h) (hEL : EW Z a0 EL) {pc : Nat} {Ls : Array Slot} {pc' : Nat} {st : List Value} {z : Int32} {t : FieldType} (hd : I1 code pc .ireturn 1 pc') (hret : ret = some t) (ht : t = .boolean ∨ t = .byte ∨ t = .char ∨ t = .short) (hck : ck ≤ K) (hcn : cn ≤ N) (hQ : Q (some (.int (nar t z))) h) : Go p l e R s m args below meth c n0 (EC Z EL s0 n0 K N Q) h ck cn (mkF m pc Ls (.int z :: st)) := by
  obtain ⟨hd, -⟩ := hd
  have hr' := C.2.2.2.2.2.1.trans hret
  exact retC0 C hEL (fun q => by rw [hr'] at q; cases q) HW hck hcn hQ (fun T locs fs X hr => retN X C.1 hr' ht (hb C.2.1 hd) hr)
theorem g_callSV (C : Cx p s m meth c Z code maxL own ret) {pc pc' : Nat} {Ls : Array Slot} {y : MethodName} {ycode : ByteArray} {ymax : Nat} {yret : Option FieldType} {rm : Room} {as' : Array Value} {Q' : Option Value → Heap → Prop} {index : Nat} (HW : Wd Z EL s0 s h) (hEL : EW Z a0 EL) (hC : CtrV l Z EL y ycode ymax yret rm as' h n0 Q') (hd : I1 code pc (.invokestatic index) 3 pc') (w1 : (Cond.methodLink own index y).before a0 Z = true) (w2 : (Cond.static y).before a0 Z = true) (w3 : (Cond.initialized y.cls).before a0 Z = true) (w4 : (Cond.code y ycode ymax yret).before a0 Z = true) (hy : y.cls ≠ "java/lang/invoke/MethodHandle" ∧ y.cls ≠ "java/lang/invoke/VarHandle")
    {argsL st rest : List Value} (hst : st = argsL.reverse ++ rest) (has : argsL.toArray = as') {ps : List FieldType} {r : Option FieldType} (hpd : parseMethodDescriptor y.desc = some ⟨ps, r⟩) (hlen : argsL.length = ps.length) (hsz : Ls.size = maxL) (W : Nat) (hW : 2 * 0 + (rest.map fun v => v.category).sum ≤ W)
    (hf : rm.frames + 1 ≤ R.frames) (hl : W + (ymax + 11) + rm.locals ≤ R.locals) (hc : ck + rm.cells ≤ R.cells) (hs : cn + rm.slots ≤ R.slots) {ck' cn' : Nat} (hck : ck + rm.cells = ck') (hcn : cn + rm.slots = cn')
    (k : ∀ v s' h', Cx p s' m meth c Z code maxL own ret → Wv s0 s' h' → Q' v h' → Go p l e R s' m args below meth c n0 FE h' ck' cn' (mkF m pc' Ls (v.toList ++ rest))) : Go p l e R s m args below meth c n0 FE h ck cn (mkF m pc Ls st) := fun T locs X eT hN => by
  obtain ⟨hd, rfl⟩ := hd
  subst hck hcn hst
  obtain ⟨c1, c2, c3, c4, c5, c6, c7⟩ := C
  obtain ⟨vm0, k0, rfl, b, c', d⟩ := HW
  subst eT
  obtain ⟨v, vm1, ⟨T', L', k', n'⟩, -, X', hS, hg, ⟨Lc, hQ, l1, l2, l3⟩, st'⟩ := callSS X c1 c5 (mvT c4 w1) (mvT c4 w2) (mvT c4 w3) (mvT c4 w4) hy (backOfSV (W := W) (Q := fun v h L => Q' v h ∧ Fr n0 L) (hC []) c4 w4 w3 hf hl hEL d.1) (g := mkF m pc Ls (argsL.reverse ++ rest)) rfl (hsz.trans c3.symm) (argsL := argsL) (rest := rest) (lenOf hpd hlen) rfl hW (hb c2 hd) (fun _ _ => ⟨has, rfl, hc, hs⟩)
  dsimp only [Pt.U, Pt.locs, Pt.cells, Pt.slots] at X' l1 l2 l3 st' hQ hS hg
  subst l1 l2 l3
  exact Go.move hN X' rfl (Fr.app hN hQ.2) (fun _ z => st'.trans z) (k v _ _ ⟨c1, c2, c3, State.Warmed39.trans (t := s0.setVm vm0) c4 hS.1, by show T'.vm.findClass own = _; rw [hS.1.alike.findClass]; exact c5, c6, c7⟩ ⟨T'.vm, T'.heap.size, rfl, b.trans hS (Nat.le_trans c' hg), Nat.le_refl _⟩ hQ.1)
theorem g_callIV (C : Cx p s m meth c Z code maxL own ret) {pc pc' : Nat} {Ls : Array Slot} {y : MethodName} {ycode : ByteArray} {ymax : Nat} {yret : Option FieldType} {rm : Room} {as' : Array Value} {Q' : Option Value → Heap → Prop} {index : Nat} {a : Addr} (HW : Wd Z EL s0 s h) (hEL : EW Z a0 EL) (hC : CtrV l Z EL y ycode ymax yret rm as' h n0 Q') (hd : I1 code pc (.invokespecial index) 3 pc') (hy1 : y.name = "<init>") (w1 : (Cond.methodLink own index y).before a0 Z = true) (w2 : (Cond.instanceMethod y).before a0 Z = true) (w3 : (Cond.initialized y.cls).before a0 Z = true) (w4 : (Cond.code y ycode ymax yret).before a0 Z = true) (hyr : yret = none) (hy : y.cls ≠ "java/lang/invoke/MethodHandle" ∧ y.cls ≠ "java/lang/invoke/VarHandle")
    {argsL st rest : List Value} (hst : st = argsL.reverse ++ .ref a :: rest) (has : (.ref a :: argsL).toArray = as') {ps : List FieldType} {r : Option FieldType} (hpd : parseMethodDescriptor y.desc = some ⟨ps, r⟩) (hlen : argsL.length = ps.length) (hsz : Ls.size = maxL) (W : Nat) (hW : 2 * 0 + (rest.map fun v => v.category).sum ≤ W)
    (hf : rm.frames + 1 ≤ R.frames) (hl : W + (ymax + 11) + rm.locals ≤ R.locals) (hc : ck + rm.cells ≤ R.cells) (hs : cn + rm.slots ≤ R.slots) {ck' cn' : Nat} (hck : ck + rm.cells = ck') (hcn : cn + rm.slots = cn')
    (k : ∀ v s' h', Cx p s' m meth c Z code maxL own ret → Wv s0 s' h' → Q' v h' → Go p l e R s' m args below meth c n0 FE h' ck' cn' (mkF m pc' Ls (v.toList ++ rest))) : Go p l e R s m args below meth c n0 FE h ck cn (mkF m pc Ls st) := fun T locs X eT hN => by
  obtain ⟨hd, rfl⟩ := hd
  subst hck hcn hst
  obtain ⟨c1, c2, c3, c4, c5, c6, c7⟩ := C
  obtain ⟨vm0, k0, rfl, b, c', d⟩ := HW
  subst eT
  subst hyr
  obtain ⟨v, vm1, ⟨T', L', k', n'⟩, -, X', hS, hg, ⟨Lc, hQ, l1, l2, l3⟩, st'⟩ := X.specialBackS c1 hy1 c5 (mvT c4 w1) (mvT c4 w2) (mvT c4 w4) hy (backOfSV (W := W) (Q := fun v h L => Q' v h ∧ Fr n0 L) (hC []) c4 w4 w3 hf hl hEL d.1) (g := mkF m pc Ls (argsL.reverse ++ .ref a :: rest)) rfl (hsz.trans c3.symm) (Steps.refl _) (a := a) (argsL := argsL) (rest := rest) (lenOf hpd hlen) rfl hW (hb c2 hd) (fun _ _ => ⟨has, rfl, hc, hs⟩)
  dsimp only [Pt.U, Pt.locs, Pt.cells, Pt.slots] at X' l1 l2 l3 st' hQ hS hg
  subst l1 l2 l3
  exact Go.move hN X' rfl (Fr.app hN hQ.2) (fun _ z => st'.trans z) (k v _ _ ⟨c1, c2, c3, State.Warmed39.trans (t := s0.setVm vm0) c4 hS.1, by show T'.vm.findClass own = _; rw [hS.1.alike.findClass]; exact c5, c6, c7⟩ ⟨T'.vm, T'.heap.size, rfl, b.trans hS (Nat.le_trans c' hg), Nat.le_refl _⟩ hQ.1)
theorem g_callVV (C : Cx p s m meth c Z code maxL own ret) {pc pc' : Nat} {Ls : Array Slot} {y : MethodName} {ycode : ByteArray} {ymax : Nat} {yret : Option FieldType} {rm : Room} {as' : Array Value} {Q' : Option Value → Heap → Prop} {index : Nat} {a : Addr} {x : MethodName} {Cl : String} (HW : Wd Z EL s0 s h) (hEL : EW Z a0 EL) (hC : CtrV l Z EL y ycode ymax yret rm as' h n0 Q') (hd : I1 code pc (.invokevirtual index) 3 pc') (w1 : (Cond.methodLink own index x).before a0 Z = true) (w2 : (Cond.declares x).before a0 Z = true) (hnf : ∀ s : State, Z.Warmed39 s.vm → NotFace s x) (w5 : (Cond.selects Cl x y).before a0 Z = true) (w6 : (Cond.instanceMethod y).before a0 Z = true) (w3 : (Cond.initialized y.cls).before a0 Z = true) (w4 : (Cond.code y ycode ymax yret).before a0 Z = true) (hy : x.cls ≠ "java/lang/invoke/MethodHandle" ∧ x.cls ≠ "java/lang/invoke/VarHandle") (E : Exa Z h a Cl)
    {argsL st rest : List Value} (hst : st = argsL.reverse ++ .ref a :: rest) (has : (.ref a :: argsL).toArray = as') {ps : List FieldType} {r : Option FieldType} (hpd : parseMethodDescriptor x.desc = some ⟨ps, r⟩) (hlen : argsL.length = ps.length) (hsz : Ls.size = maxL) (W : Nat) (hW : 2 * 0 + (rest.map fun v => v.category).sum ≤ W)
    (hf : rm.frames + 1 ≤ R.frames) (hl : W + (ymax + 11) + rm.locals ≤ R.locals) (hc : ck + rm.cells ≤ R.cells) (hs : cn + rm.slots ≤ R.slots) {ck' cn' : Nat} (hck : ck + rm.cells = ck') (hcn : cn + rm.slots = cn')
    (k : ∀ v s' h', Cx p s' m meth c Z code maxL own ret → Wv s0 s' h' → Q' v h' → Go p l e R s' m args below meth c n0 FE h' ck' cn' (mkF m pc' Ls (v.toList ++ rest))) : Go p l e R s m args below meth c n0 FE h ck cn (mkF m pc Ls st) := fun T locs X eT hN => by
  obtain ⟨hd, rfl⟩ := hd
  subst hck hcn hst
  obtain ⟨c1, c2, c3, c4, c5, c6, c7⟩ := C
  obtain ⟨vm0, k0, rfl, b, c', d⟩ := HW
  subst eT
  obtain ⟨cq, kq, q1, q2, q3⟩ := isOf c4 rfl E
  obtain ⟨v, vm1, ⟨T', L', k', n'⟩, -, X', hS, hg, ⟨Lc, hQ, l1, l2, l3⟩, st'⟩ := X.virtualBackS c1 (y := x) (z := y) c5 (mvT c4 w1) (mvT c4 w2) (hnf _ c4) (mvT c4 w5) (mvT c4 w6) hy (backOfSV (W := W) (Q := fun v h L => Q' v h ∧ Fr n0 L) (hC []) c4 w4 w3 hf hl hEL d.1) q1 q3 (g := mkF m pc Ls (argsL.reverse ++ .ref a :: rest)) rfl (hsz.trans c3.symm) (Steps.refl _) (argsL := argsL) (rest := rest) (lenOf hpd hlen) rfl hW (hb c2 hd) (fun _ _ => ⟨has, rfl, hc, hs⟩)
  dsimp only [Pt.U, Pt.locs, Pt.cells, Pt.slots] at X' l1 l2 l3 st' hQ hS hg
  subst l1 l2 l3
  exact Go.move hN X' rfl (Fr.app hN hQ.2) (fun _ z => st'.trans z) (k v _ _ ⟨c1, c2, c3, State.Warmed39.trans (t := s0.setVm vm0) c4 hS.1, by show T'.vm.findClass own = _; rw [hS.1.alike.findClass]; exact c5, c6, c7⟩ ⟨T'.vm, T'.heap.size, rfl, b.trans hS (Nat.le_trans c' hg), Nat.le_refl _⟩ hQ.1)
theorem g_retVV (C : Cx p s m meth c Z code maxL own ret) (HW : Wv s0 s h) {pc : Nat} {Ls : Array Slot} {pc' : Nat} (hd : I1 code pc .return_ 1 pc') (hret : ret = none) (hck : ck ≤ K) (hcn : cn ≤ N) (hQ : Q none h) : Go p l e R s m args below meth c n0 (EV s0 n0 K N Q) h ck cn (mkF m pc Ls []) := by
  obtain ⟨hd, -⟩ := hd
  exact retV0 C.2.2.2.2.2.2 (fun _ => rfl) HW hck hcn hQ (fun T locs fs X hr => X.returnOut C.1 (C.2.2.2.2.2.1.trans hret) (hb C.2.1 hd) hr)
theorem g_retIntV (C : Cx p s m meth c Z code maxL own ret) (HW : Wv s0 s h) {pc : Nat} {Ls : Array Slot} {pc' : Nat} {st : List Value} {z : Int32} (hd : I1 code pc .ireturn 1 pc') (hret : ret = some .int) (hck : ck ≤ K) (hcn : cn ≤ N) (hQ : Q (some (.int z)) h) : Go p l e R s m args below meth c n0 (EV s0 n0 K N Q) h ck cn (mkF m pc Ls (.int z :: st)) := by
  obtain ⟨hd, -⟩ := hd
  have hr' := C.2.2.2.2.2.1.trans hret
  exact retV0 C.2.2.2.2.2.2 (fun q => by rw [hr'] at q; cases q) HW hck hcn hQ (fun T locs fs X hr => retOut X C.1 hr' rfl (Or.inl ⟨rfl, Or.inl rfl, z, rfl⟩) (hb C.2.1 hd) hr)
theorem g_retRefV (C : Cx p s m meth c Z code maxL own ret) (HW : Wv s0 s h) {pc : Nat} {Ls : Array Slot} {pc' : Nat} {st : List Value} {v : Value} {t : FieldType} (hd : I1 code pc .areturn 1 pc') (hret : ret = some t) (ht : t.isReference = true) (hv : v.isRef = true) (hck : ck ≤ K) (hcn : cn ≤ N) (hQ : Q (some (v)) h) : Go p l e R s m args below meth c n0 (EV s0 n0 K N Q) h ck cn (mkF m pc Ls (v :: st)) := by
  obtain ⟨hd, -⟩ := hd
  have hr' := C.2.2.2.2.2.1.trans hret
  exact retV0 C.2.2.2.2.2.2 (fun q => by rw [hr'] at q; cases q) HW hck hcn hQ (fun T locs fs X hr => retOut X C.1 hr' (nar_ref hv) (Or.inr (Or.inr (Or.inr (Or.inr ⟨rfl, ht, hv⟩)))) (hb C.2.1 hd) hr)
theorem g_retNarV (C : Cx p s m meth c Z code maxL own ret) (HW : Wv s0 s h) {pc : Nat} {Ls : Array Slot} {pc' : Nat} {st : List Value} {z : Int32} {t : FieldType} (hd : I1 code pc .ireturn 1 pc') (hret : ret = some t) (ht : t = .boolean ∨ t = .byte ∨ t = .char ∨ t = .short) (hck : ck ≤ K) (hcn : cn ≤ N) (hQ : Q (some (.int (nar t z))) h) : Go p l e R s m args below meth c n0 (EV s0 n0 K N Q) h ck cn (mkF m pc Ls (.int z :: st)) := by
  obtain ⟨hd, -⟩ := hd
  have hr' := C.2.2.2.2.2.1.trans hret
  exact retV0 C.2.2.2.2.2.2 (fun q => by rw [hr'] at q; cases q) HW hck hcn hQ (fun T locs fs X hr => retN X C.1 hr' ht (hb C.2.1 hd) hr)
/-- the same entry again -/
theorem g_ldcA (C : Cx p s m meth c Z code maxL own ret) {pc pc' : Nat} {Ls : Array Slot} {st : List Value} {text : String} {index : Nat} {a : Addr} (HW : Wv s0 s h) (hd : I1 code pc (.ldc index) 2 pc') (w : (Cond.stringLink own index text).before a0 Z = true) (L : Lit s own index a)
    (k : Go p l e R s m args below meth c n0 FE h ck cn (mkF m pc' Ls (.ref a :: st))) : Go p l e R s m args below meth c n0 FE h ck cn (mkF m pc Ls st) := by
  obtain ⟨hd, rfl⟩ := hd
  obtain ⟨vm0, k0, rfl, b, c'⟩ := HW
  exact Go.step (fun T locs X eT t k => ldcAgain X C.1 C.2.2.2.1 C.2.2.2.2.1 w L (g := mkF m pc Ls st) rfl (hb C.2.1 hd) _ k) k
theorem Safe.av {vm : Vm} {x : Addr} {ty : FieldType} {n : Nat} {f : Nat → Value} (hal : Z.vm.Alike vm) (F : AV Z h x ty n f) (ht : ty ≠ .byte) : Safe Z EL vm h x := by
  obtain ⟨cl, A, -⟩ := F; exact Jvm.RoadKit.Safe.arr hal A ht
theorem AV.neObj {a o : Addr} {ty : FieldType} {n k : Nat} {f : Nat → Value} {Cl : String} (F : AV Z h a ty n f) (E : Exa Z h o Cl) (w : (Cond.instantiable Cl k).before a0 Z = true) : a ≠ o := by
  rintro rfl
  obtain ⟨cl, A, -⟩ := F
  obtain ⟨cell, kk, q1, q2, q3, -⟩ := E
  cases q1.symm.trans A.1
  obtain ⟨-, k2, z1, comp, z2⟩ := A.2.1
  cases q3.symm.trans z1
  obtain ⟨cc, kc, y1, y2, y3, -⟩ := Cond.instantiable_spec w
  cases q2.symm.trans y1
  cases q3.symm.trans y2
  simp_all
end

end Jvm.OwnGo
namespace Jvm.OwnGo
open Jvm.RoadKit
theorem nar_b (x : Int32) : nar .boolean x = x &&& 1 := rfl
theorem nbT {P : Prop} [Decidable P] : nar .boolean (if P then (1 : Int32) else (0 : Int32)) = 1 ↔ P := by
  by_cases h : P
  · simp only [if_pos h]; exact ⟨fun _ => h, fun _ => rfl⟩
  · simp only [if_neg h]; exact ⟨fun q => absurd q (by decide), fun q => absurd q h⟩
theorem own_nat {i : Nat} (h : i < 2147483648) : i.toInt32.toInt = i := len_toInt h
theorem own_cl {i : Nat} (h : i < 2147483648) : i.toInt32.toNatClampNeg = i := by simp only [Int32.toNatClampNeg, own_nat h]; omega
theorem own_lt {i n : Nat} (hi : i < 2147483648) (hn : n < 2147483648) : i.toInt32 < n.toInt32 ↔ i < n := by
  rw [Int32.lt_iff_toInt_lt, own_nat hi, own_nat hn]; omega
theorem own_inN {i n : Nat} (hi : i < 2147483648) (h : i < n) : Inb i.toInt32 n := inb_int (by rw [own_nat hi]; omega) (by rw [own_nat hi]; omega)
theorem own_rd {α : Type} (F : Nat → α) {i : Nat} (h : i < 2147483648) : F i.toInt32.toNatClampNeg = F i := by rw [own_cl h]
theorem own_succ {i : Nat} (h : i < 2147483647) : i.toInt32 + (1 : Int32) = (i + 1).toInt32 := by
  rw [← Int32.toInt_inj]
  have h1 := c_iadd i.toInt32 1
  have h2 := rng32 (i.toInt32 + 1)
  have h3 : (1 : Int32).toInt = 1 := rfl
  rw [own_nat (by omega), h3] at h1
  rw [own_nat (by omega)]
  omega
theorem AV.small {Z : State} {h : Heap} {a : Addr} {ty : ClassFile.FieldType} {n : Nat} {f : Nat → Value} (V : AV Z h a ty n f) : n < 2147483648 := by
  obtain ⟨c, -, -, r, -⟩ := V; exact r
theorem own_inb {Z : State} {h : Heap} {a : Addr} {ty : ClassFile.FieldType} {n : Nat} {f : Nat → Value} (V : AV Z h a ty n f) {j : Int32} (h0 : ¬ (j < (0 : Int32))) (h1 : j < n.toInt32) : Inb j n := by
  have hn := V.small
  have e0 : (0 : Int32).toInt = 0 := rfl
  rw [Int32.lt_iff_toInt_lt] at h0 h1
  rw [own_nat hn] at h1
  exact inb_int (by omega) (by omega)
end Jvm.OwnGo
namespace Jvm.Pilot.@@N@@
open Jvm Jvm.ClassFile Sem Op Lib Jvm.Free Jvm.Stand Jvm.LawKit Jvm.RoadKit Bundle Jvm.Pilot.@@N@@.Jvm.D
open Jvm.OwnGo
theorem own_EWL {Z : State} {aZ : Array Value} (hw : ∀ d ∈ tables_1, d.before aZ Z = true) : EW Z aZ consts_1 := (EW.cons (hw _ (List.mem_of_getElem? (i := 19) rfl)) (by decide) EW.nil)
theorem own_wS {Z : State} {aZ : Array Value} (hw : ∀ d ∈ tables_1, d.before aZ Z = true) : ∀ a ∈ Bundle.stringAtoms, a.before aZ Z = true := by
  intro d hd
  simp only [Bundle.stringAtoms, List.mem_cons, List.not_mem_nil, or_false] at hd
  rcases hd with rfl | rfl | rfl | rfl | rfl | rfl | rfl <;> first | exact (hw _ (List.mem_of_getElem? (i := 3) rfl)) | exact (hw _ (List.mem_of_getElem? (i := 2) rfl)) | exact (hw _ (List.mem_of_getElem? (i := 20) rfl)) | exact (hw _ (List.mem_of_getElem? (i := 21) rfl)) | exact (hw _ (List.mem_of_getElem? (i := 22) rfl)) | exact (hw _ (List.mem_of_getElem? (i := 23) rfl)) | exact (hw _ (List.mem_of_getElem? (i := 24) rfl))
theorem pn0 : plainFor (⟨"java/lang/String", "coder", "()B"⟩ : MethodName) = true := by decide +kernel
theorem ik0_0 : I1 jdk_42_method_152_code 0 (.getstatic 38) 3 3 := ⟨(by decide +kernel), rfl⟩
theorem ik0_3 : B1 jdk_42_method_152_code 3 (.ifCond .eq 10) 10 13 6 := ⟨(by decide +kernel), rfl, by decide, by decide⟩
theorem ik0_6 : I1 jdk_42_method_152_code 6 (.aload_n 0) 1 7 := ⟨(by decide +kernel), rfl⟩
theorem ik0_7 : I1 jdk_42_method_152_code 7 (.getfield 15) 3 10 := ⟨(by decide +kernel), rfl⟩
theorem ik0_10 : B1 jdk_42_method_152_code 10 (.goto 4) 4 14 13 := ⟨(by decide +kernel), rfl, by decide, by decide⟩
theorem ik0_14 : I1 jdk_42_method_152_code 14 (.ireturn) 1 15 := ⟨(by decide +kernel), rfl⟩
theorem efk0 (m : MethodId) (a0 : Addr) : entryFrame m #[(.ref a0)] 1 = mkF m 0 #[.val (.ref a0)] [] := by first | (simp [entryFrame, mkF, argsToLocals, Value.category]; done) | rfl
def Qk0 (Z : State) (a0 : Addr) (cs : Int32) (h0 : Heap) (n0 : Nat) (v : Option Value) (h : Heap) : Prop := v = some (.int (0 : Int32)) ∧ h = h0
set_option maxRecDepth 65536 in
set_option maxHeartbeats 40000000 in
theorem rmk0 (l : Launch) (Z : State) (aZ : Array Value) (hw : ∀ d ∈ tables_1, d.before aZ Z = true) (a0 : Addr) (cs : Int32) (h0 : Heap) (n0 : Nat) (Z0 : n0 ≤ h0.size) (E_a0 : Exa Z h0 a0 "java/lang/String") (C_a0 : Fld Z h0 a0 "java/lang/String" "coder" "B" (.int (0 : Int32))) (OLD : Old Z n0 h0) (S_c : Sta Z Z.heap "java/lang/String" "COMPACT_STRINGS" "Z" (.int cs)) (hcs : ¬ (cs = (0 : Int32))) :
    Ctr l Z (⟨"java/lang/String", "coder", "()B"⟩ : MethodName) jdk_42_method_152_code 1 (some .byte) ({ frames := 0, cells := 0, slots := 0, locals := 0 } : Room) #[(.ref a0)] h0 n0 (Qk0 Z a0 cs h0 n0) := by
  refine Ctr.of_go pn0 (fun m => efk0 m a0) ?_
  intro p e s m below meth c hnm C
  refine g_getS C ik0_0 (host := "") (Or.inl (hw _ (List.mem_of_getElem? (i := 46) rfl))) Via.refl (Sta.ext OLD.2 S_c) ?_
  refine g_if_eq C ik0_3 (fun q => absurd q hcs) (fun _ => ?_)
  refine g_aloadN C ik0_6 rfl rfl ?_
  refine g_getF C ik0_7 (host := "") (Or.inl (hw _ (List.mem_of_getElem? (i := 26) rfl))) Via.refl C_a0 ?_
  refine g_goto C ik0_10 ?_
  exact g_retNar C (t := .byte) ik0_14 rfl (by simp) (by decide) (by decide) ⟨rfl, rfl⟩
def own_tx0 (ix : Nat) : Int32 := ([] : List Int32).getD ix 0
theorem pn1 : plainFor (⟨"java/lang/String", "<init>", "([CIILjava/lang/Void;)V"⟩ : MethodName) = true := by decide +kernel
theorem ii0_0 : I1 jdk_42_method_149_code 0 (.aload_n 0) 1 1 := ⟨(by decide +kernel), rfl⟩
theorem ii0_1 : I1 jdk_42_method_149_code 1 (.invokespecial 1) 3 4 := ⟨(by decide +kernel), rfl⟩
theorem ii0_4 : I1 jdk_42_method_149_code 4 (.iload_n 3) 1 5 := ⟨(by decide +kernel), rfl⟩
theorem ii0_5 : B1 jdk_42_method_149_code 5 (.ifCond .ne 22) 22 27 8 := ⟨(by decide +kernel), rfl, by decide, by decide⟩
theorem ii0_8 : I1 jdk_42_method_149_code 8 (.aload_n 0) 1 9 := ⟨(by decide +kernel), rfl⟩
theorem ii0_9 : I1 jdk_42_method_149_code 9 (.ldc 7) 2 11 := ⟨(by decide +kernel), rfl⟩
theorem ii0_11 : I1 jdk_42_method_149_code 11 (.getfield 9) 3 14 := ⟨(by decide +kernel), rfl⟩
theorem ii0_14 : I1 jdk_42_method_149_code 14 (.putfield 9) 3 17 := ⟨(by decide +kernel), rfl⟩
theorem ii0_17 : I1 jdk_42_method_149_code 17 (.aload_n 0) 1 18 := ⟨(by decide +kernel), rfl⟩
theorem ii0_18 : I1 jdk_42_method_149_code 18 (.ldc 7) 2 20 := ⟨(by decide +kernel), rfl⟩
theorem ii0_20 : I1 jdk_42_method_149_code 20 (.getfield 15) 3 23 := ⟨(by decide +kernel), rfl⟩
theorem ii0_23 : I1 jdk_42_method_149_code 23 (.putfield 15) 3 26 := ⟨(by decide +kernel), rfl⟩
theorem ii0_26 : I1 jdk_42_method_149_code 26 (.return_) 1 27 := ⟨(by decide +kernel), rfl⟩
theorem efi0 (m : MethodId) (a0 : Addr) (a1 : Addr) : entryFrame m #[(.ref a0), (.ref a1), (.int (0 : Int32)), (.int (0 : Int32)), .null] 6 = mkF m 0 #[.val (.ref a0), .val (.ref a1), .val (.int (0 : Int32)), .val (.int (0 : Int32)), .val .null, .unset] [] := by first | (simp [entryFrame, mkF, argsToLocals, Value.category]; done) | rfl
def Qi0 (Z : State) (a0 : Addr) (a1 : Addr) (f_a1 : Nat → Int32) (cs : Int32) (w_value_a0 : Value) (w_coder_a0 : Int32) (h0 : Heap) (n0 : Nat) (v : Option Value) (h : Heap) : Prop := ∃ fb0 : Addr, v = none ∧ Keep h0 h [a0] ∧ AV Z h fb0 .byte 0 (fun ix => .int (own_tx0 ix)) ∧ Exa Z h a0 "java/lang/String" ∧ Fld Z h a0 "java/lang/String" "value" "[B" (.ref fb0) ∧ Fld Z h a0 "java/lang/String" "coder" "B" (.int (0 : Int32))
set_option maxRecDepth 65536 in
set_option maxHeartbeats 40000000 in
theorem rmi0 (l : Launch) (Z : State) (aZ : Array Value) (hw : ∀ d ∈ tables_1, d.before aZ Z = true) (a0 : Addr) (a1 : Addr) (f_a1 : Nat → Int32) (cs : Int32) (w_value_a0 : Value) (w_coder_a0 : Int32) (h0 : Heap) (n0 : Nat) (Z0 : n0 ≤ h0.size) (E_a0 : Exa Z h0 a0 "java/lang/String") (V_a1 : AV Z h0 a1 .char 0 (fun ix => .int (f_a1 ix))) (OLD : Old Z n0 h0) (S_c : Sta Z Z.heap "java/lang/String" "COMPACT_STRINGS" "Z" (.int cs)) (hcs : ¬ (cs = (0 : Int32))) (F_value_a0 : Fld Z h0 a0 "java/lang/String" "value" "[B" w_value_a0) (g_a0 : n0 ≤ a0) (ne_a0_a1 : a0 ≠ a1) (F_coder_a0 : Fld Z h0 a0 "java/lang/String" "coder" "B" (.int w_coder_a0)) :
    CtrV l Z consts_1 (⟨"java/lang/String", "<init>", "([CIILjava/lang/Void;)V"⟩ : MethodName) jdk_42_method_149_code 6 none ({ frames := 1, cells := 2, slots := 4, locals := 12 } : Room) #[(.ref a0), (.ref a1), (.int (0 : Int32)), (.int (0 : Int32)), .null] h0 n0 (Qi0 Z a0 a1 f_a1 cs w_value_a0 w_coder_a0 h0 n0) := by
  refine CtrV.of_go pn1 (fun m => efi0 m a0 a1) ?_
  intro p e s m below meth c hnm C HW
  refine g_aloadN C ii0_0 rfl rfl ?_
  refine g_initO C ii0_1 (hw _ (List.mem_of_getElem? (i := 16) rfl)) (hw _ (List.mem_of_getElem? (i := 17) rfl)) (hw _ (List.mem_of_getElem? (i := 18) rfl)) rfl (by decide) 0 (Nat.le_of_eq rfl) (by decide) ?_
  refine g_iloadN C ii0_4 rfl ?_
  refine g_if_ne C ii0_5 (fun _ => ?_) (fun q => absurd (by decide) q)
  refine g_aloadN C ii0_8 rfl rfl ?_
  refine g_ldcC C (text := "") (vs := []) (z := (0 : Int32)) (len := 0) (f := own_tx0) HW (own_EWL hw) ii0_9 (hw _ (List.mem_of_getElem? (i := 19) rfl)) (own_wS hw) (by decide) ⟨by decide, rfl⟩ (by decide) rfl rfl (fun ix hx => absurd hx (Nat.not_lt_zero _)) 0 (by decide) (by decide) (by decide) (by decide) rfl rfl (fun s h2 sa2 sb2 C HW E2 X2 Fc2 Fv2 V2 Lt2 => ?_)
  have K2 := Keep.ext (Keep.refl h0 [a0]) E2
  have Z2 : n0 ≤ h2.size := Nat.le_trans Z0 E2.1
  have F_value_a0_c2 := Fld.ext E2 F_value_a0
  have F_coder_a0_c2 := Fld.ext E2 F_coder_a0
  have E_a0_c2 := Exa.ext E2 E_a0
  have V_a1_c2 := V_a1.ext E2
  have OLD2 := Old.ext OLD E2
  refine g_getF C ii0_11 (host := "") (Or.inl (hw _ (List.mem_of_getElem? (i := 25) rfl))) Via.refl Fv2 ?_
  refine g_putF C ii0_14 (host := "") (Or.inl (hw _ (List.mem_of_getElem? (i := 25) rfl))) Via.refl F_value_a0_c2 E_a0_c2 (Or.inr ⟨(hw _ (List.mem_of_getElem? (i := 21) rfl)), rfl, hnm⟩) (hw _ (List.mem_of_getElem? (i := 2) rfl)) (ty := (.array .byte)) (by decide) rfl rfl g_a0 (fun h3 W3 => ?_)
  have HW := HW.v.wr W3
  have F_coder_a0_c3 := Fld.other W3 F_coder_a0_c2 (Or.inr (slot_ne (a0 := aZ) (Or.inr (hw _ (List.mem_of_getElem? (i := 22) rfl))) (Or.inr (hw _ (List.mem_of_getElem? (i := 21) rfl))) (by decide) (t := .byte) (t' := (.array .byte)) (by decide) (by decide)))
  have E_a0_c3 := Exa.wr W3 E_a0_c2
  have V_a1_c3 := AV.other V_a1_c2 W3 (Ne.symm ne_a0_a1)
  have OLD3 := Old.wr OLD2 W3 g_a0
  have E_sa2_c3 := Exa.wr W3 X2
  have F_coder_sa2_c3 := Fld.other W3 Fc2 (Or.inr (slot_ne (a0 := aZ) (Or.inr (hw _ (List.mem_of_getElem? (i := 22) rfl))) (Or.inr (hw _ (List.mem_of_getElem? (i := 21) rfl))) (by decide) (t := .byte) (t' := (.array .byte)) (by decide) (by decide)))
  have nao_sb2_3 := AV.neObj V2 E_a0_c2 (hw _ (List.mem_of_getElem? (i := 2) rfl))
  have V_sb2_c3 := AV.other V2 W3 nao_sb2_3
  have Fw3 := Fld.same W3 F_value_a0_c2
  have K3 := Keep.wr K2 W3 (Or.inl (List.mem_of_getElem? (i := 0) rfl))
  have Z3 : n0 ≤ h3.size := Nat.le_trans Z2 (Keep.of_wr W3).1
  refine g_aloadN C ii0_17 rfl rfl ?_
  refine g_ldcA C HW ii0_18 (hw _ (List.mem_of_getElem? (i := 19) rfl)) Lt2 ?_
  refine g_getF C ii0_20 (host := "") (Or.inl (hw _ (List.mem_of_getElem? (i := 26) rfl))) Via.refl F_coder_sa2_c3 ?_
  refine g_putFN C (v' := (.int (0 : Int32))) ii0_23 (hw _ (List.mem_of_getElem? (i := 26) rfl)) Via.refl F_coder_a0_c3 E_a0_c3 (Or.inr ⟨(hw _ (List.mem_of_getElem? (i := 22) rfl)), rfl, hnm⟩) (hw _ (List.mem_of_getElem? (i := 2) rfl)) (ty := .byte) (by decide) rfl (by decide) g_a0 (fun h4 W4 => ?_)
  have HW := HW.wr W4
  have E_a0_c4 := Exa.wr W4 E_a0_c3
  have V_a1_c4 := AV.other V_a1_c3 W4 (Ne.symm ne_a0_a1)
  have OLD4 := Old.wr OLD3 W4 g_a0
  have E_sa2_c4 := Exa.wr W4 E_sa2_c3
  have V_sb2_c4 := AV.other V_sb2_c3 W4 nao_sb2_3
  have F_value_a0_c4 := Fld.other W4 Fw3 (Or.inr (slot_ne (a0 := aZ) (Or.inr (hw _ (List.mem_of_getElem? (i := 21) rfl))) (Or.inr (hw _ (List.mem_of_getElem? (i := 22) rfl))) (by decide) (t := (.array .byte)) (t' := .byte) (by decide) (by decide)))
  have Fw4 := Fld.same W4 F_coder_a0_c3
  have K4 := Keep.wr K3 W4 (Or.inl (List.mem_of_getElem? (i := 0) rfl))
  have Z4 : n0 ≤ h4.size := Nat.le_trans Z3 (Keep.of_wr W4).1
  exact g_retVV C HW ii0_26 rfl (by decide) (by decide) ⟨sb2, rfl, K4, AV.congr V_sb2_c4 (fun _ _ => rfl), E_a0_c4, F_value_a0_c4, Fw4⟩
theorem pd0 : parseMethodDescriptor "([CIILjava/lang/Void;)V" = some ⟨[(.array .char), .int, .int, (.object "java/lang/Void")], none⟩ := by decide +kernel
theorem pn2 : plainFor (⟨"java/lang/String", "<init>", "([C)V"⟩ : MethodName) = true := by decide +kernel
theorem ij0_0 : I1 jdk_42_method_3_code 0 (.aload_n 0) 1 1 := ⟨(by decide +kernel), rfl⟩
theorem ij0_1 : I1 jdk_42_method_3_code 1 (.aload_n 1) 1 2 := ⟨(by decide +kernel), rfl⟩
theorem ij0_2 : I1 jdk_42_method_3_code 2 (.iconst 0) 1 3 := ⟨(by decide +kernel), rfl⟩
theorem ij0_3 : I1 jdk_42_method_3_code 3 (.aload_n 1) 1 4 := ⟨(by decide +kernel), rfl⟩
theorem ij0_4 : I1 jdk_42_method_3_code 4 (.arraylength) 1 5 := ⟨(by decide +kernel), rfl⟩
theorem ij0_5 : I1 jdk_42_method_3_code 5 (.aconst_null) 1 6 := ⟨(by decide +kernel), rfl⟩
theorem ij0_6 : I1 jdk_42_method_3_code 6 (.invokespecial 27) 3 9 := ⟨(by decide +kernel), rfl⟩
theorem ij0_9 : I1 jdk_42_method_3_code 9 (.return_) 1 10 := ⟨(by decide +kernel), rfl⟩
theorem efj0 (m : MethodId) (a0 : Addr) (a1 : Addr) : entryFrame m #[(.ref a0), (.ref a1)] 2 = mkF m 0 #[.val (.ref a0), .val (.ref a1)] [] := by first | (simp [entryFrame, mkF, argsToLocals, Value.category]; done) | rfl
def Qj0 (Z : State) (a0 : Addr) (a1 : Addr) (f_a1 : Nat → Int32) (cs : Int32) (w_value_a0 : Value) (w_coder_a0 : Int32) (h0 : Heap) (n0 : Nat) (v : Option Value) (h : Heap) : Prop := ∃ fb0 : Addr, v = none ∧ Keep h0 h [a0] ∧ AV Z h fb0 .byte 0 (fun ix => .int (own_tx0 ix)) ∧ Exa Z h a0 "java/lang/String" ∧ Fld Z h a0 "java/lang/String" "value" "[B" (.ref fb0) ∧ Fld Z h a0 "java/lang/String" "coder" "B" (.int (0 : Int32))
set_option maxRecDepth 65536 in
set_option maxHeartbeats 40000000 in
theorem rmj0 (l : Launch) (Z : State) (aZ : Array Value) (hw : ∀ d ∈ tables_1, d.before aZ Z = true) (a0 : Addr) (a1 : Addr) (f_a1 : Nat → Int32) (cs : Int32) (w_value_a0 : Value) (w_coder_a0 : Int32) (h0 : Heap) (n0 : Nat) (Z0 : n0 ≤ h0.size) (E_a0 : Exa Z h0 a0 "java/lang/String") (V_a1 : AV Z h0 a1 .char 0 (fun ix => .int (f_a1 ix))) (OLD : Old Z n0 h0) (S_c : Sta Z Z.heap "java/lang/String" "COMPACT_STRINGS" "Z" (.int cs)) (hcs : ¬ (cs = (0 : Int32))) (F_value_a0 : Fld Z h0 a0 "java/lang/String" "value" "[B" w_value_a0) (g_a0 : n0 ≤ a0) (ne_a0_a1 : a0 ≠ a1) (F_coder_a0 : Fld Z h0 a0 "java/lang/String" "coder" "B" (.int w_coder_a0)) :
    CtrV l Z consts_1 (⟨"java/lang/String", "<init>", "([C)V"⟩ : MethodName) jdk_42_method_3_code 2 none ({ frames := 2, cells := 2, slots := 4, locals := 29 } : Room) #[(.ref a0), (.ref a1)] h0 n0 (Qj0 Z a0 a1 f_a1 cs w_value_a0 w_coder_a0 h0 n0) := by
  refine CtrV.of_go pn2 (fun m => efj0 m a0 a1) ?_
  intro p e s m below meth c hnm C HW
  refine g_aloadN C ij0_0 rfl rfl ?_
  refine g_aloadN C ij0_1 rfl rfl ?_
  refine g_iconst C (0 : Int32) ij0_2 rfl ?_
  refine g_aloadN C ij0_3 rfl rfl ?_
  refine g_alen C (0 : Int32) ij0_4 V_a1 rfl ?_
  refine g_aconstNull C ij0_5 ?_
  refine g_callIV C HW (own_EWL hw) (rmi0 l Z aZ hw a0 a1 f_a1 cs w_value_a0 w_coder_a0 h0 n0 Z0 E_a0 V_a1 OLD S_c (by assumption) F_value_a0 g_a0 ne_a0_a1 F_coder_a0) (a := a0) ij0_6 rfl (hw _ (List.mem_of_getElem? (i := 12) rfl)) (hw _ (List.mem_of_getElem? (i := 13) rfl)) (hw _ (List.mem_of_getElem? (i := 3) rfl)) (hw _ (List.mem_of_getElem? (i := 15) rfl)) rfl (by decide) (argsL := [(.ref a1), (.int (0 : Int32)), (.int (0 : Int32)), .null]) (rest := []) rfl rfl pd0 rfl rfl 0 (Nat.le_of_eq rfl) (by decide) (by decide) (by decide) (by decide) rfl rfl ?_
  rintro _ s h5 C HW ⟨r5_fb0, rfl, KC5, P5_0, P5_1, P5_2, P5_3⟩
  refine Go.none' ?_
  have E_a0_cC5 := Exa.keep E_a0 KC5
  have V_a1_cC5 := AV.keep V_a1 KC5 (ninS (Ne.symm ne_a0_a1) nin0)
  have OLDC5 := Old.keep OLD KC5 (allS g_a0 all0)
  have K5 := Keep.trans (Keep.refl h0 [a0]) KC5 (allS (Or.inl (List.mem_of_getElem? (i := 0) rfl)) all0)
  have Z5 : n0 ≤ h5.size := Nat.le_trans Z0 KC5.1
  have P5_3 : Fld Z h5 a0 "java/lang/String" "coder" "B" (.int (0 : Int32)) := P5_3
  exact g_retVV C HW ij0_9 rfl (by decide) (by decide) ⟨r5_fb0, rfl, K5, AV.congr P5_0 (fun _ _ => rfl), P5_1, P5_2, P5_3⟩
theorem pd1 : parseMethodDescriptor "()B" = some ⟨[], some .byte⟩ := by decide +kernel
theorem pn3 : plainFor (⟨"java/lang/String", "length", "()I"⟩ : MethodName) = true := by decide +kernel
theorem in0_0 : I1 jdk_42_method_54_code 0 (.aload_n 0) 1 1 := ⟨(by decide +kernel), rfl⟩
theorem in0_1 : I1 jdk_42_method_54_code 1 (.getfield 9) 3 4 := ⟨(by decide +kernel), rfl⟩
theorem in0_4 : I1 jdk_42_method_54_code 4 (.arraylength) 1 5 := ⟨(by decide +kernel), rfl⟩
theorem in0_5 : I1 jdk_42_method_54_code 5 (.aload_n 0) 1 6 := ⟨(by decide +kernel), rfl⟩
theorem in0_6 : I1 jdk_42_method_54_code 6 (.invokevirtual 335) 3 9 := ⟨(by decide +kernel), rfl⟩
theorem in0_9 : I1 jdk_42_method_54_code 9 (.ishr) 1 10 := ⟨(by decide +kernel), rfl⟩
theorem in0_10 : I1 jdk_42_method_54_code 10 (.ireturn) 1 11 := ⟨(by decide +kernel), rfl⟩
theorem efn0 (m : MethodId) (a0 : Addr) : entryFrame m #[(.ref a0)] 1 = mkF m 0 #[.val (.ref a0)] [] := by first | (simp [entryFrame, mkF, argsToLocals, Value.category]; done) | rfl
def Qn0 (Z : State) (a0 : Addr) (bb : Addr) (f_bb : Nat → Int32) (cs : Int32) (h0 : Heap) (n0 : Nat) (v : Option Value) (h : Heap) : Prop := v = some (.int (0 : Int32)) ∧ h = h0
set_option maxRecDepth 65536 in
set_option maxHeartbeats 40000000 in
theorem rmn0 (l : Launch) (Z : State) (aZ : Array Value) (hw : ∀ d ∈ tables_1, d.before aZ Z = true) (a0 : Addr) (bb : Addr) (f_bb : Nat → Int32) (cs : Int32) (h0 : Heap) (n0 : Nat) (Z0 : n0 ≤ h0.size) (E_a0 : Exa Z h0 a0 "java/lang/String") (C_a0 : Fld Z h0 a0 "java/lang/String" "coder" "B" (.int (0 : Int32))) (W_a0 : Fld Z h0 a0 "java/lang/String" "value" "[B" (.ref bb)) (V_bb : AV Z h0 bb .byte 0 (fun ix => .int (f_bb ix))) (OLD : Old Z n0 h0) (S_c : Sta Z Z.heap "java/lang/String" "COMPACT_STRINGS" "Z" (.int cs)) (hcs : ¬ (cs = (0 : Int32))) :
    Ctr l Z (⟨"java/lang/String", "length", "()I"⟩ : MethodName) jdk_42_method_54_code 1 (some .int) ({ frames := 1, cells := 0, slots := 0, locals := 13 } : Room) #[(.ref a0)] h0 n0 (Qn0 Z a0 bb f_bb cs h0 n0) := by
  refine Ctr.of_go pn3 (fun m => efn0 m a0) ?_
  intro p e s m below meth c hnm C
  refine g_aloadN C in0_0 rfl rfl ?_
  refine g_getF C in0_1 (host := "") (Or.inl (hw _ (List.mem_of_getElem? (i := 25) rfl))) Via.refl W_a0 ?_
  refine g_alen C (0 : Int32) in0_4 V_bb rfl ?_
  refine g_aloadN C in0_5 rfl rfl ?_
  refine g_callV C (rmk0 l Z aZ hw a0 cs h0 n0 Z0 E_a0 C_a0 OLD S_c (by assumption)) (a := a0) in0_6 (hw _ (List.mem_of_getElem? (i := 41) rfl)) (hw _ (List.mem_of_getElem? (i := 42) rfl)) (fun s hZ => notFace_of_selects (args := #[]) (mvT hZ (hw _ (List.mem_of_getElem? (i := 44) rfl)))) (hw _ (List.mem_of_getElem? (i := 44) rfl)) (hw _ (List.mem_of_getElem? (i := 43) rfl)) (hw _ (List.mem_of_getElem? (i := 3) rfl)) (hw _ (List.mem_of_getElem? (i := 45) rfl)) (by decide) E_a0 (argsL := []) (rest := [(.int (0 : Int32))]) rfl rfl pd1 rfl rfl 1 (Nat.le_of_eq rfl) (by decide) (by decide) (by decide) (by decide) rfl rfl ?_
  rintro _ _ ⟨rfl, he6⟩
  refine Go.heap he6.symm ?_
  refine Go.some' ?_
  refine g_ishr C in0_9 ?_
  exact g_retInt C in0_10 rfl (by decide) (by decide) ⟨rfl, rfl⟩
theorem pn4 : plainFor (⟨"com/example/firm_input/firminput/regex/RegexInputFitsPinLaw", "chars", "(IC)[C"⟩ : MethodName) = true := by decide +kernel
theorem ih0_0 : I1 method_2_code 0 (.iload_n 0) 1 1 := ⟨(by decide +kernel), rfl⟩
theorem ih0_1 : B1 method_2_code 1 (.ifCond .ne 10) 10 11 4 := ⟨(by decide +kernel), rfl, by decide, by decide⟩
theorem ih0_4 : I1 method_2_code 4 (.iconst 0) 1 5 := ⟨(by decide +kernel), rfl⟩
theorem ih0_5 : I1 method_2_code 5 (.newarray .char) 2 7 := ⟨(by decide +kernel), rfl⟩
theorem ih0_7 : I1 method_2_code 7 (.astore_n 2) 1 8 := ⟨(by decide +kernel), rfl⟩
theorem ih0_8 : B1 method_2_code 8 (.goto 83) 83 91 11 := ⟨(by decide +kernel), rfl, by decide, by decide⟩
theorem ih0_91 : I1 method_2_code 91 (.aload_n 2) 1 92 := ⟨(by decide +kernel), rfl⟩
theorem ih0_92 : I1 method_2_code 92 (.areturn) 1 93 := ⟨(by decide +kernel), rfl⟩
theorem efh0 (m : MethodId) (p1 : Int32) : entryFrame m #[(.int (0 : Int32)), (.int p1)] 3 = mkF m 0 #[.val (.int (0 : Int32)), .val (.int p1), .unset] [] := by first | (simp [entryFrame, mkF, argsToLocals, Value.category]; done) | rfl
def Qh0 (Z : State) (p1 : Int32) (h0 : Heap) (n0 : Nat) (v : Option Value) (h : Heap) : Prop := ∃ fb0 : Addr, v = some (.ref fb0) ∧ (n0 ≤ fb0 ∧ h0.size ≤ fb0) ∧ Keep h0 h [] ∧ AV Z h fb0 .char 0 (fun ix => .int ((fun _ => (0 : Int32)) ix))
set_option maxRecDepth 65536 in
set_option maxHeartbeats 40000000 in
theorem rmh0 (l : Launch) (Z : State) (aZ : Array Value) (hw : ∀ d ∈ tables_1, d.before aZ Z = true) (p1 : Int32) (h0 : Heap) (n0 : Nat) (Z0 : n0 ≤ h0.size) :
    Ctr l Z (⟨"com/example/firm_input/firminput/regex/RegexInputFitsPinLaw", "chars", "(IC)[C"⟩ : MethodName) method_2_code 3 (some (.array .char)) ({ frames := 0, cells := 1, slots := 0, locals := 0 } : Room) #[(.int (0 : Int32)), (.int p1)] h0 n0 (Qh0 Z p1 h0 n0) := by
  refine Ctr.of_go pn4 (fun m => efh0 m p1) ?_
  intro p e s m below meth c hnm C
  refine g_iloadN C ih0_0 rfl ?_
  refine g_if_ne C ih0_1 (fun _ => ?_) (fun q => absurd (by decide) q)
  refine g_iconst C (0 : Int32) ih0_4 rfl ?_
  refine g_newP C ih0_5 (hw _ (List.mem_of_getElem? (i := 8) rfl)) (by decide) 0 (by decide) (by decide) (by decide) (by decide) rfl rfl (fun h7 b7 g7 E7 A7 => ?_)
  have ge7 : n0 ≤ b7 := Nat.le_trans Z0 (Nat.le_of_eq g7.symm)
  have fr7 : h0.size ≤ b7 := Nat.le_trans (Keep.refl h0 []).1 (Nat.le_of_eq g7.symm)
  have K7 := Keep.ext (Keep.refl h0 []) E7
  have Z7 : n0 ≤ h7.size := Nat.le_trans Z0 E7.1
  have V7 : AV Z h7 b7 .char 0 (fun ix => .int ((fun _ => (0 : Int32)) ix)) := A7
  refine g_astoreN C (Ls' := #[.val (.int (0 : Int32)), .val (.int p1), .val (.ref b7)]) ih0_7 rfl rfl ?_
  refine g_goto C ih0_8 ?_
  refine g_aloadN C ih0_91 rfl rfl ?_
  exact g_retRef C (t := (.array .char)) ih0_92 rfl rfl rfl (by decide) (by decide) ⟨b7, rfl, ⟨ge7, fr7⟩, K7, AV.congr V7 (fun _ _ => rfl)⟩
theorem pd2 : parseMethodDescriptor "()I" = some ⟨[], some .int⟩ := by decide +kernel
theorem pn5 : plainFor (⟨"com/example/firm_input/firminput/regex/RegexInput", "<init>", "(Ljava/lang/String;)V"⟩ : MethodName) = true := by decide +kernel
theorem ir0_0 : I1 prog_27_method_1_code 0 (.aload_n 0) 1 1 := ⟨(by decide +kernel), rfl⟩
theorem ir0_1 : I1 prog_27_method_1_code 1 (.invokespecial 1) 3 4 := ⟨(by decide +kernel), rfl⟩
theorem ir0_4 : I1 prog_27_method_1_code 4 (.aload_n 0) 1 5 := ⟨(by decide +kernel), rfl⟩
theorem ir0_5 : I1 prog_27_method_1_code 5 (.aload_n 1) 1 6 := ⟨(by decide +kernel), rfl⟩
theorem ir0_6 : I1 prog_27_method_1_code 6 (.putfield 7) 3 9 := ⟨(by decide +kernel), rfl⟩
theorem ir0_9 : I1 prog_27_method_1_code 9 (.aload_n 0) 1 10 := ⟨(by decide +kernel), rfl⟩
theorem ir0_10 : I1 prog_27_method_1_code 10 (.aload_n 1) 1 11 := ⟨(by decide +kernel), rfl⟩
theorem ir0_11 : I1 prog_27_method_1_code 11 (.invokevirtual 13) 3 14 := ⟨(by decide +kernel), rfl⟩
theorem ir0_14 : I1 prog_27_method_1_code 14 (.putfield 19) 3 17 := ⟨(by decide +kernel), rfl⟩
theorem ir0_17 : I1 prog_27_method_1_code 17 (.return_) 1 18 := ⟨(by decide +kernel), rfl⟩
theorem efr0 (m : MethodId) (a0 : Addr) (a1 : Addr) : entryFrame m #[(.ref a0), (.ref a1)] 2 = mkF m 0 #[.val (.ref a0), .val (.ref a1)] [] := by first | (simp [entryFrame, mkF, argsToLocals, Value.category]; done) | rfl
def Qr0 (Z : State) (a0 : Addr) (a1 : Addr) (bb : Addr) (f_bb : Nat → Int32) (cs : Int32) (w_text_a0 : Value) (w_length_a0 : Int32) (h0 : Heap) (n0 : Nat) (v : Option Value) (h : Heap) : Prop := v = none ∧ Keep h0 h [a0] ∧ Exa Z h a0 "com/example/firm_input/firminput/regex/RegexInput" ∧ Fld Z h a0 "com/example/firm_input/firminput/regex/RegexInput" "text" "Ljava/lang/String;" (.ref a1) ∧ Fld Z h a0 "com/example/firm_input/firminput/regex/RegexInput" "length" "I" (.int (0 : Int32))
set_option maxRecDepth 65536 in
set_option maxHeartbeats 40000000 in
theorem rmr0 (l : Launch) (Z : State) (aZ : Array Value) (hw : ∀ d ∈ tables_1, d.before aZ Z = true) (a0 : Addr) (a1 : Addr) (bb : Addr) (f_bb : Nat → Int32) (cs : Int32) (w_text_a0 : Value) (w_length_a0 : Int32) (h0 : Heap) (n0 : Nat) (Z0 : n0 ≤ h0.size) (E_a0 : Exa Z h0 a0 "com/example/firm_input/firminput/regex/RegexInput") (E_a1 : Exa Z h0 a1 "java/lang/String") (C_a1 : Fld Z h0 a1 "java/lang/String" "coder" "B" (.int (0 : Int32))) (W_a1 : Fld Z h0 a1 "java/lang/String" "value" "[B" (.ref bb)) (V_bb : AV Z h0 bb .byte 0 (fun ix => .int (f_bb ix))) (OLD : Old Z n0 h0) (S_c : Sta Z Z.heap "java/lang/String" "COMPACT_STRINGS" "Z" (.int cs)) (hcs : ¬ (cs = (0 : Int32))) (F_text_a0 : Fld Z h0 a0 "com/example/firm_input/firminput/regex/RegexInput" "text" "Ljava/lang/String;" w_text_a0) (g_a0 : n0 ≤ a0) (ne_a0_a1 : a0 ≠ a1) (ne_a0_bb : a0 ≠ bb) (F_length_a0 : Fld Z h0 a0 "com/example/firm_input/firminput/regex/RegexInput" "length" "I" (.int w_length_a0)) :
    Ctr l Z (⟨"com/example/firm_input/firminput/regex/RegexInput", "<init>", "(Ljava/lang/String;)V"⟩ : MethodName) prog_27_method_1_code 2 none ({ frames := 2, cells := 0, slots := 0, locals := 26 } : Room) #[(.ref a0), (.ref a1)] h0 n0 (Qr0 Z a0 a1 bb f_bb cs w_text_a0 w_length_a0 h0 n0) := by
  refine Ctr.of_go pn5 (fun m => efr0 m a0 a1) ?_
  intro p e s m below meth c hnm C
  refine g_aloadN C ir0_0 rfl rfl ?_
  refine g_initO C ir0_1 (hw _ (List.mem_of_getElem? (i := 33) rfl)) (hw _ (List.mem_of_getElem? (i := 17) rfl)) (hw _ (List.mem_of_getElem? (i := 18) rfl)) rfl (by decide) 0 (Nat.le_of_eq rfl) (by decide) ?_
  refine g_aloadN C ir0_4 rfl rfl ?_
  refine g_aloadN C ir0_5 rfl rfl ?_
  refine g_putF C ir0_6 (host := "") (Or.inl (hw _ (List.mem_of_getElem? (i := 34) rfl))) Via.refl F_text_a0 E_a0 (Or.inr ⟨(hw _ (List.mem_of_getElem? (i := 35) rfl)), rfl, hnm⟩) (hw _ (List.mem_of_getElem? (i := 28) rfl)) (ty := (.object "java/lang/String")) (by decide) rfl rfl g_a0 (fun h9 W9 => ?_)
  have F_length_a0_c9 := Fld.other W9 F_length_a0 (Or.inr (slot_ne (a0 := aZ) (Or.inr (hw _ (List.mem_of_getElem? (i := 48) rfl))) (Or.inr (hw _ (List.mem_of_getElem? (i := 35) rfl))) (by decide) (t := .int) (t' := (.object "java/lang/String")) (by decide) (by decide)))
  have E_a0_c9 := Exa.wr W9 E_a0
  have E_a1_c9 := Exa.wr W9 E_a1
  have F_coder_a1_c9 := Fld.other W9 C_a1 (Or.inl (Ne.symm ne_a0_a1))
  have F_value_a1_c9 := Fld.other W9 W_a1 (Or.inl (Ne.symm ne_a0_a1))
  have V_bb_c9 := AV.other V_bb W9 (Ne.symm ne_a0_bb)
  have OLD9 := Old.wr OLD W9 g_a0
  have Fw9 := Fld.same W9 F_text_a0
  have K9 := Keep.wr (Keep.refl h0 [a0]) W9 (Or.inl (List.mem_of_getElem? (i := 0) rfl))
  have Z9 : n0 ≤ h9.size := Nat.le_trans Z0 (Keep.of_wr W9).1
  refine g_aloadN C ir0_9 rfl rfl ?_
  refine g_aloadN C ir0_10 rfl rfl ?_
  refine g_callV C (rmn0 l Z aZ hw a1 bb f_bb cs h9 n0 Z9 E_a1_c9 F_coder_a1_c9 F_value_a1_c9 V_bb_c9 OLD9 S_c (by assumption)) (a := a1) ir0_11 (hw _ (List.mem_of_getElem? (i := 36) rfl)) (hw _ (List.mem_of_getElem? (i := 37) rfl)) (fun s hZ => notFace_of_selects (args := #[]) (mvT hZ (hw _ (List.mem_of_getElem? (i := 39) rfl)))) (hw _ (List.mem_of_getElem? (i := 39) rfl)) (hw _ (List.mem_of_getElem? (i := 38) rfl)) (hw _ (List.mem_of_getElem? (i := 3) rfl)) (hw _ (List.mem_of_getElem? (i := 40) rfl)) (by decide) E_a1_c9 (argsL := []) (rest := [(.ref a0)]) rfl rfl pd2 rfl rfl 1 (Nat.le_of_eq rfl) (by decide) (by decide) (by decide) (by decide) rfl rfl ?_
  rintro _ _ ⟨rfl, he10⟩
  refine Go.heap he10.symm ?_
  refine Go.some' ?_
  refine g_putF C ir0_14 (host := "") (Or.inl (hw _ (List.mem_of_getElem? (i := 47) rfl))) Via.refl F_length_a0_c9 E_a0_c9 (Or.inr ⟨(hw _ (List.mem_of_getElem? (i := 48) rfl)), rfl, hnm⟩) (hw _ (List.mem_of_getElem? (i := 28) rfl)) (ty := .int) (by decide) rfl rfl g_a0 (fun h11 W11 => ?_)
  have E_a0_c11 := Exa.wr W11 E_a0_c9
  have E_a1_c11 := Exa.wr W11 E_a1_c9
  have F_coder_a1_c11 := Fld.other W11 F_coder_a1_c9 (Or.inl (Ne.symm ne_a0_a1))
  have F_value_a1_c11 := Fld.other W11 F_value_a1_c9 (Or.inl (Ne.symm ne_a0_a1))
  have V_bb_c11 := AV.other V_bb_c9 W11 (Ne.symm ne_a0_bb)
  have OLD11 := Old.wr OLD9 W11 g_a0
  have F_text_a0_c11 := Fld.other W11 Fw9 (Or.inr (slot_ne (a0 := aZ) (Or.inr (hw _ (List.mem_of_getElem? (i := 35) rfl))) (Or.inr (hw _ (List.mem_of_getElem? (i := 48) rfl))) (by decide) (t := (.object "java/lang/String")) (t' := .int) (by decide) (by decide)))
  have Fw11 := Fld.same W11 F_length_a0_c9
  have K11 := Keep.wr K9 W11 (Or.inl (List.mem_of_getElem? (i := 0) rfl))
  have Z11 : n0 ≤ h11.size := Nat.le_trans Z9 (Keep.of_wr W11).1
  exact g_retV C ir0_17 rfl (by decide) (by decide) ⟨rfl, K11, E_a0_c11, F_text_a0_c11, Fw11⟩
theorem pn6 : plainFor (⟨"java/lang/StringUTF16", "compress", "([CI[BII)I"⟩ : MethodName) = true := by decide +kernel
theorem ic1_0 : I1 jdk_52_method_21_code 0 (.iconst 0) 1 1 := ⟨(by decide +kernel), rfl⟩
theorem ic1_1 : I1 jdk_52_method_21_code 1 (.istore 5) 2 3 := ⟨(by decide +kernel), rfl⟩
theorem ic1_3 : I1 jdk_52_method_21_code 3 (.iload 5) 2 5 := ⟨(by decide +kernel), rfl⟩
theorem ic1_5 : I1 jdk_52_method_21_code 5 (.iload 4) 2 7 := ⟨(by decide +kernel), rfl⟩
theorem ic1_7 : B1 jdk_52_method_21_code 7 (.if_icmp .ge 37) 37 44 10 := ⟨(by decide +kernel), rfl, by decide, by decide⟩
theorem ic1_10 : I1 jdk_52_method_21_code 10 (.aload_n 0) 1 11 := ⟨(by decide +kernel), rfl⟩
theorem ic1_11 : I1 jdk_52_method_21_code 11 (.iload_n 1) 1 12 := ⟨(by decide +kernel), rfl⟩
theorem ic1_12 : I1 jdk_52_method_21_code 12 (.caload) 1 13 := ⟨(by decide +kernel), rfl⟩
theorem ic1_13 : I1 jdk_52_method_21_code 13 (.istore 6) 2 15 := ⟨(by decide +kernel), rfl⟩
theorem ic1_15 : I1 jdk_52_method_21_code 15 (.iload 6) 2 17 := ⟨(by decide +kernel), rfl⟩
theorem ic1_17 : I1 jdk_52_method_21_code 17 (.sipush 255) 3 20 := ⟨(by decide +kernel), rfl⟩
theorem ic1_20 : B1 jdk_52_method_21_code 20 (.if_icmp .le 6) 6 26 23 := ⟨(by decide +kernel), rfl, by decide, by decide⟩
theorem ic1_26 : I1 jdk_52_method_21_code 26 (.aload_n 2) 1 27 := ⟨(by decide +kernel), rfl⟩
theorem ic1_27 : I1 jdk_52_method_21_code 27 (.iload_n 3) 1 28 := ⟨(by decide +kernel), rfl⟩
theorem ic1_28 : I1 jdk_52_method_21_code 28 (.iload 6) 2 30 := ⟨(by decide +kernel), rfl⟩
theorem ic1_30 : I1 jdk_52_method_21_code 30 (.i2b) 1 31 := ⟨(by decide +kernel), rfl⟩
theorem ic1_31 : I1 jdk_52_method_21_code 31 (.bastore) 1 32 := ⟨(by decide +kernel), rfl⟩
theorem ic1_32 : I1 jdk_52_method_21_code 32 (.iinc 1 1) 3 35 := ⟨(by decide +kernel), rfl⟩
theorem ic1_35 : I1 jdk_52_method_21_code 35 (.iinc 3 1) 3 38 := ⟨(by decide +kernel), rfl⟩
theorem ic1_38 : I1 jdk_52_method_21_code 38 (.iinc 5 1) 3 41 := ⟨(by decide +kernel), rfl⟩
theorem ic1_41 : B1 jdk_52_method_21_code 41 (.goto (-38)) (-38) 3 44 := ⟨(by decide +kernel), rfl, by decide, by decide⟩
theorem ic1_44 : I1 jdk_52_method_21_code 44 (.iload 4) 2 46 := ⟨(by decide +kernel), rfl⟩
theorem ic1_46 : I1 jdk_52_method_21_code 46 (.ireturn) 1 47 := ⟨(by decide +kernel), rfl⟩
def vc1_0 (f_a0 : Nat → Int32) (f_a2 : Nat → Int32) : Nat → Int32 := (fun ix => if ix = 0 then (nar .byte ((f_a0 0).toInt8.toInt32)) else f_a2 ix)
theorem efc1 (m : MethodId) (a0 : Addr) (a2 : Addr) : entryFrame m #[(.ref a0), (.int (0 : Int32)), (.ref a2), (.int (0 : Int32)), (.int (1 : Int32))] 7 = mkF m 0 #[.val (.ref a0), .val (.int (0 : Int32)), .val (.ref a2), .val (.int (0 : Int32)), .val (.int (1 : Int32)), .unset, .unset] [] := by first | (simp [entryFrame, mkF, argsToLocals, Value.category]; done) | rfl
def Qc1 (Z : State) (a0 : Addr) (a2 : Addr) (f_a0 : Nat → Int32) (f_a2 : Nat → Int32) (h0 : Heap) (n0 : Nat) (v : Option Value) (h : Heap) : Prop := v = some (.int (1 : Int32)) ∧ Keep h0 h [a2] ∧ AV Z h a2 .byte 1 (fun ix => .int ((vc1_0 f_a0 f_a2) ix))
set_option maxRecDepth 65536 in
set_option maxHeartbeats 40000000 in
theorem rmc1 (l : Launch) (Z : State) (aZ : Array Value) (hw : ∀ d ∈ tables_1, d.before aZ Z = true) (a0 : Addr) (a2 : Addr) (f_a0 : Nat → Int32) (f_a2 : Nat → Int32) (h0 : Heap) (n0 : Nat) (Z0 : n0 ≤ h0.size) (V_a0 : AV Z h0 a0 .char 1 (fun ix => .int (f_a0 ix))) (V_a2 : AV Z h0 a2 .byte 1 (fun ix => .int (f_a2 ix))) (hk0 : ¬ ((255 : Int32) < (f_a0 0))) (g_a2 : n0 ≤ a2) (ne_a0_a2 : a0 ≠ a2) :
    Ctr l Z (⟨"java/lang/StringUTF16", "compress", "([CI[BII)I"⟩ : MethodName) jdk_52_method_21_code 7 (some .int) ({ frames := 0, cells := 0, slots := 0, locals := 0 } : Room) #[(.ref a0), (.int (0 : Int32)), (.ref a2), (.int (0 : Int32)), (.int (1 : Int32))] h0 n0 (Qc1 Z a0 a2 f_a0 f_a2 h0 n0) := by
  refine Ctr.of_go pn6 (fun m => efc1 m a0 a2) ?_
  intro p e s m below meth c hnm C
  refine g_iconst C (0 : Int32) ic1_0 rfl ?_
  refine g_istore C (Ls' := #[.val (.ref a0), .val (.int (0 : Int32)), .val (.ref a2), .val (.int (0 : Int32)), .val (.int (1 : Int32)), .val (.int (0 : Int32)), .unset]) ic1_1 rfl ?_
  refine g_iload C ic1_3 rfl ?_
  refine g_iload C ic1_5 rfl ?_
  refine g_icmp_ge C ic1_7 (fun _ => ?_) (fun q => absurd (by decide) q)
  refine g_aloadN C ic1_10 rfl rfl ?_
  refine g_iloadN C ic1_11 rfl ?_
  refine g_cald C (.int (f_a0 0)) ic1_12 V_a0 ⟨by decide, by decide⟩ rfl ?_
  refine g_istore C (Ls' := #[.val (.ref a0), .val (.int (0 : Int32)), .val (.ref a2), .val (.int (0 : Int32)), .val (.int (1 : Int32)), .val (.int (0 : Int32)), .val (.int (f_a0 0))]) ic1_13 rfl ?_
  refine g_iload C ic1_15 rfl ?_
  refine g_sipush C (255 : Int32) ic1_17 rfl ?_
  refine g_icmp_le C ic1_20 (fun q => absurd q hk0) (fun _ => ?_)
  refine g_aloadN C ic1_26 rfl rfl ?_
  refine g_iloadN C ic1_27 rfl ?_
  refine g_iload C ic1_28 rfl ?_
  refine g_i2b C ic1_30 ?_
  refine g_bastI C ic1_31 V_a2 ⟨by decide, by decide⟩ g_a2 (fun h12 W12 V12 => ?_)
  have V_a0_c12 := AV.other V_a0 W12 ne_a0_a2
  have Vw12 : AV Z h12 a2 .byte 1 (fun ix => .int ((vc1_0 f_a0 f_a2) ix)) := V12
  have K12 := Keep.wr (Keep.refl h0 [a2]) W12 (Or.inl (List.mem_of_getElem? (i := 0) rfl))
  have Z12 : n0 ≤ h12.size := Nat.le_trans Z0 (Keep.of_wr W12).1
  refine g_iinc C (Ls' := #[.val (.ref a0), .val (.int (1 : Int32)), .val (.ref a2), .val (.int (0 : Int32)), .val (.int (1 : Int32)), .val (.int (0 : Int32)), .val (.int (f_a0 0))]) ic1_32 rfl rfl ?_
  refine g_iinc C (Ls' := #[.val (.ref a0), .val (.int (1 : Int32)), .val (.ref a2), .val (.int (1 : Int32)), .val (.int (1 : Int32)), .val (.int (0 : Int32)), .val (.int (f_a0 0))]) ic1_35 rfl rfl ?_
  refine g_iinc C (Ls' := #[.val (.ref a0), .val (.int (1 : Int32)), .val (.ref a2), .val (.int (1 : Int32)), .val (.int (1 : Int32)), .val (.int (1 : Int32)), .val (.int (f_a0 0))]) ic1_38 rfl rfl ?_
  refine g_goto C ic1_41 ?_
  refine g_iload C ic1_3 rfl ?_
  refine g_iload C ic1_5 rfl ?_
  refine g_icmp_ge C ic1_7 (fun q => absurd q (by decide)) (fun _ => ?_)
  refine g_iload C ic1_44 rfl ?_
  exact g_retInt C ic1_46 rfl (by decide) (by decide) ⟨rfl, K12, AV.congr Vw12 (fun _ _ => rfl)⟩
theorem pd3 : parseMethodDescriptor "([CI[BII)I" = some ⟨[(.array .char), .int, (.array .byte), .int, .int], some .int⟩ := by decide +kernel
theorem pn7 : plainFor (⟨"java/lang/StringUTF16", "compress", "([CII)[B"⟩ : MethodName) = true := by decide +kernel
theorem id1_0 : I1 jdk_52_method_16_code 0 (.iload_n 2) 1 1 := ⟨(by decide +kernel), rfl⟩
theorem id1_1 : I1 jdk_52_method_16_code 1 (.newarray .byte) 2 3 := ⟨(by decide +kernel), rfl⟩
theorem id1_3 : I1 jdk_52_method_16_code 3 (.astore_n 3) 1 4 := ⟨(by decide +kernel), rfl⟩
theorem id1_4 : I1 jdk_52_method_16_code 4 (.aload_n 0) 1 5 := ⟨(by decide +kernel), rfl⟩
theorem id1_5 : I1 jdk_52_method_16_code 5 (.iload_n 1) 1 6 := ⟨(by decide +kernel), rfl⟩
theorem id1_6 : I1 jdk_52_method_16_code 6 (.aload_n 3) 1 7 := ⟨(by decide +kernel), rfl⟩
theorem id1_7 : I1 jdk_52_method_16_code 7 (.iconst 0) 1 8 := ⟨(by decide +kernel), rfl⟩
theorem id1_8 : I1 jdk_52_method_16_code 8 (.iload_n 2) 1 9 := ⟨(by decide +kernel), rfl⟩
theorem id1_9 : I1 jdk_52_method_16_code 9 (.invokestatic 115) 3 12 := ⟨(by decide +kernel), rfl⟩
theorem id1_12 : I1 jdk_52_method_16_code 12 (.istore 4) 2 14 := ⟨(by decide +kernel), rfl⟩
theorem id1_14 : I1 jdk_52_method_16_code 14 (.iload 4) 2 16 := ⟨(by decide +kernel), rfl⟩
theorem id1_16 : I1 jdk_52_method_16_code 16 (.iload_n 2) 1 17 := ⟨(by decide +kernel), rfl⟩
theorem id1_17 : B1 jdk_52_method_16_code 17 (.if_icmp .eq 40) 40 57 20 := ⟨(by decide +kernel), rfl, by decide, by decide⟩
theorem id1_57 : I1 jdk_52_method_16_code 57 (.aload_n 3) 1 58 := ⟨(by decide +kernel), rfl⟩
theorem id1_58 : I1 jdk_52_method_16_code 58 (.areturn) 1 59 := ⟨(by decide +kernel), rfl⟩
theorem efd1 (m : MethodId) (a0 : Addr) : entryFrame m #[(.ref a0), (.int (0 : Int32)), (.int (1 : Int32))] 6 = mkF m 0 #[.val (.ref a0), .val (.int (0 : Int32)), .val (.int (1 : Int32)), .unset, .unset, .unset] [] := by first | (simp [entryFrame, mkF, argsToLocals, Value.category]; done) | rfl
def Qd1 (Z : State) (a0 : Addr) (f_a0 : Nat → Int32) (h0 : Heap) (n0 : Nat) (v : Option Value) (h : Heap) : Prop := ∃ fb0 : Addr, v = some (.ref fb0) ∧ (n0 ≤ fb0 ∧ h0.size ≤ fb0) ∧ Keep h0 h [] ∧ AV Z h fb0 .byte 1 (fun ix => .int ((vc1_0 f_a0 (fun _ => (0 : Int32))) ix))
set_option maxRecDepth 65536 in
set_option maxHeartbeats 40000000 in
theorem rmd1 (l : Launch) (Z : State) (aZ : Array Value) (hw : ∀ d ∈ tables_1, d.before aZ Z = true) (a0 : Addr) (f_a0 : Nat → Int32) (h0 : Heap) (n0 : Nat) (Z0 : n0 ≤ h0.size) (V_a0 : AV Z h0 a0 .char 1 (fun ix => .int (f_a0 ix))) (hk0 : ¬ ((255 : Int32) < (f_a0 0))) :
    Ctr l Z (⟨"java/lang/StringUTF16", "compress", "([CII)[B"⟩ : MethodName) jdk_52_method_16_code 6 (some (.array .byte)) ({ frames := 1, cells := 1, slots := 1, locals := 18 } : Room) #[(.ref a0), (.int (0 : Int32)), (.int (1 : Int32))] h0 n0 (Qd1 Z a0 f_a0 h0 n0) := by
  refine Ctr.of_go pn7 (fun m => efd1 m a0) ?_
  intro p e s m below meth c hnm C
  refine g_iloadN C id1_0 rfl ?_
  refine g_newP C id1_1 (hw _ (List.mem_of_getElem? (i := 20) rfl)) (by decide) 1 (by decide) (by decide) (by decide) (by decide) rfl rfl (fun h13 b13 g13 E13 A13 => ?_)
  have ne_a0_b13 : a0 ≠ b13 := Nat.ne_of_lt (Nat.lt_of_lt_of_le V_a0.lt (Nat.le_of_eq g13.symm))
  have ge13 : n0 ≤ b13 := Nat.le_trans Z0 (Nat.le_of_eq g13.symm)
  have fr13 : h0.size ≤ b13 := Nat.le_trans (Keep.refl h0 []).1 (Nat.le_of_eq g13.symm)
  have K13 := Keep.ext (Keep.refl h0 []) E13
  have Z13 : n0 ≤ h13.size := Nat.le_trans Z0 E13.1
  have V_a0_c13 := V_a0.ext E13
  have V13 : AV Z h13 b13 .byte 1 (fun ix => .int ((fun _ => (0 : Int32)) ix)) := A13
  refine g_astoreN C (Ls' := #[.val (.ref a0), .val (.int (0 : Int32)), .val (.int (1 : Int32)), .val (.ref b13), .unset, .unset]) id1_3 rfl rfl ?_
  refine g_aloadN C id1_4 rfl rfl ?_
  refine g_iloadN C id1_5 rfl ?_
  refine g_aloadN C id1_6 rfl rfl ?_
  refine g_iconst C (0 : Int32) id1_7 rfl ?_
  refine g_iloadN C id1_8 rfl ?_
  refine g_callS C (rmc1 l Z aZ hw a0 b13 f_a0 (fun _ => (0 : Int32)) h13 n0 Z13 V_a0_c13 V13 (by assumption) ge13 ne_a0_b13) id1_9 (hw _ (List.mem_of_getElem? (i := 58) rfl)) (hw _ (List.mem_of_getElem? (i := 59) rfl)) (hw _ (List.mem_of_getElem? (i := 56) rfl)) (hw _ (List.mem_of_getElem? (i := 60) rfl)) (by decide) (argsL := [(.ref a0), (.int (0 : Int32)), (.ref b13), (.int (0 : Int32)), (.int (1 : Int32))]) (rest := []) rfl rfl pd3 rfl rfl 0 (Nat.le_of_eq rfl) (by decide) (by decide) (by decide) (by decide) rfl rfl ?_
  rintro _ h14 ⟨rfl, KC14, P14_0⟩
  refine Go.some' ?_
  have V_a0_cC14 := AV.keep V_a0_c13 KC14 (ninS ne_a0_b13 nin0)
  have K14 := Keep.trans K13 KC14 (allS (Or.inr fr13) all0)
  have Z14 : n0 ≤ h14.size := Nat.le_trans Z13 KC14.1
  refine g_istore C (Ls' := #[.val (.ref a0), .val (.int (0 : Int32)), .val (.int (1 : Int32)), .val (.ref b13), .val (.int (1 : Int32)), .unset]) id1_12 rfl ?_
  refine g_iload C id1_14 rfl ?_
  refine g_iloadN C id1_16 rfl ?_
  refine g_icmp_eq C id1_17 (fun _ => ?_) (fun q => absurd (by decide) q)
  refine g_aloadN C id1_57 rfl rfl ?_
  exact g_retRef C (t := (.array .byte)) id1_58 rfl rfl rfl (by decide) (by decide) ⟨b13, rfl, ⟨ge13, fr13⟩, K14, AV.congr P14_0 (fun _ _ => rfl)⟩
theorem pn8 : plainFor (⟨"java/lang/StringUTF16", "coderFromArrayLen", "([BI)B"⟩ : MethodName) = true := by decide +kernel
theorem if1_0 : I1 jdk_52_method_15_code 0 (.iload_n 1) 1 1 := ⟨(by decide +kernel), rfl⟩
theorem if1_1 : I1 jdk_52_method_15_code 1 (.aload_n 0) 1 2 := ⟨(by decide +kernel), rfl⟩
theorem if1_2 : I1 jdk_52_method_15_code 2 (.arraylength) 1 3 := ⟨(by decide +kernel), rfl⟩
theorem if1_3 : I1 jdk_52_method_15_code 3 (.isub) 1 4 := ⟨(by decide +kernel), rfl⟩
theorem if1_4 : I1 jdk_52_method_15_code 4 (.bipush 31) 2 6 := ⟨(by decide +kernel), rfl⟩
theorem if1_6 : I1 jdk_52_method_15_code 6 (.iushr) 1 7 := ⟨(by decide +kernel), rfl⟩
theorem if1_7 : I1 jdk_52_method_15_code 7 (.i2b) 1 8 := ⟨(by decide +kernel), rfl⟩
theorem if1_8 : I1 jdk_52_method_15_code 8 (.ireturn) 1 9 := ⟨(by decide +kernel), rfl⟩
theorem eff1 (m : MethodId) (a0 : Addr) : entryFrame m #[(.ref a0), (.int (1 : Int32))] 2 = mkF m 0 #[.val (.ref a0), .val (.int (1 : Int32))] [] := by first | (simp [entryFrame, mkF, argsToLocals, Value.category]; done) | rfl
def Qf1 (Z : State) (a0 : Addr) (f_a0 : Nat → Int32) (h0 : Heap) (n0 : Nat) (v : Option Value) (h : Heap) : Prop := v = some (.int (0 : Int32)) ∧ h = h0
set_option maxRecDepth 65536 in
set_option maxHeartbeats 40000000 in
theorem rmf1 (l : Launch) (Z : State) (aZ : Array Value) (hw : ∀ d ∈ tables_1, d.before aZ Z = true) (a0 : Addr) (f_a0 : Nat → Int32) (h0 : Heap) (n0 : Nat) (Z0 : n0 ≤ h0.size) (V_a0 : AV Z h0 a0 .byte 1 (fun ix => .int (f_a0 ix))) :
    Ctr l Z (⟨"java/lang/StringUTF16", "coderFromArrayLen", "([BI)B"⟩ : MethodName) jdk_52_method_15_code 2 (some .byte) ({ frames := 0, cells := 0, slots := 0, locals := 0 } : Room) #[(.ref a0), (.int (1 : Int32))] h0 n0 (Qf1 Z a0 f_a0 h0 n0) := by
  refine Ctr.of_go pn8 (fun m => eff1 m a0) ?_
  intro p e s m below meth c hnm C
  refine g_iloadN C if1_0 rfl ?_
  refine g_aloadN C if1_1 rfl rfl ?_
  refine g_alen C (1 : Int32) if1_2 V_a0 rfl ?_
  refine g_isub C if1_3 ?_
  refine g_bipush C (31 : Int32) if1_4 rfl ?_
  refine g_iushr C if1_6 ?_
  refine g_i2b C if1_7 ?_
  exact g_retNar C (t := .byte) if1_8 rfl (by simp) (by decide) (by decide) ⟨rfl, rfl⟩
theorem pd4 : parseMethodDescriptor "([CII)[B" = some ⟨[(.array .char), .int, .int], some (.array .byte)⟩ := by decide +kernel
theorem pd5 : parseMethodDescriptor "([BI)B" = some ⟨[(.array .byte), .int], some .byte⟩ := by decide +kernel
theorem ii1_0 : I1 jdk_42_method_149_code 0 (.aload_n 0) 1 1 := ⟨(by decide +kernel), rfl⟩
theorem ii1_1 : I1 jdk_42_method_149_code 1 (.invokespecial 1) 3 4 := ⟨(by decide +kernel), rfl⟩
theorem ii1_4 : I1 jdk_42_method_149_code 4 (.iload_n 3) 1 5 := ⟨(by decide +kernel), rfl⟩
theorem ii1_5 : B1 jdk_42_method_149_code 5 (.ifCond .ne 22) 22 27 8 := ⟨(by decide +kernel), rfl, by decide, by decide⟩
theorem ii1_27 : I1 jdk_42_method_149_code 27 (.getstatic 38) 3 30 := ⟨(by decide +kernel), rfl⟩
theorem ii1_30 : B1 jdk_42_method_149_code 30 (.ifCond .eq 28) 28 58 33 := ⟨(by decide +kernel), rfl, by decide, by decide⟩
theorem ii1_33 : I1 jdk_42_method_149_code 33 (.aload_n 1) 1 34 := ⟨(by decide +kernel), rfl⟩
theorem ii1_34 : I1 jdk_42_method_149_code 34 (.iload_n 2) 1 35 := ⟨(by decide +kernel), rfl⟩
theorem ii1_35 : I1 jdk_42_method_149_code 35 (.iload_n 3) 1 36 := ⟨(by decide +kernel), rfl⟩
theorem ii1_36 : I1 jdk_42_method_149_code 36 (.invokestatic 177) 3 39 := ⟨(by decide +kernel), rfl⟩
theorem ii1_39 : I1 jdk_42_method_149_code 39 (.astore 5) 2 41 := ⟨(by decide +kernel), rfl⟩
theorem ii1_41 : I1 jdk_42_method_149_code 41 (.aload_n 0) 1 42 := ⟨(by decide +kernel), rfl⟩
theorem ii1_42 : I1 jdk_42_method_149_code 42 (.aload 5) 2 44 := ⟨(by decide +kernel), rfl⟩
theorem ii1_44 : I1 jdk_42_method_149_code 44 (.iload_n 3) 1 45 := ⟨(by decide +kernel), rfl⟩
theorem ii1_45 : I1 jdk_42_method_149_code 45 (.invokestatic 47) 3 48 := ⟨(by decide +kernel), rfl⟩
theorem ii1_48 : I1 jdk_42_method_149_code 48 (.putfield 15) 3 51 := ⟨(by decide +kernel), rfl⟩
theorem ii1_51 : I1 jdk_42_method_149_code 51 (.aload_n 0) 1 52 := ⟨(by decide +kernel), rfl⟩
theorem ii1_52 : I1 jdk_42_method_149_code 52 (.aload 5) 2 54 := ⟨(by decide +kernel), rfl⟩
theorem ii1_54 : I1 jdk_42_method_149_code 54 (.putfield 9) 3 57 := ⟨(by decide +kernel), rfl⟩
theorem ii1_57 : I1 jdk_42_method_149_code 57 (.return_) 1 58 := ⟨(by decide +kernel), rfl⟩
theorem efi1 (m : MethodId) (a0 : Addr) (a1 : Addr) : entryFrame m #[(.ref a0), (.ref a1), (.int (0 : Int32)), (.int (1 : Int32)), .null] 6 = mkF m 0 #[.val (.ref a0), .val (.ref a1), .val (.int (0 : Int32)), .val (.int (1 : Int32)), .val .null, .unset] [] := by first | (simp [entryFrame, mkF, argsToLocals, Value.category]; done) | rfl
def Qi1 (Z : State) (a0 : Addr) (a1 : Addr) (f_a1 : Nat → Int32) (cs : Int32) (w_coder_a0 : Int32) (w_value_a0 : Value) (h0 : Heap) (n0 : Nat) (v : Option Value) (h : Heap) : Prop := ∃ fb0 : Addr, v = none ∧ (n0 ≤ fb0 ∧ h0.size ≤ fb0) ∧ Keep h0 h [a0] ∧ AV Z h fb0 .byte 1 (fun ix => .int ((vc1_0 f_a1 (fun _ => (0 : Int32))) ix)) ∧ Exa Z h a0 "java/lang/String" ∧ Fld Z h a0 "java/lang/String" "value" "[B" (.ref fb0) ∧ Fld Z h a0 "java/lang/String" "coder" "B" (.int (0 : Int32))
set_option maxRecDepth 65536 in
set_option maxHeartbeats 40000000 in
theorem rmi1 (l : Launch) (Z : State) (aZ : Array Value) (hw : ∀ d ∈ tables_1, d.before aZ Z = true) (a0 : Addr) (a1 : Addr) (f_a1 : Nat → Int32) (cs : Int32) (w_coder_a0 : Int32) (w_value_a0 : Value) (h0 : Heap) (n0 : Nat) (Z0 : n0 ≤ h0.size) (E_a0 : Exa Z h0 a0 "java/lang/String") (V_a1 : AV Z h0 a1 .char 1 (fun ix => .int (f_a1 ix))) (hk0 : ¬ ((255 : Int32) < (f_a1 0))) (OLD : Old Z n0 h0) (S_c : Sta Z Z.heap "java/lang/String" "COMPACT_STRINGS" "Z" (.int cs)) (hcs : ¬ (cs = (0 : Int32))) (F_coder_a0 : Fld Z h0 a0 "java/lang/String" "coder" "B" (.int w_coder_a0)) (g_a0 : n0 ≤ a0) (ne_a0_a1 : a0 ≠ a1) (F_value_a0 : Fld Z h0 a0 "java/lang/String" "value" "[B" w_value_a0) :
    Ctr l Z (⟨"java/lang/String", "<init>", "([CIILjava/lang/Void;)V"⟩ : MethodName) jdk_42_method_149_code 6 none ({ frames := 2, cells := 1, slots := 1, locals := 35 } : Room) #[(.ref a0), (.ref a1), (.int (0 : Int32)), (.int (1 : Int32)), .null] h0 n0 (Qi1 Z a0 a1 f_a1 cs w_coder_a0 w_value_a0 h0 n0) := by
  refine Ctr.of_go pn1 (fun m => efi1 m a0 a1) ?_
  intro p e s m below meth c hnm C
  refine g_aloadN C ii1_0 rfl rfl ?_
  refine g_initO C ii1_1 (hw _ (List.mem_of_getElem? (i := 16) rfl)) (hw _ (List.mem_of_getElem? (i := 17) rfl)) (hw _ (List.mem_of_getElem? (i := 18) rfl)) rfl (by decide) 0 (Nat.le_of_eq rfl) (by decide) ?_
  refine g_iloadN C ii1_4 rfl ?_
  refine g_if_ne C ii1_5 (fun q => absurd q (by decide)) (fun _ => ?_)
  refine g_getS C ii1_27 (host := "") (Or.inl (hw _ (List.mem_of_getElem? (i := 46) rfl))) Via.refl (Sta.ext OLD.2 S_c) ?_
  refine g_if_eq C ii1_30 (fun q => absurd q hcs) (fun _ => ?_)
  refine g_aloadN C ii1_33 rfl rfl ?_
  refine g_iloadN C ii1_34 rfl ?_
  refine g_iloadN C ii1_35 rfl ?_
  refine g_callS C (rmd1 l Z aZ hw a1 f_a1 h0 n0 Z0 V_a1 (by assumption)) ii1_36 (hw _ (List.mem_of_getElem? (i := 54) rfl)) (hw _ (List.mem_of_getElem? (i := 55) rfl)) (hw _ (List.mem_of_getElem? (i := 56) rfl)) (hw _ (List.mem_of_getElem? (i := 57) rfl)) (by decide) (argsL := [(.ref a1), (.int (0 : Int32)), (.int (1 : Int32))]) (rest := []) rfl rfl pd4 rfl rfl 0 (Nat.le_of_eq rfl) (by decide) (by decide) (by decide) (by decide) rfl rfl ?_
  rintro _ h16 ⟨r16_fb0, rfl, ⟨ge16_fb0, fh16_fb0⟩, KC16, P16_0⟩
  refine Go.some' ?_
  have ne_a0_r16_fb0 : a0 ≠ r16_fb0 := Nat.ne_of_lt (Nat.lt_of_lt_of_le F_coder_a0.lt fh16_fb0)
  have ne_a1_r16_fb0 : a1 ≠ r16_fb0 := Nat.ne_of_lt (Nat.lt_of_lt_of_le V_a1.lt fh16_fb0)
  have fr16_fb0 : h0.size ≤ r16_fb0 := Nat.le_trans (Keep.refl h0 [a0]).1 fh16_fb0
  have F_coder_a0_cC16 := Fld.keep F_coder_a0 KC16 nin0
  have F_value_a0_cC16 := Fld.keep F_value_a0 KC16 nin0
  have E_a0_cC16 := Exa.keep E_a0 KC16
  have V_a1_cC16 := AV.keep V_a1 KC16 nin0
  have OLDC16 := Old.keep OLD KC16 all0
  have K16 := Keep.trans (Keep.refl h0 [a0]) KC16 all0
  have Z16 : n0 ≤ h16.size := Nat.le_trans Z0 KC16.1
  refine g_astore C (Ls' := #[.val (.ref a0), .val (.ref a1), .val (.int (0 : Int32)), .val (.int (1 : Int32)), .val .null, .val (.ref r16_fb0)]) ii1_39 rfl rfl ?_
  refine g_aloadN C ii1_41 rfl rfl ?_
  refine g_aload C ii1_42 rfl rfl ?_
  refine g_iloadN C ii1_44 rfl ?_
  refine g_callS C (rmf1 l Z aZ hw r16_fb0 (vc1_0 f_a1 (fun _ => (0 : Int32))) h16 n0 Z16 P16_0) ii1_45 (hw _ (List.mem_of_getElem? (i := 61) rfl)) (hw _ (List.mem_of_getElem? (i := 62) rfl)) (hw _ (List.mem_of_getElem? (i := 56) rfl)) (hw _ (List.mem_of_getElem? (i := 63) rfl)) (by decide) (argsL := [(.ref r16_fb0), (.int (1 : Int32))]) (rest := [(.ref a0)]) rfl rfl pd5 rfl rfl 1 (Nat.le_of_eq rfl) (by decide) (by decide) (by decide) (by decide) rfl rfl ?_
  rintro _ _ ⟨rfl, he17⟩
  refine Go.heap he17.symm ?_
  refine Go.some' ?_
  refine g_putFN C (v' := (.int (0 : Int32))) ii1_48 (hw _ (List.mem_of_getElem? (i := 26) rfl)) Via.refl F_coder_a0_cC16 E_a0_cC16 (Or.inr ⟨(hw _ (List.mem_of_getElem? (i := 22) rfl)), rfl, hnm⟩) (hw _ (List.mem_of_getElem? (i := 2) rfl)) (ty := .byte) (by decide) rfl (by decide) g_a0 (fun h18 W18 => ?_)
  have F_value_a0_c18 := Fld.other W18 F_value_a0_cC16 (Or.inr (slot_ne (a0 := aZ) (Or.inr (hw _ (List.mem_of_getElem? (i := 21) rfl))) (Or.inr (hw _ (List.mem_of_getElem? (i := 22) rfl))) (by decide) (t := (.array .byte)) (t' := .byte) (by decide) (by decide)))
  have E_a0_c18 := Exa.wr W18 E_a0_cC16
  have V_a1_c18 := AV.other V_a1_cC16 W18 (Ne.symm ne_a0_a1)
  have OLD18 := Old.wr OLDC16 W18 g_a0
  have V_r16_fb0_c18 := AV.other P16_0 W18 (Ne.symm ne_a0_r16_fb0)
  have Fw18 := Fld.same W18 F_coder_a0_cC16
  have K18 := Keep.wr K16 W18 (Or.inl (List.mem_of_getElem? (i := 0) rfl))
  have Z18 : n0 ≤ h18.size := Nat.le_trans Z16 (Keep.of_wr W18).1
  refine g_aloadN C ii1_51 rfl rfl ?_
  refine g_aload C ii1_52 rfl rfl ?_
  refine g_putF C ii1_54 (host := "") (Or.inl (hw _ (List.mem_of_getElem? (i := 25) rfl))) Via.refl F_value_a0_c18 E_a0_c18 (Or.inr ⟨(hw _ (List.mem_of_getElem? (i := 21) rfl)), rfl, hnm⟩) (hw _ (List.mem_of_getElem? (i := 2) rfl)) (ty := (.array .byte)) (by decide) rfl rfl g_a0 (fun h19 W19 => ?_)
  have E_a0_c19 := Exa.wr W19 E_a0_c18
  have V_a1_c19 := AV.other V_a1_c18 W19 (Ne.symm ne_a0_a1)
  have OLD19 := Old.wr OLD18 W19 g_a0
  have V_r16_fb0_c19 := AV.other V_r16_fb0_c18 W19 (Ne.symm ne_a0_r16_fb0)
  have F_coder_a0_c19 := Fld.other W19 Fw18 (Or.inr (slot_ne (a0 := aZ) (Or.inr (hw _ (List.mem_of_getElem? (i := 22) rfl))) (Or.inr (hw _ (List.mem_of_getElem? (i := 21) rfl))) (by decide) (t := .byte) (t' := (.array .byte)) (by decide) (by decide)))
  have Fw19 := Fld.same W19 F_value_a0_c18
  have K19 := Keep.wr K18 W19 (Or.inl (List.mem_of_getElem? (i := 0) rfl))
  have Z19 : n0 ≤ h19.size := Nat.le_trans Z18 (Keep.of_wr W19).1
  exact g_retV C ii1_57 rfl (by decide) (by decide) ⟨r16_fb0, rfl, ⟨ge16_fb0, fr16_fb0⟩, K19, AV.congr V_r16_fb0_c19 (fun _ _ => rfl), E_a0_c19, Fw19, F_coder_a0_c19⟩
theorem ij1_0 : I1 jdk_42_method_3_code 0 (.aload_n 0) 1 1 := ⟨(by decide +kernel), rfl⟩
theorem ij1_1 : I1 jdk_42_method_3_code 1 (.aload_n 1) 1 2 := ⟨(by decide +kernel), rfl⟩
theorem ij1_2 : I1 jdk_42_method_3_code 2 (.iconst 0) 1 3 := ⟨(by decide +kernel), rfl⟩
theorem ij1_3 : I1 jdk_42_method_3_code 3 (.aload_n 1) 1 4 := ⟨(by decide +kernel), rfl⟩
theorem ij1_4 : I1 jdk_42_method_3_code 4 (.arraylength) 1 5 := ⟨(by decide +kernel), rfl⟩
theorem ij1_5 : I1 jdk_42_method_3_code 5 (.aconst_null) 1 6 := ⟨(by decide +kernel), rfl⟩
theorem ij1_6 : I1 jdk_42_method_3_code 6 (.invokespecial 27) 3 9 := ⟨(by decide +kernel), rfl⟩
theorem ij1_9 : I1 jdk_42_method_3_code 9 (.return_) 1 10 := ⟨(by decide +kernel), rfl⟩
theorem efj1 (m : MethodId) (a0 : Addr) (a1 : Addr) : entryFrame m #[(.ref a0), (.ref a1)] 2 = mkF m 0 #[.val (.ref a0), .val (.ref a1)] [] := by first | (simp [entryFrame, mkF, argsToLocals, Value.category]; done) | rfl
def Qj1 (Z : State) (a0 : Addr) (a1 : Addr) (f_a1 : Nat → Int32) (cs : Int32) (w_coder_a0 : Int32) (w_value_a0 : Value) (h0 : Heap) (n0 : Nat) (v : Option Value) (h : Heap) : Prop := ∃ fb0 : Addr, v = none ∧ (n0 ≤ fb0 ∧ h0.size ≤ fb0) ∧ Keep h0 h [a0] ∧ AV Z h fb0 .byte 1 (fun ix => .int ((vc1_0 f_a1 (fun _ => (0 : Int32))) ix)) ∧ Exa Z h a0 "java/lang/String" ∧ Fld Z h a0 "java/lang/String" "value" "[B" (.ref fb0) ∧ Fld Z h a0 "java/lang/String" "coder" "B" (.int (0 : Int32))
set_option maxRecDepth 65536 in
set_option maxHeartbeats 40000000 in
theorem rmj1 (l : Launch) (Z : State) (aZ : Array Value) (hw : ∀ d ∈ tables_1, d.before aZ Z = true) (a0 : Addr) (a1 : Addr) (f_a1 : Nat → Int32) (cs : Int32) (w_coder_a0 : Int32) (w_value_a0 : Value) (h0 : Heap) (n0 : Nat) (Z0 : n0 ≤ h0.size) (E_a0 : Exa Z h0 a0 "java/lang/String") (V_a1 : AV Z h0 a1 .char 1 (fun ix => .int (f_a1 ix))) (hk0 : ¬ ((255 : Int32) < (f_a1 0))) (OLD : Old Z n0 h0) (S_c : Sta Z Z.heap "java/lang/String" "COMPACT_STRINGS" "Z" (.int cs)) (hcs : ¬ (cs = (0 : Int32))) (F_coder_a0 : Fld Z h0 a0 "java/lang/String" "coder" "B" (.int w_coder_a0)) (g_a0 : n0 ≤ a0) (ne_a0_a1 : a0 ≠ a1) (F_value_a0 : Fld Z h0 a0 "java/lang/String" "value" "[B" w_value_a0) :
    Ctr l Z (⟨"java/lang/String", "<init>", "([C)V"⟩ : MethodName) jdk_42_method_3_code 2 none ({ frames := 3, cells := 1, slots := 1, locals := 52 } : Room) #[(.ref a0), (.ref a1)] h0 n0 (Qj1 Z a0 a1 f_a1 cs w_coder_a0 w_value_a0 h0 n0) := by
  refine Ctr.of_go pn2 (fun m => efj1 m a0 a1) ?_
  intro p e s m below meth c hnm C
  refine g_aloadN C ij1_0 rfl rfl ?_
  refine g_aloadN C ij1_1 rfl rfl ?_
  refine g_iconst C (0 : Int32) ij1_2 rfl ?_
  refine g_aloadN C ij1_3 rfl rfl ?_
  refine g_alen C (1 : Int32) ij1_4 V_a1 rfl ?_
  refine g_aconstNull C ij1_5 ?_
  refine g_callI C (rmi1 l Z aZ hw a0 a1 f_a1 cs w_coder_a0 w_value_a0 h0 n0 Z0 E_a0 V_a1 (by assumption) OLD S_c (by assumption) F_coder_a0 g_a0 ne_a0_a1 F_value_a0) (a := a0) ij1_6 rfl (hw _ (List.mem_of_getElem? (i := 12) rfl)) (hw _ (List.mem_of_getElem? (i := 13) rfl)) (hw _ (List.mem_of_getElem? (i := 3) rfl)) (hw _ (List.mem_of_getElem? (i := 15) rfl)) rfl (by decide) (argsL := [(.ref a1), (.int (0 : Int32)), (.int (1 : Int32)), .null]) (rest := []) rfl rfl pd0 rfl rfl 0 (Nat.le_of_eq rfl) (by decide) (by decide) (by decide) (by decide) rfl rfl ?_
  rintro _ h20 ⟨r20_fb0, rfl, ⟨ge20_fb0, fh20_fb0⟩, KC20, P20_0, P20_1, P20_2, P20_3⟩
  refine Go.none' ?_
  have ne_a0_r20_fb0 : a0 ≠ r20_fb0 := Nat.ne_of_lt (Nat.lt_of_lt_of_le F_coder_a0.lt fh20_fb0)
  have ne_a1_r20_fb0 : a1 ≠ r20_fb0 := Nat.ne_of_lt (Nat.lt_of_lt_of_le V_a1.lt fh20_fb0)
  have fr20_fb0 : h0.size ≤ r20_fb0 := Nat.le_trans (Keep.refl h0 [a0]).1 fh20_fb0
  have E_a0_cC20 := Exa.keep E_a0 KC20
  have V_a1_cC20 := AV.keep V_a1 KC20 (ninS (Ne.symm ne_a0_a1) nin0)
  have OLDC20 := Old.keep OLD KC20 (allS g_a0 all0)
  have K20 := Keep.trans (Keep.refl h0 [a0]) KC20 (allS (Or.inl (List.mem_of_getElem? (i := 0) rfl)) all0)
  have Z20 : n0 ≤ h20.size := Nat.le_trans Z0 KC20.1
  have P20_3 : Fld Z h20 a0 "java/lang/String" "coder" "B" (.int (0 : Int32)) := P20_3
  exact g_retV C ij1_9 rfl (by decide) (by decide) ⟨r20_fb0, rfl, ⟨ge20_fb0, fr20_fb0⟩, K20, AV.congr P20_0 (fun _ _ => rfl), P20_1, P20_2, P20_3⟩
theorem in1_0 : I1 jdk_42_method_54_code 0 (.aload_n 0) 1 1 := ⟨(by decide +kernel), rfl⟩
theorem in1_1 : I1 jdk_42_method_54_code 1 (.getfield 9) 3 4 := ⟨(by decide +kernel), rfl⟩
theorem in1_4 : I1 jdk_42_method_54_code 4 (.arraylength) 1 5 := ⟨(by decide +kernel), rfl⟩
theorem in1_5 : I1 jdk_42_method_54_code 5 (.aload_n 0) 1 6 := ⟨(by decide +kernel), rfl⟩
theorem in1_6 : I1 jdk_42_method_54_code 6 (.invokevirtual 335) 3 9 := ⟨(by decide +kernel), rfl⟩
theorem in1_9 : I1 jdk_42_method_54_code 9 (.ishr) 1 10 := ⟨(by decide +kernel), rfl⟩
theorem in1_10 : I1 jdk_42_method_54_code 10 (.ireturn) 1 11 := ⟨(by decide +kernel), rfl⟩
theorem efn1 (m : MethodId) (a0 : Addr) : entryFrame m #[(.ref a0)] 1 = mkF m 0 #[.val (.ref a0)] [] := by first | (simp [entryFrame, mkF, argsToLocals, Value.category]; done) | rfl
def Qn1 (Z : State) (a0 : Addr) (bb : Addr) (f_bb : Nat → Int32) (cs : Int32) (h0 : Heap) (n0 : Nat) (v : Option Value) (h : Heap) : Prop := v = some (.int (1 : Int32)) ∧ h = h0
set_option maxRecDepth 65536 in
set_option maxHeartbeats 40000000 in
theorem rmn1 (l : Launch) (Z : State) (aZ : Array Value) (hw : ∀ d ∈ tables_1, d.before aZ Z = true) (a0 : Addr) (bb : Addr) (f_bb : Nat → Int32) (cs : Int32) (h0 : Heap) (n0 : Nat) (Z0 : n0 ≤ h0.size) (E_a0 : Exa Z h0 a0 "java/lang/String") (C_a0 : Fld Z h0 a0 "java/lang/String" "coder" "B" (.int (0 : Int32))) (W_a0 : Fld Z h0 a0 "java/lang/String" "value" "[B" (.ref bb)) (V_bb : AV Z h0 bb .byte 1 (fun ix => .int (f_bb ix))) (OLD : Old Z n0 h0) (S_c : Sta Z Z.heap "java/lang/String" "COMPACT_STRINGS" "Z" (.int cs)) (hcs : ¬ (cs = (0 : Int32))) :
    Ctr l Z (⟨"java/lang/String", "length", "()I"⟩ : MethodName) jdk_42_method_54_code 1 (some .int) ({ frames := 1, cells := 0, slots := 0, locals := 13 } : Room) #[(.ref a0)] h0 n0 (Qn1 Z a0 bb f_bb cs h0 n0) := by
  refine Ctr.of_go pn3 (fun m => efn1 m a0) ?_
  intro p e s m below meth c hnm C
  refine g_aloadN C in1_0 rfl rfl ?_
  refine g_getF C in1_1 (host := "") (Or.inl (hw _ (List.mem_of_getElem? (i := 25) rfl))) Via.refl W_a0 ?_
  refine g_alen C (1 : Int32) in1_4 V_bb rfl ?_
  refine g_aloadN C in1_5 rfl rfl ?_
  refine g_callV C (rmk0 l Z aZ hw a0 cs h0 n0 Z0 E_a0 C_a0 OLD S_c (by assumption)) (a := a0) in1_6 (hw _ (List.mem_of_getElem? (i := 41) rfl)) (hw _ (List.mem_of_getElem? (i := 42) rfl)) (fun s hZ => notFace_of_selects (args := #[]) (mvT hZ (hw _ (List.mem_of_getElem? (i := 44) rfl)))) (hw _ (List.mem_of_getElem? (i := 44) rfl)) (hw _ (List.mem_of_getElem? (i := 43) rfl)) (hw _ (List.mem_of_getElem? (i := 3) rfl)) (hw _ (List.mem_of_getElem? (i := 45) rfl)) (by decide) E_a0 (argsL := []) (rest := [(.int (1 : Int32))]) rfl rfl pd1 rfl rfl 1 (Nat.le_of_eq rfl) (by decide) (by decide) (by decide) (by decide) rfl rfl ?_
  rintro _ _ ⟨rfl, he21⟩
  refine Go.heap he21.symm ?_
  refine Go.some' ?_
  refine g_ishr C in1_9 ?_
  exact g_retInt C in1_10 rfl (by decide) (by decide) ⟨rfl, rfl⟩
theorem ih1_0 : I1 method_2_code 0 (.iload_n 0) 1 1 := ⟨(by decide +kernel), rfl⟩
theorem ih1_1 : B1 method_2_code 1 (.ifCond .ne 10) 10 11 4 := ⟨(by decide +kernel), rfl, by decide, by decide⟩
theorem ih1_11 : I1 method_2_code 11 (.iload_n 0) 1 12 := ⟨(by decide +kernel), rfl⟩
theorem ih1_12 : I1 method_2_code 12 (.iconst 1) 1 13 := ⟨(by decide +kernel), rfl⟩
theorem ih1_13 : B1 method_2_code 13 (.if_icmp .ne 14) 14 27 16 := ⟨(by decide +kernel), rfl, by decide, by decide⟩
theorem ih1_16 : I1 method_2_code 16 (.iconst 1) 1 17 := ⟨(by decide +kernel), rfl⟩
theorem ih1_17 : I1 method_2_code 17 (.newarray .char) 2 19 := ⟨(by decide +kernel), rfl⟩
theorem ih1_19 : I1 method_2_code 19 (.dup) 1 20 := ⟨(by decide +kernel), rfl⟩
theorem ih1_20 : I1 method_2_code 20 (.iconst 0) 1 21 := ⟨(by decide +kernel), rfl⟩
theorem ih1_21 : I1 method_2_code 21 (.iload_n 1) 1 22 := ⟨(by decide +kernel), rfl⟩
theorem ih1_22 : I1 method_2_code 22 (.castore) 1 23 := ⟨(by decide +kernel), rfl⟩
theorem ih1_23 : I1 method_2_code 23 (.astore_n 2) 1 24 := ⟨(by decide +kernel), rfl⟩
theorem ih1_24 : B1 method_2_code 24 (.goto 67) 67 91 27 := ⟨(by decide +kernel), rfl, by decide, by decide⟩
theorem ih1_91 : I1 method_2_code 91 (.aload_n 2) 1 92 := ⟨(by decide +kernel), rfl⟩
theorem ih1_92 : I1 method_2_code 92 (.areturn) 1 93 := ⟨(by decide +kernel), rfl⟩
def vh1_0 (p1 : Int32) : Nat → Int32 := (fun ix => if ix = 0 then (nar .char p1) else (fun _ => (0 : Int32)) ix)
theorem efh1 (m : MethodId) (p1 : Int32) : entryFrame m #[(.int (1 : Int32)), (.int p1)] 3 = mkF m 0 #[.val (.int (1 : Int32)), .val (.int p1), .unset] [] := by first | (simp [entryFrame, mkF, argsToLocals, Value.category]; done) | rfl
def Qh1 (Z : State) (p1 : Int32) (h0 : Heap) (n0 : Nat) (v : Option Value) (h : Heap) : Prop := ∃ fb0 : Addr, v = some (.ref fb0) ∧ (n0 ≤ fb0 ∧ h0.size ≤ fb0) ∧ Keep h0 h [] ∧ AV Z h fb0 .char 1 (fun ix => .int ((vh1_0 p1) ix))
set_option maxRecDepth 65536 in
set_option maxHeartbeats 40000000 in
theorem rmh1 (l : Launch) (Z : State) (aZ : Array Value) (hw : ∀ d ∈ tables_1, d.before aZ Z = true) (p1 : Int32) (h0 : Heap) (n0 : Nat) (Z0 : n0 ≤ h0.size) :
    Ctr l Z (⟨"com/example/firm_input/firminput/regex/RegexInputFitsPinLaw", "chars", "(IC)[C"⟩ : MethodName) method_2_code 3 (some (.array .char)) ({ frames := 0, cells := 1, slots := 1, locals := 0 } : Room) #[(.int (1 : Int32)), (.int p1)] h0 n0 (Qh1 Z p1 h0 n0) := by
  refine Ctr.of_go pn4 (fun m => efh1 m p1) ?_
  intro p e s m below meth c hnm C
  refine g_iloadN C ih1_0 rfl ?_
  refine g_if_ne C ih1_1 (fun q => absurd q (by decide)) (fun _ => ?_)
  refine g_iloadN C ih1_11 rfl ?_
  refine g_iconst C (1 : Int32) ih1_12 rfl ?_
  refine g_icmp_ne C ih1_13 (fun _ => ?_) (fun q => absurd (by decide) q)
  refine g_iconst C (1 : Int32) ih1_16 rfl ?_
  refine g_newP C ih1_17 (hw _ (List.mem_of_getElem? (i := 8) rfl)) (by decide) 1 (by decide) (by decide) (by decide) (by decide) rfl rfl (fun h22 b22 g22 E22 A22 => ?_)
  have ge22 : n0 ≤ b22 := Nat.le_trans Z0 (Nat.le_of_eq g22.symm)
  have fr22 : h0.size ≤ b22 := Nat.le_trans (Keep.refl h0 []).1 (Nat.le_of_eq g22.symm)
  have K22 := Keep.ext (Keep.refl h0 []) E22
  have Z22 : n0 ≤ h22.size := Nat.le_trans Z0 E22.1
  have V22 : AV Z h22 b22 .char 1 (fun ix => .int ((fun _ => (0 : Int32)) ix)) := A22
  refine g_dup C ih1_19 rfl ?_
  refine g_iconst C (0 : Int32) ih1_20 rfl ?_
  refine g_iloadN C ih1_21 rfl ?_
  refine g_castI C ih1_22 V22 ⟨by decide, by decide⟩ ge22 (fun h23 W23 V23 => ?_)
  have Vw23 : AV Z h23 b22 .char 1 (fun ix => .int ((vh1_0 p1) ix)) := V23
  have K23 := Keep.wr K22 W23 (Or.inr fr22)
  have Z23 : n0 ≤ h23.size := Nat.le_trans Z22 (Keep.of_wr W23).1
  refine g_astoreN C (Ls' := #[.val (.int (1 : Int32)), .val (.int p1), .val (.ref b22)]) ih1_23 rfl rfl ?_
  refine g_goto C ih1_24 ?_
  refine g_aloadN C ih1_91 rfl rfl ?_
  exact g_retRef C (t := (.array .char)) ih1_92 rfl rfl rfl (by decide) (by decide) ⟨b22, rfl, ⟨ge22, fr22⟩, K23, AV.congr Vw23 (fun _ _ => rfl)⟩
theorem ir1_0 : I1 prog_27_method_1_code 0 (.aload_n 0) 1 1 := ⟨(by decide +kernel), rfl⟩
theorem ir1_1 : I1 prog_27_method_1_code 1 (.invokespecial 1) 3 4 := ⟨(by decide +kernel), rfl⟩
theorem ir1_4 : I1 prog_27_method_1_code 4 (.aload_n 0) 1 5 := ⟨(by decide +kernel), rfl⟩
theorem ir1_5 : I1 prog_27_method_1_code 5 (.aload_n 1) 1 6 := ⟨(by decide +kernel), rfl⟩
theorem ir1_6 : I1 prog_27_method_1_code 6 (.putfield 7) 3 9 := ⟨(by decide +kernel), rfl⟩
theorem ir1_9 : I1 prog_27_method_1_code 9 (.aload_n 0) 1 10 := ⟨(by decide +kernel), rfl⟩
theorem ir1_10 : I1 prog_27_method_1_code 10 (.aload_n 1) 1 11 := ⟨(by decide +kernel), rfl⟩
theorem ir1_11 : I1 prog_27_method_1_code 11 (.invokevirtual 13) 3 14 := ⟨(by decide +kernel), rfl⟩
theorem ir1_14 : I1 prog_27_method_1_code 14 (.putfield 19) 3 17 := ⟨(by decide +kernel), rfl⟩
theorem ir1_17 : I1 prog_27_method_1_code 17 (.return_) 1 18 := ⟨(by decide +kernel), rfl⟩
theorem efr1 (m : MethodId) (a0 : Addr) (a1 : Addr) : entryFrame m #[(.ref a0), (.ref a1)] 2 = mkF m 0 #[.val (.ref a0), .val (.ref a1)] [] := by first | (simp [entryFrame, mkF, argsToLocals, Value.category]; done) | rfl
def Qr1 (Z : State) (a0 : Addr) (a1 : Addr) (bb : Addr) (f_bb : Nat → Int32) (cs : Int32) (w_text_a0 : Value) (w_length_a0 : Int32) (h0 : Heap) (n0 : Nat) (v : Option Value) (h : Heap) : Prop := v = none ∧ Keep h0 h [a0] ∧ Exa Z h a0 "com/example/firm_input/firminput/regex/RegexInput" ∧ Fld Z h a0 "com/example/firm_input/firminput/regex/RegexInput" "text" "Ljava/lang/String;" (.ref a1) ∧ Fld Z h a0 "com/example/firm_input/firminput/regex/RegexInput" "length" "I" (.int (1 : Int32))
set_option maxRecDepth 65536 in
set_option maxHeartbeats 40000000 in
theorem rmr1 (l : Launch) (Z : State) (aZ : Array Value) (hw : ∀ d ∈ tables_1, d.before aZ Z = true) (a0 : Addr) (a1 : Addr) (bb : Addr) (f_bb : Nat → Int32) (cs : Int32) (w_text_a0 : Value) (w_length_a0 : Int32) (h0 : Heap) (n0 : Nat) (Z0 : n0 ≤ h0.size) (E_a0 : Exa Z h0 a0 "com/example/firm_input/firminput/regex/RegexInput") (E_a1 : Exa Z h0 a1 "java/lang/String") (C_a1 : Fld Z h0 a1 "java/lang/String" "coder" "B" (.int (0 : Int32))) (W_a1 : Fld Z h0 a1 "java/lang/String" "value" "[B" (.ref bb)) (V_bb : AV Z h0 bb .byte 1 (fun ix => .int (f_bb ix))) (OLD : Old Z n0 h0) (S_c : Sta Z Z.heap "java/lang/String" "COMPACT_STRINGS" "Z" (.int cs)) (hcs : ¬ (cs = (0 : Int32))) (F_text_a0 : Fld Z h0 a0 "com/example/firm_input/firminput/regex/RegexInput" "text" "Ljava/lang/String;" w_text_a0) (g_a0 : n0 ≤ a0) (ne_a0_a1 : a0 ≠ a1) (ne_a0_bb : a0 ≠ bb) (F_length_a0 : Fld Z h0 a0 "com/example/firm_input/firminput/regex/RegexInput" "length" "I" (.int w_length_a0)) :
    Ctr l Z (⟨"com/example/firm_input/firminput/regex/RegexInput", "<init>", "(Ljava/lang/String;)V"⟩ : MethodName) prog_27_method_1_code 2 none ({ frames := 2, cells := 0, slots := 0, locals := 26 } : Room) #[(.ref a0), (.ref a1)] h0 n0 (Qr1 Z a0 a1 bb f_bb cs w_text_a0 w_length_a0 h0 n0) := by
  refine Ctr.of_go pn5 (fun m => efr1 m a0 a1) ?_
  intro p e s m below meth c hnm C
  refine g_aloadN C ir1_0 rfl rfl ?_
  refine g_initO C ir1_1 (hw _ (List.mem_of_getElem? (i := 33) rfl)) (hw _ (List.mem_of_getElem? (i := 17) rfl)) (hw _ (List.mem_of_getElem? (i := 18) rfl)) rfl (by decide) 0 (Nat.le_of_eq rfl) (by decide) ?_
  refine g_aloadN C ir1_4 rfl rfl ?_
  refine g_aloadN C ir1_5 rfl rfl ?_
  refine g_putF C ir1_6 (host := "") (Or.inl (hw _ (List.mem_of_getElem? (i := 34) rfl))) Via.refl F_text_a0 E_a0 (Or.inr ⟨(hw _ (List.mem_of_getElem? (i := 35) rfl)), rfl, hnm⟩) (hw _ (List.mem_of_getElem? (i := 28) rfl)) (ty := (.object "java/lang/String")) (by decide) rfl rfl g_a0 (fun h25 W25 => ?_)
  have F_length_a0_c25 := Fld.other W25 F_length_a0 (Or.inr (slot_ne (a0 := aZ) (Or.inr (hw _ (List.mem_of_getElem? (i := 48) rfl))) (Or.inr (hw _ (List.mem_of_getElem? (i := 35) rfl))) (by decide) (t := .int) (t' := (.object "java/lang/String")) (by decide) (by decide)))
  have E_a0_c25 := Exa.wr W25 E_a0
  have E_a1_c25 := Exa.wr W25 E_a1
  have F_coder_a1_c25 := Fld.other W25 C_a1 (Or.inl (Ne.symm ne_a0_a1))
  have F_value_a1_c25 := Fld.other W25 W_a1 (Or.inl (Ne.symm ne_a0_a1))
  have V_bb_c25 := AV.other V_bb W25 (Ne.symm ne_a0_bb)
  have OLD25 := Old.wr OLD W25 g_a0
  have Fw25 := Fld.same W25 F_text_a0
  have K25 := Keep.wr (Keep.refl h0 [a0]) W25 (Or.inl (List.mem_of_getElem? (i := 0) rfl))
  have Z25 : n0 ≤ h25.size := Nat.le_trans Z0 (Keep.of_wr W25).1
  refine g_aloadN C ir1_9 rfl rfl ?_
  refine g_aloadN C ir1_10 rfl rfl ?_
  refine g_callV C (rmn1 l Z aZ hw a1 bb f_bb cs h25 n0 Z25 E_a1_c25 F_coder_a1_c25 F_value_a1_c25 V_bb_c25 OLD25 S_c (by assumption)) (a := a1) ir1_11 (hw _ (List.mem_of_getElem? (i := 36) rfl)) (hw _ (List.mem_of_getElem? (i := 37) rfl)) (fun s hZ => notFace_of_selects (args := #[]) (mvT hZ (hw _ (List.mem_of_getElem? (i := 39) rfl)))) (hw _ (List.mem_of_getElem? (i := 39) rfl)) (hw _ (List.mem_of_getElem? (i := 38) rfl)) (hw _ (List.mem_of_getElem? (i := 3) rfl)) (hw _ (List.mem_of_getElem? (i := 40) rfl)) (by decide) E_a1_c25 (argsL := []) (rest := [(.ref a0)]) rfl rfl pd2 rfl rfl 1 (Nat.le_of_eq rfl) (by decide) (by decide) (by decide) (by decide) rfl rfl ?_
  rintro _ _ ⟨rfl, he26⟩
  refine Go.heap he26.symm ?_
  refine Go.some' ?_
  refine g_putF C ir1_14 (host := "") (Or.inl (hw _ (List.mem_of_getElem? (i := 47) rfl))) Via.refl F_length_a0_c25 E_a0_c25 (Or.inr ⟨(hw _ (List.mem_of_getElem? (i := 48) rfl)), rfl, hnm⟩) (hw _ (List.mem_of_getElem? (i := 28) rfl)) (ty := .int) (by decide) rfl rfl g_a0 (fun h27 W27 => ?_)
  have E_a0_c27 := Exa.wr W27 E_a0_c25
  have E_a1_c27 := Exa.wr W27 E_a1_c25
  have F_coder_a1_c27 := Fld.other W27 F_coder_a1_c25 (Or.inl (Ne.symm ne_a0_a1))
  have F_value_a1_c27 := Fld.other W27 F_value_a1_c25 (Or.inl (Ne.symm ne_a0_a1))
  have V_bb_c27 := AV.other V_bb_c25 W27 (Ne.symm ne_a0_bb)
  have OLD27 := Old.wr OLD25 W27 g_a0
  have F_text_a0_c27 := Fld.other W27 Fw25 (Or.inr (slot_ne (a0 := aZ) (Or.inr (hw _ (List.mem_of_getElem? (i := 35) rfl))) (Or.inr (hw _ (List.mem_of_getElem? (i := 48) rfl))) (by decide) (t := (.object "java/lang/String")) (t' := .int) (by decide) (by decide)))
  have Fw27 := Fld.same W27 F_length_a0_c25
  have K27 := Keep.wr K25 W27 (Or.inl (List.mem_of_getElem? (i := 0) rfl))
  have Z27 : n0 ≤ h27.size := Nat.le_trans Z25 (Keep.of_wr W27).1
  exact g_retV C ir1_17 rfl (by decide) (by decide) ⟨rfl, K27, E_a0_c27, F_text_a0_c27, Fw27⟩
theorem ic2_0 : I1 jdk_52_method_21_code 0 (.iconst 0) 1 1 := ⟨(by decide +kernel), rfl⟩
theorem ic2_1 : I1 jdk_52_method_21_code 1 (.istore 5) 2 3 := ⟨(by decide +kernel), rfl⟩
theorem ic2_3 : I1 jdk_52_method_21_code 3 (.iload 5) 2 5 := ⟨(by decide +kernel), rfl⟩
theorem ic2_5 : I1 jdk_52_method_21_code 5 (.iload 4) 2 7 := ⟨(by decide +kernel), rfl⟩
theorem ic2_7 : B1 jdk_52_method_21_code 7 (.if_icmp .ge 37) 37 44 10 := ⟨(by decide +kernel), rfl, by decide, by decide⟩
theorem ic2_10 : I1 jdk_52_method_21_code 10 (.aload_n 0) 1 11 := ⟨(by decide +kernel), rfl⟩
theorem ic2_11 : I1 jdk_52_method_21_code 11 (.iload_n 1) 1 12 := ⟨(by decide +kernel), rfl⟩
theorem ic2_12 : I1 jdk_52_method_21_code 12 (.caload) 1 13 := ⟨(by decide +kernel), rfl⟩
theorem ic2_13 : I1 jdk_52_method_21_code 13 (.istore 6) 2 15 := ⟨(by decide +kernel), rfl⟩
theorem ic2_15 : I1 jdk_52_method_21_code 15 (.iload 6) 2 17 := ⟨(by decide +kernel), rfl⟩
theorem ic2_17 : I1 jdk_52_method_21_code 17 (.sipush 255) 3 20 := ⟨(by decide +kernel), rfl⟩
theorem ic2_20 : B1 jdk_52_method_21_code 20 (.if_icmp .le 6) 6 26 23 := ⟨(by decide +kernel), rfl, by decide, by decide⟩
theorem ic2_26 : I1 jdk_52_method_21_code 26 (.aload_n 2) 1 27 := ⟨(by decide +kernel), rfl⟩
theorem ic2_27 : I1 jdk_52_method_21_code 27 (.iload_n 3) 1 28 := ⟨(by decide +kernel), rfl⟩
theorem ic2_28 : I1 jdk_52_method_21_code 28 (.iload 6) 2 30 := ⟨(by decide +kernel), rfl⟩
theorem ic2_30 : I1 jdk_52_method_21_code 30 (.i2b) 1 31 := ⟨(by decide +kernel), rfl⟩
theorem ic2_31 : I1 jdk_52_method_21_code 31 (.bastore) 1 32 := ⟨(by decide +kernel), rfl⟩
theorem ic2_32 : I1 jdk_52_method_21_code 32 (.iinc 1 1) 3 35 := ⟨(by decide +kernel), rfl⟩
theorem ic2_35 : I1 jdk_52_method_21_code 35 (.iinc 3 1) 3 38 := ⟨(by decide +kernel), rfl⟩
theorem ic2_38 : I1 jdk_52_method_21_code 38 (.iinc 5 1) 3 41 := ⟨(by decide +kernel), rfl⟩
theorem ic2_41 : B1 jdk_52_method_21_code 41 (.goto (-38)) (-38) 3 44 := ⟨(by decide +kernel), rfl, by decide, by decide⟩
theorem ic2_44 : I1 jdk_52_method_21_code 44 (.iload 4) 2 46 := ⟨(by decide +kernel), rfl⟩
theorem ic2_46 : I1 jdk_52_method_21_code 46 (.ireturn) 1 47 := ⟨(by decide +kernel), rfl⟩
def vc2_0 (f_a0 : Nat → Int32) (f_a2 : Nat → Int32) : Nat → Int32 := (fun ix => if ix = 0 then (nar .byte ((f_a0 0).toInt8.toInt32)) else f_a2 ix)
def vc2_1 (f_a0 : Nat → Int32) (f_a2 : Nat → Int32) : Nat → Int32 := (fun ix => if ix = 1 then (nar .byte ((f_a0 1).toInt8.toInt32)) else (vc2_0 f_a0 f_a2) ix)
theorem efc2 (m : MethodId) (a0 : Addr) (a2 : Addr) : entryFrame m #[(.ref a0), (.int (0 : Int32)), (.ref a2), (.int (0 : Int32)), (.int (2 : Int32))] 7 = mkF m 0 #[.val (.ref a0), .val (.int (0 : Int32)), .val (.ref a2), .val (.int (0 : Int32)), .val (.int (2 : Int32)), .unset, .unset] [] := by first | (simp [entryFrame, mkF, argsToLocals, Value.category]; done) | rfl
def Qc2 (Z : State) (a0 : Addr) (a2 : Addr) (f_a0 : Nat → Int32) (f_a2 : Nat → Int32) (h0 : Heap) (n0 : Nat) (v : Option Value) (h : Heap) : Prop := v = some (.int (2 : Int32)) ∧ Keep h0 h [a2] ∧ AV Z h a2 .byte 2 (fun ix => .int ((vc2_1 f_a0 f_a2) ix))
set_option maxRecDepth 65536 in
set_option maxHeartbeats 40000000 in
theorem rmc2 (l : Launch) (Z : State) (aZ : Array Value) (hw : ∀ d ∈ tables_1, d.before aZ Z = true) (a0 : Addr) (a2 : Addr) (f_a0 : Nat → Int32) (f_a2 : Nat → Int32) (h0 : Heap) (n0 : Nat) (Z0 : n0 ≤ h0.size) (V_a0 : AV Z h0 a0 .char 2 (fun ix => .int (f_a0 ix))) (V_a2 : AV Z h0 a2 .byte 2 (fun ix => .int (f_a2 ix))) (hk0 : ¬ ((255 : Int32) < (f_a0 0))) (hk1 : ¬ ((255 : Int32) < (f_a0 1))) (g_a2 : n0 ≤ a2) (ne_a0_a2 : a0 ≠ a2) :
    Ctr l Z (⟨"java/lang/StringUTF16", "compress", "([CI[BII)I"⟩ : MethodName) jdk_52_method_21_code 7 (some .int) ({ frames := 0, cells := 0, slots := 0, locals := 0 } : Room) #[(.ref a0), (.int (0 : Int32)), (.ref a2), (.int (0 : Int32)), (.int (2 : Int32))] h0 n0 (Qc2 Z a0 a2 f_a0 f_a2 h0 n0) := by
  refine Ctr.of_go pn6 (fun m => efc2 m a0 a2) ?_
  intro p e s m below meth c hnm C
  refine g_iconst C (0 : Int32) ic2_0 rfl ?_
  refine g_istore C (Ls' := #[.val (.ref a0), .val (.int (0 : Int32)), .val (.ref a2), .val (.int (0 : Int32)), .val (.int (2 : Int32)), .val (.int (0 : Int32)), .unset]) ic2_1 rfl ?_
  refine g_iload C ic2_3 rfl ?_
  refine g_iload C ic2_5 rfl ?_
  refine g_icmp_ge C ic2_7 (fun _ => ?_) (fun q => absurd (by decide) q)
  refine g_aloadN C ic2_10 rfl rfl ?_
  refine g_iloadN C ic2_11 rfl ?_
  refine g_cald C (.int (f_a0 0)) ic2_12 V_a0 ⟨by decide, by decide⟩ rfl ?_
  refine g_istore C (Ls' := #[.val (.ref a0), .val (.int (0 : Int32)), .val (.ref a2), .val (.int (0 : Int32)), .val (.int (2 : Int32)), .val (.int (0 : Int32)), .val (.int (f_a0 0))]) ic2_13 rfl ?_
  refine g_iload C ic2_15 rfl ?_
  refine g_sipush C (255 : Int32) ic2_17 rfl ?_
  refine g_icmp_le C ic2_20 (fun q => absurd q hk0) (fun _ => ?_)
  refine g_aloadN C ic2_26 rfl rfl ?_
  refine g_iloadN C ic2_27 rfl ?_
  refine g_iload C ic2_28 rfl ?_
  refine g_i2b C ic2_30 ?_
  refine g_bastI C ic2_31 V_a2 ⟨by decide, by decide⟩ g_a2 (fun h28 W28 V28 => ?_)
  have V_a0_c28 := AV.other V_a0 W28 ne_a0_a2
  have Vw28 : AV Z h28 a2 .byte 2 (fun ix => .int ((vc2_0 f_a0 f_a2) ix)) := V28
  have K28 := Keep.wr (Keep.refl h0 [a2]) W28 (Or.inl (List.mem_of_getElem? (i := 0) rfl))
  have Z28 : n0 ≤ h28.size := Nat.le_trans Z0 (Keep.of_wr W28).1
  refine g_iinc C (Ls' := #[.val (.ref a0), .val (.int (1 : Int32)), .val (.ref a2), .val (.int (0 : Int32)), .val (.int (2 : Int32)), .val (.int (0 : Int32)), .val (.int (f_a0 0))]) ic2_32 rfl rfl ?_
  refine g_iinc C (Ls' := #[.val (.ref a0), .val (.int (1 : Int32)), .val (.ref a2), .val (.int (1 : Int32)), .val (.int (2 : Int32)), .val (.int (0 : Int32)), .val (.int (f_a0 0))]) ic2_35 rfl rfl ?_
  refine g_iinc C (Ls' := #[.val (.ref a0), .val (.int (1 : Int32)), .val (.ref a2), .val (.int (1 : Int32)), .val (.int (2 : Int32)), .val (.int (1 : Int32)), .val (.int (f_a0 0))]) ic2_38 rfl rfl ?_
  refine g_goto C ic2_41 ?_
  refine g_iload C ic2_3 rfl ?_
  refine g_iload C ic2_5 rfl ?_
  refine g_icmp_ge C ic2_7 (fun _ => ?_) (fun q => absurd (by decide) q)
  refine g_aloadN C ic2_10 rfl rfl ?_
  refine g_iloadN C ic2_11 rfl ?_
  refine g_cald C (.int (f_a0 1)) ic2_12 V_a0_c28 ⟨by decide, by decide⟩ rfl ?_
  refine g_istore C (Ls' := #[.val (.ref a0), .val (.int (1 : Int32)), .val (.ref a2), .val (.int (1 : Int32)), .val (.int (2 : Int32)), .val (.int (1 : Int32)), .val (.int (f_a0 1))]) ic2_13 rfl ?_
  refine g_iload C ic2_15 rfl ?_
  refine g_sipush C (255 : Int32) ic2_17 rfl ?_
  refine g_icmp_le C ic2_20 (fun q => absurd q hk1) (fun _ => ?_)
  refine g_aloadN C ic2_26 rfl rfl ?_
  refine g_iloadN C ic2_27 rfl ?_
  refine g_iload C ic2_28 rfl ?_
  refine g_i2b C ic2_30 ?_
  refine g_bastI C ic2_31 Vw28 ⟨by decide, by decide⟩ g_a2 (fun h29 W29 V29 => ?_)
  have V_a0_c29 := AV.other V_a0_c28 W29 ne_a0_a2
  have Vw29 : AV Z h29 a2 .byte 2 (fun ix => .int ((vc2_1 f_a0 f_a2) ix)) := V29
  have K29 := Keep.wr K28 W29 (Or.inl (List.mem_of_getElem? (i := 0) rfl))
  have Z29 : n0 ≤ h29.size := Nat.le_trans Z28 (Keep.of_wr W29).1
  refine g_iinc C (Ls' := #[.val (.ref a0), .val (.int (2 : Int32)), .val (.ref a2), .val (.int (1 : Int32)), .val (.int (2 : Int32)), .val (.int (1 : Int32)), .val (.int (f_a0 1))]) ic2_32 rfl rfl ?_
  refine g_iinc C (Ls' := #[.val (.ref a0), .val (.int (2 : Int32)), .val (.ref a2), .val (.int (2 : Int32)), .val (.int (2 : Int32)), .val (.int (1 : Int32)), .val (.int (f_a0 1))]) ic2_35 rfl rfl ?_
  refine g_iinc C (Ls' := #[.val (.ref a0), .val (.int (2 : Int32)), .val (.ref a2), .val (.int (2 : Int32)), .val (.int (2 : Int32)), .val (.int (2 : Int32)), .val (.int (f_a0 1))]) ic2_38 rfl rfl ?_
  refine g_goto C ic2_41 ?_
  refine g_iload C ic2_3 rfl ?_
  refine g_iload C ic2_5 rfl ?_
  refine g_icmp_ge C ic2_7 (fun q => absurd q (by decide)) (fun _ => ?_)
  refine g_iload C ic2_44 rfl ?_
  exact g_retInt C ic2_46 rfl (by decide) (by decide) ⟨rfl, K29, AV.congr Vw29 (fun _ _ => rfl)⟩
theorem id2_0 : I1 jdk_52_method_16_code 0 (.iload_n 2) 1 1 := ⟨(by decide +kernel), rfl⟩
theorem id2_1 : I1 jdk_52_method_16_code 1 (.newarray .byte) 2 3 := ⟨(by decide +kernel), rfl⟩
theorem id2_3 : I1 jdk_52_method_16_code 3 (.astore_n 3) 1 4 := ⟨(by decide +kernel), rfl⟩
theorem id2_4 : I1 jdk_52_method_16_code 4 (.aload_n 0) 1 5 := ⟨(by decide +kernel), rfl⟩
theorem id2_5 : I1 jdk_52_method_16_code 5 (.iload_n 1) 1 6 := ⟨(by decide +kernel), rfl⟩
theorem id2_6 : I1 jdk_52_method_16_code 6 (.aload_n 3) 1 7 := ⟨(by decide +kernel), rfl⟩
theorem id2_7 : I1 jdk_52_method_16_code 7 (.iconst 0) 1 8 := ⟨(by decide +kernel), rfl⟩
theorem id2_8 : I1 jdk_52_method_16_code 8 (.iload_n 2) 1 9 := ⟨(by decide +kernel), rfl⟩
theorem id2_9 : I1 jdk_52_method_16_code 9 (.invokestatic 115) 3 12 := ⟨(by decide +kernel), rfl⟩
theorem id2_12 : I1 jdk_52_method_16_code 12 (.istore 4) 2 14 := ⟨(by decide +kernel), rfl⟩
theorem id2_14 : I1 jdk_52_method_16_code 14 (.iload 4) 2 16 := ⟨(by decide +kernel), rfl⟩
theorem id2_16 : I1 jdk_52_method_16_code 16 (.iload_n 2) 1 17 := ⟨(by decide +kernel), rfl⟩
theorem id2_17 : B1 jdk_52_method_16_code 17 (.if_icmp .eq 40) 40 57 20 := ⟨(by decide +kernel), rfl, by decide, by decide⟩
theorem id2_57 : I1 jdk_52_method_16_code 57 (.aload_n 3) 1 58 := ⟨(by decide +kernel), rfl⟩
theorem id2_58 : I1 jdk_52_method_16_code 58 (.areturn) 1 59 := ⟨(by decide +kernel), rfl⟩
theorem efd2 (m : MethodId) (a0 : Addr) : entryFrame m #[(.ref a0), (.int (0 : Int32)), (.int (2 : Int32))] 6 = mkF m 0 #[.val (.ref a0), .val (.int (0 : Int32)), .val (.int (2 : Int32)), .unset, .unset, .unset] [] := by first | (simp [entryFrame, mkF, argsToLocals, Value.category]; done) | rfl
def Qd2 (Z : State) (a0 : Addr) (f_a0 : Nat → Int32) (h0 : Heap) (n0 : Nat) (v : Option Value) (h : Heap) : Prop := ∃ fb0 : Addr, v = some (.ref fb0) ∧ (n0 ≤ fb0 ∧ h0.size ≤ fb0) ∧ Keep h0 h [] ∧ AV Z h fb0 .byte 2 (fun ix => .int ((vc2_1 f_a0 (fun _ => (0 : Int32))) ix))
set_option maxRecDepth 65536 in
set_option maxHeartbeats 40000000 in
theorem rmd2 (l : Launch) (Z : State) (aZ : Array Value) (hw : ∀ d ∈ tables_1, d.before aZ Z = true) (a0 : Addr) (f_a0 : Nat → Int32) (h0 : Heap) (n0 : Nat) (Z0 : n0 ≤ h0.size) (V_a0 : AV Z h0 a0 .char 2 (fun ix => .int (f_a0 ix))) (hk0 : ¬ ((255 : Int32) < (f_a0 0))) (hk1 : ¬ ((255 : Int32) < (f_a0 1))) :
    Ctr l Z (⟨"java/lang/StringUTF16", "compress", "([CII)[B"⟩ : MethodName) jdk_52_method_16_code 6 (some (.array .byte)) ({ frames := 1, cells := 1, slots := 2, locals := 18 } : Room) #[(.ref a0), (.int (0 : Int32)), (.int (2 : Int32))] h0 n0 (Qd2 Z a0 f_a0 h0 n0) := by
  refine Ctr.of_go pn7 (fun m => efd2 m a0) ?_
  intro p e s m below meth c hnm C
  refine g_iloadN C id2_0 rfl ?_
  refine g_newP C id2_1 (hw _ (List.mem_of_getElem? (i := 20) rfl)) (by decide) 2 (by decide) (by decide) (by decide) (by decide) rfl rfl (fun h30 b30 g30 E30 A30 => ?_)
  have ne_a0_b30 : a0 ≠ b30 := Nat.ne_of_lt (Nat.lt_of_lt_of_le V_a0.lt (Nat.le_of_eq g30.symm))
  have ge30 : n0 ≤ b30 := Nat.le_trans Z0 (Nat.le_of_eq g30.symm)
  have fr30 : h0.size ≤ b30 := Nat.le_trans (Keep.refl h0 []).1 (Nat.le_of_eq g30.symm)
  have K30 := Keep.ext (Keep.refl h0 []) E30
  have Z30 : n0 ≤ h30.size := Nat.le_trans Z0 E30.1
  have V_a0_c30 := V_a0.ext E30
  have V30 : AV Z h30 b30 .byte 2 (fun ix => .int ((fun _ => (0 : Int32)) ix)) := A30
  refine g_astoreN C (Ls' := #[.val (.ref a0), .val (.int (0 : Int32)), .val (.int (2 : Int32)), .val (.ref b30), .unset, .unset]) id2_3 rfl rfl ?_
  refine g_aloadN C id2_4 rfl rfl ?_
  refine g_iloadN C id2_5 rfl ?_
  refine g_aloadN C id2_6 rfl rfl ?_
  refine g_iconst C (0 : Int32) id2_7 rfl ?_
  refine g_iloadN C id2_8 rfl ?_
  refine g_callS C (rmc2 l Z aZ hw a0 b30 f_a0 (fun _ => (0 : Int32)) h30 n0 Z30 V_a0_c30 V30 (by assumption) (by assumption) ge30 ne_a0_b30) id2_9 (hw _ (List.mem_of_getElem? (i := 58) rfl)) (hw _ (List.mem_of_getElem? (i := 59) rfl)) (hw _ (List.mem_of_getElem? (i := 56) rfl)) (hw _ (List.mem_of_getElem? (i := 60) rfl)) (by decide) (argsL := [(.ref a0), (.int (0 : Int32)), (.ref b30), (.int (0 : Int32)), (.int (2 : Int32))]) (rest := []) rfl rfl pd3 rfl rfl 0 (Nat.le_of_eq rfl) (by decide) (by decide) (by decide) (by decide) rfl rfl ?_
  rintro _ h31 ⟨rfl, KC31, P31_0⟩
  refine Go.some' ?_
  have V_a0_cC31 := AV.keep V_a0_c30 KC31 (ninS ne_a0_b30 nin0)
  have K31 := Keep.trans K30 KC31 (allS (Or.inr fr30) all0)
  have Z31 : n0 ≤ h31.size := Nat.le_trans Z30 KC31.1
  refine g_istore C (Ls' := #[.val (.ref a0), .val (.int (0 : Int32)), .val (.int (2 : Int32)), .val (.ref b30), .val (.int (2 : Int32)), .unset]) id2_12 rfl ?_
  refine g_iload C id2_14 rfl ?_
  refine g_iloadN C id2_16 rfl ?_
  refine g_icmp_eq C id2_17 (fun _ => ?_) (fun q => absurd (by decide) q)
  refine g_aloadN C id2_57 rfl rfl ?_
  exact g_retRef C (t := (.array .byte)) id2_58 rfl rfl rfl (by decide) (by decide) ⟨b30, rfl, ⟨ge30, fr30⟩, K31, AV.congr P31_0 (fun _ _ => rfl)⟩
theorem if2_0 : I1 jdk_52_method_15_code 0 (.iload_n 1) 1 1 := ⟨(by decide +kernel), rfl⟩
theorem if2_1 : I1 jdk_52_method_15_code 1 (.aload_n 0) 1 2 := ⟨(by decide +kernel), rfl⟩
theorem if2_2 : I1 jdk_52_method_15_code 2 (.arraylength) 1 3 := ⟨(by decide +kernel), rfl⟩
theorem if2_3 : I1 jdk_52_method_15_code 3 (.isub) 1 4 := ⟨(by decide +kernel), rfl⟩
theorem if2_4 : I1 jdk_52_method_15_code 4 (.bipush 31) 2 6 := ⟨(by decide +kernel), rfl⟩
theorem if2_6 : I1 jdk_52_method_15_code 6 (.iushr) 1 7 := ⟨(by decide +kernel), rfl⟩
theorem if2_7 : I1 jdk_52_method_15_code 7 (.i2b) 1 8 := ⟨(by decide +kernel), rfl⟩
theorem if2_8 : I1 jdk_52_method_15_code 8 (.ireturn) 1 9 := ⟨(by decide +kernel), rfl⟩
theorem eff2 (m : MethodId) (a0 : Addr) : entryFrame m #[(.ref a0), (.int (2 : Int32))] 2 = mkF m 0 #[.val (.ref a0), .val (.int (2 : Int32))] [] := by first | (simp [entryFrame, mkF, argsToLocals, Value.category]; done) | rfl
def Qf2 (Z : State) (a0 : Addr) (f_a0 : Nat → Int32) (h0 : Heap) (n0 : Nat) (v : Option Value) (h : Heap) : Prop := v = some (.int (0 : Int32)) ∧ h = h0
set_option maxRecDepth 65536 in
set_option maxHeartbeats 40000000 in
theorem rmf2 (l : Launch) (Z : State) (aZ : Array Value) (hw : ∀ d ∈ tables_1, d.before aZ Z = true) (a0 : Addr) (f_a0 : Nat → Int32) (h0 : Heap) (n0 : Nat) (Z0 : n0 ≤ h0.size) (V_a0 : AV Z h0 a0 .byte 2 (fun ix => .int (f_a0 ix))) :
    Ctr l Z (⟨"java/lang/StringUTF16", "coderFromArrayLen", "([BI)B"⟩ : MethodName) jdk_52_method_15_code 2 (some .byte) ({ frames := 0, cells := 0, slots := 0, locals := 0 } : Room) #[(.ref a0), (.int (2 : Int32))] h0 n0 (Qf2 Z a0 f_a0 h0 n0) := by
  refine Ctr.of_go pn8 (fun m => eff2 m a0) ?_
  intro p e s m below meth c hnm C
  refine g_iloadN C if2_0 rfl ?_
  refine g_aloadN C if2_1 rfl rfl ?_
  refine g_alen C (2 : Int32) if2_2 V_a0 rfl ?_
  refine g_isub C if2_3 ?_
  refine g_bipush C (31 : Int32) if2_4 rfl ?_
  refine g_iushr C if2_6 ?_
  refine g_i2b C if2_7 ?_
  exact g_retNar C (t := .byte) if2_8 rfl (by simp) (by decide) (by decide) ⟨rfl, rfl⟩
theorem ii2_0 : I1 jdk_42_method_149_code 0 (.aload_n 0) 1 1 := ⟨(by decide +kernel), rfl⟩
theorem ii2_1 : I1 jdk_42_method_149_code 1 (.invokespecial 1) 3 4 := ⟨(by decide +kernel), rfl⟩
theorem ii2_4 : I1 jdk_42_method_149_code 4 (.iload_n 3) 1 5 := ⟨(by decide +kernel), rfl⟩
theorem ii2_5 : B1 jdk_42_method_149_code 5 (.ifCond .ne 22) 22 27 8 := ⟨(by decide +kernel), rfl, by decide, by decide⟩
theorem ii2_27 : I1 jdk_42_method_149_code 27 (.getstatic 38) 3 30 := ⟨(by decide +kernel), rfl⟩
theorem ii2_30 : B1 jdk_42_method_149_code 30 (.ifCond .eq 28) 28 58 33 := ⟨(by decide +kernel), rfl, by decide, by decide⟩
theorem ii2_33 : I1 jdk_42_method_149_code 33 (.aload_n 1) 1 34 := ⟨(by decide +kernel), rfl⟩
theorem ii2_34 : I1 jdk_42_method_149_code 34 (.iload_n 2) 1 35 := ⟨(by decide +kernel), rfl⟩
theorem ii2_35 : I1 jdk_42_method_149_code 35 (.iload_n 3) 1 36 := ⟨(by decide +kernel), rfl⟩
theorem ii2_36 : I1 jdk_42_method_149_code 36 (.invokestatic 177) 3 39 := ⟨(by decide +kernel), rfl⟩
theorem ii2_39 : I1 jdk_42_method_149_code 39 (.astore 5) 2 41 := ⟨(by decide +kernel), rfl⟩
theorem ii2_41 : I1 jdk_42_method_149_code 41 (.aload_n 0) 1 42 := ⟨(by decide +kernel), rfl⟩
theorem ii2_42 : I1 jdk_42_method_149_code 42 (.aload 5) 2 44 := ⟨(by decide +kernel), rfl⟩
theorem ii2_44 : I1 jdk_42_method_149_code 44 (.iload_n 3) 1 45 := ⟨(by decide +kernel), rfl⟩
theorem ii2_45 : I1 jdk_42_method_149_code 45 (.invokestatic 47) 3 48 := ⟨(by decide +kernel), rfl⟩
theorem ii2_48 : I1 jdk_42_method_149_code 48 (.putfield 15) 3 51 := ⟨(by decide +kernel), rfl⟩
theorem ii2_51 : I1 jdk_42_method_149_code 51 (.aload_n 0) 1 52 := ⟨(by decide +kernel), rfl⟩
theorem ii2_52 : I1 jdk_42_method_149_code 52 (.aload 5) 2 54 := ⟨(by decide +kernel), rfl⟩
theorem ii2_54 : I1 jdk_42_method_149_code 54 (.putfield 9) 3 57 := ⟨(by decide +kernel), rfl⟩
theorem ii2_57 : I1 jdk_42_method_149_code 57 (.return_) 1 58 := ⟨(by decide +kernel), rfl⟩
theorem efi2 (m : MethodId) (a0 : Addr) (a1 : Addr) : entryFrame m #[(.ref a0), (.ref a1), (.int (0 : Int32)), (.int (2 : Int32)), .null] 6 = mkF m 0 #[.val (.ref a0), .val (.ref a1), .val (.int (0 : Int32)), .val (.int (2 : Int32)), .val .null, .unset] [] := by first | (simp [entryFrame, mkF, argsToLocals, Value.category]; done) | rfl
def Qi2 (Z : State) (a0 : Addr) (a1 : Addr) (f_a1 : Nat → Int32) (cs : Int32) (w_coder_a0 : Int32) (w_value_a0 : Value) (h0 : Heap) (n0 : Nat) (v : Option Value) (h : Heap) : Prop := ∃ fb0 : Addr, v = none ∧ (n0 ≤ fb0 ∧ h0.size ≤ fb0) ∧ Keep h0 h [a0] ∧ AV Z h fb0 .byte 2 (fun ix => .int ((vc2_1 f_a1 (fun _ => (0 : Int32))) ix)) ∧ Exa Z h a0 "java/lang/String" ∧ Fld Z h a0 "java/lang/String" "value" "[B" (.ref fb0) ∧ Fld Z h a0 "java/lang/String" "coder" "B" (.int (0 : Int32))
set_option maxRecDepth 65536 in
set_option maxHeartbeats 40000000 in
theorem rmi2 (l : Launch) (Z : State) (aZ : Array Value) (hw : ∀ d ∈ tables_1, d.before aZ Z = true) (a0 : Addr) (a1 : Addr) (f_a1 : Nat → Int32) (cs : Int32) (w_coder_a0 : Int32) (w_value_a0 : Value) (h0 : Heap) (n0 : Nat) (Z0 : n0 ≤ h0.size) (E_a0 : Exa Z h0 a0 "java/lang/String") (V_a1 : AV Z h0 a1 .char 2 (fun ix => .int (f_a1 ix))) (hk0 : ¬ ((255 : Int32) < (f_a1 0))) (hk1 : ¬ ((255 : Int32) < (f_a1 1))) (OLD : Old Z n0 h0) (S_c : Sta Z Z.heap "java/lang/String" "COMPACT_STRINGS" "Z" (.int cs)) (hcs : ¬ (cs = (0 : Int32))) (F_coder_a0 : Fld Z h0 a0 "java/lang/String" "coder" "B" (.int w_coder_a0)) (g_a0 : n0 ≤ a0) (ne_a0_a1 : a0 ≠ a1) (F_value_a0 : Fld Z h0 a0 "java/lang/String" "value" "[B" w_value_a0) :
    Ctr l Z (⟨"java/lang/String", "<init>", "([CIILjava/lang/Void;)V"⟩ : MethodName) jdk_42_method_149_code 6 none ({ frames := 2, cells := 1, slots := 2, locals := 35 } : Room) #[(.ref a0), (.ref a1), (.int (0 : Int32)), (.int (2 : Int32)), .null] h0 n0 (Qi2 Z a0 a1 f_a1 cs w_coder_a0 w_value_a0 h0 n0) := by
  refine Ctr.of_go pn1 (fun m => efi2 m a0 a1) ?_
  intro p e s m below meth c hnm C
  refine g_aloadN C ii2_0 rfl rfl ?_
  refine g_initO C ii2_1 (hw _ (List.mem_of_getElem? (i := 16) rfl)) (hw _ (List.mem_of_getElem? (i := 17) rfl)) (hw _ (List.mem_of_getElem? (i := 18) rfl)) rfl (by decide) 0 (Nat.le_of_eq rfl) (by decide) ?_
  refine g_iloadN C ii2_4 rfl ?_
  refine g_if_ne C ii2_5 (fun q => absurd q (by decide)) (fun _ => ?_)
  refine g_getS C ii2_27 (host := "") (Or.inl (hw _ (List.mem_of_getElem? (i := 46) rfl))) Via.refl (Sta.ext OLD.2 S_c) ?_
  refine g_if_eq C ii2_30 (fun q => absurd q hcs) (fun _ => ?_)
  refine g_aloadN C ii2_33 rfl rfl ?_
  refine g_iloadN C ii2_34 rfl ?_
  refine g_iloadN C ii2_35 rfl ?_
  refine g_callS C (rmd2 l Z aZ hw a1 f_a1 h0 n0 Z0 V_a1 (by assumption) (by assumption)) ii2_36 (hw _ (List.mem_of_getElem? (i := 54) rfl)) (hw _ (List.mem_of_getElem? (i := 55) rfl)) (hw _ (List.mem_of_getElem? (i := 56) rfl)) (hw _ (List.mem_of_getElem? (i := 57) rfl)) (by decide) (argsL := [(.ref a1), (.int (0 : Int32)), (.int (2 : Int32))]) (rest := []) rfl rfl pd4 rfl rfl 0 (Nat.le_of_eq rfl) (by decide) (by decide) (by decide) (by decide) rfl rfl ?_
  rintro _ h33 ⟨r33_fb0, rfl, ⟨ge33_fb0, fh33_fb0⟩, KC33, P33_0⟩
  refine Go.some' ?_
  have ne_a0_r33_fb0 : a0 ≠ r33_fb0 := Nat.ne_of_lt (Nat.lt_of_lt_of_le F_coder_a0.lt fh33_fb0)
  have ne_a1_r33_fb0 : a1 ≠ r33_fb0 := Nat.ne_of_lt (Nat.lt_of_lt_of_le V_a1.lt fh33_fb0)
  have fr33_fb0 : h0.size ≤ r33_fb0 := Nat.le_trans (Keep.refl h0 [a0]).1 fh33_fb0
  have F_coder_a0_cC33 := Fld.keep F_coder_a0 KC33 nin0
  have F_value_a0_cC33 := Fld.keep F_value_a0 KC33 nin0
  have E_a0_cC33 := Exa.keep E_a0 KC33
  have V_a1_cC33 := AV.keep V_a1 KC33 nin0
  have OLDC33 := Old.keep OLD KC33 all0
  have K33 := Keep.trans (Keep.refl h0 [a0]) KC33 all0
  have Z33 : n0 ≤ h33.size := Nat.le_trans Z0 KC33.1
  refine g_astore C (Ls' := #[.val (.ref a0), .val (.ref a1), .val (.int (0 : Int32)), .val (.int (2 : Int32)), .val .null, .val (.ref r33_fb0)]) ii2_39 rfl rfl ?_
  refine g_aloadN C ii2_41 rfl rfl ?_
  refine g_aload C ii2_42 rfl rfl ?_
  refine g_iloadN C ii2_44 rfl ?_
  refine g_callS C (rmf2 l Z aZ hw r33_fb0 (vc2_1 f_a1 (fun _ => (0 : Int32))) h33 n0 Z33 P33_0) ii2_45 (hw _ (List.mem_of_getElem? (i := 61) rfl)) (hw _ (List.mem_of_getElem? (i := 62) rfl)) (hw _ (List.mem_of_getElem? (i := 56) rfl)) (hw _ (List.mem_of_getElem? (i := 63) rfl)) (by decide) (argsL := [(.ref r33_fb0), (.int (2 : Int32))]) (rest := [(.ref a0)]) rfl rfl pd5 rfl rfl 1 (Nat.le_of_eq rfl) (by decide) (by decide) (by decide) (by decide) rfl rfl ?_
  rintro _ _ ⟨rfl, he34⟩
  refine Go.heap he34.symm ?_
  refine Go.some' ?_
  refine g_putFN C (v' := (.int (0 : Int32))) ii2_48 (hw _ (List.mem_of_getElem? (i := 26) rfl)) Via.refl F_coder_a0_cC33 E_a0_cC33 (Or.inr ⟨(hw _ (List.mem_of_getElem? (i := 22) rfl)), rfl, hnm⟩) (hw _ (List.mem_of_getElem? (i := 2) rfl)) (ty := .byte) (by decide) rfl (by decide) g_a0 (fun h35 W35 => ?_)
  have F_value_a0_c35 := Fld.other W35 F_value_a0_cC33 (Or.inr (slot_ne (a0 := aZ) (Or.inr (hw _ (List.mem_of_getElem? (i := 21) rfl))) (Or.inr (hw _ (List.mem_of_getElem? (i := 22) rfl))) (by decide) (t := (.array .byte)) (t' := .byte) (by decide) (by decide)))
  have E_a0_c35 := Exa.wr W35 E_a0_cC33
  have V_a1_c35 := AV.other V_a1_cC33 W35 (Ne.symm ne_a0_a1)
  have OLD35 := Old.wr OLDC33 W35 g_a0
  have V_r33_fb0_c35 := AV.other P33_0 W35 (Ne.symm ne_a0_r33_fb0)
  have Fw35 := Fld.same W35 F_coder_a0_cC33
  have K35 := Keep.wr K33 W35 (Or.inl (List.mem_of_getElem? (i := 0) rfl))
  have Z35 : n0 ≤ h35.size := Nat.le_trans Z33 (Keep.of_wr W35).1
  refine g_aloadN C ii2_51 rfl rfl ?_
  refine g_aload C ii2_52 rfl rfl ?_
  refine g_putF C ii2_54 (host := "") (Or.inl (hw _ (List.mem_of_getElem? (i := 25) rfl))) Via.refl F_value_a0_c35 E_a0_c35 (Or.inr ⟨(hw _ (List.mem_of_getElem? (i := 21) rfl)), rfl, hnm⟩) (hw _ (List.mem_of_getElem? (i := 2) rfl)) (ty := (.array .byte)) (by decide) rfl rfl g_a0 (fun h36 W36 => ?_)
  have E_a0_c36 := Exa.wr W36 E_a0_c35
  have V_a1_c36 := AV.other V_a1_c35 W36 (Ne.symm ne_a0_a1)
  have OLD36 := Old.wr OLD35 W36 g_a0
  have V_r33_fb0_c36 := AV.other V_r33_fb0_c35 W36 (Ne.symm ne_a0_r33_fb0)
  have F_coder_a0_c36 := Fld.other W36 Fw35 (Or.inr (slot_ne (a0 := aZ) (Or.inr (hw _ (List.mem_of_getElem? (i := 22) rfl))) (Or.inr (hw _ (List.mem_of_getElem? (i := 21) rfl))) (by decide) (t := .byte) (t' := (.array .byte)) (by decide) (by decide)))
  have Fw36 := Fld.same W36 F_value_a0_c35
  have K36 := Keep.wr K35 W36 (Or.inl (List.mem_of_getElem? (i := 0) rfl))
  have Z36 : n0 ≤ h36.size := Nat.le_trans Z35 (Keep.of_wr W36).1
  exact g_retV C ii2_57 rfl (by decide) (by decide) ⟨r33_fb0, rfl, ⟨ge33_fb0, fr33_fb0⟩, K36, AV.congr V_r33_fb0_c36 (fun _ _ => rfl), E_a0_c36, Fw36, F_coder_a0_c36⟩
theorem ij2_0 : I1 jdk_42_method_3_code 0 (.aload_n 0) 1 1 := ⟨(by decide +kernel), rfl⟩
theorem ij2_1 : I1 jdk_42_method_3_code 1 (.aload_n 1) 1 2 := ⟨(by decide +kernel), rfl⟩
theorem ij2_2 : I1 jdk_42_method_3_code 2 (.iconst 0) 1 3 := ⟨(by decide +kernel), rfl⟩
theorem ij2_3 : I1 jdk_42_method_3_code 3 (.aload_n 1) 1 4 := ⟨(by decide +kernel), rfl⟩
theorem ij2_4 : I1 jdk_42_method_3_code 4 (.arraylength) 1 5 := ⟨(by decide +kernel), rfl⟩
theorem ij2_5 : I1 jdk_42_method_3_code 5 (.aconst_null) 1 6 := ⟨(by decide +kernel), rfl⟩
theorem ij2_6 : I1 jdk_42_method_3_code 6 (.invokespecial 27) 3 9 := ⟨(by decide +kernel), rfl⟩
theorem ij2_9 : I1 jdk_42_method_3_code 9 (.return_) 1 10 := ⟨(by decide +kernel), rfl⟩
theorem efj2 (m : MethodId) (a0 : Addr) (a1 : Addr) : entryFrame m #[(.ref a0), (.ref a1)] 2 = mkF m 0 #[.val (.ref a0), .val (.ref a1)] [] := by first | (simp [entryFrame, mkF, argsToLocals, Value.category]; done) | rfl
def Qj2 (Z : State) (a0 : Addr) (a1 : Addr) (f_a1 : Nat → Int32) (cs : Int32) (w_coder_a0 : Int32) (w_value_a0 : Value) (h0 : Heap) (n0 : Nat) (v : Option Value) (h : Heap) : Prop := ∃ fb0 : Addr, v = none ∧ (n0 ≤ fb0 ∧ h0.size ≤ fb0) ∧ Keep h0 h [a0] ∧ AV Z h fb0 .byte 2 (fun ix => .int ((vc2_1 f_a1 (fun _ => (0 : Int32))) ix)) ∧ Exa Z h a0 "java/lang/String" ∧ Fld Z h a0 "java/lang/String" "value" "[B" (.ref fb0) ∧ Fld Z h a0 "java/lang/String" "coder" "B" (.int (0 : Int32))
set_option maxRecDepth 65536 in
set_option maxHeartbeats 40000000 in
theorem rmj2 (l : Launch) (Z : State) (aZ : Array Value) (hw : ∀ d ∈ tables_1, d.before aZ Z = true) (a0 : Addr) (a1 : Addr) (f_a1 : Nat → Int32) (cs : Int32) (w_coder_a0 : Int32) (w_value_a0 : Value) (h0 : Heap) (n0 : Nat) (Z0 : n0 ≤ h0.size) (E_a0 : Exa Z h0 a0 "java/lang/String") (V_a1 : AV Z h0 a1 .char 2 (fun ix => .int (f_a1 ix))) (hk0 : ¬ ((255 : Int32) < (f_a1 0))) (hk1 : ¬ ((255 : Int32) < (f_a1 1))) (OLD : Old Z n0 h0) (S_c : Sta Z Z.heap "java/lang/String" "COMPACT_STRINGS" "Z" (.int cs)) (hcs : ¬ (cs = (0 : Int32))) (F_coder_a0 : Fld Z h0 a0 "java/lang/String" "coder" "B" (.int w_coder_a0)) (g_a0 : n0 ≤ a0) (ne_a0_a1 : a0 ≠ a1) (F_value_a0 : Fld Z h0 a0 "java/lang/String" "value" "[B" w_value_a0) :
    Ctr l Z (⟨"java/lang/String", "<init>", "([C)V"⟩ : MethodName) jdk_42_method_3_code 2 none ({ frames := 3, cells := 1, slots := 2, locals := 52 } : Room) #[(.ref a0), (.ref a1)] h0 n0 (Qj2 Z a0 a1 f_a1 cs w_coder_a0 w_value_a0 h0 n0) := by
  refine Ctr.of_go pn2 (fun m => efj2 m a0 a1) ?_
  intro p e s m below meth c hnm C
  refine g_aloadN C ij2_0 rfl rfl ?_
  refine g_aloadN C ij2_1 rfl rfl ?_
  refine g_iconst C (0 : Int32) ij2_2 rfl ?_
  refine g_aloadN C ij2_3 rfl rfl ?_
  refine g_alen C (2 : Int32) ij2_4 V_a1 rfl ?_
  refine g_aconstNull C ij2_5 ?_
  refine g_callI C (rmi2 l Z aZ hw a0 a1 f_a1 cs w_coder_a0 w_value_a0 h0 n0 Z0 E_a0 V_a1 (by assumption) (by assumption) OLD S_c (by assumption) F_coder_a0 g_a0 ne_a0_a1 F_value_a0) (a := a0) ij2_6 rfl (hw _ (List.mem_of_getElem? (i := 12) rfl)) (hw _ (List.mem_of_getElem? (i := 13) rfl)) (hw _ (List.mem_of_getElem? (i := 3) rfl)) (hw _ (List.mem_of_getElem? (i := 15) rfl)) rfl (by decide) (argsL := [(.ref a1), (.int (0 : Int32)), (.int (2 : Int32)), .null]) (rest := []) rfl rfl pd0 rfl rfl 0 (Nat.le_of_eq rfl) (by decide) (by decide) (by decide) (by decide) rfl rfl ?_
  rintro _ h37 ⟨r37_fb0, rfl, ⟨ge37_fb0, fh37_fb0⟩, KC37, P37_0, P37_1, P37_2, P37_3⟩
  refine Go.none' ?_
  have ne_a0_r37_fb0 : a0 ≠ r37_fb0 := Nat.ne_of_lt (Nat.lt_of_lt_of_le F_coder_a0.lt fh37_fb0)
  have ne_a1_r37_fb0 : a1 ≠ r37_fb0 := Nat.ne_of_lt (Nat.lt_of_lt_of_le V_a1.lt fh37_fb0)
  have fr37_fb0 : h0.size ≤ r37_fb0 := Nat.le_trans (Keep.refl h0 [a0]).1 fh37_fb0
  have E_a0_cC37 := Exa.keep E_a0 KC37
  have V_a1_cC37 := AV.keep V_a1 KC37 (ninS (Ne.symm ne_a0_a1) nin0)
  have OLDC37 := Old.keep OLD KC37 (allS g_a0 all0)
  have K37 := Keep.trans (Keep.refl h0 [a0]) KC37 (allS (Or.inl (List.mem_of_getElem? (i := 0) rfl)) all0)
  have Z37 : n0 ≤ h37.size := Nat.le_trans Z0 KC37.1
  have P37_3 : Fld Z h37 a0 "java/lang/String" "coder" "B" (.int (0 : Int32)) := P37_3
  exact g_retV C ij2_9 rfl (by decide) (by decide) ⟨r37_fb0, rfl, ⟨ge37_fb0, fr37_fb0⟩, K37, AV.congr P37_0 (fun _ _ => rfl), P37_1, P37_2, P37_3⟩
theorem in2_0 : I1 jdk_42_method_54_code 0 (.aload_n 0) 1 1 := ⟨(by decide +kernel), rfl⟩
theorem in2_1 : I1 jdk_42_method_54_code 1 (.getfield 9) 3 4 := ⟨(by decide +kernel), rfl⟩
theorem in2_4 : I1 jdk_42_method_54_code 4 (.arraylength) 1 5 := ⟨(by decide +kernel), rfl⟩
theorem in2_5 : I1 jdk_42_method_54_code 5 (.aload_n 0) 1 6 := ⟨(by decide +kernel), rfl⟩
theorem in2_6 : I1 jdk_42_method_54_code 6 (.invokevirtual 335) 3 9 := ⟨(by decide +kernel), rfl⟩
theorem in2_9 : I1 jdk_42_method_54_code 9 (.ishr) 1 10 := ⟨(by decide +kernel), rfl⟩
theorem in2_10 : I1 jdk_42_method_54_code 10 (.ireturn) 1 11 := ⟨(by decide +kernel), rfl⟩
theorem efn2 (m : MethodId) (a0 : Addr) : entryFrame m #[(.ref a0)] 1 = mkF m 0 #[.val (.ref a0)] [] := by first | (simp [entryFrame, mkF, argsToLocals, Value.category]; done) | rfl
def Qn2 (Z : State) (a0 : Addr) (bb : Addr) (f_bb : Nat → Int32) (cs : Int32) (h0 : Heap) (n0 : Nat) (v : Option Value) (h : Heap) : Prop := v = some (.int (2 : Int32)) ∧ h = h0
set_option maxRecDepth 65536 in
set_option maxHeartbeats 40000000 in
theorem rmn2 (l : Launch) (Z : State) (aZ : Array Value) (hw : ∀ d ∈ tables_1, d.before aZ Z = true) (a0 : Addr) (bb : Addr) (f_bb : Nat → Int32) (cs : Int32) (h0 : Heap) (n0 : Nat) (Z0 : n0 ≤ h0.size) (E_a0 : Exa Z h0 a0 "java/lang/String") (C_a0 : Fld Z h0 a0 "java/lang/String" "coder" "B" (.int (0 : Int32))) (W_a0 : Fld Z h0 a0 "java/lang/String" "value" "[B" (.ref bb)) (V_bb : AV Z h0 bb .byte 2 (fun ix => .int (f_bb ix))) (OLD : Old Z n0 h0) (S_c : Sta Z Z.heap "java/lang/String" "COMPACT_STRINGS" "Z" (.int cs)) (hcs : ¬ (cs = (0 : Int32))) :
    Ctr l Z (⟨"java/lang/String", "length", "()I"⟩ : MethodName) jdk_42_method_54_code 1 (some .int) ({ frames := 1, cells := 0, slots := 0, locals := 13 } : Room) #[(.ref a0)] h0 n0 (Qn2 Z a0 bb f_bb cs h0 n0) := by
  refine Ctr.of_go pn3 (fun m => efn2 m a0) ?_
  intro p e s m below meth c hnm C
  refine g_aloadN C in2_0 rfl rfl ?_
  refine g_getF C in2_1 (host := "") (Or.inl (hw _ (List.mem_of_getElem? (i := 25) rfl))) Via.refl W_a0 ?_
  refine g_alen C (2 : Int32) in2_4 V_bb rfl ?_
  refine g_aloadN C in2_5 rfl rfl ?_
  refine g_callV C (rmk0 l Z aZ hw a0 cs h0 n0 Z0 E_a0 C_a0 OLD S_c (by assumption)) (a := a0) in2_6 (hw _ (List.mem_of_getElem? (i := 41) rfl)) (hw _ (List.mem_of_getElem? (i := 42) rfl)) (fun s hZ => notFace_of_selects (args := #[]) (mvT hZ (hw _ (List.mem_of_getElem? (i := 44) rfl)))) (hw _ (List.mem_of_getElem? (i := 44) rfl)) (hw _ (List.mem_of_getElem? (i := 43) rfl)) (hw _ (List.mem_of_getElem? (i := 3) rfl)) (hw _ (List.mem_of_getElem? (i := 45) rfl)) (by decide) E_a0 (argsL := []) (rest := [(.int (2 : Int32))]) rfl rfl pd1 rfl rfl 1 (Nat.le_of_eq rfl) (by decide) (by decide) (by decide) (by decide) rfl rfl ?_
  rintro _ _ ⟨rfl, he38⟩
  refine Go.heap he38.symm ?_
  refine Go.some' ?_
  refine g_ishr C in2_9 ?_
  exact g_retInt C in2_10 rfl (by decide) (by decide) ⟨rfl, rfl⟩
theorem ih2_0 : I1 method_2_code 0 (.iload_n 0) 1 1 := ⟨(by decide +kernel), rfl⟩
theorem ih2_1 : B1 method_2_code 1 (.ifCond .ne 10) 10 11 4 := ⟨(by decide +kernel), rfl, by decide, by decide⟩
theorem ih2_11 : I1 method_2_code 11 (.iload_n 0) 1 12 := ⟨(by decide +kernel), rfl⟩
theorem ih2_12 : I1 method_2_code 12 (.iconst 1) 1 13 := ⟨(by decide +kernel), rfl⟩
theorem ih2_13 : B1 method_2_code 13 (.if_icmp .ne 14) 14 27 16 := ⟨(by decide +kernel), rfl, by decide, by decide⟩
theorem ih2_27 : I1 method_2_code 27 (.iload_n 0) 1 28 := ⟨(by decide +kernel), rfl⟩
theorem ih2_28 : I1 method_2_code 28 (.iconst 2) 1 29 := ⟨(by decide +kernel), rfl⟩
theorem ih2_29 : B1 method_2_code 29 (.if_icmp .ne 18) 18 47 32 := ⟨(by decide +kernel), rfl, by decide, by decide⟩
theorem ih2_32 : I1 method_2_code 32 (.iconst 2) 1 33 := ⟨(by decide +kernel), rfl⟩
theorem ih2_33 : I1 method_2_code 33 (.newarray .char) 2 35 := ⟨(by decide +kernel), rfl⟩
theorem ih2_35 : I1 method_2_code 35 (.dup) 1 36 := ⟨(by decide +kernel), rfl⟩
theorem ih2_36 : I1 method_2_code 36 (.iconst 0) 1 37 := ⟨(by decide +kernel), rfl⟩
theorem ih2_37 : I1 method_2_code 37 (.iload_n 1) 1 38 := ⟨(by decide +kernel), rfl⟩
theorem ih2_38 : I1 method_2_code 38 (.castore) 1 39 := ⟨(by decide +kernel), rfl⟩
theorem ih2_39 : I1 method_2_code 39 (.dup) 1 40 := ⟨(by decide +kernel), rfl⟩
theorem ih2_40 : I1 method_2_code 40 (.iconst 1) 1 41 := ⟨(by decide +kernel), rfl⟩
theorem ih2_41 : I1 method_2_code 41 (.iload_n 1) 1 42 := ⟨(by decide +kernel), rfl⟩
theorem ih2_42 : I1 method_2_code 42 (.castore) 1 43 := ⟨(by decide +kernel), rfl⟩
theorem ih2_43 : I1 method_2_code 43 (.astore_n 2) 1 44 := ⟨(by decide +kernel), rfl⟩
theorem ih2_44 : B1 method_2_code 44 (.goto 47) 47 91 47 := ⟨(by decide +kernel), rfl, by decide, by decide⟩
theorem ih2_91 : I1 method_2_code 91 (.aload_n 2) 1 92 := ⟨(by decide +kernel), rfl⟩
theorem ih2_92 : I1 method_2_code 92 (.areturn) 1 93 := ⟨(by decide +kernel), rfl⟩
def vh2_0 (p1 : Int32) : Nat → Int32 := (fun ix => if ix = 0 then (nar .char p1) else (fun _ => (0 : Int32)) ix)
def vh2_1 (p1 : Int32) : Nat → Int32 := (fun ix => if ix = 1 then (nar .char p1) else (vh2_0 p1) ix)
theorem efh2 (m : MethodId) (p1 : Int32) : entryFrame m #[(.int (2 : Int32)), (.int p1)] 3 = mkF m 0 #[.val (.int (2 : Int32)), .val (.int p1), .unset] [] := by first | (simp [entryFrame, mkF, argsToLocals, Value.category]; done) | rfl
def Qh2 (Z : State) (p1 : Int32) (h0 : Heap) (n0 : Nat) (v : Option Value) (h : Heap) : Prop := ∃ fb0 : Addr, v = some (.ref fb0) ∧ (n0 ≤ fb0 ∧ h0.size ≤ fb0) ∧ Keep h0 h [] ∧ AV Z h fb0 .char 2 (fun ix => .int ((vh2_1 p1) ix))
set_option maxRecDepth 65536 in
set_option maxHeartbeats 40000000 in
theorem rmh2 (l : Launch) (Z : State) (aZ : Array Value) (hw : ∀ d ∈ tables_1, d.before aZ Z = true) (p1 : Int32) (h0 : Heap) (n0 : Nat) (Z0 : n0 ≤ h0.size) :
    Ctr l Z (⟨"com/example/firm_input/firminput/regex/RegexInputFitsPinLaw", "chars", "(IC)[C"⟩ : MethodName) method_2_code 3 (some (.array .char)) ({ frames := 0, cells := 1, slots := 2, locals := 0 } : Room) #[(.int (2 : Int32)), (.int p1)] h0 n0 (Qh2 Z p1 h0 n0) := by
  refine Ctr.of_go pn4 (fun m => efh2 m p1) ?_
  intro p e s m below meth c hnm C
  refine g_iloadN C ih2_0 rfl ?_
  refine g_if_ne C ih2_1 (fun q => absurd q (by decide)) (fun _ => ?_)
  refine g_iloadN C ih2_11 rfl ?_
  refine g_iconst C (1 : Int32) ih2_12 rfl ?_
  refine g_icmp_ne C ih2_13 (fun q => absurd q (by decide)) (fun _ => ?_)
  refine g_iloadN C ih2_27 rfl ?_
  refine g_iconst C (2 : Int32) ih2_28 rfl ?_
  refine g_icmp_ne C ih2_29 (fun _ => ?_) (fun q => absurd (by decide) q)
  refine g_iconst C (2 : Int32) ih2_32 rfl ?_
  refine g_newP C ih2_33 (hw _ (List.mem_of_getElem? (i := 8) rfl)) (by decide) 2 (by decide) (by decide) (by decide) (by decide) rfl rfl (fun h39 b39 g39 E39 A39 => ?_)
  have ge39 : n0 ≤ b39 := Nat.le_trans Z0 (Nat.le_of_eq g39.symm)
  have fr39 : h0.size ≤ b39 := Nat.le_trans (Keep.refl h0 []).1 (Nat.le_of_eq g39.symm)
  have K39 := Keep.ext (Keep.refl h0 []) E39
  have Z39 : n0 ≤ h39.size := Nat.le_trans Z0 E39.1
  have V39 : AV Z h39 b39 .char 2 (fun ix => .int ((fun _ => (0 : Int32)) ix)) := A39
  refine g_dup C ih2_35 rfl ?_
  refine g_iconst C (0 : Int32) ih2_36 rfl ?_
  refine g_iloadN C ih2_37 rfl ?_
  refine g_castI C ih2_38 V39 ⟨by decide, by decide⟩ ge39 (fun h40 W40 V40 => ?_)
  have Vw40 : AV Z h40 b39 .char 2 (fun ix => .int ((vh2_0 p1) ix)) := V40
  have K40 := Keep.wr K39 W40 (Or.inr fr39)
  have Z40 : n0 ≤ h40.size := Nat.le_trans Z39 (Keep.of_wr W40).1
  refine g_dup C ih2_39 rfl ?_
  refine g_iconst C (1 : Int32) ih2_40 rfl ?_
  refine g_iloadN C ih2_41 rfl ?_
  refine g_castI C ih2_42 Vw40 ⟨by decide, by decide⟩ ge39 (fun h41 W41 V41 => ?_)
  have Vw41 : AV Z h41 b39 .char 2 (fun ix => .int ((vh2_1 p1) ix)) := V41
  have K41 := Keep.wr K40 W41 (Or.inr fr39)
  have Z41 : n0 ≤ h41.size := Nat.le_trans Z40 (Keep.of_wr W41).1
  refine g_astoreN C (Ls' := #[.val (.int (2 : Int32)), .val (.int p1), .val (.ref b39)]) ih2_43 rfl rfl ?_
  refine g_goto C ih2_44 ?_
  refine g_aloadN C ih2_91 rfl rfl ?_
  exact g_retRef C (t := (.array .char)) ih2_92 rfl rfl rfl (by decide) (by decide) ⟨b39, rfl, ⟨ge39, fr39⟩, K41, AV.congr Vw41 (fun _ _ => rfl)⟩
theorem ir2_0 : I1 prog_27_method_1_code 0 (.aload_n 0) 1 1 := ⟨(by decide +kernel), rfl⟩
theorem ir2_1 : I1 prog_27_method_1_code 1 (.invokespecial 1) 3 4 := ⟨(by decide +kernel), rfl⟩
theorem ir2_4 : I1 prog_27_method_1_code 4 (.aload_n 0) 1 5 := ⟨(by decide +kernel), rfl⟩
theorem ir2_5 : I1 prog_27_method_1_code 5 (.aload_n 1) 1 6 := ⟨(by decide +kernel), rfl⟩
theorem ir2_6 : I1 prog_27_method_1_code 6 (.putfield 7) 3 9 := ⟨(by decide +kernel), rfl⟩
theorem ir2_9 : I1 prog_27_method_1_code 9 (.aload_n 0) 1 10 := ⟨(by decide +kernel), rfl⟩
theorem ir2_10 : I1 prog_27_method_1_code 10 (.aload_n 1) 1 11 := ⟨(by decide +kernel), rfl⟩
theorem ir2_11 : I1 prog_27_method_1_code 11 (.invokevirtual 13) 3 14 := ⟨(by decide +kernel), rfl⟩
theorem ir2_14 : I1 prog_27_method_1_code 14 (.putfield 19) 3 17 := ⟨(by decide +kernel), rfl⟩
theorem ir2_17 : I1 prog_27_method_1_code 17 (.return_) 1 18 := ⟨(by decide +kernel), rfl⟩
theorem efr2 (m : MethodId) (a0 : Addr) (a1 : Addr) : entryFrame m #[(.ref a0), (.ref a1)] 2 = mkF m 0 #[.val (.ref a0), .val (.ref a1)] [] := by first | (simp [entryFrame, mkF, argsToLocals, Value.category]; done) | rfl
def Qr2 (Z : State) (a0 : Addr) (a1 : Addr) (bb : Addr) (f_bb : Nat → Int32) (cs : Int32) (w_text_a0 : Value) (w_length_a0 : Int32) (h0 : Heap) (n0 : Nat) (v : Option Value) (h : Heap) : Prop := v = none ∧ Keep h0 h [a0] ∧ Exa Z h a0 "com/example/firm_input/firminput/regex/RegexInput" ∧ Fld Z h a0 "com/example/firm_input/firminput/regex/RegexInput" "text" "Ljava/lang/String;" (.ref a1) ∧ Fld Z h a0 "com/example/firm_input/firminput/regex/RegexInput" "length" "I" (.int (2 : Int32))
set_option maxRecDepth 65536 in
set_option maxHeartbeats 40000000 in
theorem rmr2 (l : Launch) (Z : State) (aZ : Array Value) (hw : ∀ d ∈ tables_1, d.before aZ Z = true) (a0 : Addr) (a1 : Addr) (bb : Addr) (f_bb : Nat → Int32) (cs : Int32) (w_text_a0 : Value) (w_length_a0 : Int32) (h0 : Heap) (n0 : Nat) (Z0 : n0 ≤ h0.size) (E_a0 : Exa Z h0 a0 "com/example/firm_input/firminput/regex/RegexInput") (E_a1 : Exa Z h0 a1 "java/lang/String") (C_a1 : Fld Z h0 a1 "java/lang/String" "coder" "B" (.int (0 : Int32))) (W_a1 : Fld Z h0 a1 "java/lang/String" "value" "[B" (.ref bb)) (V_bb : AV Z h0 bb .byte 2 (fun ix => .int (f_bb ix))) (OLD : Old Z n0 h0) (S_c : Sta Z Z.heap "java/lang/String" "COMPACT_STRINGS" "Z" (.int cs)) (hcs : ¬ (cs = (0 : Int32))) (F_text_a0 : Fld Z h0 a0 "com/example/firm_input/firminput/regex/RegexInput" "text" "Ljava/lang/String;" w_text_a0) (g_a0 : n0 ≤ a0) (ne_a0_a1 : a0 ≠ a1) (ne_a0_bb : a0 ≠ bb) (F_length_a0 : Fld Z h0 a0 "com/example/firm_input/firminput/regex/RegexInput" "length" "I" (.int w_length_a0)) :
    Ctr l Z (⟨"com/example/firm_input/firminput/regex/RegexInput", "<init>", "(Ljava/lang/String;)V"⟩ : MethodName) prog_27_method_1_code 2 none ({ frames := 2, cells := 0, slots := 0, locals := 26 } : Room) #[(.ref a0), (.ref a1)] h0 n0 (Qr2 Z a0 a1 bb f_bb cs w_text_a0 w_length_a0 h0 n0) := by
  refine Ctr.of_go pn5 (fun m => efr2 m a0 a1) ?_
  intro p e s m below meth c hnm C
  refine g_aloadN C ir2_0 rfl rfl ?_
  refine g_initO C ir2_1 (hw _ (List.mem_of_getElem? (i := 33) rfl)) (hw _ (List.mem_of_getElem? (i := 17) rfl)) (hw _ (List.mem_of_getElem? (i := 18) rfl)) rfl (by decide) 0 (Nat.le_of_eq rfl) (by decide) ?_
  refine g_aloadN C ir2_4 rfl rfl ?_
  refine g_aloadN C ir2_5 rfl rfl ?_
  refine g_putF C ir2_6 (host := "") (Or.inl (hw _ (List.mem_of_getElem? (i := 34) rfl))) Via.refl F_text_a0 E_a0 (Or.inr ⟨(hw _ (List.mem_of_getElem? (i := 35) rfl)), rfl, hnm⟩) (hw _ (List.mem_of_getElem? (i := 28) rfl)) (ty := (.object "java/lang/String")) (by decide) rfl rfl g_a0 (fun h43 W43 => ?_)
  have F_length_a0_c43 := Fld.other W43 F_length_a0 (Or.inr (slot_ne (a0 := aZ) (Or.inr (hw _ (List.mem_of_getElem? (i := 48) rfl))) (Or.inr (hw _ (List.mem_of_getElem? (i := 35) rfl))) (by decide) (t := .int) (t' := (.object "java/lang/String")) (by decide) (by decide)))
  have E_a0_c43 := Exa.wr W43 E_a0
  have E_a1_c43 := Exa.wr W43 E_a1
  have F_coder_a1_c43 := Fld.other W43 C_a1 (Or.inl (Ne.symm ne_a0_a1))
  have F_value_a1_c43 := Fld.other W43 W_a1 (Or.inl (Ne.symm ne_a0_a1))
  have V_bb_c43 := AV.other V_bb W43 (Ne.symm ne_a0_bb)
  have OLD43 := Old.wr OLD W43 g_a0
  have Fw43 := Fld.same W43 F_text_a0
  have K43 := Keep.wr (Keep.refl h0 [a0]) W43 (Or.inl (List.mem_of_getElem? (i := 0) rfl))
  have Z43 : n0 ≤ h43.size := Nat.le_trans Z0 (Keep.of_wr W43).1
  refine g_aloadN C ir2_9 rfl rfl ?_
  refine g_aloadN C ir2_10 rfl rfl ?_
  refine g_callV C (rmn2 l Z aZ hw a1 bb f_bb cs h43 n0 Z43 E_a1_c43 F_coder_a1_c43 F_value_a1_c43 V_bb_c43 OLD43 S_c (by assumption)) (a := a1) ir2_11 (hw _ (List.mem_of_getElem? (i := 36) rfl)) (hw _ (List.mem_of_getElem? (i := 37) rfl)) (fun s hZ => notFace_of_selects (args := #[]) (mvT hZ (hw _ (List.mem_of_getElem? (i := 39) rfl)))) (hw _ (List.mem_of_getElem? (i := 39) rfl)) (hw _ (List.mem_of_getElem? (i := 38) rfl)) (hw _ (List.mem_of_getElem? (i := 3) rfl)) (hw _ (List.mem_of_getElem? (i := 40) rfl)) (by decide) E_a1_c43 (argsL := []) (rest := [(.ref a0)]) rfl rfl pd2 rfl rfl 1 (Nat.le_of_eq rfl) (by decide) (by decide) (by decide) (by decide) rfl rfl ?_
  rintro _ _ ⟨rfl, he44⟩
  refine Go.heap he44.symm ?_
  refine Go.some' ?_
  refine g_putF C ir2_14 (host := "") (Or.inl (hw _ (List.mem_of_getElem? (i := 47) rfl))) Via.refl F_length_a0_c43 E_a0_c43 (Or.inr ⟨(hw _ (List.mem_of_getElem? (i := 48) rfl)), rfl, hnm⟩) (hw _ (List.mem_of_getElem? (i := 28) rfl)) (ty := .int) (by decide) rfl rfl g_a0 (fun h45 W45 => ?_)
  have E_a0_c45 := Exa.wr W45 E_a0_c43
  have E_a1_c45 := Exa.wr W45 E_a1_c43
  have F_coder_a1_c45 := Fld.other W45 F_coder_a1_c43 (Or.inl (Ne.symm ne_a0_a1))
  have F_value_a1_c45 := Fld.other W45 F_value_a1_c43 (Or.inl (Ne.symm ne_a0_a1))
  have V_bb_c45 := AV.other V_bb_c43 W45 (Ne.symm ne_a0_bb)
  have OLD45 := Old.wr OLD43 W45 g_a0
  have F_text_a0_c45 := Fld.other W45 Fw43 (Or.inr (slot_ne (a0 := aZ) (Or.inr (hw _ (List.mem_of_getElem? (i := 35) rfl))) (Or.inr (hw _ (List.mem_of_getElem? (i := 48) rfl))) (by decide) (t := (.object "java/lang/String")) (t' := .int) (by decide) (by decide)))
  have Fw45 := Fld.same W45 F_length_a0_c43
  have K45 := Keep.wr K43 W45 (Or.inl (List.mem_of_getElem? (i := 0) rfl))
  have Z45 : n0 ≤ h45.size := Nat.le_trans Z43 (Keep.of_wr W45).1
  exact g_retV C ir2_17 rfl (by decide) (by decide) ⟨rfl, K45, E_a0_c45, F_text_a0_c45, Fw45⟩
theorem ic3_0 : I1 jdk_52_method_21_code 0 (.iconst 0) 1 1 := ⟨(by decide +kernel), rfl⟩
theorem ic3_1 : I1 jdk_52_method_21_code 1 (.istore 5) 2 3 := ⟨(by decide +kernel), rfl⟩
theorem ic3_3 : I1 jdk_52_method_21_code 3 (.iload 5) 2 5 := ⟨(by decide +kernel), rfl⟩
theorem ic3_5 : I1 jdk_52_method_21_code 5 (.iload 4) 2 7 := ⟨(by decide +kernel), rfl⟩
theorem ic3_7 : B1 jdk_52_method_21_code 7 (.if_icmp .ge 37) 37 44 10 := ⟨(by decide +kernel), rfl, by decide, by decide⟩
theorem ic3_10 : I1 jdk_52_method_21_code 10 (.aload_n 0) 1 11 := ⟨(by decide +kernel), rfl⟩
theorem ic3_11 : I1 jdk_52_method_21_code 11 (.iload_n 1) 1 12 := ⟨(by decide +kernel), rfl⟩
theorem ic3_12 : I1 jdk_52_method_21_code 12 (.caload) 1 13 := ⟨(by decide +kernel), rfl⟩
theorem ic3_13 : I1 jdk_52_method_21_code 13 (.istore 6) 2 15 := ⟨(by decide +kernel), rfl⟩
theorem ic3_15 : I1 jdk_52_method_21_code 15 (.iload 6) 2 17 := ⟨(by decide +kernel), rfl⟩
theorem ic3_17 : I1 jdk_52_method_21_code 17 (.sipush 255) 3 20 := ⟨(by decide +kernel), rfl⟩
theorem ic3_20 : B1 jdk_52_method_21_code 20 (.if_icmp .le 6) 6 26 23 := ⟨(by decide +kernel), rfl, by decide, by decide⟩
theorem ic3_26 : I1 jdk_52_method_21_code 26 (.aload_n 2) 1 27 := ⟨(by decide +kernel), rfl⟩
theorem ic3_27 : I1 jdk_52_method_21_code 27 (.iload_n 3) 1 28 := ⟨(by decide +kernel), rfl⟩
theorem ic3_28 : I1 jdk_52_method_21_code 28 (.iload 6) 2 30 := ⟨(by decide +kernel), rfl⟩
theorem ic3_30 : I1 jdk_52_method_21_code 30 (.i2b) 1 31 := ⟨(by decide +kernel), rfl⟩
theorem ic3_31 : I1 jdk_52_method_21_code 31 (.bastore) 1 32 := ⟨(by decide +kernel), rfl⟩
theorem ic3_32 : I1 jdk_52_method_21_code 32 (.iinc 1 1) 3 35 := ⟨(by decide +kernel), rfl⟩
theorem ic3_35 : I1 jdk_52_method_21_code 35 (.iinc 3 1) 3 38 := ⟨(by decide +kernel), rfl⟩
theorem ic3_38 : I1 jdk_52_method_21_code 38 (.iinc 5 1) 3 41 := ⟨(by decide +kernel), rfl⟩
theorem ic3_41 : B1 jdk_52_method_21_code 41 (.goto (-38)) (-38) 3 44 := ⟨(by decide +kernel), rfl, by decide, by decide⟩
theorem ic3_44 : I1 jdk_52_method_21_code 44 (.iload 4) 2 46 := ⟨(by decide +kernel), rfl⟩
theorem ic3_46 : I1 jdk_52_method_21_code 46 (.ireturn) 1 47 := ⟨(by decide +kernel), rfl⟩
def vc3_0 (f_a0 : Nat → Int32) (f_a2 : Nat → Int32) : Nat → Int32 := (fun ix => if ix = 0 then (nar .byte ((f_a0 0).toInt8.toInt32)) else f_a2 ix)
def vc3_1 (f_a0 : Nat → Int32) (f_a2 : Nat → Int32) : Nat → Int32 := (fun ix => if ix = 1 then (nar .byte ((f_a0 1).toInt8.toInt32)) else (vc3_0 f_a0 f_a2) ix)
def vc3_2 (f_a0 : Nat → Int32) (f_a2 : Nat → Int32) : Nat → Int32 := (fun ix => if ix = 2 then (nar .byte ((f_a0 2).toInt8.toInt32)) else (vc3_1 f_a0 f_a2) ix)
theorem efc3 (m : MethodId) (a0 : Addr) (a2 : Addr) : entryFrame m #[(.ref a0), (.int (0 : Int32)), (.ref a2), (.int (0 : Int32)), (.int (3 : Int32))] 7 = mkF m 0 #[.val (.ref a0), .val (.int (0 : Int32)), .val (.ref a2), .val (.int (0 : Int32)), .val (.int (3 : Int32)), .unset, .unset] [] := by first | (simp [entryFrame, mkF, argsToLocals, Value.category]; done) | rfl
def Qc3 (Z : State) (a0 : Addr) (a2 : Addr) (f_a0 : Nat → Int32) (f_a2 : Nat → Int32) (h0 : Heap) (n0 : Nat) (v : Option Value) (h : Heap) : Prop := v = some (.int (3 : Int32)) ∧ Keep h0 h [a2] ∧ AV Z h a2 .byte 3 (fun ix => .int ((vc3_2 f_a0 f_a2) ix))
set_option maxRecDepth 65536 in
set_option maxHeartbeats 40000000 in
theorem rmc3 (l : Launch) (Z : State) (aZ : Array Value) (hw : ∀ d ∈ tables_1, d.before aZ Z = true) (a0 : Addr) (a2 : Addr) (f_a0 : Nat → Int32) (f_a2 : Nat → Int32) (h0 : Heap) (n0 : Nat) (Z0 : n0 ≤ h0.size) (V_a0 : AV Z h0 a0 .char 3 (fun ix => .int (f_a0 ix))) (V_a2 : AV Z h0 a2 .byte 3 (fun ix => .int (f_a2 ix))) (hk0 : ¬ ((255 : Int32) < (f_a0 0))) (hk1 : ¬ ((255 : Int32) < (f_a0 1))) (hk2 : ¬ ((255 : Int32) < (f_a0 2))) (g_a2 : n0 ≤ a2) (ne_a0_a2 : a0 ≠ a2) :
    Ctr l Z (⟨"java/lang/StringUTF16", "compress", "([CI[BII)I"⟩ : MethodName) jdk_52_method_21_code 7 (some .int) ({ frames := 0, cells := 0, slots := 0, locals := 0 } : Room) #[(.ref a0), (.int (0 : Int32)), (.ref a2), (.int (0 : Int32)), (.int (3 : Int32))] h0 n0 (Qc3 Z a0 a2 f_a0 f_a2 h0 n0) := by
  refine Ctr.of_go pn6 (fun m => efc3 m a0 a2) ?_
  intro p e s m below meth c hnm C
  refine g_iconst C (0 : Int32) ic3_0 rfl ?_
  refine g_istore C (Ls' := #[.val (.ref a0), .val (.int (0 : Int32)), .val (.ref a2), .val (.int (0 : Int32)), .val (.int (3 : Int32)), .val (.int (0 : Int32)), .unset]) ic3_1 rfl ?_
  refine g_iload C ic3_3 rfl ?_
  refine g_iload C ic3_5 rfl ?_
  refine g_icmp_ge C ic3_7 (fun _ => ?_) (fun q => absurd (by decide) q)
  refine g_aloadN C ic3_10 rfl rfl ?_
  refine g_iloadN C ic3_11 rfl ?_
  refine g_cald C (.int (f_a0 0)) ic3_12 V_a0 ⟨by decide, by decide⟩ rfl ?_
  refine g_istore C (Ls' := #[.val (.ref a0), .val (.int (0 : Int32)), .val (.ref a2), .val (.int (0 : Int32)), .val (.int (3 : Int32)), .val (.int (0 : Int32)), .val (.int (f_a0 0))]) ic3_13 rfl ?_
  refine g_iload C ic3_15 rfl ?_
  refine g_sipush C (255 : Int32) ic3_17 rfl ?_
  refine g_icmp_le C ic3_20 (fun q => absurd q hk0) (fun _ => ?_)
  refine g_aloadN C ic3_26 rfl rfl ?_
  refine g_iloadN C ic3_27 rfl ?_
  refine g_iload C ic3_28 rfl ?_
  refine g_i2b C ic3_30 ?_
  refine g_bastI C ic3_31 V_a2 ⟨by decide, by decide⟩ g_a2 (fun h46 W46 V46 => ?_)
  have V_a0_c46 := AV.other V_a0 W46 ne_a0_a2
  have Vw46 : AV Z h46 a2 .byte 3 (fun ix => .int ((vc3_0 f_a0 f_a2) ix)) := V46
  have K46 := Keep.wr (Keep.refl h0 [a2]) W46 (Or.inl (List.mem_of_getElem? (i := 0) rfl))
  have Z46 : n0 ≤ h46.size := Nat.le_trans Z0 (Keep.of_wr W46).1
  refine g_iinc C (Ls' := #[.val (.ref a0), .val (.int (1 : Int32)), .val (.ref a2), .val (.int (0 : Int32)), .val (.int (3 : Int32)), .val (.int (0 : Int32)), .val (.int (f_a0 0))]) ic3_32 rfl rfl ?_
  refine g_iinc C (Ls' := #[.val (.ref a0), .val (.int (1 : Int32)), .val (.ref a2), .val (.int (1 : Int32)), .val (.int (3 : Int32)), .val (.int (0 : Int32)), .val (.int (f_a0 0))]) ic3_35 rfl rfl ?_
  refine g_iinc C (Ls' := #[.val (.ref a0), .val (.int (1 : Int32)), .val (.ref a2), .val (.int (1 : Int32)), .val (.int (3 : Int32)), .val (.int (1 : Int32)), .val (.int (f_a0 0))]) ic3_38 rfl rfl ?_
  refine g_goto C ic3_41 ?_
  refine g_iload C ic3_3 rfl ?_
  refine g_iload C ic3_5 rfl ?_
  refine g_icmp_ge C ic3_7 (fun _ => ?_) (fun q => absurd (by decide) q)
  refine g_aloadN C ic3_10 rfl rfl ?_
  refine g_iloadN C ic3_11 rfl ?_
  refine g_cald C (.int (f_a0 1)) ic3_12 V_a0_c46 ⟨by decide, by decide⟩ rfl ?_
  refine g_istore C (Ls' := #[.val (.ref a0), .val (.int (1 : Int32)), .val (.ref a2), .val (.int (1 : Int32)), .val (.int (3 : Int32)), .val (.int (1 : Int32)), .val (.int (f_a0 1))]) ic3_13 rfl ?_
  refine g_iload C ic3_15 rfl ?_
  refine g_sipush C (255 : Int32) ic3_17 rfl ?_
  refine g_icmp_le C ic3_20 (fun q => absurd q hk1) (fun _ => ?_)
  refine g_aloadN C ic3_26 rfl rfl ?_
  refine g_iloadN C ic3_27 rfl ?_
  refine g_iload C ic3_28 rfl ?_
  refine g_i2b C ic3_30 ?_
  refine g_bastI C ic3_31 Vw46 ⟨by decide, by decide⟩ g_a2 (fun h47 W47 V47 => ?_)
  have V_a0_c47 := AV.other V_a0_c46 W47 ne_a0_a2
  have Vw47 : AV Z h47 a2 .byte 3 (fun ix => .int ((vc3_1 f_a0 f_a2) ix)) := V47
  have K47 := Keep.wr K46 W47 (Or.inl (List.mem_of_getElem? (i := 0) rfl))
  have Z47 : n0 ≤ h47.size := Nat.le_trans Z46 (Keep.of_wr W47).1
  refine g_iinc C (Ls' := #[.val (.ref a0), .val (.int (2 : Int32)), .val (.ref a2), .val (.int (1 : Int32)), .val (.int (3 : Int32)), .val (.int (1 : Int32)), .val (.int (f_a0 1))]) ic3_32 rfl rfl ?_
  refine g_iinc C (Ls' := #[.val (.ref a0), .val (.int (2 : Int32)), .val (.ref a2), .val (.int (2 : Int32)), .val (.int (3 : Int32)), .val (.int (1 : Int32)), .val (.int (f_a0 1))]) ic3_35 rfl rfl ?_
  refine g_iinc C (Ls' := #[.val (.ref a0), .val (.int (2 : Int32)), .val (.ref a2), .val (.int (2 : Int32)), .val (.int (3 : Int32)), .val (.int (2 : Int32)), .val (.int (f_a0 1))]) ic3_38 rfl rfl ?_
  refine g_goto C ic3_41 ?_
  refine g_iload C ic3_3 rfl ?_
  refine g_iload C ic3_5 rfl ?_
  refine g_icmp_ge C ic3_7 (fun _ => ?_) (fun q => absurd (by decide) q)
  refine g_aloadN C ic3_10 rfl rfl ?_
  refine g_iloadN C ic3_11 rfl ?_
  refine g_cald C (.int (f_a0 2)) ic3_12 V_a0_c47 ⟨by decide, by decide⟩ rfl ?_
  refine g_istore C (Ls' := #[.val (.ref a0), .val (.int (2 : Int32)), .val (.ref a2), .val (.int (2 : Int32)), .val (.int (3 : Int32)), .val (.int (2 : Int32)), .val (.int (f_a0 2))]) ic3_13 rfl ?_
  refine g_iload C ic3_15 rfl ?_
  refine g_sipush C (255 : Int32) ic3_17 rfl ?_
  refine g_icmp_le C ic3_20 (fun q => absurd q hk2) (fun _ => ?_)
  refine g_aloadN C ic3_26 rfl rfl ?_
  refine g_iloadN C ic3_27 rfl ?_
  refine g_iload C ic3_28 rfl ?_
  refine g_i2b C ic3_30 ?_
  refine g_bastI C ic3_31 Vw47 ⟨by decide, by decide⟩ g_a2 (fun h48 W48 V48 => ?_)
  have V_a0_c48 := AV.other V_a0_c47 W48 ne_a0_a2
  have Vw48 : AV Z h48 a2 .byte 3 (fun ix => .int ((vc3_2 f_a0 f_a2) ix)) := V48
  have K48 := Keep.wr K47 W48 (Or.inl (List.mem_of_getElem? (i := 0) rfl))
  have Z48 : n0 ≤ h48.size := Nat.le_trans Z47 (Keep.of_wr W48).1
  refine g_iinc C (Ls' := #[.val (.ref a0), .val (.int (3 : Int32)), .val (.ref a2), .val (.int (2 : Int32)), .val (.int (3 : Int32)), .val (.int (2 : Int32)), .val (.int (f_a0 2))]) ic3_32 rfl rfl ?_
  refine g_iinc C (Ls' := #[.val (.ref a0), .val (.int (3 : Int32)), .val (.ref a2), .val (.int (3 : Int32)), .val (.int (3 : Int32)), .val (.int (2 : Int32)), .val (.int (f_a0 2))]) ic3_35 rfl rfl ?_
  refine g_iinc C (Ls' := #[.val (.ref a0), .val (.int (3 : Int32)), .val (.ref a2), .val (.int (3 : Int32)), .val (.int (3 : Int32)), .val (.int (3 : Int32)), .val (.int (f_a0 2))]) ic3_38 rfl rfl ?_
  refine g_goto C ic3_41 ?_
  refine g_iload C ic3_3 rfl ?_
  refine g_iload C ic3_5 rfl ?_
  refine g_icmp_ge C ic3_7 (fun q => absurd q (by decide)) (fun _ => ?_)
  refine g_iload C ic3_44 rfl ?_
  exact g_retInt C ic3_46 rfl (by decide) (by decide) ⟨rfl, K48, AV.congr Vw48 (fun _ _ => rfl)⟩
theorem id3_0 : I1 jdk_52_method_16_code 0 (.iload_n 2) 1 1 := ⟨(by decide +kernel), rfl⟩
theorem id3_1 : I1 jdk_52_method_16_code 1 (.newarray .byte) 2 3 := ⟨(by decide +kernel), rfl⟩
theorem id3_3 : I1 jdk_52_method_16_code 3 (.astore_n 3) 1 4 := ⟨(by decide +kernel), rfl⟩
theorem id3_4 : I1 jdk_52_method_16_code 4 (.aload_n 0) 1 5 := ⟨(by decide +kernel), rfl⟩
theorem id3_5 : I1 jdk_52_method_16_code 5 (.iload_n 1) 1 6 := ⟨(by decide +kernel), rfl⟩
theorem id3_6 : I1 jdk_52_method_16_code 6 (.aload_n 3) 1 7 := ⟨(by decide +kernel), rfl⟩
theorem id3_7 : I1 jdk_52_method_16_code 7 (.iconst 0) 1 8 := ⟨(by decide +kernel), rfl⟩
theorem id3_8 : I1 jdk_52_method_16_code 8 (.iload_n 2) 1 9 := ⟨(by decide +kernel), rfl⟩
theorem id3_9 : I1 jdk_52_method_16_code 9 (.invokestatic 115) 3 12 := ⟨(by decide +kernel), rfl⟩
theorem id3_12 : I1 jdk_52_method_16_code 12 (.istore 4) 2 14 := ⟨(by decide +kernel), rfl⟩
theorem id3_14 : I1 jdk_52_method_16_code 14 (.iload 4) 2 16 := ⟨(by decide +kernel), rfl⟩
theorem id3_16 : I1 jdk_52_method_16_code 16 (.iload_n 2) 1 17 := ⟨(by decide +kernel), rfl⟩
theorem id3_17 : B1 jdk_52_method_16_code 17 (.if_icmp .eq 40) 40 57 20 := ⟨(by decide +kernel), rfl, by decide, by decide⟩
theorem id3_57 : I1 jdk_52_method_16_code 57 (.aload_n 3) 1 58 := ⟨(by decide +kernel), rfl⟩
theorem id3_58 : I1 jdk_52_method_16_code 58 (.areturn) 1 59 := ⟨(by decide +kernel), rfl⟩
theorem efd3 (m : MethodId) (a0 : Addr) : entryFrame m #[(.ref a0), (.int (0 : Int32)), (.int (3 : Int32))] 6 = mkF m 0 #[.val (.ref a0), .val (.int (0 : Int32)), .val (.int (3 : Int32)), .unset, .unset, .unset] [] := by first | (simp [entryFrame, mkF, argsToLocals, Value.category]; done) | rfl
def Qd3 (Z : State) (a0 : Addr) (f_a0 : Nat → Int32) (h0 : Heap) (n0 : Nat) (v : Option Value) (h : Heap) : Prop := ∃ fb0 : Addr, v = some (.ref fb0) ∧ (n0 ≤ fb0 ∧ h0.size ≤ fb0) ∧ Keep h0 h [] ∧ AV Z h fb0 .byte 3 (fun ix => .int ((vc3_2 f_a0 (fun _ => (0 : Int32))) ix))
set_option maxRecDepth 65536 in
set_option maxHeartbeats 40000000 in
theorem rmd3 (l : Launch) (Z : State) (aZ : Array Value) (hw : ∀ d ∈ tables_1, d.before aZ Z = true) (a0 : Addr) (f_a0 : Nat → Int32) (h0 : Heap) (n0 : Nat) (Z0 : n0 ≤ h0.size) (V_a0 : AV Z h0 a0 .char 3 (fun ix => .int (f_a0 ix))) (hk0 : ¬ ((255 : Int32) < (f_a0 0))) (hk1 : ¬ ((255 : Int32) < (f_a0 1))) (hk2 : ¬ ((255 : Int32) < (f_a0 2))) :
    Ctr l Z (⟨"java/lang/StringUTF16", "compress", "([CII)[B"⟩ : MethodName) jdk_52_method_16_code 6 (some (.array .byte)) ({ frames := 1, cells := 1, slots := 3, locals := 18 } : Room) #[(.ref a0), (.int (0 : Int32)), (.int (3 : Int32))] h0 n0 (Qd3 Z a0 f_a0 h0 n0) := by
  refine Ctr.of_go pn7 (fun m => efd3 m a0) ?_
  intro p e s m below meth c hnm C
  refine g_iloadN C id3_0 rfl ?_
  refine g_newP C id3_1 (hw _ (List.mem_of_getElem? (i := 20) rfl)) (by decide) 3 (by decide) (by decide) (by decide) (by decide) rfl rfl (fun h49 b49 g49 E49 A49 => ?_)
  have ne_a0_b49 : a0 ≠ b49 := Nat.ne_of_lt (Nat.lt_of_lt_of_le V_a0.lt (Nat.le_of_eq g49.symm))
  have ge49 : n0 ≤ b49 := Nat.le_trans Z0 (Nat.le_of_eq g49.symm)
  have fr49 : h0.size ≤ b49 := Nat.le_trans (Keep.refl h0 []).1 (Nat.le_of_eq g49.symm)
  have K49 := Keep.ext (Keep.refl h0 []) E49
  have Z49 : n0 ≤ h49.size := Nat.le_trans Z0 E49.1
  have V_a0_c49 := V_a0.ext E49
  have V49 : AV Z h49 b49 .byte 3 (fun ix => .int ((fun _ => (0 : Int32)) ix)) := A49
  refine g_astoreN C (Ls' := #[.val (.ref a0), .val (.int (0 : Int32)), .val (.int (3 : Int32)), .val (.ref b49), .unset, .unset]) id3_3 rfl rfl ?_
  refine g_aloadN C id3_4 rfl rfl ?_
  refine g_iloadN C id3_5 rfl ?_
  refine g_aloadN C id3_6 rfl rfl ?_
  refine g_iconst C (0 : Int32) id3_7 rfl ?_
  refine g_iloadN C id3_8 rfl ?_
  refine g_callS C (rmc3 l Z aZ hw a0 b49 f_a0 (fun _ => (0 : Int32)) h49 n0 Z49 V_a0_c49 V49 (by assumption) (by assumption) (by assumption) ge49 ne_a0_b49) id3_9 (hw _ (List.mem_of_getElem? (i := 58) rfl)) (hw _ (List.mem_of_getElem? (i := 59) rfl)) (hw _ (List.mem_of_getElem? (i := 56) rfl)) (hw _ (List.mem_of_getElem? (i := 60) rfl)) (by decide) (argsL := [(.ref a0), (.int (0 : Int32)), (.ref b49), (.int (0 : Int32)), (.int (3 : Int32))]) (rest := []) rfl rfl pd3 rfl rfl 0 (Nat.le_of_eq rfl) (by decide) (by decide) (by decide) (by decide) rfl rfl ?_
  rintro _ h50 ⟨rfl, KC50, P50_0⟩
  refine Go.some' ?_
  have V_a0_cC50 := AV.keep V_a0_c49 KC50 (ninS ne_a0_b49 nin0)
  have K50 := Keep.trans K49 KC50 (allS (Or.inr fr49) all0)
  have Z50 : n0 ≤ h50.size := Nat.le_trans Z49 KC50.1
  refine g_istore C (Ls' := #[.val (.ref a0), .val (.int (0 : Int32)), .val (.int (3 : Int32)), .val (.ref b49), .val (.int (3 : Int32)), .unset]) id3_12 rfl ?_
  refine g_iload C id3_14 rfl ?_
  refine g_iloadN C id3_16 rfl ?_
  refine g_icmp_eq C id3_17 (fun _ => ?_) (fun q => absurd (by decide) q)
  refine g_aloadN C id3_57 rfl rfl ?_
  exact g_retRef C (t := (.array .byte)) id3_58 rfl rfl rfl (by decide) (by decide) ⟨b49, rfl, ⟨ge49, fr49⟩, K50, AV.congr P50_0 (fun _ _ => rfl)⟩
theorem if3_0 : I1 jdk_52_method_15_code 0 (.iload_n 1) 1 1 := ⟨(by decide +kernel), rfl⟩
theorem if3_1 : I1 jdk_52_method_15_code 1 (.aload_n 0) 1 2 := ⟨(by decide +kernel), rfl⟩
theorem if3_2 : I1 jdk_52_method_15_code 2 (.arraylength) 1 3 := ⟨(by decide +kernel), rfl⟩
theorem if3_3 : I1 jdk_52_method_15_code 3 (.isub) 1 4 := ⟨(by decide +kernel), rfl⟩
theorem if3_4 : I1 jdk_52_method_15_code 4 (.bipush 31) 2 6 := ⟨(by decide +kernel), rfl⟩
theorem if3_6 : I1 jdk_52_method_15_code 6 (.iushr) 1 7 := ⟨(by decide +kernel), rfl⟩
theorem if3_7 : I1 jdk_52_method_15_code 7 (.i2b) 1 8 := ⟨(by decide +kernel), rfl⟩
theorem if3_8 : I1 jdk_52_method_15_code 8 (.ireturn) 1 9 := ⟨(by decide +kernel), rfl⟩
theorem eff3 (m : MethodId) (a0 : Addr) : entryFrame m #[(.ref a0), (.int (3 : Int32))] 2 = mkF m 0 #[.val (.ref a0), .val (.int (3 : Int32))] [] := by first | (simp [entryFrame, mkF, argsToLocals, Value.category]; done) | rfl
def Qf3 (Z : State) (a0 : Addr) (f_a0 : Nat → Int32) (h0 : Heap) (n0 : Nat) (v : Option Value) (h : Heap) : Prop := v = some (.int (0 : Int32)) ∧ h = h0
set_option maxRecDepth 65536 in
set_option maxHeartbeats 40000000 in
theorem rmf3 (l : Launch) (Z : State) (aZ : Array Value) (hw : ∀ d ∈ tables_1, d.before aZ Z = true) (a0 : Addr) (f_a0 : Nat → Int32) (h0 : Heap) (n0 : Nat) (Z0 : n0 ≤ h0.size) (V_a0 : AV Z h0 a0 .byte 3 (fun ix => .int (f_a0 ix))) :
    Ctr l Z (⟨"java/lang/StringUTF16", "coderFromArrayLen", "([BI)B"⟩ : MethodName) jdk_52_method_15_code 2 (some .byte) ({ frames := 0, cells := 0, slots := 0, locals := 0 } : Room) #[(.ref a0), (.int (3 : Int32))] h0 n0 (Qf3 Z a0 f_a0 h0 n0) := by
  refine Ctr.of_go pn8 (fun m => eff3 m a0) ?_
  intro p e s m below meth c hnm C
  refine g_iloadN C if3_0 rfl ?_
  refine g_aloadN C if3_1 rfl rfl ?_
  refine g_alen C (3 : Int32) if3_2 V_a0 rfl ?_
  refine g_isub C if3_3 ?_
  refine g_bipush C (31 : Int32) if3_4 rfl ?_
  refine g_iushr C if3_6 ?_
  refine g_i2b C if3_7 ?_
  exact g_retNar C (t := .byte) if3_8 rfl (by simp) (by decide) (by decide) ⟨rfl, rfl⟩
theorem ii3_0 : I1 jdk_42_method_149_code 0 (.aload_n 0) 1 1 := ⟨(by decide +kernel), rfl⟩
theorem ii3_1 : I1 jdk_42_method_149_code 1 (.invokespecial 1) 3 4 := ⟨(by decide +kernel), rfl⟩
theorem ii3_4 : I1 jdk_42_method_149_code 4 (.iload_n 3) 1 5 := ⟨(by decide +kernel), rfl⟩
theorem ii3_5 : B1 jdk_42_method_149_code 5 (.ifCond .ne 22) 22 27 8 := ⟨(by decide +kernel), rfl, by decide, by decide⟩
theorem ii3_27 : I1 jdk_42_method_149_code 27 (.getstatic 38) 3 30 := ⟨(by decide +kernel), rfl⟩
theorem ii3_30 : B1 jdk_42_method_149_code 30 (.ifCond .eq 28) 28 58 33 := ⟨(by decide +kernel), rfl, by decide, by decide⟩
theorem ii3_33 : I1 jdk_42_method_149_code 33 (.aload_n 1) 1 34 := ⟨(by decide +kernel), rfl⟩
theorem ii3_34 : I1 jdk_42_method_149_code 34 (.iload_n 2) 1 35 := ⟨(by decide +kernel), rfl⟩
theorem ii3_35 : I1 jdk_42_method_149_code 35 (.iload_n 3) 1 36 := ⟨(by decide +kernel), rfl⟩
theorem ii3_36 : I1 jdk_42_method_149_code 36 (.invokestatic 177) 3 39 := ⟨(by decide +kernel), rfl⟩
theorem ii3_39 : I1 jdk_42_method_149_code 39 (.astore 5) 2 41 := ⟨(by decide +kernel), rfl⟩
theorem ii3_41 : I1 jdk_42_method_149_code 41 (.aload_n 0) 1 42 := ⟨(by decide +kernel), rfl⟩
theorem ii3_42 : I1 jdk_42_method_149_code 42 (.aload 5) 2 44 := ⟨(by decide +kernel), rfl⟩
theorem ii3_44 : I1 jdk_42_method_149_code 44 (.iload_n 3) 1 45 := ⟨(by decide +kernel), rfl⟩
theorem ii3_45 : I1 jdk_42_method_149_code 45 (.invokestatic 47) 3 48 := ⟨(by decide +kernel), rfl⟩
theorem ii3_48 : I1 jdk_42_method_149_code 48 (.putfield 15) 3 51 := ⟨(by decide +kernel), rfl⟩
theorem ii3_51 : I1 jdk_42_method_149_code 51 (.aload_n 0) 1 52 := ⟨(by decide +kernel), rfl⟩
theorem ii3_52 : I1 jdk_42_method_149_code 52 (.aload 5) 2 54 := ⟨(by decide +kernel), rfl⟩
theorem ii3_54 : I1 jdk_42_method_149_code 54 (.putfield 9) 3 57 := ⟨(by decide +kernel), rfl⟩
theorem ii3_57 : I1 jdk_42_method_149_code 57 (.return_) 1 58 := ⟨(by decide +kernel), rfl⟩
theorem efi3 (m : MethodId) (a0 : Addr) (a1 : Addr) : entryFrame m #[(.ref a0), (.ref a1), (.int (0 : Int32)), (.int (3 : Int32)), .null] 6 = mkF m 0 #[.val (.ref a0), .val (.ref a1), .val (.int (0 : Int32)), .val (.int (3 : Int32)), .val .null, .unset] [] := by first | (simp [entryFrame, mkF, argsToLocals, Value.category]; done) | rfl
def Qi3 (Z : State) (a0 : Addr) (a1 : Addr) (f_a1 : Nat → Int32) (cs : Int32) (w_coder_a0 : Int32) (w_value_a0 : Value) (h0 : Heap) (n0 : Nat) (v : Option Value) (h : Heap) : Prop := ∃ fb0 : Addr, v = none ∧ (n0 ≤ fb0 ∧ h0.size ≤ fb0) ∧ Keep h0 h [a0] ∧ AV Z h fb0 .byte 3 (fun ix => .int ((vc3_2 f_a1 (fun _ => (0 : Int32))) ix)) ∧ Exa Z h a0 "java/lang/String" ∧ Fld Z h a0 "java/lang/String" "value" "[B" (.ref fb0) ∧ Fld Z h a0 "java/lang/String" "coder" "B" (.int (0 : Int32))
set_option maxRecDepth 65536 in
set_option maxHeartbeats 40000000 in
theorem rmi3 (l : Launch) (Z : State) (aZ : Array Value) (hw : ∀ d ∈ tables_1, d.before aZ Z = true) (a0 : Addr) (a1 : Addr) (f_a1 : Nat → Int32) (cs : Int32) (w_coder_a0 : Int32) (w_value_a0 : Value) (h0 : Heap) (n0 : Nat) (Z0 : n0 ≤ h0.size) (E_a0 : Exa Z h0 a0 "java/lang/String") (V_a1 : AV Z h0 a1 .char 3 (fun ix => .int (f_a1 ix))) (hk0 : ¬ ((255 : Int32) < (f_a1 0))) (hk1 : ¬ ((255 : Int32) < (f_a1 1))) (hk2 : ¬ ((255 : Int32) < (f_a1 2))) (OLD : Old Z n0 h0) (S_c : Sta Z Z.heap "java/lang/String" "COMPACT_STRINGS" "Z" (.int cs)) (hcs : ¬ (cs = (0 : Int32))) (F_coder_a0 : Fld Z h0 a0 "java/lang/String" "coder" "B" (.int w_coder_a0)) (g_a0 : n0 ≤ a0) (ne_a0_a1 : a0 ≠ a1) (F_value_a0 : Fld Z h0 a0 "java/lang/String" "value" "[B" w_value_a0) :
    Ctr l Z (⟨"java/lang/String", "<init>", "([CIILjava/lang/Void;)V"⟩ : MethodName) jdk_42_method_149_code 6 none ({ frames := 2, cells := 1, slots := 3, locals := 35 } : Room) #[(.ref a0), (.ref a1), (.int (0 : Int32)), (.int (3 : Int32)), .null] h0 n0 (Qi3 Z a0 a1 f_a1 cs w_coder_a0 w_value_a0 h0 n0) := by
  refine Ctr.of_go pn1 (fun m => efi3 m a0 a1) ?_
  intro p e s m below meth c hnm C
  refine g_aloadN C ii3_0 rfl rfl ?_
  refine g_initO C ii3_1 (hw _ (List.mem_of_getElem? (i := 16) rfl)) (hw _ (List.mem_of_getElem? (i := 17) rfl)) (hw _ (List.mem_of_getElem? (i := 18) rfl)) rfl (by decide) 0 (Nat.le_of_eq rfl) (by decide) ?_
  refine g_iloadN C ii3_4 rfl ?_
  refine g_if_ne C ii3_5 (fun q => absurd q (by decide)) (fun _ => ?_)
  refine g_getS C ii3_27 (host := "") (Or.inl (hw _ (List.mem_of_getElem? (i := 46) rfl))) Via.refl (Sta.ext OLD.2 S_c) ?_
  refine g_if_eq C ii3_30 (fun q => absurd q hcs) (fun _ => ?_)
  refine g_aloadN C ii3_33 rfl rfl ?_
  refine g_iloadN C ii3_34 rfl ?_
  refine g_iloadN C ii3_35 rfl ?_
  refine g_callS C (rmd3 l Z aZ hw a1 f_a1 h0 n0 Z0 V_a1 (by assumption) (by assumption) (by assumption)) ii3_36 (hw _ (List.mem_of_getElem? (i := 54) rfl)) (hw _ (List.mem_of_getElem? (i := 55) rfl)) (hw _ (List.mem_of_getElem? (i := 56) rfl)) (hw _ (List.mem_of_getElem? (i := 57) rfl)) (by decide) (argsL := [(.ref a1), (.int (0 : Int32)), (.int (3 : Int32))]) (rest := []) rfl rfl pd4 rfl rfl 0 (Nat.le_of_eq rfl) (by decide) (by decide) (by decide) (by decide) rfl rfl ?_
  rintro _ h52 ⟨r52_fb0, rfl, ⟨ge52_fb0, fh52_fb0⟩, KC52, P52_0⟩
  refine Go.some' ?_
  have ne_a0_r52_fb0 : a0 ≠ r52_fb0 := Nat.ne_of_lt (Nat.lt_of_lt_of_le F_coder_a0.lt fh52_fb0)
  have ne_a1_r52_fb0 : a1 ≠ r52_fb0 := Nat.ne_of_lt (Nat.lt_of_lt_of_le V_a1.lt fh52_fb0)
  have fr52_fb0 : h0.size ≤ r52_fb0 := Nat.le_trans (Keep.refl h0 [a0]).1 fh52_fb0
  have F_coder_a0_cC52 := Fld.keep F_coder_a0 KC52 nin0
  have F_value_a0_cC52 := Fld.keep F_value_a0 KC52 nin0
  have E_a0_cC52 := Exa.keep E_a0 KC52
  have V_a1_cC52 := AV.keep V_a1 KC52 nin0
  have OLDC52 := Old.keep OLD KC52 all0
  have K52 := Keep.trans (Keep.refl h0 [a0]) KC52 all0
  have Z52 : n0 ≤ h52.size := Nat.le_trans Z0 KC52.1
  refine g_astore C (Ls' := #[.val (.ref a0), .val (.ref a1), .val (.int (0 : Int32)), .val (.int (3 : Int32)), .val .null, .val (.ref r52_fb0)]) ii3_39 rfl rfl ?_
  refine g_aloadN C ii3_41 rfl rfl ?_
  refine g_aload C ii3_42 rfl rfl ?_
  refine g_iloadN C ii3_44 rfl ?_
  refine g_callS C (rmf3 l Z aZ hw r52_fb0 (vc3_2 f_a1 (fun _ => (0 : Int32))) h52 n0 Z52 P52_0) ii3_45 (hw _ (List.mem_of_getElem? (i := 61) rfl)) (hw _ (List.mem_of_getElem? (i := 62) rfl)) (hw _ (List.mem_of_getElem? (i := 56) rfl)) (hw _ (List.mem_of_getElem? (i := 63) rfl)) (by decide) (argsL := [(.ref r52_fb0), (.int (3 : Int32))]) (rest := [(.ref a0)]) rfl rfl pd5 rfl rfl 1 (Nat.le_of_eq rfl) (by decide) (by decide) (by decide) (by decide) rfl rfl ?_
  rintro _ _ ⟨rfl, he53⟩
  refine Go.heap he53.symm ?_
  refine Go.some' ?_
  refine g_putFN C (v' := (.int (0 : Int32))) ii3_48 (hw _ (List.mem_of_getElem? (i := 26) rfl)) Via.refl F_coder_a0_cC52 E_a0_cC52 (Or.inr ⟨(hw _ (List.mem_of_getElem? (i := 22) rfl)), rfl, hnm⟩) (hw _ (List.mem_of_getElem? (i := 2) rfl)) (ty := .byte) (by decide) rfl (by decide) g_a0 (fun h54 W54 => ?_)
  have F_value_a0_c54 := Fld.other W54 F_value_a0_cC52 (Or.inr (slot_ne (a0 := aZ) (Or.inr (hw _ (List.mem_of_getElem? (i := 21) rfl))) (Or.inr (hw _ (List.mem_of_getElem? (i := 22) rfl))) (by decide) (t := (.array .byte)) (t' := .byte) (by decide) (by decide)))
  have E_a0_c54 := Exa.wr W54 E_a0_cC52
  have V_a1_c54 := AV.other V_a1_cC52 W54 (Ne.symm ne_a0_a1)
  have OLD54 := Old.wr OLDC52 W54 g_a0
  have V_r52_fb0_c54 := AV.other P52_0 W54 (Ne.symm ne_a0_r52_fb0)
  have Fw54 := Fld.same W54 F_coder_a0_cC52
  have K54 := Keep.wr K52 W54 (Or.inl (List.mem_of_getElem? (i := 0) rfl))
  have Z54 : n0 ≤ h54.size := Nat.le_trans Z52 (Keep.of_wr W54).1
  refine g_aloadN C ii3_51 rfl rfl ?_
  refine g_aload C ii3_52 rfl rfl ?_
  refine g_putF C ii3_54 (host := "") (Or.inl (hw _ (List.mem_of_getElem? (i := 25) rfl))) Via.refl F_value_a0_c54 E_a0_c54 (Or.inr ⟨(hw _ (List.mem_of_getElem? (i := 21) rfl)), rfl, hnm⟩) (hw _ (List.mem_of_getElem? (i := 2) rfl)) (ty := (.array .byte)) (by decide) rfl rfl g_a0 (fun h55 W55 => ?_)
  have E_a0_c55 := Exa.wr W55 E_a0_c54
  have V_a1_c55 := AV.other V_a1_c54 W55 (Ne.symm ne_a0_a1)
  have OLD55 := Old.wr OLD54 W55 g_a0
  have V_r52_fb0_c55 := AV.other V_r52_fb0_c54 W55 (Ne.symm ne_a0_r52_fb0)
  have F_coder_a0_c55 := Fld.other W55 Fw54 (Or.inr (slot_ne (a0 := aZ) (Or.inr (hw _ (List.mem_of_getElem? (i := 22) rfl))) (Or.inr (hw _ (List.mem_of_getElem? (i := 21) rfl))) (by decide) (t := .byte) (t' := (.array .byte)) (by decide) (by decide)))
  have Fw55 := Fld.same W55 F_value_a0_c54
  have K55 := Keep.wr K54 W55 (Or.inl (List.mem_of_getElem? (i := 0) rfl))
  have Z55 : n0 ≤ h55.size := Nat.le_trans Z54 (Keep.of_wr W55).1
  exact g_retV C ii3_57 rfl (by decide) (by decide) ⟨r52_fb0, rfl, ⟨ge52_fb0, fr52_fb0⟩, K55, AV.congr V_r52_fb0_c55 (fun _ _ => rfl), E_a0_c55, Fw55, F_coder_a0_c55⟩
theorem ij3_0 : I1 jdk_42_method_3_code 0 (.aload_n 0) 1 1 := ⟨(by decide +kernel), rfl⟩
theorem ij3_1 : I1 jdk_42_method_3_code 1 (.aload_n 1) 1 2 := ⟨(by decide +kernel), rfl⟩
theorem ij3_2 : I1 jdk_42_method_3_code 2 (.iconst 0) 1 3 := ⟨(by decide +kernel), rfl⟩
theorem ij3_3 : I1 jdk_42_method_3_code 3 (.aload_n 1) 1 4 := ⟨(by decide +kernel), rfl⟩
theorem ij3_4 : I1 jdk_42_method_3_code 4 (.arraylength) 1 5 := ⟨(by decide +kernel), rfl⟩
theorem ij3_5 : I1 jdk_42_method_3_code 5 (.aconst_null) 1 6 := ⟨(by decide +kernel), rfl⟩
theorem ij3_6 : I1 jdk_42_method_3_code 6 (.invokespecial 27) 3 9 := ⟨(by decide +kernel), rfl⟩
theorem ij3_9 : I1 jdk_42_method_3_code 9 (.return_) 1 10 := ⟨(by decide +kernel), rfl⟩
theorem efj3 (m : MethodId) (a0 : Addr) (a1 : Addr) : entryFrame m #[(.ref a0), (.ref a1)] 2 = mkF m 0 #[.val (.ref a0), .val (.ref a1)] [] := by first | (simp [entryFrame, mkF, argsToLocals, Value.category]; done) | rfl
def Qj3 (Z : State) (a0 : Addr) (a1 : Addr) (f_a1 : Nat → Int32) (cs : Int32) (w_coder_a0 : Int32) (w_value_a0 : Value) (h0 : Heap) (n0 : Nat) (v : Option Value) (h : Heap) : Prop := ∃ fb0 : Addr, v = none ∧ (n0 ≤ fb0 ∧ h0.size ≤ fb0) ∧ Keep h0 h [a0] ∧ AV Z h fb0 .byte 3 (fun ix => .int ((vc3_2 f_a1 (fun _ => (0 : Int32))) ix)) ∧ Exa Z h a0 "java/lang/String" ∧ Fld Z h a0 "java/lang/String" "value" "[B" (.ref fb0) ∧ Fld Z h a0 "java/lang/String" "coder" "B" (.int (0 : Int32))
set_option maxRecDepth 65536 in
set_option maxHeartbeats 40000000 in
theorem rmj3 (l : Launch) (Z : State) (aZ : Array Value) (hw : ∀ d ∈ tables_1, d.before aZ Z = true) (a0 : Addr) (a1 : Addr) (f_a1 : Nat → Int32) (cs : Int32) (w_coder_a0 : Int32) (w_value_a0 : Value) (h0 : Heap) (n0 : Nat) (Z0 : n0 ≤ h0.size) (E_a0 : Exa Z h0 a0 "java/lang/String") (V_a1 : AV Z h0 a1 .char 3 (fun ix => .int (f_a1 ix))) (hk0 : ¬ ((255 : Int32) < (f_a1 0))) (hk1 : ¬ ((255 : Int32) < (f_a1 1))) (hk2 : ¬ ((255 : Int32) < (f_a1 2))) (OLD : Old Z n0 h0) (S_c : Sta Z Z.heap "java/lang/String" "COMPACT_STRINGS" "Z" (.int cs)) (hcs : ¬ (cs = (0 : Int32))) (F_coder_a0 : Fld Z h0 a0 "java/lang/String" "coder" "B" (.int w_coder_a0)) (g_a0 : n0 ≤ a0) (ne_a0_a1 : a0 ≠ a1) (F_value_a0 : Fld Z h0 a0 "java/lang/String" "value" "[B" w_value_a0) :
    Ctr l Z (⟨"java/lang/String", "<init>", "([C)V"⟩ : MethodName) jdk_42_method_3_code 2 none ({ frames := 3, cells := 1, slots := 3, locals := 52 } : Room) #[(.ref a0), (.ref a1)] h0 n0 (Qj3 Z a0 a1 f_a1 cs w_coder_a0 w_value_a0 h0 n0) := by
  refine Ctr.of_go pn2 (fun m => efj3 m a0 a1) ?_
  intro p e s m below meth c hnm C
  refine g_aloadN C ij3_0 rfl rfl ?_
  refine g_aloadN C ij3_1 rfl rfl ?_
  refine g_iconst C (0 : Int32) ij3_2 rfl ?_
  refine g_aloadN C ij3_3 rfl rfl ?_
  refine g_alen C (3 : Int32) ij3_4 V_a1 rfl ?_
  refine g_aconstNull C ij3_5 ?_
  refine g_callI C (rmi3 l Z aZ hw a0 a1 f_a1 cs w_coder_a0 w_value_a0 h0 n0 Z0 E_a0 V_a1 (by assumption) (by assumption) (by assumption) OLD S_c (by assumption) F_coder_a0 g_a0 ne_a0_a1 F_value_a0) (a := a0) ij3_6 rfl (hw _ (List.mem_of_getElem? (i := 12) rfl)) (hw _ (List.mem_of_getElem? (i := 13) rfl)) (hw _ (List.mem_of_getElem? (i := 3) rfl)) (hw _ (List.mem_of_getElem? (i := 15) rfl)) rfl (by decide) (argsL := [(.ref a1), (.int (0 : Int32)), (.int (3 : Int32)), .null]) (rest := []) rfl rfl pd0 rfl rfl 0 (Nat.le_of_eq rfl) (by decide) (by decide) (by decide) (by decide) rfl rfl ?_
  rintro _ h56 ⟨r56_fb0, rfl, ⟨ge56_fb0, fh56_fb0⟩, KC56, P56_0, P56_1, P56_2, P56_3⟩
  refine Go.none' ?_
  have ne_a0_r56_fb0 : a0 ≠ r56_fb0 := Nat.ne_of_lt (Nat.lt_of_lt_of_le F_coder_a0.lt fh56_fb0)
  have ne_a1_r56_fb0 : a1 ≠ r56_fb0 := Nat.ne_of_lt (Nat.lt_of_lt_of_le V_a1.lt fh56_fb0)
  have fr56_fb0 : h0.size ≤ r56_fb0 := Nat.le_trans (Keep.refl h0 [a0]).1 fh56_fb0
  have E_a0_cC56 := Exa.keep E_a0 KC56
  have V_a1_cC56 := AV.keep V_a1 KC56 (ninS (Ne.symm ne_a0_a1) nin0)
  have OLDC56 := Old.keep OLD KC56 (allS g_a0 all0)
  have K56 := Keep.trans (Keep.refl h0 [a0]) KC56 (allS (Or.inl (List.mem_of_getElem? (i := 0) rfl)) all0)
  have Z56 : n0 ≤ h56.size := Nat.le_trans Z0 KC56.1
  have P56_3 : Fld Z h56 a0 "java/lang/String" "coder" "B" (.int (0 : Int32)) := P56_3
  exact g_retV C ij3_9 rfl (by decide) (by decide) ⟨r56_fb0, rfl, ⟨ge56_fb0, fr56_fb0⟩, K56, AV.congr P56_0 (fun _ _ => rfl), P56_1, P56_2, P56_3⟩
theorem in3_0 : I1 jdk_42_method_54_code 0 (.aload_n 0) 1 1 := ⟨(by decide +kernel), rfl⟩
theorem in3_1 : I1 jdk_42_method_54_code 1 (.getfield 9) 3 4 := ⟨(by decide +kernel), rfl⟩
theorem in3_4 : I1 jdk_42_method_54_code 4 (.arraylength) 1 5 := ⟨(by decide +kernel), rfl⟩
theorem in3_5 : I1 jdk_42_method_54_code 5 (.aload_n 0) 1 6 := ⟨(by decide +kernel), rfl⟩
theorem in3_6 : I1 jdk_42_method_54_code 6 (.invokevirtual 335) 3 9 := ⟨(by decide +kernel), rfl⟩
theorem in3_9 : I1 jdk_42_method_54_code 9 (.ishr) 1 10 := ⟨(by decide +kernel), rfl⟩
theorem in3_10 : I1 jdk_42_method_54_code 10 (.ireturn) 1 11 := ⟨(by decide +kernel), rfl⟩
theorem efn3 (m : MethodId) (a0 : Addr) : entryFrame m #[(.ref a0)] 1 = mkF m 0 #[.val (.ref a0)] [] := by first | (simp [entryFrame, mkF, argsToLocals, Value.category]; done) | rfl
def Qn3 (Z : State) (a0 : Addr) (bb : Addr) (f_bb : Nat → Int32) (cs : Int32) (h0 : Heap) (n0 : Nat) (v : Option Value) (h : Heap) : Prop := v = some (.int (3 : Int32)) ∧ h = h0
set_option maxRecDepth 65536 in
set_option maxHeartbeats 40000000 in
theorem rmn3 (l : Launch) (Z : State) (aZ : Array Value) (hw : ∀ d ∈ tables_1, d.before aZ Z = true) (a0 : Addr) (bb : Addr) (f_bb : Nat → Int32) (cs : Int32) (h0 : Heap) (n0 : Nat) (Z0 : n0 ≤ h0.size) (E_a0 : Exa Z h0 a0 "java/lang/String") (C_a0 : Fld Z h0 a0 "java/lang/String" "coder" "B" (.int (0 : Int32))) (W_a0 : Fld Z h0 a0 "java/lang/String" "value" "[B" (.ref bb)) (V_bb : AV Z h0 bb .byte 3 (fun ix => .int (f_bb ix))) (OLD : Old Z n0 h0) (S_c : Sta Z Z.heap "java/lang/String" "COMPACT_STRINGS" "Z" (.int cs)) (hcs : ¬ (cs = (0 : Int32))) :
    Ctr l Z (⟨"java/lang/String", "length", "()I"⟩ : MethodName) jdk_42_method_54_code 1 (some .int) ({ frames := 1, cells := 0, slots := 0, locals := 13 } : Room) #[(.ref a0)] h0 n0 (Qn3 Z a0 bb f_bb cs h0 n0) := by
  refine Ctr.of_go pn3 (fun m => efn3 m a0) ?_
  intro p e s m below meth c hnm C
  refine g_aloadN C in3_0 rfl rfl ?_
  refine g_getF C in3_1 (host := "") (Or.inl (hw _ (List.mem_of_getElem? (i := 25) rfl))) Via.refl W_a0 ?_
  refine g_alen C (3 : Int32) in3_4 V_bb rfl ?_
  refine g_aloadN C in3_5 rfl rfl ?_
  refine g_callV C (rmk0 l Z aZ hw a0 cs h0 n0 Z0 E_a0 C_a0 OLD S_c (by assumption)) (a := a0) in3_6 (hw _ (List.mem_of_getElem? (i := 41) rfl)) (hw _ (List.mem_of_getElem? (i := 42) rfl)) (fun s hZ => notFace_of_selects (args := #[]) (mvT hZ (hw _ (List.mem_of_getElem? (i := 44) rfl)))) (hw _ (List.mem_of_getElem? (i := 44) rfl)) (hw _ (List.mem_of_getElem? (i := 43) rfl)) (hw _ (List.mem_of_getElem? (i := 3) rfl)) (hw _ (List.mem_of_getElem? (i := 45) rfl)) (by decide) E_a0 (argsL := []) (rest := [(.int (3 : Int32))]) rfl rfl pd1 rfl rfl 1 (Nat.le_of_eq rfl) (by decide) (by decide) (by decide) (by decide) rfl rfl ?_
  rintro _ _ ⟨rfl, he57⟩
  refine Go.heap he57.symm ?_
  refine Go.some' ?_
  refine g_ishr C in3_9 ?_
  exact g_retInt C in3_10 rfl (by decide) (by decide) ⟨rfl, rfl⟩
theorem ih3_0 : I1 method_2_code 0 (.iload_n 0) 1 1 := ⟨(by decide +kernel), rfl⟩
theorem ih3_1 : B1 method_2_code 1 (.ifCond .ne 10) 10 11 4 := ⟨(by decide +kernel), rfl, by decide, by decide⟩
theorem ih3_11 : I1 method_2_code 11 (.iload_n 0) 1 12 := ⟨(by decide +kernel), rfl⟩
theorem ih3_12 : I1 method_2_code 12 (.iconst 1) 1 13 := ⟨(by decide +kernel), rfl⟩
theorem ih3_13 : B1 method_2_code 13 (.if_icmp .ne 14) 14 27 16 := ⟨(by decide +kernel), rfl, by decide, by decide⟩
theorem ih3_27 : I1 method_2_code 27 (.iload_n 0) 1 28 := ⟨(by decide +kernel), rfl⟩
theorem ih3_28 : I1 method_2_code 28 (.iconst 2) 1 29 := ⟨(by decide +kernel), rfl⟩
theorem ih3_29 : B1 method_2_code 29 (.if_icmp .ne 18) 18 47 32 := ⟨(by decide +kernel), rfl, by decide, by decide⟩
theorem ih3_47 : I1 method_2_code 47 (.iload_n 0) 1 48 := ⟨(by decide +kernel), rfl⟩
theorem ih3_48 : I1 method_2_code 48 (.iconst 3) 1 49 := ⟨(by decide +kernel), rfl⟩
theorem ih3_49 : B1 method_2_code 49 (.if_icmp .ne 22) 22 71 52 := ⟨(by decide +kernel), rfl, by decide, by decide⟩
theorem ih3_52 : I1 method_2_code 52 (.iconst 3) 1 53 := ⟨(by decide +kernel), rfl⟩
theorem ih3_53 : I1 method_2_code 53 (.newarray .char) 2 55 := ⟨(by decide +kernel), rfl⟩
theorem ih3_55 : I1 method_2_code 55 (.dup) 1 56 := ⟨(by decide +kernel), rfl⟩
theorem ih3_56 : I1 method_2_code 56 (.iconst 0) 1 57 := ⟨(by decide +kernel), rfl⟩
theorem ih3_57 : I1 method_2_code 57 (.iload_n 1) 1 58 := ⟨(by decide +kernel), rfl⟩
theorem ih3_58 : I1 method_2_code 58 (.castore) 1 59 := ⟨(by decide +kernel), rfl⟩
theorem ih3_59 : I1 method_2_code 59 (.dup) 1 60 := ⟨(by decide +kernel), rfl⟩
theorem ih3_60 : I1 method_2_code 60 (.iconst 1) 1 61 := ⟨(by decide +kernel), rfl⟩
theorem ih3_61 : I1 method_2_code 61 (.iload_n 1) 1 62 := ⟨(by decide +kernel), rfl⟩
theorem ih3_62 : I1 method_2_code 62 (.castore) 1 63 := ⟨(by decide +kernel), rfl⟩
theorem ih3_63 : I1 method_2_code 63 (.dup) 1 64 := ⟨(by decide +kernel), rfl⟩
theorem ih3_64 : I1 method_2_code 64 (.iconst 2) 1 65 := ⟨(by decide +kernel), rfl⟩
theorem ih3_65 : I1 method_2_code 65 (.iload_n 1) 1 66 := ⟨(by decide +kernel), rfl⟩
theorem ih3_66 : I1 method_2_code 66 (.castore) 1 67 := ⟨(by decide +kernel), rfl⟩
theorem ih3_67 : I1 method_2_code 67 (.astore_n 2) 1 68 := ⟨(by decide +kernel), rfl⟩
theorem ih3_68 : B1 method_2_code 68 (.goto 23) 23 91 71 := ⟨(by decide +kernel), rfl, by decide, by decide⟩
theorem ih3_91 : I1 method_2_code 91 (.aload_n 2) 1 92 := ⟨(by decide +kernel), rfl⟩
theorem ih3_92 : I1 method_2_code 92 (.areturn) 1 93 := ⟨(by decide +kernel), rfl⟩
def vh3_0 (p1 : Int32) : Nat → Int32 := (fun ix => if ix = 0 then (nar .char p1) else (fun _ => (0 : Int32)) ix)
def vh3_1 (p1 : Int32) : Nat → Int32 := (fun ix => if ix = 1 then (nar .char p1) else (vh3_0 p1) ix)
def vh3_2 (p1 : Int32) : Nat → Int32 := (fun ix => if ix = 2 then (nar .char p1) else (vh3_1 p1) ix)
theorem efh3 (m : MethodId) (p1 : Int32) : entryFrame m #[(.int (3 : Int32)), (.int p1)] 3 = mkF m 0 #[.val (.int (3 : Int32)), .val (.int p1), .unset] [] := by first | (simp [entryFrame, mkF, argsToLocals, Value.category]; done) | rfl
def Qh3 (Z : State) (p1 : Int32) (h0 : Heap) (n0 : Nat) (v : Option Value) (h : Heap) : Prop := ∃ fb0 : Addr, v = some (.ref fb0) ∧ (n0 ≤ fb0 ∧ h0.size ≤ fb0) ∧ Keep h0 h [] ∧ AV Z h fb0 .char 3 (fun ix => .int ((vh3_2 p1) ix))
set_option maxRecDepth 65536 in
set_option maxHeartbeats 40000000 in
theorem rmh3 (l : Launch) (Z : State) (aZ : Array Value) (hw : ∀ d ∈ tables_1, d.before aZ Z = true) (p1 : Int32) (h0 : Heap) (n0 : Nat) (Z0 : n0 ≤ h0.size) :
    Ctr l Z (⟨"com/example/firm_input/firminput/regex/RegexInputFitsPinLaw", "chars", "(IC)[C"⟩ : MethodName) method_2_code 3 (some (.array .char)) ({ frames := 0, cells := 1, slots := 3, locals := 0 } : Room) #[(.int (3 : Int32)), (.int p1)] h0 n0 (Qh3 Z p1 h0 n0) := by
  refine Ctr.of_go pn4 (fun m => efh3 m p1) ?_
  intro p e s m below meth c hnm C
  refine g_iloadN C ih3_0 rfl ?_
  refine g_if_ne C ih3_1 (fun q => absurd q (by decide)) (fun _ => ?_)
  refine g_iloadN C ih3_11 rfl ?_
  refine g_iconst C (1 : Int32) ih3_12 rfl ?_
  refine g_icmp_ne C ih3_13 (fun q => absurd q (by decide)) (fun _ => ?_)
  refine g_iloadN C ih3_27 rfl ?_
  refine g_iconst C (2 : Int32) ih3_28 rfl ?_
  refine g_icmp_ne C ih3_29 (fun q => absurd q (by decide)) (fun _ => ?_)
  refine g_iloadN C ih3_47 rfl ?_
  refine g_iconst C (3 : Int32) ih3_48 rfl ?_
  refine g_icmp_ne C ih3_49 (fun _ => ?_) (fun q => absurd (by decide) q)
  refine g_iconst C (3 : Int32) ih3_52 rfl ?_
  refine g_newP C ih3_53 (hw _ (List.mem_of_getElem? (i := 8) rfl)) (by decide) 3 (by decide) (by decide) (by decide) (by decide) rfl rfl (fun h58 b58 g58 E58 A58 => ?_)
  have ge58 : n0 ≤ b58 := Nat.le_trans Z0 (Nat.le_of_eq g58.symm)
  have fr58 : h0.size ≤ b58 := Nat.le_trans (Keep.refl h0 []).1 (Nat.le_of_eq g58.symm)
  have K58 := Keep.ext (Keep.refl h0 []) E58
  have Z58 : n0 ≤ h58.size := Nat.le_trans Z0 E58.1
  have V58 : AV Z h58 b58 .char 3 (fun ix => .int ((fun _ => (0 : Int32)) ix)) := A58
  refine g_dup C ih3_55 rfl ?_
  refine g_iconst C (0 : Int32) ih3_56 rfl ?_
  refine g_iloadN C ih3_57 rfl ?_
  refine g_castI C ih3_58 V58 ⟨by decide, by decide⟩ ge58 (fun h59 W59 V59 => ?_)
  have Vw59 : AV Z h59 b58 .char 3 (fun ix => .int ((vh3_0 p1) ix)) := V59
  have K59 := Keep.wr K58 W59 (Or.inr fr58)
  have Z59 : n0 ≤ h59.size := Nat.le_trans Z58 (Keep.of_wr W59).1
  refine g_dup C ih3_59 rfl ?_
  refine g_iconst C (1 : Int32) ih3_60 rfl ?_
  refine g_iloadN C ih3_61 rfl ?_
  refine g_castI C ih3_62 Vw59 ⟨by decide, by decide⟩ ge58 (fun h60 W60 V60 => ?_)
  have Vw60 : AV Z h60 b58 .char 3 (fun ix => .int ((vh3_1 p1) ix)) := V60
  have K60 := Keep.wr K59 W60 (Or.inr fr58)
  have Z60 : n0 ≤ h60.size := Nat.le_trans Z59 (Keep.of_wr W60).1
  refine g_dup C ih3_63 rfl ?_
  refine g_iconst C (2 : Int32) ih3_64 rfl ?_
  refine g_iloadN C ih3_65 rfl ?_
  refine g_castI C ih3_66 Vw60 ⟨by decide, by decide⟩ ge58 (fun h61 W61 V61 => ?_)
  have Vw61 : AV Z h61 b58 .char 3 (fun ix => .int ((vh3_2 p1) ix)) := V61
  have K61 := Keep.wr K60 W61 (Or.inr fr58)
  have Z61 : n0 ≤ h61.size := Nat.le_trans Z60 (Keep.of_wr W61).1
  refine g_astoreN C (Ls' := #[.val (.int (3 : Int32)), .val (.int p1), .val (.ref b58)]) ih3_67 rfl rfl ?_
  refine g_goto C ih3_68 ?_
  refine g_aloadN C ih3_91 rfl rfl ?_
  exact g_retRef C (t := (.array .char)) ih3_92 rfl rfl rfl (by decide) (by decide) ⟨b58, rfl, ⟨ge58, fr58⟩, K61, AV.congr Vw61 (fun _ _ => rfl)⟩
theorem ir3_0 : I1 prog_27_method_1_code 0 (.aload_n 0) 1 1 := ⟨(by decide +kernel), rfl⟩
theorem ir3_1 : I1 prog_27_method_1_code 1 (.invokespecial 1) 3 4 := ⟨(by decide +kernel), rfl⟩
theorem ir3_4 : I1 prog_27_method_1_code 4 (.aload_n 0) 1 5 := ⟨(by decide +kernel), rfl⟩
theorem ir3_5 : I1 prog_27_method_1_code 5 (.aload_n 1) 1 6 := ⟨(by decide +kernel), rfl⟩
theorem ir3_6 : I1 prog_27_method_1_code 6 (.putfield 7) 3 9 := ⟨(by decide +kernel), rfl⟩
theorem ir3_9 : I1 prog_27_method_1_code 9 (.aload_n 0) 1 10 := ⟨(by decide +kernel), rfl⟩
theorem ir3_10 : I1 prog_27_method_1_code 10 (.aload_n 1) 1 11 := ⟨(by decide +kernel), rfl⟩
theorem ir3_11 : I1 prog_27_method_1_code 11 (.invokevirtual 13) 3 14 := ⟨(by decide +kernel), rfl⟩
theorem ir3_14 : I1 prog_27_method_1_code 14 (.putfield 19) 3 17 := ⟨(by decide +kernel), rfl⟩
theorem ir3_17 : I1 prog_27_method_1_code 17 (.return_) 1 18 := ⟨(by decide +kernel), rfl⟩
theorem efr3 (m : MethodId) (a0 : Addr) (a1 : Addr) : entryFrame m #[(.ref a0), (.ref a1)] 2 = mkF m 0 #[.val (.ref a0), .val (.ref a1)] [] := by first | (simp [entryFrame, mkF, argsToLocals, Value.category]; done) | rfl
def Qr3 (Z : State) (a0 : Addr) (a1 : Addr) (bb : Addr) (f_bb : Nat → Int32) (cs : Int32) (w_text_a0 : Value) (w_length_a0 : Int32) (h0 : Heap) (n0 : Nat) (v : Option Value) (h : Heap) : Prop := v = none ∧ Keep h0 h [a0] ∧ Exa Z h a0 "com/example/firm_input/firminput/regex/RegexInput" ∧ Fld Z h a0 "com/example/firm_input/firminput/regex/RegexInput" "text" "Ljava/lang/String;" (.ref a1) ∧ Fld Z h a0 "com/example/firm_input/firminput/regex/RegexInput" "length" "I" (.int (3 : Int32))
set_option maxRecDepth 65536 in
set_option maxHeartbeats 40000000 in
theorem rmr3 (l : Launch) (Z : State) (aZ : Array Value) (hw : ∀ d ∈ tables_1, d.before aZ Z = true) (a0 : Addr) (a1 : Addr) (bb : Addr) (f_bb : Nat → Int32) (cs : Int32) (w_text_a0 : Value) (w_length_a0 : Int32) (h0 : Heap) (n0 : Nat) (Z0 : n0 ≤ h0.size) (E_a0 : Exa Z h0 a0 "com/example/firm_input/firminput/regex/RegexInput") (E_a1 : Exa Z h0 a1 "java/lang/String") (C_a1 : Fld Z h0 a1 "java/lang/String" "coder" "B" (.int (0 : Int32))) (W_a1 : Fld Z h0 a1 "java/lang/String" "value" "[B" (.ref bb)) (V_bb : AV Z h0 bb .byte 3 (fun ix => .int (f_bb ix))) (OLD : Old Z n0 h0) (S_c : Sta Z Z.heap "java/lang/String" "COMPACT_STRINGS" "Z" (.int cs)) (hcs : ¬ (cs = (0 : Int32))) (F_text_a0 : Fld Z h0 a0 "com/example/firm_input/firminput/regex/RegexInput" "text" "Ljava/lang/String;" w_text_a0) (g_a0 : n0 ≤ a0) (ne_a0_a1 : a0 ≠ a1) (ne_a0_bb : a0 ≠ bb) (F_length_a0 : Fld Z h0 a0 "com/example/firm_input/firminput/regex/RegexInput" "length" "I" (.int w_length_a0)) :
    Ctr l Z (⟨"com/example/firm_input/firminput/regex/RegexInput", "<init>", "(Ljava/lang/String;)V"⟩ : MethodName) prog_27_method_1_code 2 none ({ frames := 2, cells := 0, slots := 0, locals := 26 } : Room) #[(.ref a0), (.ref a1)] h0 n0 (Qr3 Z a0 a1 bb f_bb cs w_text_a0 w_length_a0 h0 n0) := by
  refine Ctr.of_go pn5 (fun m => efr3 m a0 a1) ?_
  intro p e s m below meth c hnm C
  refine g_aloadN C ir3_0 rfl rfl ?_
  refine g_initO C ir3_1 (hw _ (List.mem_of_getElem? (i := 33) rfl)) (hw _ (List.mem_of_getElem? (i := 17) rfl)) (hw _ (List.mem_of_getElem? (i := 18) rfl)) rfl (by decide) 0 (Nat.le_of_eq rfl) (by decide) ?_
  refine g_aloadN C ir3_4 rfl rfl ?_
  refine g_aloadN C ir3_5 rfl rfl ?_
  refine g_putF C ir3_6 (host := "") (Or.inl (hw _ (List.mem_of_getElem? (i := 34) rfl))) Via.refl F_text_a0 E_a0 (Or.inr ⟨(hw _ (List.mem_of_getElem? (i := 35) rfl)), rfl, hnm⟩) (hw _ (List.mem_of_getElem? (i := 28) rfl)) (ty := (.object "java/lang/String")) (by decide) rfl rfl g_a0 (fun h63 W63 => ?_)
  have F_length_a0_c63 := Fld.other W63 F_length_a0 (Or.inr (slot_ne (a0 := aZ) (Or.inr (hw _ (List.mem_of_getElem? (i := 48) rfl))) (Or.inr (hw _ (List.mem_of_getElem? (i := 35) rfl))) (by decide) (t := .int) (t' := (.object "java/lang/String")) (by decide) (by decide)))
  have E_a0_c63 := Exa.wr W63 E_a0
  have E_a1_c63 := Exa.wr W63 E_a1
  have F_coder_a1_c63 := Fld.other W63 C_a1 (Or.inl (Ne.symm ne_a0_a1))
  have F_value_a1_c63 := Fld.other W63 W_a1 (Or.inl (Ne.symm ne_a0_a1))
  have V_bb_c63 := AV.other V_bb W63 (Ne.symm ne_a0_bb)
  have OLD63 := Old.wr OLD W63 g_a0
  have Fw63 := Fld.same W63 F_text_a0
  have K63 := Keep.wr (Keep.refl h0 [a0]) W63 (Or.inl (List.mem_of_getElem? (i := 0) rfl))
  have Z63 : n0 ≤ h63.size := Nat.le_trans Z0 (Keep.of_wr W63).1
  refine g_aloadN C ir3_9 rfl rfl ?_
  refine g_aloadN C ir3_10 rfl rfl ?_
  refine g_callV C (rmn3 l Z aZ hw a1 bb f_bb cs h63 n0 Z63 E_a1_c63 F_coder_a1_c63 F_value_a1_c63 V_bb_c63 OLD63 S_c (by assumption)) (a := a1) ir3_11 (hw _ (List.mem_of_getElem? (i := 36) rfl)) (hw _ (List.mem_of_getElem? (i := 37) rfl)) (fun s hZ => notFace_of_selects (args := #[]) (mvT hZ (hw _ (List.mem_of_getElem? (i := 39) rfl)))) (hw _ (List.mem_of_getElem? (i := 39) rfl)) (hw _ (List.mem_of_getElem? (i := 38) rfl)) (hw _ (List.mem_of_getElem? (i := 3) rfl)) (hw _ (List.mem_of_getElem? (i := 40) rfl)) (by decide) E_a1_c63 (argsL := []) (rest := [(.ref a0)]) rfl rfl pd2 rfl rfl 1 (Nat.le_of_eq rfl) (by decide) (by decide) (by decide) (by decide) rfl rfl ?_
  rintro _ _ ⟨rfl, he64⟩
  refine Go.heap he64.symm ?_
  refine Go.some' ?_
  refine g_putF C ir3_14 (host := "") (Or.inl (hw _ (List.mem_of_getElem? (i := 47) rfl))) Via.refl F_length_a0_c63 E_a0_c63 (Or.inr ⟨(hw _ (List.mem_of_getElem? (i := 48) rfl)), rfl, hnm⟩) (hw _ (List.mem_of_getElem? (i := 28) rfl)) (ty := .int) (by decide) rfl rfl g_a0 (fun h65 W65 => ?_)
  have E_a0_c65 := Exa.wr W65 E_a0_c63
  have E_a1_c65 := Exa.wr W65 E_a1_c63
  have F_coder_a1_c65 := Fld.other W65 F_coder_a1_c63 (Or.inl (Ne.symm ne_a0_a1))
  have F_value_a1_c65 := Fld.other W65 F_value_a1_c63 (Or.inl (Ne.symm ne_a0_a1))
  have V_bb_c65 := AV.other V_bb_c63 W65 (Ne.symm ne_a0_bb)
  have OLD65 := Old.wr OLD63 W65 g_a0
  have F_text_a0_c65 := Fld.other W65 Fw63 (Or.inr (slot_ne (a0 := aZ) (Or.inr (hw _ (List.mem_of_getElem? (i := 35) rfl))) (Or.inr (hw _ (List.mem_of_getElem? (i := 48) rfl))) (by decide) (t := (.object "java/lang/String")) (t' := .int) (by decide) (by decide)))
  have Fw65 := Fld.same W65 F_length_a0_c63
  have K65 := Keep.wr K63 W65 (Or.inl (List.mem_of_getElem? (i := 0) rfl))
  have Z65 : n0 ≤ h65.size := Nat.le_trans Z63 (Keep.of_wr W65).1
  exact g_retV C ir3_17 rfl (by decide) (by decide) ⟨rfl, K65, E_a0_c65, F_text_a0_c65, Fw65⟩
theorem ic4_0 : I1 jdk_52_method_21_code 0 (.iconst 0) 1 1 := ⟨(by decide +kernel), rfl⟩
theorem ic4_1 : I1 jdk_52_method_21_code 1 (.istore 5) 2 3 := ⟨(by decide +kernel), rfl⟩
theorem ic4_3 : I1 jdk_52_method_21_code 3 (.iload 5) 2 5 := ⟨(by decide +kernel), rfl⟩
theorem ic4_5 : I1 jdk_52_method_21_code 5 (.iload 4) 2 7 := ⟨(by decide +kernel), rfl⟩
theorem ic4_7 : B1 jdk_52_method_21_code 7 (.if_icmp .ge 37) 37 44 10 := ⟨(by decide +kernel), rfl, by decide, by decide⟩
theorem ic4_10 : I1 jdk_52_method_21_code 10 (.aload_n 0) 1 11 := ⟨(by decide +kernel), rfl⟩
theorem ic4_11 : I1 jdk_52_method_21_code 11 (.iload_n 1) 1 12 := ⟨(by decide +kernel), rfl⟩
theorem ic4_12 : I1 jdk_52_method_21_code 12 (.caload) 1 13 := ⟨(by decide +kernel), rfl⟩
theorem ic4_13 : I1 jdk_52_method_21_code 13 (.istore 6) 2 15 := ⟨(by decide +kernel), rfl⟩
theorem ic4_15 : I1 jdk_52_method_21_code 15 (.iload 6) 2 17 := ⟨(by decide +kernel), rfl⟩
theorem ic4_17 : I1 jdk_52_method_21_code 17 (.sipush 255) 3 20 := ⟨(by decide +kernel), rfl⟩
theorem ic4_20 : B1 jdk_52_method_21_code 20 (.if_icmp .le 6) 6 26 23 := ⟨(by decide +kernel), rfl, by decide, by decide⟩
theorem ic4_26 : I1 jdk_52_method_21_code 26 (.aload_n 2) 1 27 := ⟨(by decide +kernel), rfl⟩
theorem ic4_27 : I1 jdk_52_method_21_code 27 (.iload_n 3) 1 28 := ⟨(by decide +kernel), rfl⟩
theorem ic4_28 : I1 jdk_52_method_21_code 28 (.iload 6) 2 30 := ⟨(by decide +kernel), rfl⟩
theorem ic4_30 : I1 jdk_52_method_21_code 30 (.i2b) 1 31 := ⟨(by decide +kernel), rfl⟩
theorem ic4_31 : I1 jdk_52_method_21_code 31 (.bastore) 1 32 := ⟨(by decide +kernel), rfl⟩
theorem ic4_32 : I1 jdk_52_method_21_code 32 (.iinc 1 1) 3 35 := ⟨(by decide +kernel), rfl⟩
theorem ic4_35 : I1 jdk_52_method_21_code 35 (.iinc 3 1) 3 38 := ⟨(by decide +kernel), rfl⟩
theorem ic4_38 : I1 jdk_52_method_21_code 38 (.iinc 5 1) 3 41 := ⟨(by decide +kernel), rfl⟩
theorem ic4_41 : B1 jdk_52_method_21_code 41 (.goto (-38)) (-38) 3 44 := ⟨(by decide +kernel), rfl, by decide, by decide⟩
theorem ic4_44 : I1 jdk_52_method_21_code 44 (.iload 4) 2 46 := ⟨(by decide +kernel), rfl⟩
theorem ic4_46 : I1 jdk_52_method_21_code 46 (.ireturn) 1 47 := ⟨(by decide +kernel), rfl⟩
def vc4_0 (f_a0 : Nat → Int32) (f_a2 : Nat → Int32) : Nat → Int32 := (fun ix => if ix = 0 then (nar .byte ((f_a0 0).toInt8.toInt32)) else f_a2 ix)
def vc4_1 (f_a0 : Nat → Int32) (f_a2 : Nat → Int32) : Nat → Int32 := (fun ix => if ix = 1 then (nar .byte ((f_a0 1).toInt8.toInt32)) else (vc4_0 f_a0 f_a2) ix)
def vc4_2 (f_a0 : Nat → Int32) (f_a2 : Nat → Int32) : Nat → Int32 := (fun ix => if ix = 2 then (nar .byte ((f_a0 2).toInt8.toInt32)) else (vc4_1 f_a0 f_a2) ix)
def vc4_3 (f_a0 : Nat → Int32) (f_a2 : Nat → Int32) : Nat → Int32 := (fun ix => if ix = 3 then (nar .byte ((f_a0 3).toInt8.toInt32)) else (vc4_2 f_a0 f_a2) ix)
theorem efc4 (m : MethodId) (a0 : Addr) (a2 : Addr) : entryFrame m #[(.ref a0), (.int (0 : Int32)), (.ref a2), (.int (0 : Int32)), (.int (4 : Int32))] 7 = mkF m 0 #[.val (.ref a0), .val (.int (0 : Int32)), .val (.ref a2), .val (.int (0 : Int32)), .val (.int (4 : Int32)), .unset, .unset] [] := by first | (simp [entryFrame, mkF, argsToLocals, Value.category]; done) | rfl
def Qc4 (Z : State) (a0 : Addr) (a2 : Addr) (f_a0 : Nat → Int32) (f_a2 : Nat → Int32) (h0 : Heap) (n0 : Nat) (v : Option Value) (h : Heap) : Prop := v = some (.int (4 : Int32)) ∧ Keep h0 h [a2] ∧ AV Z h a2 .byte 4 (fun ix => .int ((vc4_3 f_a0 f_a2) ix))
set_option maxRecDepth 65536 in
set_option maxHeartbeats 40000000 in
theorem rmc4 (l : Launch) (Z : State) (aZ : Array Value) (hw : ∀ d ∈ tables_1, d.before aZ Z = true) (a0 : Addr) (a2 : Addr) (f_a0 : Nat → Int32) (f_a2 : Nat → Int32) (h0 : Heap) (n0 : Nat) (Z0 : n0 ≤ h0.size) (V_a0 : AV Z h0 a0 .char 4 (fun ix => .int (f_a0 ix))) (V_a2 : AV Z h0 a2 .byte 4 (fun ix => .int (f_a2 ix))) (hk0 : ¬ ((255 : Int32) < (f_a0 0))) (hk1 : ¬ ((255 : Int32) < (f_a0 1))) (hk2 : ¬ ((255 : Int32) < (f_a0 2))) (hk3 : ¬ ((255 : Int32) < (f_a0 3))) (g_a2 : n0 ≤ a2) (ne_a0_a2 : a0 ≠ a2) :
    Ctr l Z (⟨"java/lang/StringUTF16", "compress", "([CI[BII)I"⟩ : MethodName) jdk_52_method_21_code 7 (some .int) ({ frames := 0, cells := 0, slots := 0, locals := 0 } : Room) #[(.ref a0), (.int (0 : Int32)), (.ref a2), (.int (0 : Int32)), (.int (4 : Int32))] h0 n0 (Qc4 Z a0 a2 f_a0 f_a2 h0 n0) := by
  refine Ctr.of_go pn6 (fun m => efc4 m a0 a2) ?_
  intro p e s m below meth c hnm C
  refine g_iconst C (0 : Int32) ic4_0 rfl ?_
  refine g_istore C (Ls' := #[.val (.ref a0), .val (.int (0 : Int32)), .val (.ref a2), .val (.int (0 : Int32)), .val (.int (4 : Int32)), .val (.int (0 : Int32)), .unset]) ic4_1 rfl ?_
  refine g_iload C ic4_3 rfl ?_
  refine g_iload C ic4_5 rfl ?_
  refine g_icmp_ge C ic4_7 (fun _ => ?_) (fun q => absurd (by decide) q)
  refine g_aloadN C ic4_10 rfl rfl ?_
  refine g_iloadN C ic4_11 rfl ?_
  refine g_cald C (.int (f_a0 0)) ic4_12 V_a0 ⟨by decide, by decide⟩ rfl ?_
  refine g_istore C (Ls' := #[.val (.ref a0), .val (.int (0 : Int32)), .val (.ref a2), .val (.int (0 : Int32)), .val (.int (4 : Int32)), .val (.int (0 : Int32)), .val (.int (f_a0 0))]) ic4_13 rfl ?_
  refine g_iload C ic4_15 rfl ?_
  refine g_sipush C (255 : Int32) ic4_17 rfl ?_
  refine g_icmp_le C ic4_20 (fun q => absurd q hk0) (fun _ => ?_)
  refine g_aloadN C ic4_26 rfl rfl ?_
  refine g_iloadN C ic4_27 rfl ?_
  refine g_iload C ic4_28 rfl ?_
  refine g_i2b C ic4_30 ?_
  refine g_bastI C ic4_31 V_a2 ⟨by decide, by decide⟩ g_a2 (fun h66 W66 V66 => ?_)
  have V_a0_c66 := AV.other V_a0 W66 ne_a0_a2
  have Vw66 : AV Z h66 a2 .byte 4 (fun ix => .int ((vc4_0 f_a0 f_a2) ix)) := V66
  have K66 := Keep.wr (Keep.refl h0 [a2]) W66 (Or.inl (List.mem_of_getElem? (i := 0) rfl))
  have Z66 : n0 ≤ h66.size := Nat.le_trans Z0 (Keep.of_wr W66).1
  refine g_iinc C (Ls' := #[.val (.ref a0), .val (.int (1 : Int32)), .val (.ref a2), .val (.int (0 : Int32)), .val (.int (4 : Int32)), .val (.int (0 : Int32)), .val (.int (f_a0 0))]) ic4_32 rfl rfl ?_
  refine g_iinc C (Ls' := #[.val (.ref a0), .val (.int (1 : Int32)), .val (.ref a2), .val (.int (1 : Int32)), .val (.int (4 : Int32)), .val (.int (0 : Int32)), .val (.int (f_a0 0))]) ic4_35 rfl rfl ?_
  refine g_iinc C (Ls' := #[.val (.ref a0), .val (.int (1 : Int32)), .val (.ref a2), .val (.int (1 : Int32)), .val (.int (4 : Int32)), .val (.int (1 : Int32)), .val (.int (f_a0 0))]) ic4_38 rfl rfl ?_
  refine g_goto C ic4_41 ?_
  refine g_iload C ic4_3 rfl ?_
  refine g_iload C ic4_5 rfl ?_
  refine g_icmp_ge C ic4_7 (fun _ => ?_) (fun q => absurd (by decide) q)
  refine g_aloadN C ic4_10 rfl rfl ?_
  refine g_iloadN C ic4_11 rfl ?_
  refine g_cald C (.int (f_a0 1)) ic4_12 V_a0_c66 ⟨by decide, by decide⟩ rfl ?_
  refine g_istore C (Ls' := #[.val (.ref a0), .val (.int (1 : Int32)), .val (.ref a2), .val (.int (1 : Int32)), .val (.int (4 : Int32)), .val (.int (1 : Int32)), .val (.int (f_a0 1))]) ic4_13 rfl ?_
  refine g_iload C ic4_15 rfl ?_
  refine g_sipush C (255 : Int32) ic4_17 rfl ?_
  refine g_icmp_le C ic4_20 (fun q => absurd q hk1) (fun _ => ?_)
  refine g_aloadN C ic4_26 rfl rfl ?_
  refine g_iloadN C ic4_27 rfl ?_
  refine g_iload C ic4_28 rfl ?_
  refine g_i2b C ic4_30 ?_
  refine g_bastI C ic4_31 Vw66 ⟨by decide, by decide⟩ g_a2 (fun h67 W67 V67 => ?_)
  have V_a0_c67 := AV.other V_a0_c66 W67 ne_a0_a2
  have Vw67 : AV Z h67 a2 .byte 4 (fun ix => .int ((vc4_1 f_a0 f_a2) ix)) := V67
  have K67 := Keep.wr K66 W67 (Or.inl (List.mem_of_getElem? (i := 0) rfl))
  have Z67 : n0 ≤ h67.size := Nat.le_trans Z66 (Keep.of_wr W67).1
  refine g_iinc C (Ls' := #[.val (.ref a0), .val (.int (2 : Int32)), .val (.ref a2), .val (.int (1 : Int32)), .val (.int (4 : Int32)), .val (.int (1 : Int32)), .val (.int (f_a0 1))]) ic4_32 rfl rfl ?_
  refine g_iinc C (Ls' := #[.val (.ref a0), .val (.int (2 : Int32)), .val (.ref a2), .val (.int (2 : Int32)), .val (.int (4 : Int32)), .val (.int (1 : Int32)), .val (.int (f_a0 1))]) ic4_35 rfl rfl ?_
  refine g_iinc C (Ls' := #[.val (.ref a0), .val (.int (2 : Int32)), .val (.ref a2), .val (.int (2 : Int32)), .val (.int (4 : Int32)), .val (.int (2 : Int32)), .val (.int (f_a0 1))]) ic4_38 rfl rfl ?_
  refine g_goto C ic4_41 ?_
  refine g_iload C ic4_3 rfl ?_
  refine g_iload C ic4_5 rfl ?_
  refine g_icmp_ge C ic4_7 (fun _ => ?_) (fun q => absurd (by decide) q)
  refine g_aloadN C ic4_10 rfl rfl ?_
  refine g_iloadN C ic4_11 rfl ?_
  refine g_cald C (.int (f_a0 2)) ic4_12 V_a0_c67 ⟨by decide, by decide⟩ rfl ?_
  refine g_istore C (Ls' := #[.val (.ref a0), .val (.int (2 : Int32)), .val (.ref a2), .val (.int (2 : Int32)), .val (.int (4 : Int32)), .val (.int (2 : Int32)), .val (.int (f_a0 2))]) ic4_13 rfl ?_
  refine g_iload C ic4_15 rfl ?_
  refine g_sipush C (255 : Int32) ic4_17 rfl ?_
  refine g_icmp_le C ic4_20 (fun q => absurd q hk2) (fun _ => ?_)
  refine g_aloadN C ic4_26 rfl rfl ?_
  refine g_iloadN C ic4_27 rfl ?_
  refine g_iload C ic4_28 rfl ?_
  refine g_i2b C ic4_30 ?_
  refine g_bastI C ic4_31 Vw67 ⟨by decide, by decide⟩ g_a2 (fun h68 W68 V68 => ?_)
  have V_a0_c68 := AV.other V_a0_c67 W68 ne_a0_a2
  have Vw68 : AV Z h68 a2 .byte 4 (fun ix => .int ((vc4_2 f_a0 f_a2) ix)) := V68
  have K68 := Keep.wr K67 W68 (Or.inl (List.mem_of_getElem? (i := 0) rfl))
  have Z68 : n0 ≤ h68.size := Nat.le_trans Z67 (Keep.of_wr W68).1
  refine g_iinc C (Ls' := #[.val (.ref a0), .val (.int (3 : Int32)), .val (.ref a2), .val (.int (2 : Int32)), .val (.int (4 : Int32)), .val (.int (2 : Int32)), .val (.int (f_a0 2))]) ic4_32 rfl rfl ?_
  refine g_iinc C (Ls' := #[.val (.ref a0), .val (.int (3 : Int32)), .val (.ref a2), .val (.int (3 : Int32)), .val (.int (4 : Int32)), .val (.int (2 : Int32)), .val (.int (f_a0 2))]) ic4_35 rfl rfl ?_
  refine g_iinc C (Ls' := #[.val (.ref a0), .val (.int (3 : Int32)), .val (.ref a2), .val (.int (3 : Int32)), .val (.int (4 : Int32)), .val (.int (3 : Int32)), .val (.int (f_a0 2))]) ic4_38 rfl rfl ?_
  refine g_goto C ic4_41 ?_
  refine g_iload C ic4_3 rfl ?_
  refine g_iload C ic4_5 rfl ?_
  refine g_icmp_ge C ic4_7 (fun _ => ?_) (fun q => absurd (by decide) q)
  refine g_aloadN C ic4_10 rfl rfl ?_
  refine g_iloadN C ic4_11 rfl ?_
  refine g_cald C (.int (f_a0 3)) ic4_12 V_a0_c68 ⟨by decide, by decide⟩ rfl ?_
  refine g_istore C (Ls' := #[.val (.ref a0), .val (.int (3 : Int32)), .val (.ref a2), .val (.int (3 : Int32)), .val (.int (4 : Int32)), .val (.int (3 : Int32)), .val (.int (f_a0 3))]) ic4_13 rfl ?_
  refine g_iload C ic4_15 rfl ?_
  refine g_sipush C (255 : Int32) ic4_17 rfl ?_
  refine g_icmp_le C ic4_20 (fun q => absurd q hk3) (fun _ => ?_)
  refine g_aloadN C ic4_26 rfl rfl ?_
  refine g_iloadN C ic4_27 rfl ?_
  refine g_iload C ic4_28 rfl ?_
  refine g_i2b C ic4_30 ?_
  refine g_bastI C ic4_31 Vw68 ⟨by decide, by decide⟩ g_a2 (fun h69 W69 V69 => ?_)
  have V_a0_c69 := AV.other V_a0_c68 W69 ne_a0_a2
  have Vw69 : AV Z h69 a2 .byte 4 (fun ix => .int ((vc4_3 f_a0 f_a2) ix)) := V69
  have K69 := Keep.wr K68 W69 (Or.inl (List.mem_of_getElem? (i := 0) rfl))
  have Z69 : n0 ≤ h69.size := Nat.le_trans Z68 (Keep.of_wr W69).1
  refine g_iinc C (Ls' := #[.val (.ref a0), .val (.int (4 : Int32)), .val (.ref a2), .val (.int (3 : Int32)), .val (.int (4 : Int32)), .val (.int (3 : Int32)), .val (.int (f_a0 3))]) ic4_32 rfl rfl ?_
  refine g_iinc C (Ls' := #[.val (.ref a0), .val (.int (4 : Int32)), .val (.ref a2), .val (.int (4 : Int32)), .val (.int (4 : Int32)), .val (.int (3 : Int32)), .val (.int (f_a0 3))]) ic4_35 rfl rfl ?_
  refine g_iinc C (Ls' := #[.val (.ref a0), .val (.int (4 : Int32)), .val (.ref a2), .val (.int (4 : Int32)), .val (.int (4 : Int32)), .val (.int (4 : Int32)), .val (.int (f_a0 3))]) ic4_38 rfl rfl ?_
  refine g_goto C ic4_41 ?_
  refine g_iload C ic4_3 rfl ?_
  refine g_iload C ic4_5 rfl ?_
  refine g_icmp_ge C ic4_7 (fun q => absurd q (by decide)) (fun _ => ?_)
  refine g_iload C ic4_44 rfl ?_
  exact g_retInt C ic4_46 rfl (by decide) (by decide) ⟨rfl, K69, AV.congr Vw69 (fun _ _ => rfl)⟩
theorem id4_0 : I1 jdk_52_method_16_code 0 (.iload_n 2) 1 1 := ⟨(by decide +kernel), rfl⟩
theorem id4_1 : I1 jdk_52_method_16_code 1 (.newarray .byte) 2 3 := ⟨(by decide +kernel), rfl⟩
theorem id4_3 : I1 jdk_52_method_16_code 3 (.astore_n 3) 1 4 := ⟨(by decide +kernel), rfl⟩
theorem id4_4 : I1 jdk_52_method_16_code 4 (.aload_n 0) 1 5 := ⟨(by decide +kernel), rfl⟩
theorem id4_5 : I1 jdk_52_method_16_code 5 (.iload_n 1) 1 6 := ⟨(by decide +kernel), rfl⟩
theorem id4_6 : I1 jdk_52_method_16_code 6 (.aload_n 3) 1 7 := ⟨(by decide +kernel), rfl⟩
theorem id4_7 : I1 jdk_52_method_16_code 7 (.iconst 0) 1 8 := ⟨(by decide +kernel), rfl⟩
theorem id4_8 : I1 jdk_52_method_16_code 8 (.iload_n 2) 1 9 := ⟨(by decide +kernel), rfl⟩
theorem id4_9 : I1 jdk_52_method_16_code 9 (.invokestatic 115) 3 12 := ⟨(by decide +kernel), rfl⟩
theorem id4_12 : I1 jdk_52_method_16_code 12 (.istore 4) 2 14 := ⟨(by decide +kernel), rfl⟩
theorem id4_14 : I1 jdk_52_method_16_code 14 (.iload 4) 2 16 := ⟨(by decide +kernel), rfl⟩
theorem id4_16 : I1 jdk_52_method_16_code 16 (.iload_n 2) 1 17 := ⟨(by decide +kernel), rfl⟩
theorem id4_17 : B1 jdk_52_method_16_code 17 (.if_icmp .eq 40) 40 57 20 := ⟨(by decide +kernel), rfl, by decide, by decide⟩
theorem id4_57 : I1 jdk_52_method_16_code 57 (.aload_n 3) 1 58 := ⟨(by decide +kernel), rfl⟩
theorem id4_58 : I1 jdk_52_method_16_code 58 (.areturn) 1 59 := ⟨(by decide +kernel), rfl⟩
theorem efd4 (m : MethodId) (a0 : Addr) : entryFrame m #[(.ref a0), (.int (0 : Int32)), (.int (4 : Int32))] 6 = mkF m 0 #[.val (.ref a0), .val (.int (0 : Int32)), .val (.int (4 : Int32)), .unset, .unset, .unset] [] := by first | (simp [entryFrame, mkF, argsToLocals, Value.category]; done) | rfl
def Qd4 (Z : State) (a0 : Addr) (f_a0 : Nat → Int32) (h0 : Heap) (n0 : Nat) (v : Option Value) (h : Heap) : Prop := ∃ fb0 : Addr, v = some (.ref fb0) ∧ (n0 ≤ fb0 ∧ h0.size ≤ fb0) ∧ Keep h0 h [] ∧ AV Z h fb0 .byte 4 (fun ix => .int ((vc4_3 f_a0 (fun _ => (0 : Int32))) ix))
set_option maxRecDepth 65536 in
set_option maxHeartbeats 40000000 in
theorem rmd4 (l : Launch) (Z : State) (aZ : Array Value) (hw : ∀ d ∈ tables_1, d.before aZ Z = true) (a0 : Addr) (f_a0 : Nat → Int32) (h0 : Heap) (n0 : Nat) (Z0 : n0 ≤ h0.size) (V_a0 : AV Z h0 a0 .char 4 (fun ix => .int (f_a0 ix))) (hk0 : ¬ ((255 : Int32) < (f_a0 0))) (hk1 : ¬ ((255 : Int32) < (f_a0 1))) (hk2 : ¬ ((255 : Int32) < (f_a0 2))) (hk3 : ¬ ((255 : Int32) < (f_a0 3))) :
    Ctr l Z (⟨"java/lang/StringUTF16", "compress", "([CII)[B"⟩ : MethodName) jdk_52_method_16_code 6 (some (.array .byte)) ({ frames := 1, cells := 1, slots := 4, locals := 18 } : Room) #[(.ref a0), (.int (0 : Int32)), (.int (4 : Int32))] h0 n0 (Qd4 Z a0 f_a0 h0 n0) := by
  refine Ctr.of_go pn7 (fun m => efd4 m a0) ?_
  intro p e s m below meth c hnm C
  refine g_iloadN C id4_0 rfl ?_
  refine g_newP C id4_1 (hw _ (List.mem_of_getElem? (i := 20) rfl)) (by decide) 4 (by decide) (by decide) (by decide) (by decide) rfl rfl (fun h70 b70 g70 E70 A70 => ?_)
  have ne_a0_b70 : a0 ≠ b70 := Nat.ne_of_lt (Nat.lt_of_lt_of_le V_a0.lt (Nat.le_of_eq g70.symm))
  have ge70 : n0 ≤ b70 := Nat.le_trans Z0 (Nat.le_of_eq g70.symm)
  have fr70 : h0.size ≤ b70 := Nat.le_trans (Keep.refl h0 []).1 (Nat.le_of_eq g70.symm)
  have K70 := Keep.ext (Keep.refl h0 []) E70
  have Z70 : n0 ≤ h70.size := Nat.le_trans Z0 E70.1
  have V_a0_c70 := V_a0.ext E70
  have V70 : AV Z h70 b70 .byte 4 (fun ix => .int ((fun _ => (0 : Int32)) ix)) := A70
  refine g_astoreN C (Ls' := #[.val (.ref a0), .val (.int (0 : Int32)), .val (.int (4 : Int32)), .val (.ref b70), .unset, .unset]) id4_3 rfl rfl ?_
  refine g_aloadN C id4_4 rfl rfl ?_
  refine g_iloadN C id4_5 rfl ?_
  refine g_aloadN C id4_6 rfl rfl ?_
  refine g_iconst C (0 : Int32) id4_7 rfl ?_
  refine g_iloadN C id4_8 rfl ?_
  refine g_callS C (rmc4 l Z aZ hw a0 b70 f_a0 (fun _ => (0 : Int32)) h70 n0 Z70 V_a0_c70 V70 (by assumption) (by assumption) (by assumption) (by assumption) ge70 ne_a0_b70) id4_9 (hw _ (List.mem_of_getElem? (i := 58) rfl)) (hw _ (List.mem_of_getElem? (i := 59) rfl)) (hw _ (List.mem_of_getElem? (i := 56) rfl)) (hw _ (List.mem_of_getElem? (i := 60) rfl)) (by decide) (argsL := [(.ref a0), (.int (0 : Int32)), (.ref b70), (.int (0 : Int32)), (.int (4 : Int32))]) (rest := []) rfl rfl pd3 rfl rfl 0 (Nat.le_of_eq rfl) (by decide) (by decide) (by decide) (by decide) rfl rfl ?_
  rintro _ h71 ⟨rfl, KC71, P71_0⟩
  refine Go.some' ?_
  have V_a0_cC71 := AV.keep V_a0_c70 KC71 (ninS ne_a0_b70 nin0)
  have K71 := Keep.trans K70 KC71 (allS (Or.inr fr70) all0)
  have Z71 : n0 ≤ h71.size := Nat.le_trans Z70 KC71.1
  refine g_istore C (Ls' := #[.val (.ref a0), .val (.int (0 : Int32)), .val (.int (4 : Int32)), .val (.ref b70), .val (.int (4 : Int32)), .unset]) id4_12 rfl ?_
  refine g_iload C id4_14 rfl ?_
  refine g_iloadN C id4_16 rfl ?_
  refine g_icmp_eq C id4_17 (fun _ => ?_) (fun q => absurd (by decide) q)
  refine g_aloadN C id4_57 rfl rfl ?_
  exact g_retRef C (t := (.array .byte)) id4_58 rfl rfl rfl (by decide) (by decide) ⟨b70, rfl, ⟨ge70, fr70⟩, K71, AV.congr P71_0 (fun _ _ => rfl)⟩
theorem if4_0 : I1 jdk_52_method_15_code 0 (.iload_n 1) 1 1 := ⟨(by decide +kernel), rfl⟩
theorem if4_1 : I1 jdk_52_method_15_code 1 (.aload_n 0) 1 2 := ⟨(by decide +kernel), rfl⟩
theorem if4_2 : I1 jdk_52_method_15_code 2 (.arraylength) 1 3 := ⟨(by decide +kernel), rfl⟩
theorem if4_3 : I1 jdk_52_method_15_code 3 (.isub) 1 4 := ⟨(by decide +kernel), rfl⟩
theorem if4_4 : I1 jdk_52_method_15_code 4 (.bipush 31) 2 6 := ⟨(by decide +kernel), rfl⟩
theorem if4_6 : I1 jdk_52_method_15_code 6 (.iushr) 1 7 := ⟨(by decide +kernel), rfl⟩
theorem if4_7 : I1 jdk_52_method_15_code 7 (.i2b) 1 8 := ⟨(by decide +kernel), rfl⟩
theorem if4_8 : I1 jdk_52_method_15_code 8 (.ireturn) 1 9 := ⟨(by decide +kernel), rfl⟩
theorem eff4 (m : MethodId) (a0 : Addr) : entryFrame m #[(.ref a0), (.int (4 : Int32))] 2 = mkF m 0 #[.val (.ref a0), .val (.int (4 : Int32))] [] := by first | (simp [entryFrame, mkF, argsToLocals, Value.category]; done) | rfl
def Qf4 (Z : State) (a0 : Addr) (f_a0 : Nat → Int32) (h0 : Heap) (n0 : Nat) (v : Option Value) (h : Heap) : Prop := v = some (.int (0 : Int32)) ∧ h = h0
set_option maxRecDepth 65536 in
set_option maxHeartbeats 40000000 in
theorem rmf4 (l : Launch) (Z : State) (aZ : Array Value) (hw : ∀ d ∈ tables_1, d.before aZ Z = true) (a0 : Addr) (f_a0 : Nat → Int32) (h0 : Heap) (n0 : Nat) (Z0 : n0 ≤ h0.size) (V_a0 : AV Z h0 a0 .byte 4 (fun ix => .int (f_a0 ix))) :
    Ctr l Z (⟨"java/lang/StringUTF16", "coderFromArrayLen", "([BI)B"⟩ : MethodName) jdk_52_method_15_code 2 (some .byte) ({ frames := 0, cells := 0, slots := 0, locals := 0 } : Room) #[(.ref a0), (.int (4 : Int32))] h0 n0 (Qf4 Z a0 f_a0 h0 n0) := by
  refine Ctr.of_go pn8 (fun m => eff4 m a0) ?_
  intro p e s m below meth c hnm C
  refine g_iloadN C if4_0 rfl ?_
  refine g_aloadN C if4_1 rfl rfl ?_
  refine g_alen C (4 : Int32) if4_2 V_a0 rfl ?_
  refine g_isub C if4_3 ?_
  refine g_bipush C (31 : Int32) if4_4 rfl ?_
  refine g_iushr C if4_6 ?_
  refine g_i2b C if4_7 ?_
  exact g_retNar C (t := .byte) if4_8 rfl (by simp) (by decide) (by decide) ⟨rfl, rfl⟩
theorem ii4_0 : I1 jdk_42_method_149_code 0 (.aload_n 0) 1 1 := ⟨(by decide +kernel), rfl⟩
theorem ii4_1 : I1 jdk_42_method_149_code 1 (.invokespecial 1) 3 4 := ⟨(by decide +kernel), rfl⟩
theorem ii4_4 : I1 jdk_42_method_149_code 4 (.iload_n 3) 1 5 := ⟨(by decide +kernel), rfl⟩
theorem ii4_5 : B1 jdk_42_method_149_code 5 (.ifCond .ne 22) 22 27 8 := ⟨(by decide +kernel), rfl, by decide, by decide⟩
theorem ii4_27 : I1 jdk_42_method_149_code 27 (.getstatic 38) 3 30 := ⟨(by decide +kernel), rfl⟩
theorem ii4_30 : B1 jdk_42_method_149_code 30 (.ifCond .eq 28) 28 58 33 := ⟨(by decide +kernel), rfl, by decide, by decide⟩
theorem ii4_33 : I1 jdk_42_method_149_code 33 (.aload_n 1) 1 34 := ⟨(by decide +kernel), rfl⟩
theorem ii4_34 : I1 jdk_42_method_149_code 34 (.iload_n 2) 1 35 := ⟨(by decide +kernel), rfl⟩
theorem ii4_35 : I1 jdk_42_method_149_code 35 (.iload_n 3) 1 36 := ⟨(by decide +kernel), rfl⟩
theorem ii4_36 : I1 jdk_42_method_149_code 36 (.invokestatic 177) 3 39 := ⟨(by decide +kernel), rfl⟩
theorem ii4_39 : I1 jdk_42_method_149_code 39 (.astore 5) 2 41 := ⟨(by decide +kernel), rfl⟩
theorem ii4_41 : I1 jdk_42_method_149_code 41 (.aload_n 0) 1 42 := ⟨(by decide +kernel), rfl⟩
theorem ii4_42 : I1 jdk_42_method_149_code 42 (.aload 5) 2 44 := ⟨(by decide +kernel), rfl⟩
theorem ii4_44 : I1 jdk_42_method_149_code 44 (.iload_n 3) 1 45 := ⟨(by decide +kernel), rfl⟩
theorem ii4_45 : I1 jdk_42_method_149_code 45 (.invokestatic 47) 3 48 := ⟨(by decide +kernel), rfl⟩
theorem ii4_48 : I1 jdk_42_method_149_code 48 (.putfield 15) 3 51 := ⟨(by decide +kernel), rfl⟩
theorem ii4_51 : I1 jdk_42_method_149_code 51 (.aload_n 0) 1 52 := ⟨(by decide +kernel), rfl⟩
theorem ii4_52 : I1 jdk_42_method_149_code 52 (.aload 5) 2 54 := ⟨(by decide +kernel), rfl⟩
theorem ii4_54 : I1 jdk_42_method_149_code 54 (.putfield 9) 3 57 := ⟨(by decide +kernel), rfl⟩
theorem ii4_57 : I1 jdk_42_method_149_code 57 (.return_) 1 58 := ⟨(by decide +kernel), rfl⟩
theorem efi4 (m : MethodId) (a0 : Addr) (a1 : Addr) : entryFrame m #[(.ref a0), (.ref a1), (.int (0 : Int32)), (.int (4 : Int32)), .null] 6 = mkF m 0 #[.val (.ref a0), .val (.ref a1), .val (.int (0 : Int32)), .val (.int (4 : Int32)), .val .null, .unset] [] := by first | (simp [entryFrame, mkF, argsToLocals, Value.category]; done) | rfl
def Qi4 (Z : State) (a0 : Addr) (a1 : Addr) (f_a1 : Nat → Int32) (cs : Int32) (w_coder_a0 : Int32) (w_value_a0 : Value) (h0 : Heap) (n0 : Nat) (v : Option Value) (h : Heap) : Prop := ∃ fb0 : Addr, v = none ∧ (n0 ≤ fb0 ∧ h0.size ≤ fb0) ∧ Keep h0 h [a0] ∧ AV Z h fb0 .byte 4 (fun ix => .int ((vc4_3 f_a1 (fun _ => (0 : Int32))) ix)) ∧ Exa Z h a0 "java/lang/String" ∧ Fld Z h a0 "java/lang/String" "value" "[B" (.ref fb0) ∧ Fld Z h a0 "java/lang/String" "coder" "B" (.int (0 : Int32))
set_option maxRecDepth 65536 in
set_option maxHeartbeats 40000000 in
theorem rmi4 (l : Launch) (Z : State) (aZ : Array Value) (hw : ∀ d ∈ tables_1, d.before aZ Z = true) (a0 : Addr) (a1 : Addr) (f_a1 : Nat → Int32) (cs : Int32) (w_coder_a0 : Int32) (w_value_a0 : Value) (h0 : Heap) (n0 : Nat) (Z0 : n0 ≤ h0.size) (E_a0 : Exa Z h0 a0 "java/lang/String") (V_a1 : AV Z h0 a1 .char 4 (fun ix => .int (f_a1 ix))) (hk0 : ¬ ((255 : Int32) < (f_a1 0))) (hk1 : ¬ ((255 : Int32) < (f_a1 1))) (hk2 : ¬ ((255 : Int32) < (f_a1 2))) (hk3 : ¬ ((255 : Int32) < (f_a1 3))) (OLD : Old Z n0 h0) (S_c : Sta Z Z.heap "java/lang/String" "COMPACT_STRINGS" "Z" (.int cs)) (hcs : ¬ (cs = (0 : Int32))) (F_coder_a0 : Fld Z h0 a0 "java/lang/String" "coder" "B" (.int w_coder_a0)) (g_a0 : n0 ≤ a0) (ne_a0_a1 : a0 ≠ a1) (F_value_a0 : Fld Z h0 a0 "java/lang/String" "value" "[B" w_value_a0) :
    Ctr l Z (⟨"java/lang/String", "<init>", "([CIILjava/lang/Void;)V"⟩ : MethodName) jdk_42_method_149_code 6 none ({ frames := 2, cells := 1, slots := 4, locals := 35 } : Room) #[(.ref a0), (.ref a1), (.int (0 : Int32)), (.int (4 : Int32)), .null] h0 n0 (Qi4 Z a0 a1 f_a1 cs w_coder_a0 w_value_a0 h0 n0) := by
  refine Ctr.of_go pn1 (fun m => efi4 m a0 a1) ?_
  intro p e s m below meth c hnm C
  refine g_aloadN C ii4_0 rfl rfl ?_
  refine g_initO C ii4_1 (hw _ (List.mem_of_getElem? (i := 16) rfl)) (hw _ (List.mem_of_getElem? (i := 17) rfl)) (hw _ (List.mem_of_getElem? (i := 18) rfl)) rfl (by decide) 0 (Nat.le_of_eq rfl) (by decide) ?_
  refine g_iloadN C ii4_4 rfl ?_
  refine g_if_ne C ii4_5 (fun q => absurd q (by decide)) (fun _ => ?_)
  refine g_getS C ii4_27 (host := "") (Or.inl (hw _ (List.mem_of_getElem? (i := 46) rfl))) Via.refl (Sta.ext OLD.2 S_c) ?_
  refine g_if_eq C ii4_30 (fun q => absurd q hcs) (fun _ => ?_)
  refine g_aloadN C ii4_33 rfl rfl ?_
  refine g_iloadN C ii4_34 rfl ?_
  refine g_iloadN C ii4_35 rfl ?_
  refine g_callS C (rmd4 l Z aZ hw a1 f_a1 h0 n0 Z0 V_a1 (by assumption) (by assumption) (by assumption) (by assumption)) ii4_36 (hw _ (List.mem_of_getElem? (i := 54) rfl)) (hw _ (List.mem_of_getElem? (i := 55) rfl)) (hw _ (List.mem_of_getElem? (i := 56) rfl)) (hw _ (List.mem_of_getElem? (i := 57) rfl)) (by decide) (argsL := [(.ref a1), (.int (0 : Int32)), (.int (4 : Int32))]) (rest := []) rfl rfl pd4 rfl rfl 0 (Nat.le_of_eq rfl) (by decide) (by decide) (by decide) (by decide) rfl rfl ?_
  rintro _ h73 ⟨r73_fb0, rfl, ⟨ge73_fb0, fh73_fb0⟩, KC73, P73_0⟩
  refine Go.some' ?_
  have ne_a0_r73_fb0 : a0 ≠ r73_fb0 := Nat.ne_of_lt (Nat.lt_of_lt_of_le F_coder_a0.lt fh73_fb0)
  have ne_a1_r73_fb0 : a1 ≠ r73_fb0 := Nat.ne_of_lt (Nat.lt_of_lt_of_le V_a1.lt fh73_fb0)
  have fr73_fb0 : h0.size ≤ r73_fb0 := Nat.le_trans (Keep.refl h0 [a0]).1 fh73_fb0
  have F_coder_a0_cC73 := Fld.keep F_coder_a0 KC73 nin0
  have F_value_a0_cC73 := Fld.keep F_value_a0 KC73 nin0
  have E_a0_cC73 := Exa.keep E_a0 KC73
  have V_a1_cC73 := AV.keep V_a1 KC73 nin0
  have OLDC73 := Old.keep OLD KC73 all0
  have K73 := Keep.trans (Keep.refl h0 [a0]) KC73 all0
  have Z73 : n0 ≤ h73.size := Nat.le_trans Z0 KC73.1
  refine g_astore C (Ls' := #[.val (.ref a0), .val (.ref a1), .val (.int (0 : Int32)), .val (.int (4 : Int32)), .val .null, .val (.ref r73_fb0)]) ii4_39 rfl rfl ?_
  refine g_aloadN C ii4_41 rfl rfl ?_
  refine g_aload C ii4_42 rfl rfl ?_
  refine g_iloadN C ii4_44 rfl ?_
  refine g_callS C (rmf4 l Z aZ hw r73_fb0 (vc4_3 f_a1 (fun _ => (0 : Int32))) h73 n0 Z73 P73_0) ii4_45 (hw _ (List.mem_of_getElem? (i := 61) rfl)) (hw _ (List.mem_of_getElem? (i := 62) rfl)) (hw _ (List.mem_of_getElem? (i := 56) rfl)) (hw _ (List.mem_of_getElem? (i := 63) rfl)) (by decide) (argsL := [(.ref r73_fb0), (.int (4 : Int32))]) (rest := [(.ref a0)]) rfl rfl pd5 rfl rfl 1 (Nat.le_of_eq rfl) (by decide) (by decide) (by decide) (by decide) rfl rfl ?_
  rintro _ _ ⟨rfl, he74⟩
  refine Go.heap he74.symm ?_
  refine Go.some' ?_
  refine g_putFN C (v' := (.int (0 : Int32))) ii4_48 (hw _ (List.mem_of_getElem? (i := 26) rfl)) Via.refl F_coder_a0_cC73 E_a0_cC73 (Or.inr ⟨(hw _ (List.mem_of_getElem? (i := 22) rfl)), rfl, hnm⟩) (hw _ (List.mem_of_getElem? (i := 2) rfl)) (ty := .byte) (by decide) rfl (by decide) g_a0 (fun h75 W75 => ?_)
  have F_value_a0_c75 := Fld.other W75 F_value_a0_cC73 (Or.inr (slot_ne (a0 := aZ) (Or.inr (hw _ (List.mem_of_getElem? (i := 21) rfl))) (Or.inr (hw _ (List.mem_of_getElem? (i := 22) rfl))) (by decide) (t := (.array .byte)) (t' := .byte) (by decide) (by decide)))
  have E_a0_c75 := Exa.wr W75 E_a0_cC73
  have V_a1_c75 := AV.other V_a1_cC73 W75 (Ne.symm ne_a0_a1)
  have OLD75 := Old.wr OLDC73 W75 g_a0
  have V_r73_fb0_c75 := AV.other P73_0 W75 (Ne.symm ne_a0_r73_fb0)
  have Fw75 := Fld.same W75 F_coder_a0_cC73
  have K75 := Keep.wr K73 W75 (Or.inl (List.mem_of_getElem? (i := 0) rfl))
  have Z75 : n0 ≤ h75.size := Nat.le_trans Z73 (Keep.of_wr W75).1
  refine g_aloadN C ii4_51 rfl rfl ?_
  refine g_aload C ii4_52 rfl rfl ?_
  refine g_putF C ii4_54 (host := "") (Or.inl (hw _ (List.mem_of_getElem? (i := 25) rfl))) Via.refl F_value_a0_c75 E_a0_c75 (Or.inr ⟨(hw _ (List.mem_of_getElem? (i := 21) rfl)), rfl, hnm⟩) (hw _ (List.mem_of_getElem? (i := 2) rfl)) (ty := (.array .byte)) (by decide) rfl rfl g_a0 (fun h76 W76 => ?_)
  have E_a0_c76 := Exa.wr W76 E_a0_c75
  have V_a1_c76 := AV.other V_a1_c75 W76 (Ne.symm ne_a0_a1)
  have OLD76 := Old.wr OLD75 W76 g_a0
  have V_r73_fb0_c76 := AV.other V_r73_fb0_c75 W76 (Ne.symm ne_a0_r73_fb0)
  have F_coder_a0_c76 := Fld.other W76 Fw75 (Or.inr (slot_ne (a0 := aZ) (Or.inr (hw _ (List.mem_of_getElem? (i := 22) rfl))) (Or.inr (hw _ (List.mem_of_getElem? (i := 21) rfl))) (by decide) (t := .byte) (t' := (.array .byte)) (by decide) (by decide)))
  have Fw76 := Fld.same W76 F_value_a0_c75
  have K76 := Keep.wr K75 W76 (Or.inl (List.mem_of_getElem? (i := 0) rfl))
  have Z76 : n0 ≤ h76.size := Nat.le_trans Z75 (Keep.of_wr W76).1
  exact g_retV C ii4_57 rfl (by decide) (by decide) ⟨r73_fb0, rfl, ⟨ge73_fb0, fr73_fb0⟩, K76, AV.congr V_r73_fb0_c76 (fun _ _ => rfl), E_a0_c76, Fw76, F_coder_a0_c76⟩
theorem ij4_0 : I1 jdk_42_method_3_code 0 (.aload_n 0) 1 1 := ⟨(by decide +kernel), rfl⟩
theorem ij4_1 : I1 jdk_42_method_3_code 1 (.aload_n 1) 1 2 := ⟨(by decide +kernel), rfl⟩
theorem ij4_2 : I1 jdk_42_method_3_code 2 (.iconst 0) 1 3 := ⟨(by decide +kernel), rfl⟩
theorem ij4_3 : I1 jdk_42_method_3_code 3 (.aload_n 1) 1 4 := ⟨(by decide +kernel), rfl⟩
theorem ij4_4 : I1 jdk_42_method_3_code 4 (.arraylength) 1 5 := ⟨(by decide +kernel), rfl⟩
theorem ij4_5 : I1 jdk_42_method_3_code 5 (.aconst_null) 1 6 := ⟨(by decide +kernel), rfl⟩
theorem ij4_6 : I1 jdk_42_method_3_code 6 (.invokespecial 27) 3 9 := ⟨(by decide +kernel), rfl⟩
theorem ij4_9 : I1 jdk_42_method_3_code 9 (.return_) 1 10 := ⟨(by decide +kernel), rfl⟩
theorem efj4 (m : MethodId) (a0 : Addr) (a1 : Addr) : entryFrame m #[(.ref a0), (.ref a1)] 2 = mkF m 0 #[.val (.ref a0), .val (.ref a1)] [] := by first | (simp [entryFrame, mkF, argsToLocals, Value.category]; done) | rfl
def Qj4 (Z : State) (a0 : Addr) (a1 : Addr) (f_a1 : Nat → Int32) (cs : Int32) (w_coder_a0 : Int32) (w_value_a0 : Value) (h0 : Heap) (n0 : Nat) (v : Option Value) (h : Heap) : Prop := ∃ fb0 : Addr, v = none ∧ (n0 ≤ fb0 ∧ h0.size ≤ fb0) ∧ Keep h0 h [a0] ∧ AV Z h fb0 .byte 4 (fun ix => .int ((vc4_3 f_a1 (fun _ => (0 : Int32))) ix)) ∧ Exa Z h a0 "java/lang/String" ∧ Fld Z h a0 "java/lang/String" "value" "[B" (.ref fb0) ∧ Fld Z h a0 "java/lang/String" "coder" "B" (.int (0 : Int32))
set_option maxRecDepth 65536 in
set_option maxHeartbeats 40000000 in
theorem rmj4 (l : Launch) (Z : State) (aZ : Array Value) (hw : ∀ d ∈ tables_1, d.before aZ Z = true) (a0 : Addr) (a1 : Addr) (f_a1 : Nat → Int32) (cs : Int32) (w_coder_a0 : Int32) (w_value_a0 : Value) (h0 : Heap) (n0 : Nat) (Z0 : n0 ≤ h0.size) (E_a0 : Exa Z h0 a0 "java/lang/String") (V_a1 : AV Z h0 a1 .char 4 (fun ix => .int (f_a1 ix))) (hk0 : ¬ ((255 : Int32) < (f_a1 0))) (hk1 : ¬ ((255 : Int32) < (f_a1 1))) (hk2 : ¬ ((255 : Int32) < (f_a1 2))) (hk3 : ¬ ((255 : Int32) < (f_a1 3))) (OLD : Old Z n0 h0) (S_c : Sta Z Z.heap "java/lang/String" "COMPACT_STRINGS" "Z" (.int cs)) (hcs : ¬ (cs = (0 : Int32))) (F_coder_a0 : Fld Z h0 a0 "java/lang/String" "coder" "B" (.int w_coder_a0)) (g_a0 : n0 ≤ a0) (ne_a0_a1 : a0 ≠ a1) (F_value_a0 : Fld Z h0 a0 "java/lang/String" "value" "[B" w_value_a0) :
    Ctr l Z (⟨"java/lang/String", "<init>", "([C)V"⟩ : MethodName) jdk_42_method_3_code 2 none ({ frames := 3, cells := 1, slots := 4, locals := 52 } : Room) #[(.ref a0), (.ref a1)] h0 n0 (Qj4 Z a0 a1 f_a1 cs w_coder_a0 w_value_a0 h0 n0) := by
  refine Ctr.of_go pn2 (fun m => efj4 m a0 a1) ?_
  intro p e s m below meth c hnm C
  refine g_aloadN C ij4_0 rfl rfl ?_
  refine g_aloadN C ij4_1 rfl rfl ?_
  refine g_iconst C (0 : Int32) ij4_2 rfl ?_
  refine g_aloadN C ij4_3 rfl rfl ?_
  refine g_alen C (4 : Int32) ij4_4 V_a1 rfl ?_
  refine g_aconstNull C ij4_5 ?_
  refine g_callI C (rmi4 l Z aZ hw a0 a1 f_a1 cs w_coder_a0 w_value_a0 h0 n0 Z0 E_a0 V_a1 (by assumption) (by assumption) (by assumption) (by assumption) OLD S_c (by assumption) F_coder_a0 g_a0 ne_a0_a1 F_value_a0) (a := a0) ij4_6 rfl (hw _ (List.mem_of_getElem? (i := 12) rfl)) (hw _ (List.mem_of_getElem? (i := 13) rfl)) (hw _ (List.mem_of_getElem? (i := 3) rfl)) (hw _ (List.mem_of_getElem? (i := 15) rfl)) rfl (by decide) (argsL := [(.ref a1), (.int (0 : Int32)), (.int (4 : Int32)), .null]) (rest := []) rfl rfl pd0 rfl rfl 0 (Nat.le_of_eq rfl) (by decide) (by decide) (by decide) (by decide) rfl rfl ?_
  rintro _ h77 ⟨r77_fb0, rfl, ⟨ge77_fb0, fh77_fb0⟩, KC77, P77_0, P77_1, P77_2, P77_3⟩
  refine Go.none' ?_
  have ne_a0_r77_fb0 : a0 ≠ r77_fb0 := Nat.ne_of_lt (Nat.lt_of_lt_of_le F_coder_a0.lt fh77_fb0)
  have ne_a1_r77_fb0 : a1 ≠ r77_fb0 := Nat.ne_of_lt (Nat.lt_of_lt_of_le V_a1.lt fh77_fb0)
  have fr77_fb0 : h0.size ≤ r77_fb0 := Nat.le_trans (Keep.refl h0 [a0]).1 fh77_fb0
  have E_a0_cC77 := Exa.keep E_a0 KC77
  have V_a1_cC77 := AV.keep V_a1 KC77 (ninS (Ne.symm ne_a0_a1) nin0)
  have OLDC77 := Old.keep OLD KC77 (allS g_a0 all0)
  have K77 := Keep.trans (Keep.refl h0 [a0]) KC77 (allS (Or.inl (List.mem_of_getElem? (i := 0) rfl)) all0)
  have Z77 : n0 ≤ h77.size := Nat.le_trans Z0 KC77.1
  have P77_3 : Fld Z h77 a0 "java/lang/String" "coder" "B" (.int (0 : Int32)) := P77_3
  exact g_retV C ij4_9 rfl (by decide) (by decide) ⟨r77_fb0, rfl, ⟨ge77_fb0, fr77_fb0⟩, K77, AV.congr P77_0 (fun _ _ => rfl), P77_1, P77_2, P77_3⟩
theorem in4_0 : I1 jdk_42_method_54_code 0 (.aload_n 0) 1 1 := ⟨(by decide +kernel), rfl⟩
theorem in4_1 : I1 jdk_42_method_54_code 1 (.getfield 9) 3 4 := ⟨(by decide +kernel), rfl⟩
theorem in4_4 : I1 jdk_42_method_54_code 4 (.arraylength) 1 5 := ⟨(by decide +kernel), rfl⟩
theorem in4_5 : I1 jdk_42_method_54_code 5 (.aload_n 0) 1 6 := ⟨(by decide +kernel), rfl⟩
theorem in4_6 : I1 jdk_42_method_54_code 6 (.invokevirtual 335) 3 9 := ⟨(by decide +kernel), rfl⟩
theorem in4_9 : I1 jdk_42_method_54_code 9 (.ishr) 1 10 := ⟨(by decide +kernel), rfl⟩
theorem in4_10 : I1 jdk_42_method_54_code 10 (.ireturn) 1 11 := ⟨(by decide +kernel), rfl⟩
theorem efn4 (m : MethodId) (a0 : Addr) : entryFrame m #[(.ref a0)] 1 = mkF m 0 #[.val (.ref a0)] [] := by first | (simp [entryFrame, mkF, argsToLocals, Value.category]; done) | rfl
def Qn4 (Z : State) (a0 : Addr) (bb : Addr) (f_bb : Nat → Int32) (cs : Int32) (h0 : Heap) (n0 : Nat) (v : Option Value) (h : Heap) : Prop := v = some (.int (4 : Int32)) ∧ h = h0
set_option maxRecDepth 65536 in
set_option maxHeartbeats 40000000 in
theorem rmn4 (l : Launch) (Z : State) (aZ : Array Value) (hw : ∀ d ∈ tables_1, d.before aZ Z = true) (a0 : Addr) (bb : Addr) (f_bb : Nat → Int32) (cs : Int32) (h0 : Heap) (n0 : Nat) (Z0 : n0 ≤ h0.size) (E_a0 : Exa Z h0 a0 "java/lang/String") (C_a0 : Fld Z h0 a0 "java/lang/String" "coder" "B" (.int (0 : Int32))) (W_a0 : Fld Z h0 a0 "java/lang/String" "value" "[B" (.ref bb)) (V_bb : AV Z h0 bb .byte 4 (fun ix => .int (f_bb ix))) (OLD : Old Z n0 h0) (S_c : Sta Z Z.heap "java/lang/String" "COMPACT_STRINGS" "Z" (.int cs)) (hcs : ¬ (cs = (0 : Int32))) :
    Ctr l Z (⟨"java/lang/String", "length", "()I"⟩ : MethodName) jdk_42_method_54_code 1 (some .int) ({ frames := 1, cells := 0, slots := 0, locals := 13 } : Room) #[(.ref a0)] h0 n0 (Qn4 Z a0 bb f_bb cs h0 n0) := by
  refine Ctr.of_go pn3 (fun m => efn4 m a0) ?_
  intro p e s m below meth c hnm C
  refine g_aloadN C in4_0 rfl rfl ?_
  refine g_getF C in4_1 (host := "") (Or.inl (hw _ (List.mem_of_getElem? (i := 25) rfl))) Via.refl W_a0 ?_
  refine g_alen C (4 : Int32) in4_4 V_bb rfl ?_
  refine g_aloadN C in4_5 rfl rfl ?_
  refine g_callV C (rmk0 l Z aZ hw a0 cs h0 n0 Z0 E_a0 C_a0 OLD S_c (by assumption)) (a := a0) in4_6 (hw _ (List.mem_of_getElem? (i := 41) rfl)) (hw _ (List.mem_of_getElem? (i := 42) rfl)) (fun s hZ => notFace_of_selects (args := #[]) (mvT hZ (hw _ (List.mem_of_getElem? (i := 44) rfl)))) (hw _ (List.mem_of_getElem? (i := 44) rfl)) (hw _ (List.mem_of_getElem? (i := 43) rfl)) (hw _ (List.mem_of_getElem? (i := 3) rfl)) (hw _ (List.mem_of_getElem? (i := 45) rfl)) (by decide) E_a0 (argsL := []) (rest := [(.int (4 : Int32))]) rfl rfl pd1 rfl rfl 1 (Nat.le_of_eq rfl) (by decide) (by decide) (by decide) (by decide) rfl rfl ?_
  rintro _ _ ⟨rfl, he78⟩
  refine Go.heap he78.symm ?_
  refine Go.some' ?_
  refine g_ishr C in4_9 ?_
  exact g_retInt C in4_10 rfl (by decide) (by decide) ⟨rfl, rfl⟩
theorem ih4_0 : I1 method_2_code 0 (.iload_n 0) 1 1 := ⟨(by decide +kernel), rfl⟩
theorem ih4_1 : B1 method_2_code 1 (.ifCond .ne 10) 10 11 4 := ⟨(by decide +kernel), rfl, by decide, by decide⟩
theorem ih4_11 : I1 method_2_code 11 (.iload_n 0) 1 12 := ⟨(by decide +kernel), rfl⟩
theorem ih4_12 : I1 method_2_code 12 (.iconst 1) 1 13 := ⟨(by decide +kernel), rfl⟩
theorem ih4_13 : B1 method_2_code 13 (.if_icmp .ne 14) 14 27 16 := ⟨(by decide +kernel), rfl, by decide, by decide⟩
theorem ih4_27 : I1 method_2_code 27 (.iload_n 0) 1 28 := ⟨(by decide +kernel), rfl⟩
theorem ih4_28 : I1 method_2_code 28 (.iconst 2) 1 29 := ⟨(by decide +kernel), rfl⟩
theorem ih4_29 : B1 method_2_code 29 (.if_icmp .ne 18) 18 47 32 := ⟨(by decide +kernel), rfl, by decide, by decide⟩
theorem ih4_47 : I1 method_2_code 47 (.iload_n 0) 1 48 := ⟨(by decide +kernel), rfl⟩
theorem ih4_48 : I1 method_2_code 48 (.iconst 3) 1 49 := ⟨(by decide +kernel), rfl⟩
theorem ih4_49 : B1 method_2_code 49 (.if_icmp .ne 22) 22 71 52 := ⟨(by decide +kernel), rfl, by decide, by decide⟩
theorem ih4_71 : I1 method_2_code 71 (.iconst 4) 1 72 := ⟨(by decide +kernel), rfl⟩
theorem ih4_72 : I1 method_2_code 72 (.newarray .char) 2 74 := ⟨(by decide +kernel), rfl⟩
theorem ih4_74 : I1 method_2_code 74 (.dup) 1 75 := ⟨(by decide +kernel), rfl⟩
theorem ih4_75 : I1 method_2_code 75 (.iconst 0) 1 76 := ⟨(by decide +kernel), rfl⟩
theorem ih4_76 : I1 method_2_code 76 (.iload_n 1) 1 77 := ⟨(by decide +kernel), rfl⟩
theorem ih4_77 : I1 method_2_code 77 (.castore) 1 78 := ⟨(by decide +kernel), rfl⟩
theorem ih4_78 : I1 method_2_code 78 (.dup) 1 79 := ⟨(by decide +kernel), rfl⟩
theorem ih4_79 : I1 method_2_code 79 (.iconst 1) 1 80 := ⟨(by decide +kernel), rfl⟩
theorem ih4_80 : I1 method_2_code 80 (.iload_n 1) 1 81 := ⟨(by decide +kernel), rfl⟩
theorem ih4_81 : I1 method_2_code 81 (.castore) 1 82 := ⟨(by decide +kernel), rfl⟩
theorem ih4_82 : I1 method_2_code 82 (.dup) 1 83 := ⟨(by decide +kernel), rfl⟩
theorem ih4_83 : I1 method_2_code 83 (.iconst 2) 1 84 := ⟨(by decide +kernel), rfl⟩
theorem ih4_84 : I1 method_2_code 84 (.iload_n 1) 1 85 := ⟨(by decide +kernel), rfl⟩
theorem ih4_85 : I1 method_2_code 85 (.castore) 1 86 := ⟨(by decide +kernel), rfl⟩
theorem ih4_86 : I1 method_2_code 86 (.dup) 1 87 := ⟨(by decide +kernel), rfl⟩
theorem ih4_87 : I1 method_2_code 87 (.iconst 3) 1 88 := ⟨(by decide +kernel), rfl⟩
theorem ih4_88 : I1 method_2_code 88 (.iload_n 1) 1 89 := ⟨(by decide +kernel), rfl⟩
theorem ih4_89 : I1 method_2_code 89 (.castore) 1 90 := ⟨(by decide +kernel), rfl⟩
theorem ih4_90 : I1 method_2_code 90 (.astore_n 2) 1 91 := ⟨(by decide +kernel), rfl⟩
theorem ih4_91 : I1 method_2_code 91 (.aload_n 2) 1 92 := ⟨(by decide +kernel), rfl⟩
theorem ih4_92 : I1 method_2_code 92 (.areturn) 1 93 := ⟨(by decide +kernel), rfl⟩
def vh4_0 (p1 : Int32) : Nat → Int32 := (fun ix => if ix = 0 then (nar .char p1) else (fun _ => (0 : Int32)) ix)
def vh4_1 (p1 : Int32) : Nat → Int32 := (fun ix => if ix = 1 then (nar .char p1) else (vh4_0 p1) ix)
def vh4_2 (p1 : Int32) : Nat → Int32 := (fun ix => if ix = 2 then (nar .char p1) else (vh4_1 p1) ix)
def vh4_3 (p1 : Int32) : Nat → Int32 := (fun ix => if ix = 3 then (nar .char p1) else (vh4_2 p1) ix)
theorem efh4 (m : MethodId) (p1 : Int32) : entryFrame m #[(.int (4 : Int32)), (.int p1)] 3 = mkF m 0 #[.val (.int (4 : Int32)), .val (.int p1), .unset] [] := by first | (simp [entryFrame, mkF, argsToLocals, Value.category]; done) | rfl
def Qh4 (Z : State) (p1 : Int32) (h0 : Heap) (n0 : Nat) (v : Option Value) (h : Heap) : Prop := ∃ fb0 : Addr, v = some (.ref fb0) ∧ (n0 ≤ fb0 ∧ h0.size ≤ fb0) ∧ Keep h0 h [] ∧ AV Z h fb0 .char 4 (fun ix => .int ((vh4_3 p1) ix))
set_option maxRecDepth 65536 in
set_option maxHeartbeats 40000000 in
theorem rmh4 (l : Launch) (Z : State) (aZ : Array Value) (hw : ∀ d ∈ tables_1, d.before aZ Z = true) (p1 : Int32) (h0 : Heap) (n0 : Nat) (Z0 : n0 ≤ h0.size) :
    Ctr l Z (⟨"com/example/firm_input/firminput/regex/RegexInputFitsPinLaw", "chars", "(IC)[C"⟩ : MethodName) method_2_code 3 (some (.array .char)) ({ frames := 0, cells := 1, slots := 4, locals := 0 } : Room) #[(.int (4 : Int32)), (.int p1)] h0 n0 (Qh4 Z p1 h0 n0) := by
  refine Ctr.of_go pn4 (fun m => efh4 m p1) ?_
  intro p e s m below meth c hnm C
  refine g_iloadN C ih4_0 rfl ?_
  refine g_if_ne C ih4_1 (fun q => absurd q (by decide)) (fun _ => ?_)
  refine g_iloadN C ih4_11 rfl ?_
  refine g_iconst C (1 : Int32) ih4_12 rfl ?_
  refine g_icmp_ne C ih4_13 (fun q => absurd q (by decide)) (fun _ => ?_)
  refine g_iloadN C ih4_27 rfl ?_
  refine g_iconst C (2 : Int32) ih4_28 rfl ?_
  refine g_icmp_ne C ih4_29 (fun q => absurd q (by decide)) (fun _ => ?_)
  refine g_iloadN C ih4_47 rfl ?_
  refine g_iconst C (3 : Int32) ih4_48 rfl ?_
  refine g_icmp_ne C ih4_49 (fun q => absurd q (by decide)) (fun _ => ?_)
  refine g_iconst C (4 : Int32) ih4_71 rfl ?_
  refine g_newP C ih4_72 (hw _ (List.mem_of_getElem? (i := 8) rfl)) (by decide) 4 (by decide) (by decide) (by decide) (by decide) rfl rfl (fun h79 b79 g79 E79 A79 => ?_)
  have ge79 : n0 ≤ b79 := Nat.le_trans Z0 (Nat.le_of_eq g79.symm)
  have fr79 : h0.size ≤ b79 := Nat.le_trans (Keep.refl h0 []).1 (Nat.le_of_eq g79.symm)
  have K79 := Keep.ext (Keep.refl h0 []) E79
  have Z79 : n0 ≤ h79.size := Nat.le_trans Z0 E79.1
  have V79 : AV Z h79 b79 .char 4 (fun ix => .int ((fun _ => (0 : Int32)) ix)) := A79
  refine g_dup C ih4_74 rfl ?_
  refine g_iconst C (0 : Int32) ih4_75 rfl ?_
  refine g_iloadN C ih4_76 rfl ?_
  refine g_castI C ih4_77 V79 ⟨by decide, by decide⟩ ge79 (fun h80 W80 V80 => ?_)
  have Vw80 : AV Z h80 b79 .char 4 (fun ix => .int ((vh4_0 p1) ix)) := V80
  have K80 := Keep.wr K79 W80 (Or.inr fr79)
  have Z80 : n0 ≤ h80.size := Nat.le_trans Z79 (Keep.of_wr W80).1
  refine g_dup C ih4_78 rfl ?_
  refine g_iconst C (1 : Int32) ih4_79 rfl ?_
  refine g_iloadN C ih4_80 rfl ?_
  refine g_castI C ih4_81 Vw80 ⟨by decide, by decide⟩ ge79 (fun h81 W81 V81 => ?_)
  have Vw81 : AV Z h81 b79 .char 4 (fun ix => .int ((vh4_1 p1) ix)) := V81
  have K81 := Keep.wr K80 W81 (Or.inr fr79)
  have Z81 : n0 ≤ h81.size := Nat.le_trans Z80 (Keep.of_wr W81).1
  refine g_dup C ih4_82 rfl ?_
  refine g_iconst C (2 : Int32) ih4_83 rfl ?_
  refine g_iloadN C ih4_84 rfl ?_
  refine g_castI C ih4_85 Vw81 ⟨by decide, by decide⟩ ge79 (fun h82 W82 V82 => ?_)
  have Vw82 : AV Z h82 b79 .char 4 (fun ix => .int ((vh4_2 p1) ix)) := V82
  have K82 := Keep.wr K81 W82 (Or.inr fr79)
  have Z82 : n0 ≤ h82.size := Nat.le_trans Z81 (Keep.of_wr W82).1
  refine g_dup C ih4_86 rfl ?_
  refine g_iconst C (3 : Int32) ih4_87 rfl ?_
  refine g_iloadN C ih4_88 rfl ?_
  refine g_castI C ih4_89 Vw82 ⟨by decide, by decide⟩ ge79 (fun h83 W83 V83 => ?_)
  have Vw83 : AV Z h83 b79 .char 4 (fun ix => .int ((vh4_3 p1) ix)) := V83
  have K83 := Keep.wr K82 W83 (Or.inr fr79)
  have Z83 : n0 ≤ h83.size := Nat.le_trans Z82 (Keep.of_wr W83).1
  refine g_astoreN C (Ls' := #[.val (.int (4 : Int32)), .val (.int p1), .val (.ref b79)]) ih4_90 rfl rfl ?_
  refine g_aloadN C ih4_91 rfl rfl ?_
  exact g_retRef C (t := (.array .char)) ih4_92 rfl rfl rfl (by decide) (by decide) ⟨b79, rfl, ⟨ge79, fr79⟩, K83, AV.congr Vw83 (fun _ _ => rfl)⟩
theorem ir4_0 : I1 prog_27_method_1_code 0 (.aload_n 0) 1 1 := ⟨(by decide +kernel), rfl⟩
theorem ir4_1 : I1 prog_27_method_1_code 1 (.invokespecial 1) 3 4 := ⟨(by decide +kernel), rfl⟩
theorem ir4_4 : I1 prog_27_method_1_code 4 (.aload_n 0) 1 5 := ⟨(by decide +kernel), rfl⟩
theorem ir4_5 : I1 prog_27_method_1_code 5 (.aload_n 1) 1 6 := ⟨(by decide +kernel), rfl⟩
theorem ir4_6 : I1 prog_27_method_1_code 6 (.putfield 7) 3 9 := ⟨(by decide +kernel), rfl⟩
theorem ir4_9 : I1 prog_27_method_1_code 9 (.aload_n 0) 1 10 := ⟨(by decide +kernel), rfl⟩
theorem ir4_10 : I1 prog_27_method_1_code 10 (.aload_n 1) 1 11 := ⟨(by decide +kernel), rfl⟩
theorem ir4_11 : I1 prog_27_method_1_code 11 (.invokevirtual 13) 3 14 := ⟨(by decide +kernel), rfl⟩
theorem ir4_14 : I1 prog_27_method_1_code 14 (.putfield 19) 3 17 := ⟨(by decide +kernel), rfl⟩
theorem ir4_17 : I1 prog_27_method_1_code 17 (.return_) 1 18 := ⟨(by decide +kernel), rfl⟩
theorem efr4 (m : MethodId) (a0 : Addr) (a1 : Addr) : entryFrame m #[(.ref a0), (.ref a1)] 2 = mkF m 0 #[.val (.ref a0), .val (.ref a1)] [] := by first | (simp [entryFrame, mkF, argsToLocals, Value.category]; done) | rfl
def Qr4 (Z : State) (a0 : Addr) (a1 : Addr) (bb : Addr) (f_bb : Nat → Int32) (cs : Int32) (w_text_a0 : Value) (w_length_a0 : Int32) (h0 : Heap) (n0 : Nat) (v : Option Value) (h : Heap) : Prop := v = none ∧ Keep h0 h [a0] ∧ Exa Z h a0 "com/example/firm_input/firminput/regex/RegexInput" ∧ Fld Z h a0 "com/example/firm_input/firminput/regex/RegexInput" "text" "Ljava/lang/String;" (.ref a1) ∧ Fld Z h a0 "com/example/firm_input/firminput/regex/RegexInput" "length" "I" (.int (4 : Int32))
set_option maxRecDepth 65536 in
set_option maxHeartbeats 40000000 in
theorem rmr4 (l : Launch) (Z : State) (aZ : Array Value) (hw : ∀ d ∈ tables_1, d.before aZ Z = true) (a0 : Addr) (a1 : Addr) (bb : Addr) (f_bb : Nat → Int32) (cs : Int32) (w_text_a0 : Value) (w_length_a0 : Int32) (h0 : Heap) (n0 : Nat) (Z0 : n0 ≤ h0.size) (E_a0 : Exa Z h0 a0 "com/example/firm_input/firminput/regex/RegexInput") (E_a1 : Exa Z h0 a1 "java/lang/String") (C_a1 : Fld Z h0 a1 "java/lang/String" "coder" "B" (.int (0 : Int32))) (W_a1 : Fld Z h0 a1 "java/lang/String" "value" "[B" (.ref bb)) (V_bb : AV Z h0 bb .byte 4 (fun ix => .int (f_bb ix))) (OLD : Old Z n0 h0) (S_c : Sta Z Z.heap "java/lang/String" "COMPACT_STRINGS" "Z" (.int cs)) (hcs : ¬ (cs = (0 : Int32))) (F_text_a0 : Fld Z h0 a0 "com/example/firm_input/firminput/regex/RegexInput" "text" "Ljava/lang/String;" w_text_a0) (g_a0 : n0 ≤ a0) (ne_a0_a1 : a0 ≠ a1) (ne_a0_bb : a0 ≠ bb) (F_length_a0 : Fld Z h0 a0 "com/example/firm_input/firminput/regex/RegexInput" "length" "I" (.int w_length_a0)) :
    Ctr l Z (⟨"com/example/firm_input/firminput/regex/RegexInput", "<init>", "(Ljava/lang/String;)V"⟩ : MethodName) prog_27_method_1_code 2 none ({ frames := 2, cells := 0, slots := 0, locals := 26 } : Room) #[(.ref a0), (.ref a1)] h0 n0 (Qr4 Z a0 a1 bb f_bb cs w_text_a0 w_length_a0 h0 n0) := by
  refine Ctr.of_go pn5 (fun m => efr4 m a0 a1) ?_
  intro p e s m below meth c hnm C
  refine g_aloadN C ir4_0 rfl rfl ?_
  refine g_initO C ir4_1 (hw _ (List.mem_of_getElem? (i := 33) rfl)) (hw _ (List.mem_of_getElem? (i := 17) rfl)) (hw _ (List.mem_of_getElem? (i := 18) rfl)) rfl (by decide) 0 (Nat.le_of_eq rfl) (by decide) ?_
  refine g_aloadN C ir4_4 rfl rfl ?_
  refine g_aloadN C ir4_5 rfl rfl ?_
  refine g_putF C ir4_6 (host := "") (Or.inl (hw _ (List.mem_of_getElem? (i := 34) rfl))) Via.refl F_text_a0 E_a0 (Or.inr ⟨(hw _ (List.mem_of_getElem? (i := 35) rfl)), rfl, hnm⟩) (hw _ (List.mem_of_getElem? (i := 28) rfl)) (ty := (.object "java/lang/String")) (by decide) rfl rfl g_a0 (fun h85 W85 => ?_)
  have F_length_a0_c85 := Fld.other W85 F_length_a0 (Or.inr (slot_ne (a0 := aZ) (Or.inr (hw _ (List.mem_of_getElem? (i := 48) rfl))) (Or.inr (hw _ (List.mem_of_getElem? (i := 35) rfl))) (by decide) (t := .int) (t' := (.object "java/lang/String")) (by decide) (by decide)))
  have E_a0_c85 := Exa.wr W85 E_a0
  have E_a1_c85 := Exa.wr W85 E_a1
  have F_coder_a1_c85 := Fld.other W85 C_a1 (Or.inl (Ne.symm ne_a0_a1))
  have F_value_a1_c85 := Fld.other W85 W_a1 (Or.inl (Ne.symm ne_a0_a1))
  have V_bb_c85 := AV.other V_bb W85 (Ne.symm ne_a0_bb)
  have OLD85 := Old.wr OLD W85 g_a0
  have Fw85 := Fld.same W85 F_text_a0
  have K85 := Keep.wr (Keep.refl h0 [a0]) W85 (Or.inl (List.mem_of_getElem? (i := 0) rfl))
  have Z85 : n0 ≤ h85.size := Nat.le_trans Z0 (Keep.of_wr W85).1
  refine g_aloadN C ir4_9 rfl rfl ?_
  refine g_aloadN C ir4_10 rfl rfl ?_
  refine g_callV C (rmn4 l Z aZ hw a1 bb f_bb cs h85 n0 Z85 E_a1_c85 F_coder_a1_c85 F_value_a1_c85 V_bb_c85 OLD85 S_c (by assumption)) (a := a1) ir4_11 (hw _ (List.mem_of_getElem? (i := 36) rfl)) (hw _ (List.mem_of_getElem? (i := 37) rfl)) (fun s hZ => notFace_of_selects (args := #[]) (mvT hZ (hw _ (List.mem_of_getElem? (i := 39) rfl)))) (hw _ (List.mem_of_getElem? (i := 39) rfl)) (hw _ (List.mem_of_getElem? (i := 38) rfl)) (hw _ (List.mem_of_getElem? (i := 3) rfl)) (hw _ (List.mem_of_getElem? (i := 40) rfl)) (by decide) E_a1_c85 (argsL := []) (rest := [(.ref a0)]) rfl rfl pd2 rfl rfl 1 (Nat.le_of_eq rfl) (by decide) (by decide) (by decide) (by decide) rfl rfl ?_
  rintro _ _ ⟨rfl, he86⟩
  refine Go.heap he86.symm ?_
  refine Go.some' ?_
  refine g_putF C ir4_14 (host := "") (Or.inl (hw _ (List.mem_of_getElem? (i := 47) rfl))) Via.refl F_length_a0_c85 E_a0_c85 (Or.inr ⟨(hw _ (List.mem_of_getElem? (i := 48) rfl)), rfl, hnm⟩) (hw _ (List.mem_of_getElem? (i := 28) rfl)) (ty := .int) (by decide) rfl rfl g_a0 (fun h87 W87 => ?_)
  have E_a0_c87 := Exa.wr W87 E_a0_c85
  have E_a1_c87 := Exa.wr W87 E_a1_c85
  have F_coder_a1_c87 := Fld.other W87 F_coder_a1_c85 (Or.inl (Ne.symm ne_a0_a1))
  have F_value_a1_c87 := Fld.other W87 F_value_a1_c85 (Or.inl (Ne.symm ne_a0_a1))
  have V_bb_c87 := AV.other V_bb_c85 W87 (Ne.symm ne_a0_bb)
  have OLD87 := Old.wr OLD85 W87 g_a0
  have F_text_a0_c87 := Fld.other W87 Fw85 (Or.inr (slot_ne (a0 := aZ) (Or.inr (hw _ (List.mem_of_getElem? (i := 35) rfl))) (Or.inr (hw _ (List.mem_of_getElem? (i := 48) rfl))) (by decide) (t := (.object "java/lang/String")) (t' := .int) (by decide) (by decide)))
  have Fw87 := Fld.same W87 F_length_a0_c85
  have K87 := Keep.wr K85 W87 (Or.inl (List.mem_of_getElem? (i := 0) rfl))
  have Z87 : n0 ≤ h87.size := Nat.le_trans Z85 (Keep.of_wr W87).1
  exact g_retV C ir4_17 rfl (by decide) (by decide) ⟨rfl, K87, E_a0_c87, F_text_a0_c87, Fw87⟩
theorem pn9 : plainFor (⟨"com/example/firm_input/firminput/regex/RegexInput", "fits", "(III)Z"⟩ : MethodName) = true := by decide +kernel
theorem iF_0 : I1 prog_27_method_8_code 0 (.iload_n 3) 1 1 := ⟨(by decide +kernel), rfl⟩
theorem iF_1 : B1 prog_27_method_8_code 1 (.ifCond .ne 21) 21 22 4 := ⟨(by decide +kernel), rfl, by decide, by decide⟩
theorem iF_4 : I1 prog_27_method_8_code 4 (.iload_n 2) 1 5 := ⟨(by decide +kernel), rfl⟩
theorem iF_5 : I1 prog_27_method_8_code 5 (.aload_n 0) 1 6 := ⟨(by decide +kernel), rfl⟩
theorem iF_6 : I1 prog_27_method_8_code 6 (.getfield 19) 3 9 := ⟨(by decide +kernel), rfl⟩
theorem iF_9 : I1 prog_27_method_8_code 9 (.iload_n 1) 1 10 := ⟨(by decide +kernel), rfl⟩
theorem iF_10 : I1 prog_27_method_8_code 10 (.isub) 1 11 := ⟨(by decide +kernel), rfl⟩
theorem iF_11 : B1 prog_27_method_8_code 11 (.if_icmp .gt 7) 7 18 14 := ⟨(by decide +kernel), rfl, by decide, by decide⟩
theorem iF_14 : I1 prog_27_method_8_code 14 (.iconst 1) 1 15 := ⟨(by decide +kernel), rfl⟩
theorem iF_15 : B1 prog_27_method_8_code 15 (.goto 17) 17 32 18 := ⟨(by decide +kernel), rfl, by decide, by decide⟩
theorem iF_18 : I1 prog_27_method_8_code 18 (.iconst 0) 1 19 := ⟨(by decide +kernel), rfl⟩
theorem iF_19 : B1 prog_27_method_8_code 19 (.goto 13) 13 32 22 := ⟨(by decide +kernel), rfl, by decide, by decide⟩
theorem iF_22 : I1 prog_27_method_8_code 22 (.iload_n 2) 1 23 := ⟨(by decide +kernel), rfl⟩
theorem iF_23 : I1 prog_27_method_8_code 23 (.iload_n 1) 1 24 := ⟨(by decide +kernel), rfl⟩
theorem iF_24 : B1 prog_27_method_8_code 24 (.if_icmp .gt 7) 7 31 27 := ⟨(by decide +kernel), rfl, by decide, by decide⟩
theorem iF_27 : I1 prog_27_method_8_code 27 (.iconst 1) 1 28 := ⟨(by decide +kernel), rfl⟩
theorem iF_28 : B1 prog_27_method_8_code 28 (.goto 4) 4 32 31 := ⟨(by decide +kernel), rfl, by decide, by decide⟩
theorem iF_31 : I1 prog_27_method_8_code 31 (.iconst 0) 1 32 := ⟨(by decide +kernel), rfl⟩
theorem iF_32 : I1 prog_27_method_8_code 32 (.ireturn) 1 33 := ⟨(by decide +kernel), rfl⟩
def vF_0 (p1 : Int32) (p2 : Int32) (p3 : Int32) (w_length_a0 : Int32) : Int32 := (if (w_length_a0 - p1) < p2 then (0 : Int32) else (1 : Int32))
def vF_1 (p1 : Int32) (p2 : Int32) (p3 : Int32) (w_length_a0 : Int32) : Int32 := (if p1 < p2 then (0 : Int32) else (1 : Int32))
def vF_2 (p1 : Int32) (p2 : Int32) (p3 : Int32) (w_length_a0 : Int32) : Int32 := (if p3 = (0 : Int32) then (if (w_length_a0 - p1) < p2 then (0 : Int32) else (1 : Int32)) else (if p1 < p2 then (0 : Int32) else (1 : Int32)))
theorem efF (m : MethodId) (a0 : Addr) (p1 : Int32) (p2 : Int32) (p3 : Int32) : entryFrame m #[(.ref a0), (.int p1), (.int p2), (.int p3)] 4 = mkF m 0 #[.val (.ref a0), .val (.int p1), .val (.int p2), .val (.int p3)] [] := by first | (simp [entryFrame, mkF, argsToLocals, Value.category]; done) | rfl
def QF (Z : State) (a0 : Addr) (p1 : Int32) (p2 : Int32) (p3 : Int32) (w_length_a0 : Int32) (h0 : Heap) (n0 : Nat) (v : Option Value) (h : Heap) : Prop := v = some (.int (nar .boolean (vF_2 p1 p2 p3 w_length_a0))) ∧ h = h0
set_option maxRecDepth 65536 in
set_option maxHeartbeats 40000000 in
theorem rmF (l : Launch) (Z : State) (aZ : Array Value) (hw : ∀ d ∈ tables_1, d.before aZ Z = true) (a0 : Addr) (p1 : Int32) (p2 : Int32) (p3 : Int32) (w_length_a0 : Int32) (h0 : Heap) (n0 : Nat) (Z0 : n0 ≤ h0.size) (F_length_a0 : Fld Z h0 a0 "com/example/firm_input/firminput/regex/RegexInput" "length" "I" (.int w_length_a0)) :
    Ctr l Z (⟨"com/example/firm_input/firminput/regex/RegexInput", "fits", "(III)Z"⟩ : MethodName) prog_27_method_8_code 4 (some .boolean) ({ frames := 0, cells := 0, slots := 0, locals := 0 } : Room) #[(.ref a0), (.int p1), (.int p2), (.int p3)] h0 n0 (QF Z a0 p1 p2 p3 w_length_a0 h0 n0) := by
  refine Ctr.of_go pn9 (fun m => efF m a0 p1 p2 p3) ?_
  intro p e s m below meth c hnm C
  refine g_iloadN C iF_0 rfl ?_
  refine Go.join (mkF m 32 #[.val (.ref a0), .val (.int p1), .val (.int p2), .val (.int p3)] [(.int (vF_2 p1 p2 p3 w_length_a0))]) ?_ (fun J => ?_)
  · exact g_retNar C (t := .boolean) iF_32 rfl (by simp) (by decide) (by decide) ⟨rfl, rfl⟩
  · refine g_if_ne C iF_1 (fun hc1_1 => ?_) (fun hc1_1 => ?_)
    · refine g_iloadN C iF_4 rfl ?_
      refine g_aloadN C iF_5 rfl rfl ?_
      refine g_getF C iF_6 (host := "") (Or.inl (hw _ (List.mem_of_getElem? (i := 47) rfl))) Via.refl F_length_a0 ?_
      refine g_iloadN C iF_9 rfl ?_
      refine g_isub C iF_10 ?_
      refine g_icmp_gt C iF_11 (fun hc11_1 => ?_) (fun hc11_1 => ?_)
      · refine g_iconst C (0 : Int32) iF_18 rfl ?_
        refine g_goto C iF_19 ?_
        have e0 : (vF_2 p1 p2 p3 w_length_a0) = (0 : Int32) := by simp only [vF_2, if_pos hc1_1, if_pos hc11_1]
        exact Go.cast J (by rw [e0])
      · refine g_iconst C (1 : Int32) iF_14 rfl ?_
        refine g_goto C iF_15 ?_
        have e0 : (vF_2 p1 p2 p3 w_length_a0) = (1 : Int32) := by simp only [vF_2, if_pos hc1_1, if_neg hc11_1]
        exact Go.cast J (by rw [e0])
    · refine g_iloadN C iF_22 rfl ?_
      refine g_iloadN C iF_23 rfl ?_
      refine g_icmp_gt C iF_24 (fun hc24_1 => ?_) (fun hc24_1 => ?_)
      · refine g_iconst C (0 : Int32) iF_31 rfl ?_
        have e0 : (vF_2 p1 p2 p3 w_length_a0) = (0 : Int32) := by simp only [vF_2, if_neg hc1_1, if_pos hc24_1]
        exact Go.cast J (by rw [e0])
      · refine g_iconst C (1 : Int32) iF_27 rfl ?_
        refine g_goto C iF_28 ?_
        have e0 : (vF_2 p1 p2 p3 w_length_a0) = (1 : Int32) := by simp only [vF_2, if_neg hc1_1, if_neg hc24_1]
        exact Go.cast J (by rw [e0])
theorem own_iff1 {L fr ct : Int32} {M : Int64} (hL : 0 ≤ L.toInt ∧ L.toInt ≤ 4) (hM : M.toInt = L.toInt) (hf : 0 ≤ fr.toInt ∧ fr.toInt ≤ L.toInt) : (L - fr < ct) ↔ (M < fr.toInt64 + ct.toInt64) := by
  have g1 := c_isub L fr
  have g2 := rng32 (L - fr)
  have g3 := rng32 ct
  have g4 := rng32 fr
  have e1 : fr.toInt64.toInt = fr.toInt := Int32.toInt_toInt64 fr
  have e2 : ct.toInt64.toInt = ct.toInt := Int32.toInt_toInt64 ct
  have g5 := c_ladd fr.toInt64 ct.toInt64
  have g6 := rng64 (fr.toInt64 + ct.toInt64)
  rw [Int32.lt_iff_toInt_lt, Int64.lt_iff_toInt_lt, hM]
  omega
theorem own_iff2 {fr ct : Int32} : (fr < ct) ↔ (fr.toInt64 - ct.toInt64 < (0 : Int64)) := by
  have g3 := rng32 ct
  have g4 := rng32 fr
  have e1 : fr.toInt64.toInt = fr.toInt := Int32.toInt_toInt64 fr
  have e2 : ct.toInt64.toInt = ct.toInt := Int32.toInt_toInt64 ct
  have g5 := c_lsub fr.toInt64 ct.toInt64
  have g6 := rng64 (fr.toInt64 - ct.toInt64)
  have e0 : (0 : Int64).toInt = 0 := rfl
  rw [Int32.lt_iff_toInt_lt, Int64.lt_iff_toInt_lt, e0]
  omega
theorem own_main {fr ct L fw : Int32} {M : Int64} (hL : 0 ≤ L.toInt ∧ L.toInt ≤ 4) (hM : M.toInt = L.toInt) (hf : 0 ≤ fr.toInt ∧ fr.toInt ≤ L.toInt) (hfw : fw = 0 ∨ fw = 1) :
    nar .boolean (if (nar .boolean (vF_2 fr ct (if fw = (0 : Int32) then (1 : Int32) else (0 : Int32)) L)) = (if fw = (0 : Int32) then (if fr.toInt64 - ct.toInt64 < (0 : Int64) then (0 : Int32) else (1 : Int32)) else (if M < fr.toInt64 + ct.toInt64 then (0 : Int32) else (1 : Int32))) then (1 : Int32) else (0 : Int32)) = 1 := by
  have z0 : (0 : Int32) = 0 := rfl
  have z1 : ¬ ((1 : Int32) = 0) := by decide
  rcases hfw with rfl | rfl
  · rw [if_pos z0, if_pos z0]
    by_cases q : fr < ct
    · rw [if_pos (own_iff2.mp q), show vF_2 fr ct 1 L = 0 from by simp only [vF_2, if_neg z1, if_pos q]]; decide
    · rw [if_neg (fun z => q (own_iff2.mpr z)), show vF_2 fr ct 1 L = 1 from by simp only [vF_2, if_neg z1, if_neg q]]; decide
  · rw [if_neg z1, if_neg z1]
    by_cases q : L - fr < ct
    · rw [if_pos ((own_iff1 hL hM hf).mp q), show vF_2 fr ct 0 L = 0 from by rw [vF_2, if_pos z0, if_pos q]]; decide
    · rw [if_neg (fun z => q ((own_iff1 hL hM hf).mpr z)), show vF_2 fr ct 0 L = 1 from by rw [vF_2, if_pos z0, if_neg q]]; decide
theorem own_fr {x m L : Int32} (h : m.toInt = L.toInt + 1) (hL : 0 ≤ L.toInt) : 0 ≤ ((x &&& (2147483647 : Int32)) % m).toInt ∧ ((x &&& (2147483647 : Int32)) % m).toInt ≤ L.toInt := by
  have h2 := (c_and x 2147483647 (by decide)).1
  have h3 := (c_iremV (x &&& 2147483647) m).1 h2 (by omega)
  omega
theorem own_c255 {ch : Int32} (h : 0 ≤ ch.toInt ∧ ch.toInt ≤ 255) : ¬ ((255 : Int32) < nar .char ch) := by
  have key : ∀ a, a < 256 → ¬ ((255 : Int32) < nar .char a.toInt32) := by decide +kernel
  have e : ch = ch.toNatClampNeg.toInt32 := (back32 (by rw [Int32.lt_iff_toInt_lt]; have e0 : (0 : Int32).toInt = 0 := rfl; omega)).1.symm
  rw [e]
  exact key _ (by simp only [Int32.toNatClampNeg]; omega)
theorem own_01 {P : Prop} [Decidable P] : (if P then (1 : Int32) else (0 : Int32)) = 0 ∨ (if P then (1 : Int32) else (0 : Int32)) = 1 := by
  by_cases h : P
  · exact Or.inr (if_pos h)
  · exact Or.inl (if_neg h)
theorem own_01' {P : Prop} [Decidable P] : (if P then (0 : Int32) else (1 : Int32)) = 0 ∨ (if P then (0 : Int32) else (1 : Int32)) = 1 := by
  by_cases h : P
  · exact Or.inl (if_pos h)
  · exact Or.inr (if_neg h)
theorem pd6 : parseMethodDescriptor "(IC)[C" = some ⟨[.int, .char], some (.array .char)⟩ := by decide +kernel
theorem pd7 : parseMethodDescriptor "([C)V" = some ⟨[(.array .char)], none⟩ := by decide +kernel
theorem pd8 : parseMethodDescriptor "(Ljava/lang/String;)V" = some ⟨[(.object "java/lang/String")], none⟩ := by decide +kernel
theorem pd9 : parseMethodDescriptor "(III)Z" = some ⟨[.int, .int, .int], some .boolean⟩ := by decide +kernel
theorem iG_19 : I1 code 19 (.new 8) 3 22 := ⟨at_19, rfl⟩
theorem iG_22 : I1 code 22 (.dup) 1 23 := ⟨at_22, rfl⟩
theorem iG_23 : I1 code 23 (.iload 4) 2 25 := ⟨at_23, rfl⟩
theorem iG_25 : I1 code 25 (.iload 5) 2 27 := ⟨at_25, rfl⟩
theorem iG_27 : I1 code 27 (.invokestatic 10) 3 30 := ⟨at_27, rfl⟩
theorem iG_30 : I1 code 30 (.invokespecial 16) 3 33 := ⟨at_30, rfl⟩
theorem iG_33 : I1 code 33 (.astore 6) 2 35 := ⟨at_33, rfl⟩
theorem iG_35 : I1 code 35 (.new 19) 3 38 := ⟨at_35, rfl⟩
theorem iG_38 : I1 code 38 (.dup) 1 39 := ⟨at_38, rfl⟩
theorem iG_39 : I1 code 39 (.aload 6) 2 41 := ⟨at_39, rfl⟩
theorem iG_41 : I1 code 41 (.invokespecial 21) 3 44 := ⟨at_41, rfl⟩
theorem iG_44 : I1 code 44 (.astore 7) 2 46 := ⟨at_44, rfl⟩
theorem iG_46 : I1 code 46 (.iload_n 1) 1 47 := ⟨at_46, rfl⟩
theorem iG_47 : I1 code 47 (.ldc 7) 2 49 := ⟨at_47, rfl⟩
theorem iG_49 : I1 code 49 (.iand) 1 50 := ⟨at_49, rfl⟩
theorem iG_50 : I1 code 50 (.iload 4) 2 52 := ⟨at_50, rfl⟩
theorem iG_52 : I1 code 52 (.iconst 1) 1 53 := ⟨at_52, rfl⟩
theorem iG_53 : I1 code 53 (.iadd) 1 54 := ⟨at_53, rfl⟩
theorem iG_54 : I1 code 54 (.irem) 1 55 := ⟨at_54, rfl⟩
theorem iG_55 : I1 code 55 (.istore 8) 2 57 := ⟨at_55, rfl⟩
theorem iG_57 : I1 code 57 (.iload_n 3) 1 58 := ⟨at_57, rfl⟩
theorem iG_58 : I1 code 58 (.iconst 1) 1 59 := ⟨at_58, rfl⟩
theorem iG_59 : I1 code 59 (.iand) 1 60 := ⟨at_59, rfl⟩
theorem iG_60 : B1 code 60 (.ifCond .ne 7) 7 67 63 := ⟨at_60, rfl, by decide, by decide⟩
theorem iG_63 : I1 code 63 (.iconst 1) 1 64 := ⟨at_63, rfl⟩
theorem iG_64 : B1 code 64 (.goto 4) 4 68 67 := ⟨at_64, rfl, by decide, by decide⟩
theorem iG_67 : I1 code 67 (.iconst 0) 1 68 := ⟨at_67, rfl⟩
theorem iG_68 : I1 code 68 (.istore 9) 2 70 := ⟨at_68, rfl⟩
theorem iG_70 : I1 code 70 (.iload 9) 2 72 := ⟨at_70, rfl⟩
theorem iG_72 : B1 code 72 (.ifCond .eq 7) 7 79 75 := ⟨at_72, rfl, by decide, by decide⟩
theorem iG_75 : I1 code 75 (.iconst 0) 1 76 := ⟨at_75, rfl⟩
theorem iG_76 : B1 code 76 (.goto 4) 4 80 79 := ⟨at_76, rfl, by decide, by decide⟩
theorem iG_79 : I1 code 79 (.iconst 1) 1 80 := ⟨at_79, rfl⟩
theorem iG_80 : I1 code 80 (.istore 10) 2 82 := ⟨at_80, rfl⟩
theorem iG_82 : I1 code 82 (.iload 9) 2 84 := ⟨at_82, rfl⟩
theorem iG_84 : B1 code 84 (.ifCond .eq 24) 24 108 87 := ⟨at_84, rfl, by decide, by decide⟩
theorem iG_87 : I1 code 87 (.iload 8) 2 89 := ⟨at_87, rfl⟩
theorem iG_89 : I1 code 89 (.i2l) 1 90 := ⟨at_89, rfl⟩
theorem iG_90 : I1 code 90 (.iload_n 2) 1 91 := ⟨at_90, rfl⟩
theorem iG_91 : I1 code 91 (.i2l) 1 92 := ⟨at_91, rfl⟩
theorem iG_92 : I1 code 92 (.ladd) 1 93 := ⟨at_92, rfl⟩
theorem iG_93 : I1 code 93 (.iload 4) 2 95 := ⟨at_93, rfl⟩
theorem iG_95 : I1 code 95 (.i2l) 1 96 := ⟨at_95, rfl⟩
theorem iG_96 : I1 code 96 (.lcmp) 1 97 := ⟨at_96, rfl⟩
theorem iG_97 : B1 code 97 (.ifCond .gt 7) 7 104 100 := ⟨at_97, rfl, by decide, by decide⟩
theorem iG_100 : I1 code 100 (.iconst 1) 1 101 := ⟨at_100, rfl⟩
theorem iG_101 : B1 code 101 (.goto 23) 23 124 104 := ⟨at_101, rfl, by decide, by decide⟩
theorem iG_104 : I1 code 104 (.iconst 0) 1 105 := ⟨at_104, rfl⟩
theorem iG_105 : B1 code 105 (.goto 19) 19 124 108 := ⟨at_105, rfl, by decide, by decide⟩
theorem iG_108 : I1 code 108 (.iload 8) 2 110 := ⟨at_108, rfl⟩
theorem iG_110 : I1 code 110 (.i2l) 1 111 := ⟨at_110, rfl⟩
theorem iG_111 : I1 code 111 (.iload_n 2) 1 112 := ⟨at_111, rfl⟩
theorem iG_112 : I1 code 112 (.i2l) 1 113 := ⟨at_112, rfl⟩
theorem iG_113 : I1 code 113 (.lsub) 1 114 := ⟨at_113, rfl⟩
theorem iG_114 : I1 code 114 (.lconst 0) 1 115 := ⟨at_114, rfl⟩
theorem iG_115 : I1 code 115 (.lcmp) 1 116 := ⟨at_115, rfl⟩
theorem iG_116 : B1 code 116 (.ifCond .lt 7) 7 123 119 := ⟨at_116, rfl, by decide, by decide⟩
theorem iG_119 : I1 code 119 (.iconst 1) 1 120 := ⟨at_119, rfl⟩
theorem iG_120 : B1 code 120 (.goto 4) 4 124 123 := ⟨at_120, rfl, by decide, by decide⟩
theorem iG_123 : I1 code 123 (.iconst 0) 1 124 := ⟨at_123, rfl⟩
theorem iG_124 : I1 code 124 (.istore 11) 2 126 := ⟨at_124, rfl⟩
theorem iG_126 : I1 code 126 (.aload 7) 2 128 := ⟨at_126, rfl⟩
theorem iG_128 : I1 code 128 (.iload 8) 2 130 := ⟨at_128, rfl⟩
theorem iG_130 : I1 code 130 (.iload_n 2) 1 131 := ⟨at_130, rfl⟩
theorem iG_131 : I1 code 131 (.iload 10) 2 133 := ⟨at_131, rfl⟩
theorem iG_133 : I1 code 133 (.invokevirtual 26) 3 136 := ⟨at_133, rfl⟩
theorem iG_136 : I1 code 136 (.iload 11) 2 138 := ⟨at_136, rfl⟩
theorem iG_138 : B1 code 138 (.if_icmp .ne 7) 7 145 141 := ⟨at_138, rfl, by decide, by decide⟩
theorem iG_141 : I1 code 141 (.iconst 1) 1 142 := ⟨at_141, rfl⟩
theorem iG_142 : B1 code 142 (.goto 4) 4 146 145 := ⟨at_142, rfl, by decide, by decide⟩
theorem iG_145 : I1 code 145 (.iconst 0) 1 146 := ⟨at_145, rfl⟩
theorem iG_146 : I1 code 146 (.ireturn) 1 147 := ⟨at_146, rfl⟩
def vG_0 (p1 : Int32) (p2 : Int32) (p3 : Int32) (n : Int32) (ch : Int32) (cs : Int32) : Int32 := (if (p3 &&& (1 : Int32)) = (0 : Int32) then (1 : Int32) else (0 : Int32))
def vG_1 (p1 : Int32) (p2 : Int32) (p3 : Int32) (n : Int32) (ch : Int32) (cs : Int32) : Int32 := (if (vG_0 p1 p2 p3 n ch cs) = (0 : Int32) then (1 : Int32) else (0 : Int32))
def vG_2 (p1 : Int32) (p2 : Int32) (p3 : Int32) (n : Int32) (ch : Int32) (cs : Int32) : Int32 := (if ((((p1 &&& (2147483647 : Int32)) % (1 : Int32)).toInt64) - (p2.toInt64)) < (0 : Int64) then (0 : Int32) else (1 : Int32))
def vG_3 (p1 : Int32) (p2 : Int32) (p3 : Int32) (n : Int32) (ch : Int32) (cs : Int32) : Int32 := (if ((0 : Int32).toInt64) < ((((p1 &&& (2147483647 : Int32)) % (1 : Int32)).toInt64) + (p2.toInt64)) then (0 : Int32) else (1 : Int32))
def vG_4 (p1 : Int32) (p2 : Int32) (p3 : Int32) (n : Int32) (ch : Int32) (cs : Int32) : Int32 := (if (vG_0 p1 p2 p3 n ch cs) = (0 : Int32) then (if ((((p1 &&& (2147483647 : Int32)) % (1 : Int32)).toInt64) - (p2.toInt64)) < (0 : Int64) then (0 : Int32) else (1 : Int32)) else (if ((0 : Int32).toInt64) < ((((p1 &&& (2147483647 : Int32)) % (1 : Int32)).toInt64) + (p2.toInt64)) then (0 : Int32) else (1 : Int32)))
def vG_5 (p1 : Int32) (p2 : Int32) (p3 : Int32) (n : Int32) (ch : Int32) (cs : Int32) : Int32 := (if (nar .boolean (vF_2 ((p1 &&& (2147483647 : Int32)) % (1 : Int32)) p2 (vG_1 p1 p2 p3 n ch cs) (0 : Int32))) = (vG_4 p1 p2 p3 n ch cs) then (1 : Int32) else (0 : Int32))
def vG_6 (p1 : Int32) (p2 : Int32) (p3 : Int32) (n : Int32) (ch : Int32) (cs : Int32) : Int32 := (if ((((p1 &&& (2147483647 : Int32)) % (2 : Int32)).toInt64) - (p2.toInt64)) < (0 : Int64) then (0 : Int32) else (1 : Int32))
def vG_7 (p1 : Int32) (p2 : Int32) (p3 : Int32) (n : Int32) (ch : Int32) (cs : Int32) : Int32 := (if ((1 : Int32).toInt64) < ((((p1 &&& (2147483647 : Int32)) % (2 : Int32)).toInt64) + (p2.toInt64)) then (0 : Int32) else (1 : Int32))
def vG_8 (p1 : Int32) (p2 : Int32) (p3 : Int32) (n : Int32) (ch : Int32) (cs : Int32) : Int32 := (if (vG_0 p1 p2 p3 n ch cs) = (0 : Int32) then (if ((((p1 &&& (2147483647 : Int32)) % (2 : Int32)).toInt64) - (p2.toInt64)) < (0 : Int64) then (0 : Int32) else (1 : Int32)) else (if ((1 : Int32).toInt64) < ((((p1 &&& (2147483647 : Int32)) % (2 : Int32)).toInt64) + (p2.toInt64)) then (0 : Int32) else (1 : Int32)))
def vG_9 (p1 : Int32) (p2 : Int32) (p3 : Int32) (n : Int32) (ch : Int32) (cs : Int32) : Int32 := (if (nar .boolean (vF_2 ((p1 &&& (2147483647 : Int32)) % (2 : Int32)) p2 (vG_1 p1 p2 p3 n ch cs) (1 : Int32))) = (vG_8 p1 p2 p3 n ch cs) then (1 : Int32) else (0 : Int32))
def vG_10 (p1 : Int32) (p2 : Int32) (p3 : Int32) (n : Int32) (ch : Int32) (cs : Int32) : Int32 := (if ((((p1 &&& (2147483647 : Int32)) % (3 : Int32)).toInt64) - (p2.toInt64)) < (0 : Int64) then (0 : Int32) else (1 : Int32))
def vG_11 (p1 : Int32) (p2 : Int32) (p3 : Int32) (n : Int32) (ch : Int32) (cs : Int32) : Int32 := (if ((2 : Int32).toInt64) < ((((p1 &&& (2147483647 : Int32)) % (3 : Int32)).toInt64) + (p2.toInt64)) then (0 : Int32) else (1 : Int32))
def vG_12 (p1 : Int32) (p2 : Int32) (p3 : Int32) (n : Int32) (ch : Int32) (cs : Int32) : Int32 := (if (vG_0 p1 p2 p3 n ch cs) = (0 : Int32) then (if ((((p1 &&& (2147483647 : Int32)) % (3 : Int32)).toInt64) - (p2.toInt64)) < (0 : Int64) then (0 : Int32) else (1 : Int32)) else (if ((2 : Int32).toInt64) < ((((p1 &&& (2147483647 : Int32)) % (3 : Int32)).toInt64) + (p2.toInt64)) then (0 : Int32) else (1 : Int32)))
def vG_13 (p1 : Int32) (p2 : Int32) (p3 : Int32) (n : Int32) (ch : Int32) (cs : Int32) : Int32 := (if (nar .boolean (vF_2 ((p1 &&& (2147483647 : Int32)) % (3 : Int32)) p2 (vG_1 p1 p2 p3 n ch cs) (2 : Int32))) = (vG_12 p1 p2 p3 n ch cs) then (1 : Int32) else (0 : Int32))
def vG_14 (p1 : Int32) (p2 : Int32) (p3 : Int32) (n : Int32) (ch : Int32) (cs : Int32) : Int32 := (if ((((p1 &&& (2147483647 : Int32)) % (4 : Int32)).toInt64) - (p2.toInt64)) < (0 : Int64) then (0 : Int32) else (1 : Int32))
def vG_15 (p1 : Int32) (p2 : Int32) (p3 : Int32) (n : Int32) (ch : Int32) (cs : Int32) : Int32 := (if ((3 : Int32).toInt64) < ((((p1 &&& (2147483647 : Int32)) % (4 : Int32)).toInt64) + (p2.toInt64)) then (0 : Int32) else (1 : Int32))
def vG_16 (p1 : Int32) (p2 : Int32) (p3 : Int32) (n : Int32) (ch : Int32) (cs : Int32) : Int32 := (if (vG_0 p1 p2 p3 n ch cs) = (0 : Int32) then (if ((((p1 &&& (2147483647 : Int32)) % (4 : Int32)).toInt64) - (p2.toInt64)) < (0 : Int64) then (0 : Int32) else (1 : Int32)) else (if ((3 : Int32).toInt64) < ((((p1 &&& (2147483647 : Int32)) % (4 : Int32)).toInt64) + (p2.toInt64)) then (0 : Int32) else (1 : Int32)))
def vG_17 (p1 : Int32) (p2 : Int32) (p3 : Int32) (n : Int32) (ch : Int32) (cs : Int32) : Int32 := (if (nar .boolean (vF_2 ((p1 &&& (2147483647 : Int32)) % (4 : Int32)) p2 (vG_1 p1 p2 p3 n ch cs) (3 : Int32))) = (vG_16 p1 p2 p3 n ch cs) then (1 : Int32) else (0 : Int32))
def vG_18 (p1 : Int32) (p2 : Int32) (p3 : Int32) (n : Int32) (ch : Int32) (cs : Int32) : Int32 := (if ((((p1 &&& (2147483647 : Int32)) % (5 : Int32)).toInt64) - (p2.toInt64)) < (0 : Int64) then (0 : Int32) else (1 : Int32))
def vG_19 (p1 : Int32) (p2 : Int32) (p3 : Int32) (n : Int32) (ch : Int32) (cs : Int32) : Int32 := (if ((4 : Int32).toInt64) < ((((p1 &&& (2147483647 : Int32)) % (5 : Int32)).toInt64) + (p2.toInt64)) then (0 : Int32) else (1 : Int32))
def vG_20 (p1 : Int32) (p2 : Int32) (p3 : Int32) (n : Int32) (ch : Int32) (cs : Int32) : Int32 := (if (vG_0 p1 p2 p3 n ch cs) = (0 : Int32) then (if ((((p1 &&& (2147483647 : Int32)) % (5 : Int32)).toInt64) - (p2.toInt64)) < (0 : Int64) then (0 : Int32) else (1 : Int32)) else (if ((4 : Int32).toInt64) < ((((p1 &&& (2147483647 : Int32)) % (5 : Int32)).toInt64) + (p2.toInt64)) then (0 : Int32) else (1 : Int32)))
def vG_21 (p1 : Int32) (p2 : Int32) (p3 : Int32) (n : Int32) (ch : Int32) (cs : Int32) : Int32 := (if (nar .boolean (vF_2 ((p1 &&& (2147483647 : Int32)) % (5 : Int32)) p2 (vG_1 p1 p2 p3 n ch cs) (4 : Int32))) = (vG_20 p1 p2 p3 n ch cs) then (1 : Int32) else (0 : Int32))
set_option maxRecDepth 65536 in
set_option maxHeartbeats 40000000 in
theorem leafG_0 (p1 : Int32) (p2 : Int32) (p3 : Int32) (n : Int32) (ch : Int32) (cs : Int32) (hq0 : n = (0 : Int32)) : nar .boolean (vG_5 p1 p2 p3 n ch cs) = 1 := by
  exact own_main (fr := ((p1 &&& (2147483647 : Int32)) % (1 : Int32))) (ct := p2) (L := (0 : Int32)) (M := (0 : Int32).toInt64) (fw := vG_0 p1 p2 p3 n ch cs) (by decide) rfl (own_fr rfl (by decide)) (by unfold vG_0; first | exact own_01 | exact own_01')
set_option maxRecDepth 65536 in
set_option maxHeartbeats 40000000 in
theorem leafG_1 (p1 : Int32) (p2 : Int32) (p3 : Int32) (n : Int32) (ch : Int32) (cs : Int32) (hq1 : n = (1 : Int32)) : nar .boolean (vG_9 p1 p2 p3 n ch cs) = 1 := by
  exact own_main (fr := ((p1 &&& (2147483647 : Int32)) % (2 : Int32))) (ct := p2) (L := (1 : Int32)) (M := (1 : Int32).toInt64) (fw := vG_0 p1 p2 p3 n ch cs) (by decide) rfl (own_fr rfl (by decide)) (by unfold vG_0; first | exact own_01 | exact own_01')
set_option maxRecDepth 65536 in
set_option maxHeartbeats 40000000 in
theorem leafG_2 (p1 : Int32) (p2 : Int32) (p3 : Int32) (n : Int32) (ch : Int32) (cs : Int32) (hq2 : n = (2 : Int32)) : nar .boolean (vG_13 p1 p2 p3 n ch cs) = 1 := by
  exact own_main (fr := ((p1 &&& (2147483647 : Int32)) % (3 : Int32))) (ct := p2) (L := (2 : Int32)) (M := (2 : Int32).toInt64) (fw := vG_0 p1 p2 p3 n ch cs) (by decide) rfl (own_fr rfl (by decide)) (by unfold vG_0; first | exact own_01 | exact own_01')
set_option maxRecDepth 65536 in
set_option maxHeartbeats 40000000 in
theorem leafG_3 (p1 : Int32) (p2 : Int32) (p3 : Int32) (n : Int32) (ch : Int32) (cs : Int32) (hq3 : n = (3 : Int32)) : nar .boolean (vG_17 p1 p2 p3 n ch cs) = 1 := by
  exact own_main (fr := ((p1 &&& (2147483647 : Int32)) % (4 : Int32))) (ct := p2) (L := (3 : Int32)) (M := (3 : Int32).toInt64) (fw := vG_0 p1 p2 p3 n ch cs) (by decide) rfl (own_fr rfl (by decide)) (by unfold vG_0; first | exact own_01 | exact own_01')
set_option maxRecDepth 65536 in
set_option maxHeartbeats 40000000 in
theorem leafG_4 (p1 : Int32) (p2 : Int32) (p3 : Int32) (n : Int32) (ch : Int32) (cs : Int32) (hq4 : n = (4 : Int32)) : nar .boolean (vG_21 p1 p2 p3 n ch cs) = 1 := by
  exact own_main (fr := ((p1 &&& (2147483647 : Int32)) % (5 : Int32))) (ct := p2) (L := (4 : Int32)) (M := (4 : Int32).toInt64) (fw := vG_0 p1 p2 p3 n ch cs) (by decide) rfl (own_fr rfl (by decide)) (by unfold vG_0; first | exact own_01 | exact own_01')
set_option maxRecDepth 65536 in
set_option maxHeartbeats 40000000 in
theorem segG (l : Launch) (Z : State) (aZ : Array Value) (hw : ∀ d ∈ tables_1, d.before aZ Z = true) (p0 p1 p2 p3 n ch cs : Int32) (h0 : Heap) (n0 : Nat) (Z0 : n0 ≤ h0.size) (OLD : Old Z n0 h0) (S_c : Sta Z Z.heap "java/lang/String" "COMPACT_STRINGS" "Z" (.int cs)) (hcs : ¬ (cs = (0 : Int32))) (hch : 0 ≤ ch.toInt ∧ ch.toInt ≤ 255) (hn : n = 0 ∨ n = 1 ∨ n = 2 ∨ n = 3 ∨ n = 4)
    {p : Program} {e : Env} {s : State} {m : MethodId} {below : List Frame} {meth : Method} {c : Code} (C : Cx p s m meth c Z code maxLocals "com/example/firm_input/firminput/regex/RegexInputFitsPinLaw" ret) (HW : Wd Z consts_1 s s h0) : Go p l e room_1 s m #[(.int p0), (.int p1), (.int p2), (.int p3)] below meth c n0 (EV s n0 room_1.cells room_1.slots (fun v h => v = some (.int 1))) h0 0 0 (mkF m 19 #[.val (.int p0), .val (.int p1), .val (.int p2), .val (.int p3), .val (.int n), .val (.int ch), .unset, .unset, .unset, .unset, .unset, .unset] []) := by
  rcases hn with hq0 | hq1 | hq2 | hq3 | hq4
  · refine Go.cast (g' := mkF m 19 #[.val (.int p0), .val (.int p1), .val (.int p2), .val (.int p3), .val (.int (0 : Int32)), .val (.int ch), .unset, .unset, .unset, .unset, .unset, .unset] []) ?_ (by rw [hq0])
    refine g_newO C iG_19 (hw _ (List.mem_of_getElem? (i := 1) rfl)) (hw _ (List.mem_of_getElem? (i := 2) rfl)) (hw _ (List.mem_of_getElem? (i := 3) rfl)) (by decide) (by decide) rfl rfl (fun h88 b88 g88 E88 A88 D88 => ?_)
    have ge88 : n0 ≤ b88 := Nat.le_trans Z0 (Nat.le_of_eq g88.symm)
    have fr88 : h0.size ≤ b88 := Nat.le_trans (Keep.refl h0 []).1 (Nat.le_of_eq g88.symm)
    have K88 := Keep.ext (Keep.refl h0 []) E88
    have Z88 : n0 ≤ h88.size := Nat.le_trans Z0 E88.1
    have HW := HW.ext E88
    have OLD88 := Old.ext OLD E88
    have F88_value : Fld Z h88 b88 "java/lang/String" "value" "[B" .null := D88 (Or.inr (hw _ (List.mem_of_getElem? (i := 21) rfl))) (ty := (.array .byte)) (by decide)
    have F88_coder : Fld Z h88 b88 "java/lang/String" "coder" "B" (.int (0 : Int32)) := D88 (Or.inr (hw _ (List.mem_of_getElem? (i := 22) rfl))) (ty := .byte) (by decide)
    refine g_dup C iG_22 rfl ?_
    refine g_iload C iG_23 rfl ?_
    refine g_iload C iG_25 rfl ?_
    refine g_callS C (rmh0 l Z aZ hw ch h88 n0 Z88) iG_27 (hw _ (List.mem_of_getElem? (i := 4) rfl)) (hw _ (List.mem_of_getElem? (i := 5) rfl)) (hw _ (List.mem_of_getElem? (i := 6) rfl)) (hw _ (List.mem_of_getElem? (i := 7) rfl)) (by decide) (argsL := [(.int (0 : Int32)), (.int ch)]) (rest := [(.ref b88), (.ref b88)]) rfl rfl pd6 rfl rfl 2 (Nat.le_of_eq rfl) (by decide) (by decide) (by decide) (by decide) rfl rfl ?_
    rintro _ h89 ⟨r89_fb0, rfl, ⟨ge89_fb0, fh89_fb0⟩, KC89, P89_0⟩
    refine Go.some' ?_
    have ne_b88_r89_fb0 : b88 ≠ r89_fb0 := Nat.ne_of_lt (Nat.lt_of_lt_of_le A88.lt fh89_fb0)
    have fr89_fb0 : h0.size ≤ r89_fb0 := Nat.le_trans K88.1 fh89_fb0
    have HW := HW.keep KC89 all0
    have OLDC89 := Old.keep OLD88 KC89 all0
    have E_b88_cC89 := Exa.keep A88 KC89
    have F_value_b88_cC89 := Fld.keep F88_value KC89 nin0
    have F_coder_b88_cC89 := Fld.keep F88_coder KC89 nin0
    have K89 := Keep.trans K88 KC89 all0
    have Z89 : n0 ≤ h89.size := Nat.le_trans Z88 KC89.1
    refine g_callIV C HW (own_EWL hw) (rmj0 l Z aZ hw b88 r89_fb0 (fun _ => (0 : Int32)) cs .null (0 : Int32) h89 n0 Z89 E_b88_cC89 P89_0 OLDC89 S_c hcs F_value_b88_cC89 ge88 ne_b88_r89_fb0 F_coder_b88_cC89) (a := b88) iG_30 rfl (hw _ (List.mem_of_getElem? (i := 9) rfl)) (hw _ (List.mem_of_getElem? (i := 10) rfl)) (hw _ (List.mem_of_getElem? (i := 3) rfl)) (hw _ (List.mem_of_getElem? (i := 11) rfl)) rfl (by decide) (argsL := [(.ref r89_fb0)]) (rest := [(.ref b88)]) rfl rfl pd7 rfl rfl 1 (Nat.le_of_eq rfl) (by decide) (by decide) (by decide) (by decide) rfl rfl ?_
    rintro _ s h90 C HW ⟨r90_fb0, rfl, KC90, P90_0, P90_1, P90_2, P90_3⟩
    refine Go.none' ?_
    have OLDC90 := Old.keep OLDC89 KC90 (allS ge88 all0)
    have E_b88_cC90 := Exa.keep E_b88_cC89 KC90
    have V_r89_fb0_cC90 := AV.keep P89_0 KC90 (ninS (Ne.symm ne_b88_r89_fb0) nin0)
    have K90 := Keep.trans K89 KC90 (allS (Or.inr fr88) all0)
    have Z90 : n0 ≤ h90.size := Nat.le_trans Z89 KC90.1
    have P90_3 : Fld Z h90 b88 "java/lang/String" "coder" "B" (.int (0 : Int32)) := P90_3
    refine g_astore C (Ls' := #[.val (.int p0), .val (.int p1), .val (.int p2), .val (.int p3), .val (.int (0 : Int32)), .val (.int ch), .val (.ref b88), .unset, .unset, .unset, .unset, .unset]) iG_33 rfl rfl ?_
    refine g_newO C iG_35 (hw _ (List.mem_of_getElem? (i := 27) rfl)) (hw _ (List.mem_of_getElem? (i := 28) rfl)) (hw _ (List.mem_of_getElem? (i := 29) rfl)) (by decide) (by decide) rfl rfl (fun h91 b91 g91 E91 A91 D91 => ?_)
    have ne_b88_b91 : b88 ≠ b91 := Nat.ne_of_lt (Nat.lt_of_lt_of_le P90_1.lt (Nat.le_of_eq g91.symm))
    have ne_r90_fb0_b91 : r90_fb0 ≠ b91 := Nat.ne_of_lt (Nat.lt_of_lt_of_le P90_0.lt (Nat.le_of_eq g91.symm))
    have ne_r89_fb0_b91 : r89_fb0 ≠ b91 := Nat.ne_of_lt (Nat.lt_of_lt_of_le V_r89_fb0_cC90.lt (Nat.le_of_eq g91.symm))
    have ge91 : n0 ≤ b91 := Nat.le_trans Z90 (Nat.le_of_eq g91.symm)
    have fr91 : h0.size ≤ b91 := Nat.le_trans K90.1 (Nat.le_of_eq g91.symm)
    have K91 := Keep.ext K90 E91
    have Z91 : n0 ≤ h91.size := Nat.le_trans Z90 E91.1
    have HW := HW.ext E91
    have OLD91 := Old.ext OLDC90 E91
    have E_b88_c91 := Exa.ext E91 P90_1
    have V_r89_fb0_c91 := V_r89_fb0_cC90.ext E91
    have V_r90_fb0_c91 := P90_0.ext E91
    have F_value_b88_c91 := Fld.ext E91 P90_2
    have F_coder_b88_c91 := Fld.ext E91 P90_3
    have F91_text : Fld Z h91 b91 "com/example/firm_input/firminput/regex/RegexInput" "text" "Ljava/lang/String;" .null := D91 (Or.inr (hw _ (List.mem_of_getElem? (i := 35) rfl))) (ty := (.object "java/lang/String")) (by decide)
    have F91_length : Fld Z h91 b91 "com/example/firm_input/firminput/regex/RegexInput" "length" "I" (.int (0 : Int32)) := D91 (Or.inr (hw _ (List.mem_of_getElem? (i := 48) rfl))) (ty := .int) (by decide)
    refine g_dup C iG_38 rfl ?_
    refine g_aload C iG_39 rfl rfl ?_
    refine g_callI C (rmr0 l Z aZ hw b91 b88 r90_fb0 own_tx0 cs .null (0 : Int32) h91 n0 Z91 A91 E_b88_c91 F_coder_b88_c91 F_value_b88_c91 V_r90_fb0_c91 OLD91 S_c hcs F91_text ge91 (Ne.symm ne_b88_b91) (Ne.symm ne_r90_fb0_b91) F91_length) (a := b91) iG_41 rfl (hw _ (List.mem_of_getElem? (i := 30) rfl)) (hw _ (List.mem_of_getElem? (i := 31) rfl)) (hw _ (List.mem_of_getElem? (i := 29) rfl)) (hw _ (List.mem_of_getElem? (i := 32) rfl)) rfl (by decide) (argsL := [(.ref b88)]) (rest := [(.ref b91)]) rfl rfl pd8 rfl rfl 1 (Nat.le_of_eq rfl) (by decide) (by decide) (by decide) (by decide) rfl rfl ?_
    rintro _ h92 ⟨rfl, KC92, P92_0, P92_1, P92_2⟩
    refine Go.none' ?_
    have HW := HW.keep KC92
    have OLDC92 := Old.keep OLD91 KC92 (allS ge91 all0)
    have E_b88_cC92 := Exa.keep E_b88_c91 KC92
    have V_r89_fb0_cC92 := AV.keep V_r89_fb0_c91 KC92 (ninS ne_r89_fb0_b91 nin0)
    have V_r90_fb0_cC92 := AV.keep V_r90_fb0_c91 KC92 (ninS ne_r90_fb0_b91 nin0)
    have F_value_b88_cC92 := Fld.keep F_value_b88_c91 KC92 (ninS ne_b88_b91 nin0)
    have F_coder_b88_cC92 := Fld.keep F_coder_b88_c91 KC92 (ninS ne_b88_b91 nin0)
    have E_b91_cC92 := Exa.keep A91 KC92
    have K92 := Keep.trans K91 KC92 (allS (Or.inr fr91) all0)
    have Z92 : n0 ≤ h92.size := Nat.le_trans Z91 KC92.1
    have P92_2 : Fld Z h92 b91 "com/example/firm_input/firminput/regex/RegexInput" "length" "I" (.int (0 : Int32)) := P92_2
    refine g_astore C (Ls' := #[.val (.int p0), .val (.int p1), .val (.int p2), .val (.int p3), .val (.int (0 : Int32)), .val (.int ch), .val (.ref b88), .val (.ref b91), .unset, .unset, .unset, .unset]) iG_44 rfl rfl ?_
    refine g_iloadN C iG_46 rfl ?_
    refine g_ldcInt C iG_47 (hw _ (List.mem_of_getElem? (i := 0) rfl)) ?_
    refine g_iand C iG_49 ?_
    refine g_iload C iG_50 rfl ?_
    refine g_iconst C (1 : Int32) iG_52 rfl ?_
    refine g_iadd C iG_53 ?_
    refine g_irem C iG_54 (by decide) ?_
    refine g_istore C (Ls' := #[.val (.int p0), .val (.int p1), .val (.int p2), .val (.int p3), .val (.int (0 : Int32)), .val (.int ch), .val (.ref b88), .val (.ref b91), .val (.int ((p1 &&& (2147483647 : Int32)) % (1 : Int32))), .unset, .unset, .unset]) iG_55 rfl ?_
    refine g_iloadN C iG_57 rfl ?_
    refine g_iconst C (1 : Int32) iG_58 rfl ?_
    refine g_iand C iG_59 ?_
    refine Go.join (mkF m 68 #[.val (.int p0), .val (.int p1), .val (.int p2), .val (.int p3), .val (.int (0 : Int32)), .val (.int ch), .val (.ref b88), .val (.ref b91), .val (.int ((p1 &&& (2147483647 : Int32)) % (1 : Int32))), .unset, .unset, .unset] [(.int (vG_0 p1 p2 p3 n ch cs))]) ?_ (fun J => ?_)
    · refine g_istore C (Ls' := #[.val (.int p0), .val (.int p1), .val (.int p2), .val (.int p3), .val (.int (0 : Int32)), .val (.int ch), .val (.ref b88), .val (.ref b91), .val (.int ((p1 &&& (2147483647 : Int32)) % (1 : Int32))), .val (.int (vG_0 p1 p2 p3 n ch cs)), .unset, .unset]) iG_68 rfl ?_
      refine g_iload C iG_70 rfl ?_
      refine Go.join (mkF m 80 #[.val (.int p0), .val (.int p1), .val (.int p2), .val (.int p3), .val (.int (0 : Int32)), .val (.int ch), .val (.ref b88), .val (.ref b91), .val (.int ((p1 &&& (2147483647 : Int32)) % (1 : Int32))), .val (.int (vG_0 p1 p2 p3 n ch cs)), .unset, .unset] [(.int (vG_1 p1 p2 p3 n ch cs))]) ?_ (fun J => ?_)
      · refine g_istore C (Ls' := #[.val (.int p0), .val (.int p1), .val (.int p2), .val (.int p3), .val (.int (0 : Int32)), .val (.int ch), .val (.ref b88), .val (.ref b91), .val (.int ((p1 &&& (2147483647 : Int32)) % (1 : Int32))), .val (.int (vG_0 p1 p2 p3 n ch cs)), .val (.int (vG_1 p1 p2 p3 n ch cs)), .unset]) iG_80 rfl ?_
        refine g_iload C iG_82 rfl ?_
        refine Go.join (mkF m 124 #[.val (.int p0), .val (.int p1), .val (.int p2), .val (.int p3), .val (.int (0 : Int32)), .val (.int ch), .val (.ref b88), .val (.ref b91), .val (.int ((p1 &&& (2147483647 : Int32)) % (1 : Int32))), .val (.int (vG_0 p1 p2 p3 n ch cs)), .val (.int (vG_1 p1 p2 p3 n ch cs)), .unset] [(.int (vG_4 p1 p2 p3 n ch cs))]) ?_ (fun J => ?_)
        · refine g_istore C (Ls' := #[.val (.int p0), .val (.int p1), .val (.int p2), .val (.int p3), .val (.int (0 : Int32)), .val (.int ch), .val (.ref b88), .val (.ref b91), .val (.int ((p1 &&& (2147483647 : Int32)) % (1 : Int32))), .val (.int (vG_0 p1 p2 p3 n ch cs)), .val (.int (vG_1 p1 p2 p3 n ch cs)), .val (.int (vG_4 p1 p2 p3 n ch cs))]) iG_124 rfl ?_
          refine g_aload C iG_126 rfl rfl ?_
          refine g_iload C iG_128 rfl ?_
          refine g_iloadN C iG_130 rfl ?_
          refine g_iload C iG_131 rfl ?_
          refine g_callV C (rmF l Z aZ hw b91 ((p1 &&& (2147483647 : Int32)) % (1 : Int32)) p2 (vG_1 p1 p2 p3 n ch cs) (0 : Int32) h92 n0 Z92 P92_2) (a := b91) iG_133 (hw _ (List.mem_of_getElem? (i := 49) rfl)) (hw _ (List.mem_of_getElem? (i := 50) rfl)) (fun s hZ => notFace_of_selects (args := #[]) (mvT hZ (hw _ (List.mem_of_getElem? (i := 52) rfl)))) (hw _ (List.mem_of_getElem? (i := 52) rfl)) (hw _ (List.mem_of_getElem? (i := 51) rfl)) (hw _ (List.mem_of_getElem? (i := 29) rfl)) (hw _ (List.mem_of_getElem? (i := 53) rfl)) (by decide) P92_0 (argsL := [(.int ((p1 &&& (2147483647 : Int32)) % (1 : Int32))), (.int p2), (.int (vG_1 p1 p2 p3 n ch cs))]) (rest := []) rfl rfl pd9 rfl rfl 0 (Nat.le_of_eq rfl) (by decide) (by decide) (by decide) (by decide) rfl rfl ?_
          rintro _ _ ⟨rfl, he93⟩
          refine Go.heap he93.symm ?_
          refine Go.some' ?_
          refine g_iload C iG_136 rfl ?_
          refine Go.join (mkF m 146 #[.val (.int p0), .val (.int p1), .val (.int p2), .val (.int p3), .val (.int (0 : Int32)), .val (.int ch), .val (.ref b88), .val (.ref b91), .val (.int ((p1 &&& (2147483647 : Int32)) % (1 : Int32))), .val (.int (vG_0 p1 p2 p3 n ch cs)), .val (.int (vG_1 p1 p2 p3 n ch cs)), .val (.int (vG_4 p1 p2 p3 n ch cs))] [(.int (vG_5 p1 p2 p3 n ch cs))]) ?_ (fun J => ?_)
          · exact g_retNarV C HW (t := .boolean) iG_146 rfl (by simp) (by decide) (by decide) (show _ = _ from congrArg (fun z => some (Value.int z)) (leafG_0 p1 p2 p3 n ch cs hq0))
          · refine g_icmp_ne C iG_138 (fun hc138_1 => ?_) (fun hc138_1 => ?_)
            · refine g_iconst C (1 : Int32) iG_141 rfl ?_
              refine g_goto C iG_142 ?_
              have e0 : (vG_5 p1 p2 p3 n ch cs) = (1 : Int32) := by simp only [vG_5, if_pos hc138_1]
              exact Go.cast J (by rw [e0])
            · refine g_iconst C (0 : Int32) iG_145 rfl ?_
              have e0 : (vG_5 p1 p2 p3 n ch cs) = (0 : Int32) := by simp only [vG_5, if_neg hc138_1]
              exact Go.cast J (by rw [e0])
        · refine g_if_eq C iG_84 (fun hc84_1 => ?_) (fun hc84_1 => ?_)
          · refine g_iload C iG_108 rfl ?_
            refine g_i2l C iG_110 ?_
            refine g_iloadN C iG_111 rfl ?_
            refine g_i2l C iG_112 ?_
            refine g_lsub C iG_113 ?_
            refine g_lconst C (0 : Int64) iG_114 rfl ?_
            refine g_lcmp C iG_115 ?_
            refine g_ifl_lt C iG_116 (fun hc116_1 => ?_) (fun hc116_1 => ?_)
            · refine g_iconst C (0 : Int32) iG_123 rfl ?_
              have e0 : (vG_4 p1 p2 p3 n ch cs) = (0 : Int32) := by simp only [vG_4, if_pos hc84_1, if_pos hc116_1]
              exact Go.cast J (by rw [e0])
            · refine g_iconst C (1 : Int32) iG_119 rfl ?_
              refine g_goto C iG_120 ?_
              have e0 : (vG_4 p1 p2 p3 n ch cs) = (1 : Int32) := by simp only [vG_4, if_pos hc84_1, if_neg hc116_1]
              exact Go.cast J (by rw [e0])
          · refine g_iload C iG_87 rfl ?_
            refine g_i2l C iG_89 ?_
            refine g_iloadN C iG_90 rfl ?_
            refine g_i2l C iG_91 ?_
            refine g_ladd C iG_92 ?_
            refine g_iload C iG_93 rfl ?_
            refine g_i2l C iG_95 ?_
            refine g_lcmp C iG_96 ?_
            refine g_ifl_gt C iG_97 (fun hc97_1 => ?_) (fun hc97_1 => ?_)
            · refine g_iconst C (0 : Int32) iG_104 rfl ?_
              refine g_goto C iG_105 ?_
              have e0 : (vG_4 p1 p2 p3 n ch cs) = (0 : Int32) := by simp only [vG_4, if_neg hc84_1, if_pos hc97_1]
              exact Go.cast J (by rw [e0])
            · refine g_iconst C (1 : Int32) iG_100 rfl ?_
              refine g_goto C iG_101 ?_
              have e0 : (vG_4 p1 p2 p3 n ch cs) = (1 : Int32) := by simp only [vG_4, if_neg hc84_1, if_neg hc97_1]
              exact Go.cast J (by rw [e0])
      · refine g_if_eq C iG_72 (fun hc72_1 => ?_) (fun hc72_1 => ?_)
        · refine g_iconst C (1 : Int32) iG_79 rfl ?_
          have e0 : (vG_1 p1 p2 p3 n ch cs) = (1 : Int32) := by simp only [vG_1, if_pos hc72_1]
          exact Go.cast J (by rw [e0])
        · refine g_iconst C (0 : Int32) iG_75 rfl ?_
          refine g_goto C iG_76 ?_
          have e0 : (vG_1 p1 p2 p3 n ch cs) = (0 : Int32) := by simp only [vG_1, if_neg hc72_1]
          exact Go.cast J (by rw [e0])
    · refine g_if_ne C iG_60 (fun hc60_1 => ?_) (fun hc60_1 => ?_)
      · refine g_iconst C (1 : Int32) iG_63 rfl ?_
        refine g_goto C iG_64 ?_
        have e0 : (vG_0 p1 p2 p3 n ch cs) = (1 : Int32) := by simp only [vG_0, if_pos hc60_1]
        exact Go.cast J (by rw [e0])
      · refine g_iconst C (0 : Int32) iG_67 rfl ?_
        have e0 : (vG_0 p1 p2 p3 n ch cs) = (0 : Int32) := by simp only [vG_0, if_neg hc60_1]
        exact Go.cast J (by rw [e0])
  · refine Go.cast (g' := mkF m 19 #[.val (.int p0), .val (.int p1), .val (.int p2), .val (.int p3), .val (.int (1 : Int32)), .val (.int ch), .unset, .unset, .unset, .unset, .unset, .unset] []) ?_ (by rw [hq1])
    refine g_newO C iG_19 (hw _ (List.mem_of_getElem? (i := 1) rfl)) (hw _ (List.mem_of_getElem? (i := 2) rfl)) (hw _ (List.mem_of_getElem? (i := 3) rfl)) (by decide) (by decide) rfl rfl (fun h94 b94 g94 E94 A94 D94 => ?_)
    have ge94 : n0 ≤ b94 := Nat.le_trans Z0 (Nat.le_of_eq g94.symm)
    have fr94 : h0.size ≤ b94 := Nat.le_trans (Keep.refl h0 []).1 (Nat.le_of_eq g94.symm)
    have K94 := Keep.ext (Keep.refl h0 []) E94
    have Z94 : n0 ≤ h94.size := Nat.le_trans Z0 E94.1
    have HW := HW.ext E94
    have OLD94 := Old.ext OLD E94
    have F94_value : Fld Z h94 b94 "java/lang/String" "value" "[B" .null := D94 (Or.inr (hw _ (List.mem_of_getElem? (i := 21) rfl))) (ty := (.array .byte)) (by decide)
    have F94_coder : Fld Z h94 b94 "java/lang/String" "coder" "B" (.int (0 : Int32)) := D94 (Or.inr (hw _ (List.mem_of_getElem? (i := 22) rfl))) (ty := .byte) (by decide)
    refine g_dup C iG_22 rfl ?_
    refine g_iload C iG_23 rfl ?_
    refine g_iload C iG_25 rfl ?_
    refine g_callS C (rmh1 l Z aZ hw ch h94 n0 Z94) iG_27 (hw _ (List.mem_of_getElem? (i := 4) rfl)) (hw _ (List.mem_of_getElem? (i := 5) rfl)) (hw _ (List.mem_of_getElem? (i := 6) rfl)) (hw _ (List.mem_of_getElem? (i := 7) rfl)) (by decide) (argsL := [(.int (1 : Int32)), (.int ch)]) (rest := [(.ref b94), (.ref b94)]) rfl rfl pd6 rfl rfl 2 (Nat.le_of_eq rfl) (by decide) (by decide) (by decide) (by decide) rfl rfl ?_
    rintro _ h95 ⟨r95_fb0, rfl, ⟨ge95_fb0, fh95_fb0⟩, KC95, P95_0⟩
    refine Go.some' ?_
    have ne_b94_r95_fb0 : b94 ≠ r95_fb0 := Nat.ne_of_lt (Nat.lt_of_lt_of_le A94.lt fh95_fb0)
    have fr95_fb0 : h0.size ≤ r95_fb0 := Nat.le_trans K94.1 fh95_fb0
    have HW := HW.keep KC95 all0
    have OLDC95 := Old.keep OLD94 KC95 all0
    have E_b94_cC95 := Exa.keep A94 KC95
    have F_value_b94_cC95 := Fld.keep F94_value KC95 nin0
    have F_coder_b94_cC95 := Fld.keep F94_coder KC95 nin0
    have K95 := Keep.trans K94 KC95 all0
    have Z95 : n0 ≤ h95.size := Nat.le_trans Z94 KC95.1
    refine g_callI C (rmj1 l Z aZ hw b94 r95_fb0 (vh1_0 ch) cs (0 : Int32) .null h95 n0 Z95 E_b94_cC95 P95_0 (own_c255 hch) OLDC95 S_c hcs F_coder_b94_cC95 ge94 ne_b94_r95_fb0 F_value_b94_cC95) (a := b94) iG_30 rfl (hw _ (List.mem_of_getElem? (i := 9) rfl)) (hw _ (List.mem_of_getElem? (i := 10) rfl)) (hw _ (List.mem_of_getElem? (i := 3) rfl)) (hw _ (List.mem_of_getElem? (i := 11) rfl)) rfl (by decide) (argsL := [(.ref r95_fb0)]) (rest := [(.ref b94)]) rfl rfl pd7 rfl rfl 1 (Nat.le_of_eq rfl) (by decide) (by decide) (by decide) (by decide) rfl rfl ?_
    rintro _ h96 ⟨r96_fb0, rfl, ⟨ge96_fb0, fh96_fb0⟩, KC96, P96_0, P96_1, P96_2, P96_3⟩
    refine Go.none' ?_
    have ne_b94_r96_fb0 : b94 ≠ r96_fb0 := Nat.ne_of_lt (Nat.lt_of_lt_of_le E_b94_cC95.lt fh96_fb0)
    have ne_r95_fb0_r96_fb0 : r95_fb0 ≠ r96_fb0 := Nat.ne_of_lt (Nat.lt_of_lt_of_le P95_0.lt fh96_fb0)
    have fr96_fb0 : h0.size ≤ r96_fb0 := Nat.le_trans K95.1 fh96_fb0
    have HW := HW.v.keep KC96
    have OLDC96 := Old.keep OLDC95 KC96 (allS ge94 all0)
    have E_b94_cC96 := Exa.keep E_b94_cC95 KC96
    have V_r95_fb0_cC96 := AV.keep P95_0 KC96 (ninS (Ne.symm ne_b94_r95_fb0) nin0)
    have K96 := Keep.trans K95 KC96 (allS (Or.inr fr94) all0)
    have Z96 : n0 ≤ h96.size := Nat.le_trans Z95 KC96.1
    have P96_3 : Fld Z h96 b94 "java/lang/String" "coder" "B" (.int (0 : Int32)) := P96_3
    refine g_astore C (Ls' := #[.val (.int p0), .val (.int p1), .val (.int p2), .val (.int p3), .val (.int (1 : Int32)), .val (.int ch), .val (.ref b94), .unset, .unset, .unset, .unset, .unset]) iG_33 rfl rfl ?_
    refine g_newO C iG_35 (hw _ (List.mem_of_getElem? (i := 27) rfl)) (hw _ (List.mem_of_getElem? (i := 28) rfl)) (hw _ (List.mem_of_getElem? (i := 29) rfl)) (by decide) (by decide) rfl rfl (fun h97 b97 g97 E97 A97 D97 => ?_)
    have ne_r96_fb0_b97 : r96_fb0 ≠ b97 := Nat.ne_of_lt (Nat.lt_of_lt_of_le P96_0.lt (Nat.le_of_eq g97.symm))
    have ne_b94_b97 : b94 ≠ b97 := Nat.ne_of_lt (Nat.lt_of_lt_of_le P96_1.lt (Nat.le_of_eq g97.symm))
    have ne_r95_fb0_b97 : r95_fb0 ≠ b97 := Nat.ne_of_lt (Nat.lt_of_lt_of_le V_r95_fb0_cC96.lt (Nat.le_of_eq g97.symm))
    have ge97 : n0 ≤ b97 := Nat.le_trans Z96 (Nat.le_of_eq g97.symm)
    have fr97 : h0.size ≤ b97 := Nat.le_trans K96.1 (Nat.le_of_eq g97.symm)
    have K97 := Keep.ext K96 E97
    have Z97 : n0 ≤ h97.size := Nat.le_trans Z96 E97.1
    have HW := HW.ext E97
    have OLD97 := Old.ext OLDC96 E97
    have E_b94_c97 := Exa.ext E97 P96_1
    have V_r95_fb0_c97 := V_r95_fb0_cC96.ext E97
    have V_r96_fb0_c97 := P96_0.ext E97
    have F_value_b94_c97 := Fld.ext E97 P96_2
    have F_coder_b94_c97 := Fld.ext E97 P96_3
    have F97_text : Fld Z h97 b97 "com/example/firm_input/firminput/regex/RegexInput" "text" "Ljava/lang/String;" .null := D97 (Or.inr (hw _ (List.mem_of_getElem? (i := 35) rfl))) (ty := (.object "java/lang/String")) (by decide)
    have F97_length : Fld Z h97 b97 "com/example/firm_input/firminput/regex/RegexInput" "length" "I" (.int (0 : Int32)) := D97 (Or.inr (hw _ (List.mem_of_getElem? (i := 48) rfl))) (ty := .int) (by decide)
    refine g_dup C iG_38 rfl ?_
    refine g_aload C iG_39 rfl rfl ?_
    refine g_callI C (rmr1 l Z aZ hw b97 b94 r96_fb0 (vc1_0 (vh1_0 ch) (fun _ => (0 : Int32))) cs .null (0 : Int32) h97 n0 Z97 A97 E_b94_c97 F_coder_b94_c97 F_value_b94_c97 V_r96_fb0_c97 OLD97 S_c hcs F97_text ge97 (Ne.symm ne_b94_b97) (Ne.symm ne_r96_fb0_b97) F97_length) (a := b97) iG_41 rfl (hw _ (List.mem_of_getElem? (i := 30) rfl)) (hw _ (List.mem_of_getElem? (i := 31) rfl)) (hw _ (List.mem_of_getElem? (i := 29) rfl)) (hw _ (List.mem_of_getElem? (i := 32) rfl)) rfl (by decide) (argsL := [(.ref b94)]) (rest := [(.ref b97)]) rfl rfl pd8 rfl rfl 1 (Nat.le_of_eq rfl) (by decide) (by decide) (by decide) (by decide) rfl rfl ?_
    rintro _ h98 ⟨rfl, KC98, P98_0, P98_1, P98_2⟩
    refine Go.none' ?_
    have HW := HW.keep KC98
    have OLDC98 := Old.keep OLD97 KC98 (allS ge97 all0)
    have E_b94_cC98 := Exa.keep E_b94_c97 KC98
    have V_r95_fb0_cC98 := AV.keep V_r95_fb0_c97 KC98 (ninS ne_r95_fb0_b97 nin0)
    have V_r96_fb0_cC98 := AV.keep V_r96_fb0_c97 KC98 (ninS ne_r96_fb0_b97 nin0)
    have F_value_b94_cC98 := Fld.keep F_value_b94_c97 KC98 (ninS ne_b94_b97 nin0)
    have F_coder_b94_cC98 := Fld.keep F_coder_b94_c97 KC98 (ninS ne_b94_b97 nin0)
    have E_b97_cC98 := Exa.keep A97 KC98
    have K98 := Keep.trans K97 KC98 (allS (Or.inr fr97) all0)
    have Z98 : n0 ≤ h98.size := Nat.le_trans Z97 KC98.1
    have P98_2 : Fld Z h98 b97 "com/example/firm_input/firminput/regex/RegexInput" "length" "I" (.int (1 : Int32)) := P98_2
    refine g_astore C (Ls' := #[.val (.int p0), .val (.int p1), .val (.int p2), .val (.int p3), .val (.int (1 : Int32)), .val (.int ch), .val (.ref b94), .val (.ref b97), .unset, .unset, .unset, .unset]) iG_44 rfl rfl ?_
    refine g_iloadN C iG_46 rfl ?_
    refine g_ldcInt C iG_47 (hw _ (List.mem_of_getElem? (i := 0) rfl)) ?_
    refine g_iand C iG_49 ?_
    refine g_iload C iG_50 rfl ?_
    refine g_iconst C (1 : Int32) iG_52 rfl ?_
    refine g_iadd C iG_53 ?_
    refine g_irem C iG_54 (by decide) ?_
    refine g_istore C (Ls' := #[.val (.int p0), .val (.int p1), .val (.int p2), .val (.int p3), .val (.int (1 : Int32)), .val (.int ch), .val (.ref b94), .val (.ref b97), .val (.int ((p1 &&& (2147483647 : Int32)) % (2 : Int32))), .unset, .unset, .unset]) iG_55 rfl ?_
    refine g_iloadN C iG_57 rfl ?_
    refine g_iconst C (1 : Int32) iG_58 rfl ?_
    refine g_iand C iG_59 ?_
    refine Go.join (mkF m 68 #[.val (.int p0), .val (.int p1), .val (.int p2), .val (.int p3), .val (.int (1 : Int32)), .val (.int ch), .val (.ref b94), .val (.ref b97), .val (.int ((p1 &&& (2147483647 : Int32)) % (2 : Int32))), .unset, .unset, .unset] [(.int (vG_0 p1 p2 p3 n ch cs))]) ?_ (fun J => ?_)
    · refine g_istore C (Ls' := #[.val (.int p0), .val (.int p1), .val (.int p2), .val (.int p3), .val (.int (1 : Int32)), .val (.int ch), .val (.ref b94), .val (.ref b97), .val (.int ((p1 &&& (2147483647 : Int32)) % (2 : Int32))), .val (.int (vG_0 p1 p2 p3 n ch cs)), .unset, .unset]) iG_68 rfl ?_
      refine g_iload C iG_70 rfl ?_
      refine Go.join (mkF m 80 #[.val (.int p0), .val (.int p1), .val (.int p2), .val (.int p3), .val (.int (1 : Int32)), .val (.int ch), .val (.ref b94), .val (.ref b97), .val (.int ((p1 &&& (2147483647 : Int32)) % (2 : Int32))), .val (.int (vG_0 p1 p2 p3 n ch cs)), .unset, .unset] [(.int (vG_1 p1 p2 p3 n ch cs))]) ?_ (fun J => ?_)
      · refine g_istore C (Ls' := #[.val (.int p0), .val (.int p1), .val (.int p2), .val (.int p3), .val (.int (1 : Int32)), .val (.int ch), .val (.ref b94), .val (.ref b97), .val (.int ((p1 &&& (2147483647 : Int32)) % (2 : Int32))), .val (.int (vG_0 p1 p2 p3 n ch cs)), .val (.int (vG_1 p1 p2 p3 n ch cs)), .unset]) iG_80 rfl ?_
        refine g_iload C iG_82 rfl ?_
        refine Go.join (mkF m 124 #[.val (.int p0), .val (.int p1), .val (.int p2), .val (.int p3), .val (.int (1 : Int32)), .val (.int ch), .val (.ref b94), .val (.ref b97), .val (.int ((p1 &&& (2147483647 : Int32)) % (2 : Int32))), .val (.int (vG_0 p1 p2 p3 n ch cs)), .val (.int (vG_1 p1 p2 p3 n ch cs)), .unset] [(.int (vG_8 p1 p2 p3 n ch cs))]) ?_ (fun J => ?_)
        · refine g_istore C (Ls' := #[.val (.int p0), .val (.int p1), .val (.int p2), .val (.int p3), .val (.int (1 : Int32)), .val (.int ch), .val (.ref b94), .val (.ref b97), .val (.int ((p1 &&& (2147483647 : Int32)) % (2 : Int32))), .val (.int (vG_0 p1 p2 p3 n ch cs)), .val (.int (vG_1 p1 p2 p3 n ch cs)), .val (.int (vG_8 p1 p2 p3 n ch cs))]) iG_124 rfl ?_
          refine g_aload C iG_126 rfl rfl ?_
          refine g_iload C iG_128 rfl ?_
          refine g_iloadN C iG_130 rfl ?_
          refine g_iload C iG_131 rfl ?_
          refine g_callV C (rmF l Z aZ hw b97 ((p1 &&& (2147483647 : Int32)) % (2 : Int32)) p2 (vG_1 p1 p2 p3 n ch cs) (1 : Int32) h98 n0 Z98 P98_2) (a := b97) iG_133 (hw _ (List.mem_of_getElem? (i := 49) rfl)) (hw _ (List.mem_of_getElem? (i := 50) rfl)) (fun s hZ => notFace_of_selects (args := #[]) (mvT hZ (hw _ (List.mem_of_getElem? (i := 52) rfl)))) (hw _ (List.mem_of_getElem? (i := 52) rfl)) (hw _ (List.mem_of_getElem? (i := 51) rfl)) (hw _ (List.mem_of_getElem? (i := 29) rfl)) (hw _ (List.mem_of_getElem? (i := 53) rfl)) (by decide) P98_0 (argsL := [(.int ((p1 &&& (2147483647 : Int32)) % (2 : Int32))), (.int p2), (.int (vG_1 p1 p2 p3 n ch cs))]) (rest := []) rfl rfl pd9 rfl rfl 0 (Nat.le_of_eq rfl) (by decide) (by decide) (by decide) (by decide) rfl rfl ?_
          rintro _ _ ⟨rfl, he99⟩
          refine Go.heap he99.symm ?_
          refine Go.some' ?_
          refine g_iload C iG_136 rfl ?_
          refine Go.join (mkF m 146 #[.val (.int p0), .val (.int p1), .val (.int p2), .val (.int p3), .val (.int (1 : Int32)), .val (.int ch), .val (.ref b94), .val (.ref b97), .val (.int ((p1 &&& (2147483647 : Int32)) % (2 : Int32))), .val (.int (vG_0 p1 p2 p3 n ch cs)), .val (.int (vG_1 p1 p2 p3 n ch cs)), .val (.int (vG_8 p1 p2 p3 n ch cs))] [(.int (vG_9 p1 p2 p3 n ch cs))]) ?_ (fun J => ?_)
          · exact g_retNarV C HW (t := .boolean) iG_146 rfl (by simp) (by decide) (by decide) (show _ = _ from congrArg (fun z => some (Value.int z)) (leafG_1 p1 p2 p3 n ch cs hq1))
          · refine g_icmp_ne C iG_138 (fun hc138_1 => ?_) (fun hc138_1 => ?_)
            · refine g_iconst C (1 : Int32) iG_141 rfl ?_
              refine g_goto C iG_142 ?_
              have e0 : (vG_9 p1 p2 p3 n ch cs) = (1 : Int32) := by simp only [vG_9, if_pos hc138_1]
              exact Go.cast J (by rw [e0])
            · refine g_iconst C (0 : Int32) iG_145 rfl ?_
              have e0 : (vG_9 p1 p2 p3 n ch cs) = (0 : Int32) := by simp only [vG_9, if_neg hc138_1]
              exact Go.cast J (by rw [e0])
        · refine g_if_eq C iG_84 (fun hc84_1 => ?_) (fun hc84_1 => ?_)
          · refine g_iload C iG_108 rfl ?_
            refine g_i2l C iG_110 ?_
            refine g_iloadN C iG_111 rfl ?_
            refine g_i2l C iG_112 ?_
            refine g_lsub C iG_113 ?_
            refine g_lconst C (0 : Int64) iG_114 rfl ?_
            refine g_lcmp C iG_115 ?_
            refine g_ifl_lt C iG_116 (fun hc116_1 => ?_) (fun hc116_1 => ?_)
            · refine g_iconst C (0 : Int32) iG_123 rfl ?_
              have e0 : (vG_8 p1 p2 p3 n ch cs) = (0 : Int32) := by simp only [vG_8, if_pos hc84_1, if_pos hc116_1]
              exact Go.cast J (by rw [e0])
            · refine g_iconst C (1 : Int32) iG_119 rfl ?_
              refine g_goto C iG_120 ?_
              have e0 : (vG_8 p1 p2 p3 n ch cs) = (1 : Int32) := by simp only [vG_8, if_pos hc84_1, if_neg hc116_1]
              exact Go.cast J (by rw [e0])
          · refine g_iload C iG_87 rfl ?_
            refine g_i2l C iG_89 ?_
            refine g_iloadN C iG_90 rfl ?_
            refine g_i2l C iG_91 ?_
            refine g_ladd C iG_92 ?_
            refine g_iload C iG_93 rfl ?_
            refine g_i2l C iG_95 ?_
            refine g_lcmp C iG_96 ?_
            refine g_ifl_gt C iG_97 (fun hc97_1 => ?_) (fun hc97_1 => ?_)
            · refine g_iconst C (0 : Int32) iG_104 rfl ?_
              refine g_goto C iG_105 ?_
              have e0 : (vG_8 p1 p2 p3 n ch cs) = (0 : Int32) := by simp only [vG_8, if_neg hc84_1, if_pos hc97_1]
              exact Go.cast J (by rw [e0])
            · refine g_iconst C (1 : Int32) iG_100 rfl ?_
              refine g_goto C iG_101 ?_
              have e0 : (vG_8 p1 p2 p3 n ch cs) = (1 : Int32) := by simp only [vG_8, if_neg hc84_1, if_neg hc97_1]
              exact Go.cast J (by rw [e0])
      · refine g_if_eq C iG_72 (fun hc72_1 => ?_) (fun hc72_1 => ?_)
        · refine g_iconst C (1 : Int32) iG_79 rfl ?_
          have e0 : (vG_1 p1 p2 p3 n ch cs) = (1 : Int32) := by simp only [vG_1, if_pos hc72_1]
          exact Go.cast J (by rw [e0])
        · refine g_iconst C (0 : Int32) iG_75 rfl ?_
          refine g_goto C iG_76 ?_
          have e0 : (vG_1 p1 p2 p3 n ch cs) = (0 : Int32) := by simp only [vG_1, if_neg hc72_1]
          exact Go.cast J (by rw [e0])
    · refine g_if_ne C iG_60 (fun hc60_1 => ?_) (fun hc60_1 => ?_)
      · refine g_iconst C (1 : Int32) iG_63 rfl ?_
        refine g_goto C iG_64 ?_
        have e0 : (vG_0 p1 p2 p3 n ch cs) = (1 : Int32) := by simp only [vG_0, if_pos hc60_1]
        exact Go.cast J (by rw [e0])
      · refine g_iconst C (0 : Int32) iG_67 rfl ?_
        have e0 : (vG_0 p1 p2 p3 n ch cs) = (0 : Int32) := by simp only [vG_0, if_neg hc60_1]
        exact Go.cast J (by rw [e0])
  · refine Go.cast (g' := mkF m 19 #[.val (.int p0), .val (.int p1), .val (.int p2), .val (.int p3), .val (.int (2 : Int32)), .val (.int ch), .unset, .unset, .unset, .unset, .unset, .unset] []) ?_ (by rw [hq2])
    refine g_newO C iG_19 (hw _ (List.mem_of_getElem? (i := 1) rfl)) (hw _ (List.mem_of_getElem? (i := 2) rfl)) (hw _ (List.mem_of_getElem? (i := 3) rfl)) (by decide) (by decide) rfl rfl (fun h100 b100 g100 E100 A100 D100 => ?_)
    have ge100 : n0 ≤ b100 := Nat.le_trans Z0 (Nat.le_of_eq g100.symm)
    have fr100 : h0.size ≤ b100 := Nat.le_trans (Keep.refl h0 []).1 (Nat.le_of_eq g100.symm)
    have K100 := Keep.ext (Keep.refl h0 []) E100
    have Z100 : n0 ≤ h100.size := Nat.le_trans Z0 E100.1
    have HW := HW.ext E100
    have OLD100 := Old.ext OLD E100
    have F100_value : Fld Z h100 b100 "java/lang/String" "value" "[B" .null := D100 (Or.inr (hw _ (List.mem_of_getElem? (i := 21) rfl))) (ty := (.array .byte)) (by decide)
    have F100_coder : Fld Z h100 b100 "java/lang/String" "coder" "B" (.int (0 : Int32)) := D100 (Or.inr (hw _ (List.mem_of_getElem? (i := 22) rfl))) (ty := .byte) (by decide)
    refine g_dup C iG_22 rfl ?_
    refine g_iload C iG_23 rfl ?_
    refine g_iload C iG_25 rfl ?_
    refine g_callS C (rmh2 l Z aZ hw ch h100 n0 Z100) iG_27 (hw _ (List.mem_of_getElem? (i := 4) rfl)) (hw _ (List.mem_of_getElem? (i := 5) rfl)) (hw _ (List.mem_of_getElem? (i := 6) rfl)) (hw _ (List.mem_of_getElem? (i := 7) rfl)) (by decide) (argsL := [(.int (2 : Int32)), (.int ch)]) (rest := [(.ref b100), (.ref b100)]) rfl rfl pd6 rfl rfl 2 (Nat.le_of_eq rfl) (by decide) (by decide) (by decide) (by decide) rfl rfl ?_
    rintro _ h101 ⟨r101_fb0, rfl, ⟨ge101_fb0, fh101_fb0⟩, KC101, P101_0⟩
    refine Go.some' ?_
    have ne_b100_r101_fb0 : b100 ≠ r101_fb0 := Nat.ne_of_lt (Nat.lt_of_lt_of_le A100.lt fh101_fb0)
    have fr101_fb0 : h0.size ≤ r101_fb0 := Nat.le_trans K100.1 fh101_fb0
    have HW := HW.keep KC101 all0
    have OLDC101 := Old.keep OLD100 KC101 all0
    have E_b100_cC101 := Exa.keep A100 KC101
    have F_value_b100_cC101 := Fld.keep F100_value KC101 nin0
    have F_coder_b100_cC101 := Fld.keep F100_coder KC101 nin0
    have K101 := Keep.trans K100 KC101 all0
    have Z101 : n0 ≤ h101.size := Nat.le_trans Z100 KC101.1
    refine g_callI C (rmj2 l Z aZ hw b100 r101_fb0 (vh2_1 ch) cs (0 : Int32) .null h101 n0 Z101 E_b100_cC101 P101_0 (own_c255 hch) (own_c255 hch) OLDC101 S_c hcs F_coder_b100_cC101 ge100 ne_b100_r101_fb0 F_value_b100_cC101) (a := b100) iG_30 rfl (hw _ (List.mem_of_getElem? (i := 9) rfl)) (hw _ (List.mem_of_getElem? (i := 10) rfl)) (hw _ (List.mem_of_getElem? (i := 3) rfl)) (hw _ (List.mem_of_getElem? (i := 11) rfl)) rfl (by decide) (argsL := [(.ref r101_fb0)]) (rest := [(.ref b100)]) rfl rfl pd7 rfl rfl 1 (Nat.le_of_eq rfl) (by decide) (by decide) (by decide) (by decide) rfl rfl ?_
    rintro _ h102 ⟨r102_fb0, rfl, ⟨ge102_fb0, fh102_fb0⟩, KC102, P102_0, P102_1, P102_2, P102_3⟩
    refine Go.none' ?_
    have ne_b100_r102_fb0 : b100 ≠ r102_fb0 := Nat.ne_of_lt (Nat.lt_of_lt_of_le E_b100_cC101.lt fh102_fb0)
    have ne_r101_fb0_r102_fb0 : r101_fb0 ≠ r102_fb0 := Nat.ne_of_lt (Nat.lt_of_lt_of_le P101_0.lt fh102_fb0)
    have fr102_fb0 : h0.size ≤ r102_fb0 := Nat.le_trans K101.1 fh102_fb0
    have HW := HW.v.keep KC102
    have OLDC102 := Old.keep OLDC101 KC102 (allS ge100 all0)
    have E_b100_cC102 := Exa.keep E_b100_cC101 KC102
    have V_r101_fb0_cC102 := AV.keep P101_0 KC102 (ninS (Ne.symm ne_b100_r101_fb0) nin0)
    have K102 := Keep.trans K101 KC102 (allS (Or.inr fr100) all0)
    have Z102 : n0 ≤ h102.size := Nat.le_trans Z101 KC102.1
    have P102_3 : Fld Z h102 b100 "java/lang/String" "coder" "B" (.int (0 : Int32)) := P102_3
    refine g_astore C (Ls' := #[.val (.int p0), .val (.int p1), .val (.int p2), .val (.int p3), .val (.int (2 : Int32)), .val (.int ch), .val (.ref b100), .unset, .unset, .unset, .unset, .unset]) iG_33 rfl rfl ?_
    refine g_newO C iG_35 (hw _ (List.mem_of_getElem? (i := 27) rfl)) (hw _ (List.mem_of_getElem? (i := 28) rfl)) (hw _ (List.mem_of_getElem? (i := 29) rfl)) (by decide) (by decide) rfl rfl (fun h103 b103 g103 E103 A103 D103 => ?_)
    have ne_r102_fb0_b103 : r102_fb0 ≠ b103 := Nat.ne_of_lt (Nat.lt_of_lt_of_le P102_0.lt (Nat.le_of_eq g103.symm))
    have ne_b100_b103 : b100 ≠ b103 := Nat.ne_of_lt (Nat.lt_of_lt_of_le P102_1.lt (Nat.le_of_eq g103.symm))
    have ne_r101_fb0_b103 : r101_fb0 ≠ b103 := Nat.ne_of_lt (Nat.lt_of_lt_of_le V_r101_fb0_cC102.lt (Nat.le_of_eq g103.symm))
    have ge103 : n0 ≤ b103 := Nat.le_trans Z102 (Nat.le_of_eq g103.symm)
    have fr103 : h0.size ≤ b103 := Nat.le_trans K102.1 (Nat.le_of_eq g103.symm)
    have K103 := Keep.ext K102 E103
    have Z103 : n0 ≤ h103.size := Nat.le_trans Z102 E103.1
    have HW := HW.ext E103
    have OLD103 := Old.ext OLDC102 E103
    have E_b100_c103 := Exa.ext E103 P102_1
    have V_r101_fb0_c103 := V_r101_fb0_cC102.ext E103
    have V_r102_fb0_c103 := P102_0.ext E103
    have F_value_b100_c103 := Fld.ext E103 P102_2
    have F_coder_b100_c103 := Fld.ext E103 P102_3
    have F103_text : Fld Z h103 b103 "com/example/firm_input/firminput/regex/RegexInput" "text" "Ljava/lang/String;" .null := D103 (Or.inr (hw _ (List.mem_of_getElem? (i := 35) rfl))) (ty := (.object "java/lang/String")) (by decide)
    have F103_length : Fld Z h103 b103 "com/example/firm_input/firminput/regex/RegexInput" "length" "I" (.int (0 : Int32)) := D103 (Or.inr (hw _ (List.mem_of_getElem? (i := 48) rfl))) (ty := .int) (by decide)
    refine g_dup C iG_38 rfl ?_
    refine g_aload C iG_39 rfl rfl ?_
    refine g_callI C (rmr2 l Z aZ hw b103 b100 r102_fb0 (vc2_1 (vh2_1 ch) (fun _ => (0 : Int32))) cs .null (0 : Int32) h103 n0 Z103 A103 E_b100_c103 F_coder_b100_c103 F_value_b100_c103 V_r102_fb0_c103 OLD103 S_c hcs F103_text ge103 (Ne.symm ne_b100_b103) (Ne.symm ne_r102_fb0_b103) F103_length) (a := b103) iG_41 rfl (hw _ (List.mem_of_getElem? (i := 30) rfl)) (hw _ (List.mem_of_getElem? (i := 31) rfl)) (hw _ (List.mem_of_getElem? (i := 29) rfl)) (hw _ (List.mem_of_getElem? (i := 32) rfl)) rfl (by decide) (argsL := [(.ref b100)]) (rest := [(.ref b103)]) rfl rfl pd8 rfl rfl 1 (Nat.le_of_eq rfl) (by decide) (by decide) (by decide) (by decide) rfl rfl ?_
    rintro _ h104 ⟨rfl, KC104, P104_0, P104_1, P104_2⟩
    refine Go.none' ?_
    have HW := HW.keep KC104
    have OLDC104 := Old.keep OLD103 KC104 (allS ge103 all0)
    have E_b100_cC104 := Exa.keep E_b100_c103 KC104
    have V_r101_fb0_cC104 := AV.keep V_r101_fb0_c103 KC104 (ninS ne_r101_fb0_b103 nin0)
    have V_r102_fb0_cC104 := AV.keep V_r102_fb0_c103 KC104 (ninS ne_r102_fb0_b103 nin0)
    have F_value_b100_cC104 := Fld.keep F_value_b100_c103 KC104 (ninS ne_b100_b103 nin0)
    have F_coder_b100_cC104 := Fld.keep F_coder_b100_c103 KC104 (ninS ne_b100_b103 nin0)
    have E_b103_cC104 := Exa.keep A103 KC104
    have K104 := Keep.trans K103 KC104 (allS (Or.inr fr103) all0)
    have Z104 : n0 ≤ h104.size := Nat.le_trans Z103 KC104.1
    have P104_2 : Fld Z h104 b103 "com/example/firm_input/firminput/regex/RegexInput" "length" "I" (.int (2 : Int32)) := P104_2
    refine g_astore C (Ls' := #[.val (.int p0), .val (.int p1), .val (.int p2), .val (.int p3), .val (.int (2 : Int32)), .val (.int ch), .val (.ref b100), .val (.ref b103), .unset, .unset, .unset, .unset]) iG_44 rfl rfl ?_
    refine g_iloadN C iG_46 rfl ?_
    refine g_ldcInt C iG_47 (hw _ (List.mem_of_getElem? (i := 0) rfl)) ?_
    refine g_iand C iG_49 ?_
    refine g_iload C iG_50 rfl ?_
    refine g_iconst C (1 : Int32) iG_52 rfl ?_
    refine g_iadd C iG_53 ?_
    refine g_irem C iG_54 (by decide) ?_
    refine g_istore C (Ls' := #[.val (.int p0), .val (.int p1), .val (.int p2), .val (.int p3), .val (.int (2 : Int32)), .val (.int ch), .val (.ref b100), .val (.ref b103), .val (.int ((p1 &&& (2147483647 : Int32)) % (3 : Int32))), .unset, .unset, .unset]) iG_55 rfl ?_
    refine g_iloadN C iG_57 rfl ?_
    refine g_iconst C (1 : Int32) iG_58 rfl ?_
    refine g_iand C iG_59 ?_
    refine Go.join (mkF m 68 #[.val (.int p0), .val (.int p1), .val (.int p2), .val (.int p3), .val (.int (2 : Int32)), .val (.int ch), .val (.ref b100), .val (.ref b103), .val (.int ((p1 &&& (2147483647 : Int32)) % (3 : Int32))), .unset, .unset, .unset] [(.int (vG_0 p1 p2 p3 n ch cs))]) ?_ (fun J => ?_)
    · refine g_istore C (Ls' := #[.val (.int p0), .val (.int p1), .val (.int p2), .val (.int p3), .val (.int (2 : Int32)), .val (.int ch), .val (.ref b100), .val (.ref b103), .val (.int ((p1 &&& (2147483647 : Int32)) % (3 : Int32))), .val (.int (vG_0 p1 p2 p3 n ch cs)), .unset, .unset]) iG_68 rfl ?_
      refine g_iload C iG_70 rfl ?_
      refine Go.join (mkF m 80 #[.val (.int p0), .val (.int p1), .val (.int p2), .val (.int p3), .val (.int (2 : Int32)), .val (.int ch), .val (.ref b100), .val (.ref b103), .val (.int ((p1 &&& (2147483647 : Int32)) % (3 : Int32))), .val (.int (vG_0 p1 p2 p3 n ch cs)), .unset, .unset] [(.int (vG_1 p1 p2 p3 n ch cs))]) ?_ (fun J => ?_)
      · refine g_istore C (Ls' := #[.val (.int p0), .val (.int p1), .val (.int p2), .val (.int p3), .val (.int (2 : Int32)), .val (.int ch), .val (.ref b100), .val (.ref b103), .val (.int ((p1 &&& (2147483647 : Int32)) % (3 : Int32))), .val (.int (vG_0 p1 p2 p3 n ch cs)), .val (.int (vG_1 p1 p2 p3 n ch cs)), .unset]) iG_80 rfl ?_
        refine g_iload C iG_82 rfl ?_
        refine Go.join (mkF m 124 #[.val (.int p0), .val (.int p1), .val (.int p2), .val (.int p3), .val (.int (2 : Int32)), .val (.int ch), .val (.ref b100), .val (.ref b103), .val (.int ((p1 &&& (2147483647 : Int32)) % (3 : Int32))), .val (.int (vG_0 p1 p2 p3 n ch cs)), .val (.int (vG_1 p1 p2 p3 n ch cs)), .unset] [(.int (vG_12 p1 p2 p3 n ch cs))]) ?_ (fun J => ?_)
        · refine g_istore C (Ls' := #[.val (.int p0), .val (.int p1), .val (.int p2), .val (.int p3), .val (.int (2 : Int32)), .val (.int ch), .val (.ref b100), .val (.ref b103), .val (.int ((p1 &&& (2147483647 : Int32)) % (3 : Int32))), .val (.int (vG_0 p1 p2 p3 n ch cs)), .val (.int (vG_1 p1 p2 p3 n ch cs)), .val (.int (vG_12 p1 p2 p3 n ch cs))]) iG_124 rfl ?_
          refine g_aload C iG_126 rfl rfl ?_
          refine g_iload C iG_128 rfl ?_
          refine g_iloadN C iG_130 rfl ?_
          refine g_iload C iG_131 rfl ?_
          refine g_callV C (rmF l Z aZ hw b103 ((p1 &&& (2147483647 : Int32)) % (3 : Int32)) p2 (vG_1 p1 p2 p3 n ch cs) (2 : Int32) h104 n0 Z104 P104_2) (a := b103) iG_133 (hw _ (List.mem_of_getElem? (i := 49) rfl)) (hw _ (List.mem_of_getElem? (i := 50) rfl)) (fun s hZ => notFace_of_selects (args := #[]) (mvT hZ (hw _ (List.mem_of_getElem? (i := 52) rfl)))) (hw _ (List.mem_of_getElem? (i := 52) rfl)) (hw _ (List.mem_of_getElem? (i := 51) rfl)) (hw _ (List.mem_of_getElem? (i := 29) rfl)) (hw _ (List.mem_of_getElem? (i := 53) rfl)) (by decide) P104_0 (argsL := [(.int ((p1 &&& (2147483647 : Int32)) % (3 : Int32))), (.int p2), (.int (vG_1 p1 p2 p3 n ch cs))]) (rest := []) rfl rfl pd9 rfl rfl 0 (Nat.le_of_eq rfl) (by decide) (by decide) (by decide) (by decide) rfl rfl ?_
          rintro _ _ ⟨rfl, he105⟩
          refine Go.heap he105.symm ?_
          refine Go.some' ?_
          refine g_iload C iG_136 rfl ?_
          refine Go.join (mkF m 146 #[.val (.int p0), .val (.int p1), .val (.int p2), .val (.int p3), .val (.int (2 : Int32)), .val (.int ch), .val (.ref b100), .val (.ref b103), .val (.int ((p1 &&& (2147483647 : Int32)) % (3 : Int32))), .val (.int (vG_0 p1 p2 p3 n ch cs)), .val (.int (vG_1 p1 p2 p3 n ch cs)), .val (.int (vG_12 p1 p2 p3 n ch cs))] [(.int (vG_13 p1 p2 p3 n ch cs))]) ?_ (fun J => ?_)
          · exact g_retNarV C HW (t := .boolean) iG_146 rfl (by simp) (by decide) (by decide) (show _ = _ from congrArg (fun z => some (Value.int z)) (leafG_2 p1 p2 p3 n ch cs hq2))
          · refine g_icmp_ne C iG_138 (fun hc138_1 => ?_) (fun hc138_1 => ?_)
            · refine g_iconst C (1 : Int32) iG_141 rfl ?_
              refine g_goto C iG_142 ?_
              have e0 : (vG_13 p1 p2 p3 n ch cs) = (1 : Int32) := by simp only [vG_13, if_pos hc138_1]
              exact Go.cast J (by rw [e0])
            · refine g_iconst C (0 : Int32) iG_145 rfl ?_
              have e0 : (vG_13 p1 p2 p3 n ch cs) = (0 : Int32) := by simp only [vG_13, if_neg hc138_1]
              exact Go.cast J (by rw [e0])
        · refine g_if_eq C iG_84 (fun hc84_1 => ?_) (fun hc84_1 => ?_)
          · refine g_iload C iG_108 rfl ?_
            refine g_i2l C iG_110 ?_
            refine g_iloadN C iG_111 rfl ?_
            refine g_i2l C iG_112 ?_
            refine g_lsub C iG_113 ?_
            refine g_lconst C (0 : Int64) iG_114 rfl ?_
            refine g_lcmp C iG_115 ?_
            refine g_ifl_lt C iG_116 (fun hc116_1 => ?_) (fun hc116_1 => ?_)
            · refine g_iconst C (0 : Int32) iG_123 rfl ?_
              have e0 : (vG_12 p1 p2 p3 n ch cs) = (0 : Int32) := by simp only [vG_12, if_pos hc84_1, if_pos hc116_1]
              exact Go.cast J (by rw [e0])
            · refine g_iconst C (1 : Int32) iG_119 rfl ?_
              refine g_goto C iG_120 ?_
              have e0 : (vG_12 p1 p2 p3 n ch cs) = (1 : Int32) := by simp only [vG_12, if_pos hc84_1, if_neg hc116_1]
              exact Go.cast J (by rw [e0])
          · refine g_iload C iG_87 rfl ?_
            refine g_i2l C iG_89 ?_
            refine g_iloadN C iG_90 rfl ?_
            refine g_i2l C iG_91 ?_
            refine g_ladd C iG_92 ?_
            refine g_iload C iG_93 rfl ?_
            refine g_i2l C iG_95 ?_
            refine g_lcmp C iG_96 ?_
            refine g_ifl_gt C iG_97 (fun hc97_1 => ?_) (fun hc97_1 => ?_)
            · refine g_iconst C (0 : Int32) iG_104 rfl ?_
              refine g_goto C iG_105 ?_
              have e0 : (vG_12 p1 p2 p3 n ch cs) = (0 : Int32) := by simp only [vG_12, if_neg hc84_1, if_pos hc97_1]
              exact Go.cast J (by rw [e0])
            · refine g_iconst C (1 : Int32) iG_100 rfl ?_
              refine g_goto C iG_101 ?_
              have e0 : (vG_12 p1 p2 p3 n ch cs) = (1 : Int32) := by simp only [vG_12, if_neg hc84_1, if_neg hc97_1]
              exact Go.cast J (by rw [e0])
      · refine g_if_eq C iG_72 (fun hc72_1 => ?_) (fun hc72_1 => ?_)
        · refine g_iconst C (1 : Int32) iG_79 rfl ?_
          have e0 : (vG_1 p1 p2 p3 n ch cs) = (1 : Int32) := by simp only [vG_1, if_pos hc72_1]
          exact Go.cast J (by rw [e0])
        · refine g_iconst C (0 : Int32) iG_75 rfl ?_
          refine g_goto C iG_76 ?_
          have e0 : (vG_1 p1 p2 p3 n ch cs) = (0 : Int32) := by simp only [vG_1, if_neg hc72_1]
          exact Go.cast J (by rw [e0])
    · refine g_if_ne C iG_60 (fun hc60_1 => ?_) (fun hc60_1 => ?_)
      · refine g_iconst C (1 : Int32) iG_63 rfl ?_
        refine g_goto C iG_64 ?_
        have e0 : (vG_0 p1 p2 p3 n ch cs) = (1 : Int32) := by simp only [vG_0, if_pos hc60_1]
        exact Go.cast J (by rw [e0])
      · refine g_iconst C (0 : Int32) iG_67 rfl ?_
        have e0 : (vG_0 p1 p2 p3 n ch cs) = (0 : Int32) := by simp only [vG_0, if_neg hc60_1]
        exact Go.cast J (by rw [e0])
  · refine Go.cast (g' := mkF m 19 #[.val (.int p0), .val (.int p1), .val (.int p2), .val (.int p3), .val (.int (3 : Int32)), .val (.int ch), .unset, .unset, .unset, .unset, .unset, .unset] []) ?_ (by rw [hq3])
    refine g_newO C iG_19 (hw _ (List.mem_of_getElem? (i := 1) rfl)) (hw _ (List.mem_of_getElem? (i := 2) rfl)) (hw _ (List.mem_of_getElem? (i := 3) rfl)) (by decide) (by decide) rfl rfl (fun h106 b106 g106 E106 A106 D106 => ?_)
    have ge106 : n0 ≤ b106 := Nat.le_trans Z0 (Nat.le_of_eq g106.symm)
    have fr106 : h0.size ≤ b106 := Nat.le_trans (Keep.refl h0 []).1 (Nat.le_of_eq g106.symm)
    have K106 := Keep.ext (Keep.refl h0 []) E106
    have Z106 : n0 ≤ h106.size := Nat.le_trans Z0 E106.1
    have HW := HW.ext E106
    have OLD106 := Old.ext OLD E106
    have F106_value : Fld Z h106 b106 "java/lang/String" "value" "[B" .null := D106 (Or.inr (hw _ (List.mem_of_getElem? (i := 21) rfl))) (ty := (.array .byte)) (by decide)
    have F106_coder : Fld Z h106 b106 "java/lang/String" "coder" "B" (.int (0 : Int32)) := D106 (Or.inr (hw _ (List.mem_of_getElem? (i := 22) rfl))) (ty := .byte) (by decide)
    refine g_dup C iG_22 rfl ?_
    refine g_iload C iG_23 rfl ?_
    refine g_iload C iG_25 rfl ?_
    refine g_callS C (rmh3 l Z aZ hw ch h106 n0 Z106) iG_27 (hw _ (List.mem_of_getElem? (i := 4) rfl)) (hw _ (List.mem_of_getElem? (i := 5) rfl)) (hw _ (List.mem_of_getElem? (i := 6) rfl)) (hw _ (List.mem_of_getElem? (i := 7) rfl)) (by decide) (argsL := [(.int (3 : Int32)), (.int ch)]) (rest := [(.ref b106), (.ref b106)]) rfl rfl pd6 rfl rfl 2 (Nat.le_of_eq rfl) (by decide) (by decide) (by decide) (by decide) rfl rfl ?_
    rintro _ h107 ⟨r107_fb0, rfl, ⟨ge107_fb0, fh107_fb0⟩, KC107, P107_0⟩
    refine Go.some' ?_
    have ne_b106_r107_fb0 : b106 ≠ r107_fb0 := Nat.ne_of_lt (Nat.lt_of_lt_of_le A106.lt fh107_fb0)
    have fr107_fb0 : h0.size ≤ r107_fb0 := Nat.le_trans K106.1 fh107_fb0
    have HW := HW.keep KC107 all0
    have OLDC107 := Old.keep OLD106 KC107 all0
    have E_b106_cC107 := Exa.keep A106 KC107
    have F_value_b106_cC107 := Fld.keep F106_value KC107 nin0
    have F_coder_b106_cC107 := Fld.keep F106_coder KC107 nin0
    have K107 := Keep.trans K106 KC107 all0
    have Z107 : n0 ≤ h107.size := Nat.le_trans Z106 KC107.1
    refine g_callI C (rmj3 l Z aZ hw b106 r107_fb0 (vh3_2 ch) cs (0 : Int32) .null h107 n0 Z107 E_b106_cC107 P107_0 (own_c255 hch) (own_c255 hch) (own_c255 hch) OLDC107 S_c hcs F_coder_b106_cC107 ge106 ne_b106_r107_fb0 F_value_b106_cC107) (a := b106) iG_30 rfl (hw _ (List.mem_of_getElem? (i := 9) rfl)) (hw _ (List.mem_of_getElem? (i := 10) rfl)) (hw _ (List.mem_of_getElem? (i := 3) rfl)) (hw _ (List.mem_of_getElem? (i := 11) rfl)) rfl (by decide) (argsL := [(.ref r107_fb0)]) (rest := [(.ref b106)]) rfl rfl pd7 rfl rfl 1 (Nat.le_of_eq rfl) (by decide) (by decide) (by decide) (by decide) rfl rfl ?_
    rintro _ h108 ⟨r108_fb0, rfl, ⟨ge108_fb0, fh108_fb0⟩, KC108, P108_0, P108_1, P108_2, P108_3⟩
    refine Go.none' ?_
    have ne_b106_r108_fb0 : b106 ≠ r108_fb0 := Nat.ne_of_lt (Nat.lt_of_lt_of_le E_b106_cC107.lt fh108_fb0)
    have ne_r107_fb0_r108_fb0 : r107_fb0 ≠ r108_fb0 := Nat.ne_of_lt (Nat.lt_of_lt_of_le P107_0.lt fh108_fb0)
    have fr108_fb0 : h0.size ≤ r108_fb0 := Nat.le_trans K107.1 fh108_fb0
    have HW := HW.v.keep KC108
    have OLDC108 := Old.keep OLDC107 KC108 (allS ge106 all0)
    have E_b106_cC108 := Exa.keep E_b106_cC107 KC108
    have V_r107_fb0_cC108 := AV.keep P107_0 KC108 (ninS (Ne.symm ne_b106_r107_fb0) nin0)
    have K108 := Keep.trans K107 KC108 (allS (Or.inr fr106) all0)
    have Z108 : n0 ≤ h108.size := Nat.le_trans Z107 KC108.1
    have P108_3 : Fld Z h108 b106 "java/lang/String" "coder" "B" (.int (0 : Int32)) := P108_3
    refine g_astore C (Ls' := #[.val (.int p0), .val (.int p1), .val (.int p2), .val (.int p3), .val (.int (3 : Int32)), .val (.int ch), .val (.ref b106), .unset, .unset, .unset, .unset, .unset]) iG_33 rfl rfl ?_
    refine g_newO C iG_35 (hw _ (List.mem_of_getElem? (i := 27) rfl)) (hw _ (List.mem_of_getElem? (i := 28) rfl)) (hw _ (List.mem_of_getElem? (i := 29) rfl)) (by decide) (by decide) rfl rfl (fun h109 b109 g109 E109 A109 D109 => ?_)
    have ne_r107_fb0_b109 : r107_fb0 ≠ b109 := Nat.ne_of_lt (Nat.lt_of_lt_of_le V_r107_fb0_cC108.lt (Nat.le_of_eq g109.symm))
    have ne_b106_b109 : b106 ≠ b109 := Nat.ne_of_lt (Nat.lt_of_lt_of_le P108_1.lt (Nat.le_of_eq g109.symm))
    have ne_r108_fb0_b109 : r108_fb0 ≠ b109 := Nat.ne_of_lt (Nat.lt_of_lt_of_le P108_0.lt (Nat.le_of_eq g109.symm))
    have ge109 : n0 ≤ b109 := Nat.le_trans Z108 (Nat.le_of_eq g109.symm)
    have fr109 : h0.size ≤ b109 := Nat.le_trans K108.1 (Nat.le_of_eq g109.symm)
    have K109 := Keep.ext K108 E109
    have Z109 : n0 ≤ h109.size := Nat.le_trans Z108 E109.1
    have HW := HW.ext E109
    have OLD109 := Old.ext OLDC108 E109
    have E_b106_c109 := Exa.ext E109 P108_1
    have V_r107_fb0_c109 := V_r107_fb0_cC108.ext E109
    have V_r108_fb0_c109 := P108_0.ext E109
    have F_value_b106_c109 := Fld.ext E109 P108_2
    have F_coder_b106_c109 := Fld.ext E109 P108_3
    have F109_text : Fld Z h109 b109 "com/example/firm_input/firminput/regex/RegexInput" "text" "Ljava/lang/String;" .null := D109 (Or.inr (hw _ (List.mem_of_getElem? (i := 35) rfl))) (ty := (.object "java/lang/String")) (by decide)
    have F109_length : Fld Z h109 b109 "com/example/firm_input/firminput/regex/RegexInput" "length" "I" (.int (0 : Int32)) := D109 (Or.inr (hw _ (List.mem_of_getElem? (i := 48) rfl))) (ty := .int) (by decide)
    refine g_dup C iG_38 rfl ?_
    refine g_aload C iG_39 rfl rfl ?_
    refine g_callI C (rmr3 l Z aZ hw b109 b106 r108_fb0 (vc3_2 (vh3_2 ch) (fun _ => (0 : Int32))) cs .null (0 : Int32) h109 n0 Z109 A109 E_b106_c109 F_coder_b106_c109 F_value_b106_c109 V_r108_fb0_c109 OLD109 S_c hcs F109_text ge109 (Ne.symm ne_b106_b109) (Ne.symm ne_r108_fb0_b109) F109_length) (a := b109) iG_41 rfl (hw _ (List.mem_of_getElem? (i := 30) rfl)) (hw _ (List.mem_of_getElem? (i := 31) rfl)) (hw _ (List.mem_of_getElem? (i := 29) rfl)) (hw _ (List.mem_of_getElem? (i := 32) rfl)) rfl (by decide) (argsL := [(.ref b106)]) (rest := [(.ref b109)]) rfl rfl pd8 rfl rfl 1 (Nat.le_of_eq rfl) (by decide) (by decide) (by decide) (by decide) rfl rfl ?_
    rintro _ h110 ⟨rfl, KC110, P110_0, P110_1, P110_2⟩
    refine Go.none' ?_
    have HW := HW.keep KC110
    have OLDC110 := Old.keep OLD109 KC110 (allS ge109 all0)
    have E_b106_cC110 := Exa.keep E_b106_c109 KC110
    have V_r107_fb0_cC110 := AV.keep V_r107_fb0_c109 KC110 (ninS ne_r107_fb0_b109 nin0)
    have V_r108_fb0_cC110 := AV.keep V_r108_fb0_c109 KC110 (ninS ne_r108_fb0_b109 nin0)
    have F_value_b106_cC110 := Fld.keep F_value_b106_c109 KC110 (ninS ne_b106_b109 nin0)
    have F_coder_b106_cC110 := Fld.keep F_coder_b106_c109 KC110 (ninS ne_b106_b109 nin0)
    have E_b109_cC110 := Exa.keep A109 KC110
    have K110 := Keep.trans K109 KC110 (allS (Or.inr fr109) all0)
    have Z110 : n0 ≤ h110.size := Nat.le_trans Z109 KC110.1
    have P110_2 : Fld Z h110 b109 "com/example/firm_input/firminput/regex/RegexInput" "length" "I" (.int (3 : Int32)) := P110_2
    refine g_astore C (Ls' := #[.val (.int p0), .val (.int p1), .val (.int p2), .val (.int p3), .val (.int (3 : Int32)), .val (.int ch), .val (.ref b106), .val (.ref b109), .unset, .unset, .unset, .unset]) iG_44 rfl rfl ?_
    refine g_iloadN C iG_46 rfl ?_
    refine g_ldcInt C iG_47 (hw _ (List.mem_of_getElem? (i := 0) rfl)) ?_
    refine g_iand C iG_49 ?_
    refine g_iload C iG_50 rfl ?_
    refine g_iconst C (1 : Int32) iG_52 rfl ?_
    refine g_iadd C iG_53 ?_
    refine g_irem C iG_54 (by decide) ?_
    refine g_istore C (Ls' := #[.val (.int p0), .val (.int p1), .val (.int p2), .val (.int p3), .val (.int (3 : Int32)), .val (.int ch), .val (.ref b106), .val (.ref b109), .val (.int ((p1 &&& (2147483647 : Int32)) % (4 : Int32))), .unset, .unset, .unset]) iG_55 rfl ?_
    refine g_iloadN C iG_57 rfl ?_
    refine g_iconst C (1 : Int32) iG_58 rfl ?_
    refine g_iand C iG_59 ?_
    refine Go.join (mkF m 68 #[.val (.int p0), .val (.int p1), .val (.int p2), .val (.int p3), .val (.int (3 : Int32)), .val (.int ch), .val (.ref b106), .val (.ref b109), .val (.int ((p1 &&& (2147483647 : Int32)) % (4 : Int32))), .unset, .unset, .unset] [(.int (vG_0 p1 p2 p3 n ch cs))]) ?_ (fun J => ?_)
    · refine g_istore C (Ls' := #[.val (.int p0), .val (.int p1), .val (.int p2), .val (.int p3), .val (.int (3 : Int32)), .val (.int ch), .val (.ref b106), .val (.ref b109), .val (.int ((p1 &&& (2147483647 : Int32)) % (4 : Int32))), .val (.int (vG_0 p1 p2 p3 n ch cs)), .unset, .unset]) iG_68 rfl ?_
      refine g_iload C iG_70 rfl ?_
      refine Go.join (mkF m 80 #[.val (.int p0), .val (.int p1), .val (.int p2), .val (.int p3), .val (.int (3 : Int32)), .val (.int ch), .val (.ref b106), .val (.ref b109), .val (.int ((p1 &&& (2147483647 : Int32)) % (4 : Int32))), .val (.int (vG_0 p1 p2 p3 n ch cs)), .unset, .unset] [(.int (vG_1 p1 p2 p3 n ch cs))]) ?_ (fun J => ?_)
      · refine g_istore C (Ls' := #[.val (.int p0), .val (.int p1), .val (.int p2), .val (.int p3), .val (.int (3 : Int32)), .val (.int ch), .val (.ref b106), .val (.ref b109), .val (.int ((p1 &&& (2147483647 : Int32)) % (4 : Int32))), .val (.int (vG_0 p1 p2 p3 n ch cs)), .val (.int (vG_1 p1 p2 p3 n ch cs)), .unset]) iG_80 rfl ?_
        refine g_iload C iG_82 rfl ?_
        refine Go.join (mkF m 124 #[.val (.int p0), .val (.int p1), .val (.int p2), .val (.int p3), .val (.int (3 : Int32)), .val (.int ch), .val (.ref b106), .val (.ref b109), .val (.int ((p1 &&& (2147483647 : Int32)) % (4 : Int32))), .val (.int (vG_0 p1 p2 p3 n ch cs)), .val (.int (vG_1 p1 p2 p3 n ch cs)), .unset] [(.int (vG_16 p1 p2 p3 n ch cs))]) ?_ (fun J => ?_)
        · refine g_istore C (Ls' := #[.val (.int p0), .val (.int p1), .val (.int p2), .val (.int p3), .val (.int (3 : Int32)), .val (.int ch), .val (.ref b106), .val (.ref b109), .val (.int ((p1 &&& (2147483647 : Int32)) % (4 : Int32))), .val (.int (vG_0 p1 p2 p3 n ch cs)), .val (.int (vG_1 p1 p2 p3 n ch cs)), .val (.int (vG_16 p1 p2 p3 n ch cs))]) iG_124 rfl ?_
          refine g_aload C iG_126 rfl rfl ?_
          refine g_iload C iG_128 rfl ?_
          refine g_iloadN C iG_130 rfl ?_
          refine g_iload C iG_131 rfl ?_
          refine g_callV C (rmF l Z aZ hw b109 ((p1 &&& (2147483647 : Int32)) % (4 : Int32)) p2 (vG_1 p1 p2 p3 n ch cs) (3 : Int32) h110 n0 Z110 P110_2) (a := b109) iG_133 (hw _ (List.mem_of_getElem? (i := 49) rfl)) (hw _ (List.mem_of_getElem? (i := 50) rfl)) (fun s hZ => notFace_of_selects (args := #[]) (mvT hZ (hw _ (List.mem_of_getElem? (i := 52) rfl)))) (hw _ (List.mem_of_getElem? (i := 52) rfl)) (hw _ (List.mem_of_getElem? (i := 51) rfl)) (hw _ (List.mem_of_getElem? (i := 29) rfl)) (hw _ (List.mem_of_getElem? (i := 53) rfl)) (by decide) P110_0 (argsL := [(.int ((p1 &&& (2147483647 : Int32)) % (4 : Int32))), (.int p2), (.int (vG_1 p1 p2 p3 n ch cs))]) (rest := []) rfl rfl pd9 rfl rfl 0 (Nat.le_of_eq rfl) (by decide) (by decide) (by decide) (by decide) rfl rfl ?_
          rintro _ _ ⟨rfl, he111⟩
          refine Go.heap he111.symm ?_
          refine Go.some' ?_
          refine g_iload C iG_136 rfl ?_
          refine Go.join (mkF m 146 #[.val (.int p0), .val (.int p1), .val (.int p2), .val (.int p3), .val (.int (3 : Int32)), .val (.int ch), .val (.ref b106), .val (.ref b109), .val (.int ((p1 &&& (2147483647 : Int32)) % (4 : Int32))), .val (.int (vG_0 p1 p2 p3 n ch cs)), .val (.int (vG_1 p1 p2 p3 n ch cs)), .val (.int (vG_16 p1 p2 p3 n ch cs))] [(.int (vG_17 p1 p2 p3 n ch cs))]) ?_ (fun J => ?_)
          · exact g_retNarV C HW (t := .boolean) iG_146 rfl (by simp) (by decide) (by decide) (show _ = _ from congrArg (fun z => some (Value.int z)) (leafG_3 p1 p2 p3 n ch cs hq3))
          · refine g_icmp_ne C iG_138 (fun hc138_1 => ?_) (fun hc138_1 => ?_)
            · refine g_iconst C (1 : Int32) iG_141 rfl ?_
              refine g_goto C iG_142 ?_
              have e0 : (vG_17 p1 p2 p3 n ch cs) = (1 : Int32) := by simp only [vG_17, if_pos hc138_1]
              exact Go.cast J (by rw [e0])
            · refine g_iconst C (0 : Int32) iG_145 rfl ?_
              have e0 : (vG_17 p1 p2 p3 n ch cs) = (0 : Int32) := by simp only [vG_17, if_neg hc138_1]
              exact Go.cast J (by rw [e0])
        · refine g_if_eq C iG_84 (fun hc84_1 => ?_) (fun hc84_1 => ?_)
          · refine g_iload C iG_108 rfl ?_
            refine g_i2l C iG_110 ?_
            refine g_iloadN C iG_111 rfl ?_
            refine g_i2l C iG_112 ?_
            refine g_lsub C iG_113 ?_
            refine g_lconst C (0 : Int64) iG_114 rfl ?_
            refine g_lcmp C iG_115 ?_
            refine g_ifl_lt C iG_116 (fun hc116_1 => ?_) (fun hc116_1 => ?_)
            · refine g_iconst C (0 : Int32) iG_123 rfl ?_
              have e0 : (vG_16 p1 p2 p3 n ch cs) = (0 : Int32) := by simp only [vG_16, if_pos hc84_1, if_pos hc116_1]
              exact Go.cast J (by rw [e0])
            · refine g_iconst C (1 : Int32) iG_119 rfl ?_
              refine g_goto C iG_120 ?_
              have e0 : (vG_16 p1 p2 p3 n ch cs) = (1 : Int32) := by simp only [vG_16, if_pos hc84_1, if_neg hc116_1]
              exact Go.cast J (by rw [e0])
          · refine g_iload C iG_87 rfl ?_
            refine g_i2l C iG_89 ?_
            refine g_iloadN C iG_90 rfl ?_
            refine g_i2l C iG_91 ?_
            refine g_ladd C iG_92 ?_
            refine g_iload C iG_93 rfl ?_
            refine g_i2l C iG_95 ?_
            refine g_lcmp C iG_96 ?_
            refine g_ifl_gt C iG_97 (fun hc97_1 => ?_) (fun hc97_1 => ?_)
            · refine g_iconst C (0 : Int32) iG_104 rfl ?_
              refine g_goto C iG_105 ?_
              have e0 : (vG_16 p1 p2 p3 n ch cs) = (0 : Int32) := by simp only [vG_16, if_neg hc84_1, if_pos hc97_1]
              exact Go.cast J (by rw [e0])
            · refine g_iconst C (1 : Int32) iG_100 rfl ?_
              refine g_goto C iG_101 ?_
              have e0 : (vG_16 p1 p2 p3 n ch cs) = (1 : Int32) := by simp only [vG_16, if_neg hc84_1, if_neg hc97_1]
              exact Go.cast J (by rw [e0])
      · refine g_if_eq C iG_72 (fun hc72_1 => ?_) (fun hc72_1 => ?_)
        · refine g_iconst C (1 : Int32) iG_79 rfl ?_
          have e0 : (vG_1 p1 p2 p3 n ch cs) = (1 : Int32) := by simp only [vG_1, if_pos hc72_1]
          exact Go.cast J (by rw [e0])
        · refine g_iconst C (0 : Int32) iG_75 rfl ?_
          refine g_goto C iG_76 ?_
          have e0 : (vG_1 p1 p2 p3 n ch cs) = (0 : Int32) := by simp only [vG_1, if_neg hc72_1]
          exact Go.cast J (by rw [e0])
    · refine g_if_ne C iG_60 (fun hc60_1 => ?_) (fun hc60_1 => ?_)
      · refine g_iconst C (1 : Int32) iG_63 rfl ?_
        refine g_goto C iG_64 ?_
        have e0 : (vG_0 p1 p2 p3 n ch cs) = (1 : Int32) := by simp only [vG_0, if_pos hc60_1]
        exact Go.cast J (by rw [e0])
      · refine g_iconst C (0 : Int32) iG_67 rfl ?_
        have e0 : (vG_0 p1 p2 p3 n ch cs) = (0 : Int32) := by simp only [vG_0, if_neg hc60_1]
        exact Go.cast J (by rw [e0])
  · refine Go.cast (g' := mkF m 19 #[.val (.int p0), .val (.int p1), .val (.int p2), .val (.int p3), .val (.int (4 : Int32)), .val (.int ch), .unset, .unset, .unset, .unset, .unset, .unset] []) ?_ (by rw [hq4])
    refine g_newO C iG_19 (hw _ (List.mem_of_getElem? (i := 1) rfl)) (hw _ (List.mem_of_getElem? (i := 2) rfl)) (hw _ (List.mem_of_getElem? (i := 3) rfl)) (by decide) (by decide) rfl rfl (fun h112 b112 g112 E112 A112 D112 => ?_)
    have ge112 : n0 ≤ b112 := Nat.le_trans Z0 (Nat.le_of_eq g112.symm)
    have fr112 : h0.size ≤ b112 := Nat.le_trans (Keep.refl h0 []).1 (Nat.le_of_eq g112.symm)
    have K112 := Keep.ext (Keep.refl h0 []) E112
    have Z112 : n0 ≤ h112.size := Nat.le_trans Z0 E112.1
    have HW := HW.ext E112
    have OLD112 := Old.ext OLD E112
    have F112_value : Fld Z h112 b112 "java/lang/String" "value" "[B" .null := D112 (Or.inr (hw _ (List.mem_of_getElem? (i := 21) rfl))) (ty := (.array .byte)) (by decide)
    have F112_coder : Fld Z h112 b112 "java/lang/String" "coder" "B" (.int (0 : Int32)) := D112 (Or.inr (hw _ (List.mem_of_getElem? (i := 22) rfl))) (ty := .byte) (by decide)
    refine g_dup C iG_22 rfl ?_
    refine g_iload C iG_23 rfl ?_
    refine g_iload C iG_25 rfl ?_
    refine g_callS C (rmh4 l Z aZ hw ch h112 n0 Z112) iG_27 (hw _ (List.mem_of_getElem? (i := 4) rfl)) (hw _ (List.mem_of_getElem? (i := 5) rfl)) (hw _ (List.mem_of_getElem? (i := 6) rfl)) (hw _ (List.mem_of_getElem? (i := 7) rfl)) (by decide) (argsL := [(.int (4 : Int32)), (.int ch)]) (rest := [(.ref b112), (.ref b112)]) rfl rfl pd6 rfl rfl 2 (Nat.le_of_eq rfl) (by decide) (by decide) (by decide) (by decide) rfl rfl ?_
    rintro _ h113 ⟨r113_fb0, rfl, ⟨ge113_fb0, fh113_fb0⟩, KC113, P113_0⟩
    refine Go.some' ?_
    have ne_b112_r113_fb0 : b112 ≠ r113_fb0 := Nat.ne_of_lt (Nat.lt_of_lt_of_le A112.lt fh113_fb0)
    have fr113_fb0 : h0.size ≤ r113_fb0 := Nat.le_trans K112.1 fh113_fb0
    have HW := HW.keep KC113 all0
    have OLDC113 := Old.keep OLD112 KC113 all0
    have E_b112_cC113 := Exa.keep A112 KC113
    have F_value_b112_cC113 := Fld.keep F112_value KC113 nin0
    have F_coder_b112_cC113 := Fld.keep F112_coder KC113 nin0
    have K113 := Keep.trans K112 KC113 all0
    have Z113 : n0 ≤ h113.size := Nat.le_trans Z112 KC113.1
    refine g_callI C (rmj4 l Z aZ hw b112 r113_fb0 (vh4_3 ch) cs (0 : Int32) .null h113 n0 Z113 E_b112_cC113 P113_0 (own_c255 hch) (own_c255 hch) (own_c255 hch) (own_c255 hch) OLDC113 S_c hcs F_coder_b112_cC113 ge112 ne_b112_r113_fb0 F_value_b112_cC113) (a := b112) iG_30 rfl (hw _ (List.mem_of_getElem? (i := 9) rfl)) (hw _ (List.mem_of_getElem? (i := 10) rfl)) (hw _ (List.mem_of_getElem? (i := 3) rfl)) (hw _ (List.mem_of_getElem? (i := 11) rfl)) rfl (by decide) (argsL := [(.ref r113_fb0)]) (rest := [(.ref b112)]) rfl rfl pd7 rfl rfl 1 (Nat.le_of_eq rfl) (by decide) (by decide) (by decide) (by decide) rfl rfl ?_
    rintro _ h114 ⟨r114_fb0, rfl, ⟨ge114_fb0, fh114_fb0⟩, KC114, P114_0, P114_1, P114_2, P114_3⟩
    refine Go.none' ?_
    have ne_b112_r114_fb0 : b112 ≠ r114_fb0 := Nat.ne_of_lt (Nat.lt_of_lt_of_le E_b112_cC113.lt fh114_fb0)
    have ne_r113_fb0_r114_fb0 : r113_fb0 ≠ r114_fb0 := Nat.ne_of_lt (Nat.lt_of_lt_of_le P113_0.lt fh114_fb0)
    have fr114_fb0 : h0.size ≤ r114_fb0 := Nat.le_trans K113.1 fh114_fb0
    have HW := HW.v.keep KC114
    have OLDC114 := Old.keep OLDC113 KC114 (allS ge112 all0)
    have E_b112_cC114 := Exa.keep E_b112_cC113 KC114
    have V_r113_fb0_cC114 := AV.keep P113_0 KC114 (ninS (Ne.symm ne_b112_r113_fb0) nin0)
    have K114 := Keep.trans K113 KC114 (allS (Or.inr fr112) all0)
    have Z114 : n0 ≤ h114.size := Nat.le_trans Z113 KC114.1
    have P114_3 : Fld Z h114 b112 "java/lang/String" "coder" "B" (.int (0 : Int32)) := P114_3
    refine g_astore C (Ls' := #[.val (.int p0), .val (.int p1), .val (.int p2), .val (.int p3), .val (.int (4 : Int32)), .val (.int ch), .val (.ref b112), .unset, .unset, .unset, .unset, .unset]) iG_33 rfl rfl ?_
    refine g_newO C iG_35 (hw _ (List.mem_of_getElem? (i := 27) rfl)) (hw _ (List.mem_of_getElem? (i := 28) rfl)) (hw _ (List.mem_of_getElem? (i := 29) rfl)) (by decide) (by decide) rfl rfl (fun h115 b115 g115 E115 A115 D115 => ?_)
    have ne_b112_b115 : b112 ≠ b115 := Nat.ne_of_lt (Nat.lt_of_lt_of_le P114_1.lt (Nat.le_of_eq g115.symm))
    have ne_r113_fb0_b115 : r113_fb0 ≠ b115 := Nat.ne_of_lt (Nat.lt_of_lt_of_le V_r113_fb0_cC114.lt (Nat.le_of_eq g115.symm))
    have ne_r114_fb0_b115 : r114_fb0 ≠ b115 := Nat.ne_of_lt (Nat.lt_of_lt_of_le P114_0.lt (Nat.le_of_eq g115.symm))
    have ge115 : n0 ≤ b115 := Nat.le_trans Z114 (Nat.le_of_eq g115.symm)
    have fr115 : h0.size ≤ b115 := Nat.le_trans K114.1 (Nat.le_of_eq g115.symm)
    have K115 := Keep.ext K114 E115
    have Z115 : n0 ≤ h115.size := Nat.le_trans Z114 E115.1
    have HW := HW.ext E115
    have OLD115 := Old.ext OLDC114 E115
    have E_b112_c115 := Exa.ext E115 P114_1
    have V_r113_fb0_c115 := V_r113_fb0_cC114.ext E115
    have V_r114_fb0_c115 := P114_0.ext E115
    have F_value_b112_c115 := Fld.ext E115 P114_2
    have F_coder_b112_c115 := Fld.ext E115 P114_3
    have F115_text : Fld Z h115 b115 "com/example/firm_input/firminput/regex/RegexInput" "text" "Ljava/lang/String;" .null := D115 (Or.inr (hw _ (List.mem_of_getElem? (i := 35) rfl))) (ty := (.object "java/lang/String")) (by decide)
    have F115_length : Fld Z h115 b115 "com/example/firm_input/firminput/regex/RegexInput" "length" "I" (.int (0 : Int32)) := D115 (Or.inr (hw _ (List.mem_of_getElem? (i := 48) rfl))) (ty := .int) (by decide)
    refine g_dup C iG_38 rfl ?_
    refine g_aload C iG_39 rfl rfl ?_
    refine g_callI C (rmr4 l Z aZ hw b115 b112 r114_fb0 (vc4_3 (vh4_3 ch) (fun _ => (0 : Int32))) cs .null (0 : Int32) h115 n0 Z115 A115 E_b112_c115 F_coder_b112_c115 F_value_b112_c115 V_r114_fb0_c115 OLD115 S_c hcs F115_text ge115 (Ne.symm ne_b112_b115) (Ne.symm ne_r114_fb0_b115) F115_length) (a := b115) iG_41 rfl (hw _ (List.mem_of_getElem? (i := 30) rfl)) (hw _ (List.mem_of_getElem? (i := 31) rfl)) (hw _ (List.mem_of_getElem? (i := 29) rfl)) (hw _ (List.mem_of_getElem? (i := 32) rfl)) rfl (by decide) (argsL := [(.ref b112)]) (rest := [(.ref b115)]) rfl rfl pd8 rfl rfl 1 (Nat.le_of_eq rfl) (by decide) (by decide) (by decide) (by decide) rfl rfl ?_
    rintro _ h116 ⟨rfl, KC116, P116_0, P116_1, P116_2⟩
    refine Go.none' ?_
    have HW := HW.keep KC116
    have OLDC116 := Old.keep OLD115 KC116 (allS ge115 all0)
    have E_b112_cC116 := Exa.keep E_b112_c115 KC116
    have V_r113_fb0_cC116 := AV.keep V_r113_fb0_c115 KC116 (ninS ne_r113_fb0_b115 nin0)
    have V_r114_fb0_cC116 := AV.keep V_r114_fb0_c115 KC116 (ninS ne_r114_fb0_b115 nin0)
    have F_value_b112_cC116 := Fld.keep F_value_b112_c115 KC116 (ninS ne_b112_b115 nin0)
    have F_coder_b112_cC116 := Fld.keep F_coder_b112_c115 KC116 (ninS ne_b112_b115 nin0)
    have E_b115_cC116 := Exa.keep A115 KC116
    have K116 := Keep.trans K115 KC116 (allS (Or.inr fr115) all0)
    have Z116 : n0 ≤ h116.size := Nat.le_trans Z115 KC116.1
    have P116_2 : Fld Z h116 b115 "com/example/firm_input/firminput/regex/RegexInput" "length" "I" (.int (4 : Int32)) := P116_2
    refine g_astore C (Ls' := #[.val (.int p0), .val (.int p1), .val (.int p2), .val (.int p3), .val (.int (4 : Int32)), .val (.int ch), .val (.ref b112), .val (.ref b115), .unset, .unset, .unset, .unset]) iG_44 rfl rfl ?_
    refine g_iloadN C iG_46 rfl ?_
    refine g_ldcInt C iG_47 (hw _ (List.mem_of_getElem? (i := 0) rfl)) ?_
    refine g_iand C iG_49 ?_
    refine g_iload C iG_50 rfl ?_
    refine g_iconst C (1 : Int32) iG_52 rfl ?_
    refine g_iadd C iG_53 ?_
    refine g_irem C iG_54 (by decide) ?_
    refine g_istore C (Ls' := #[.val (.int p0), .val (.int p1), .val (.int p2), .val (.int p3), .val (.int (4 : Int32)), .val (.int ch), .val (.ref b112), .val (.ref b115), .val (.int ((p1 &&& (2147483647 : Int32)) % (5 : Int32))), .unset, .unset, .unset]) iG_55 rfl ?_
    refine g_iloadN C iG_57 rfl ?_
    refine g_iconst C (1 : Int32) iG_58 rfl ?_
    refine g_iand C iG_59 ?_
    refine Go.join (mkF m 68 #[.val (.int p0), .val (.int p1), .val (.int p2), .val (.int p3), .val (.int (4 : Int32)), .val (.int ch), .val (.ref b112), .val (.ref b115), .val (.int ((p1 &&& (2147483647 : Int32)) % (5 : Int32))), .unset, .unset, .unset] [(.int (vG_0 p1 p2 p3 n ch cs))]) ?_ (fun J => ?_)
    · refine g_istore C (Ls' := #[.val (.int p0), .val (.int p1), .val (.int p2), .val (.int p3), .val (.int (4 : Int32)), .val (.int ch), .val (.ref b112), .val (.ref b115), .val (.int ((p1 &&& (2147483647 : Int32)) % (5 : Int32))), .val (.int (vG_0 p1 p2 p3 n ch cs)), .unset, .unset]) iG_68 rfl ?_
      refine g_iload C iG_70 rfl ?_
      refine Go.join (mkF m 80 #[.val (.int p0), .val (.int p1), .val (.int p2), .val (.int p3), .val (.int (4 : Int32)), .val (.int ch), .val (.ref b112), .val (.ref b115), .val (.int ((p1 &&& (2147483647 : Int32)) % (5 : Int32))), .val (.int (vG_0 p1 p2 p3 n ch cs)), .unset, .unset] [(.int (vG_1 p1 p2 p3 n ch cs))]) ?_ (fun J => ?_)
      · refine g_istore C (Ls' := #[.val (.int p0), .val (.int p1), .val (.int p2), .val (.int p3), .val (.int (4 : Int32)), .val (.int ch), .val (.ref b112), .val (.ref b115), .val (.int ((p1 &&& (2147483647 : Int32)) % (5 : Int32))), .val (.int (vG_0 p1 p2 p3 n ch cs)), .val (.int (vG_1 p1 p2 p3 n ch cs)), .unset]) iG_80 rfl ?_
        refine g_iload C iG_82 rfl ?_
        refine Go.join (mkF m 124 #[.val (.int p0), .val (.int p1), .val (.int p2), .val (.int p3), .val (.int (4 : Int32)), .val (.int ch), .val (.ref b112), .val (.ref b115), .val (.int ((p1 &&& (2147483647 : Int32)) % (5 : Int32))), .val (.int (vG_0 p1 p2 p3 n ch cs)), .val (.int (vG_1 p1 p2 p3 n ch cs)), .unset] [(.int (vG_20 p1 p2 p3 n ch cs))]) ?_ (fun J => ?_)
        · refine g_istore C (Ls' := #[.val (.int p0), .val (.int p1), .val (.int p2), .val (.int p3), .val (.int (4 : Int32)), .val (.int ch), .val (.ref b112), .val (.ref b115), .val (.int ((p1 &&& (2147483647 : Int32)) % (5 : Int32))), .val (.int (vG_0 p1 p2 p3 n ch cs)), .val (.int (vG_1 p1 p2 p3 n ch cs)), .val (.int (vG_20 p1 p2 p3 n ch cs))]) iG_124 rfl ?_
          refine g_aload C iG_126 rfl rfl ?_
          refine g_iload C iG_128 rfl ?_
          refine g_iloadN C iG_130 rfl ?_
          refine g_iload C iG_131 rfl ?_
          refine g_callV C (rmF l Z aZ hw b115 ((p1 &&& (2147483647 : Int32)) % (5 : Int32)) p2 (vG_1 p1 p2 p3 n ch cs) (4 : Int32) h116 n0 Z116 P116_2) (a := b115) iG_133 (hw _ (List.mem_of_getElem? (i := 49) rfl)) (hw _ (List.mem_of_getElem? (i := 50) rfl)) (fun s hZ => notFace_of_selects (args := #[]) (mvT hZ (hw _ (List.mem_of_getElem? (i := 52) rfl)))) (hw _ (List.mem_of_getElem? (i := 52) rfl)) (hw _ (List.mem_of_getElem? (i := 51) rfl)) (hw _ (List.mem_of_getElem? (i := 29) rfl)) (hw _ (List.mem_of_getElem? (i := 53) rfl)) (by decide) P116_0 (argsL := [(.int ((p1 &&& (2147483647 : Int32)) % (5 : Int32))), (.int p2), (.int (vG_1 p1 p2 p3 n ch cs))]) (rest := []) rfl rfl pd9 rfl rfl 0 (Nat.le_of_eq rfl) (by decide) (by decide) (by decide) (by decide) rfl rfl ?_
          rintro _ _ ⟨rfl, he117⟩
          refine Go.heap he117.symm ?_
          refine Go.some' ?_
          refine g_iload C iG_136 rfl ?_
          refine Go.join (mkF m 146 #[.val (.int p0), .val (.int p1), .val (.int p2), .val (.int p3), .val (.int (4 : Int32)), .val (.int ch), .val (.ref b112), .val (.ref b115), .val (.int ((p1 &&& (2147483647 : Int32)) % (5 : Int32))), .val (.int (vG_0 p1 p2 p3 n ch cs)), .val (.int (vG_1 p1 p2 p3 n ch cs)), .val (.int (vG_20 p1 p2 p3 n ch cs))] [(.int (vG_21 p1 p2 p3 n ch cs))]) ?_ (fun J => ?_)
          · exact g_retNarV C HW (t := .boolean) iG_146 rfl (by simp) (by decide) (by decide) (show _ = _ from congrArg (fun z => some (Value.int z)) (leafG_4 p1 p2 p3 n ch cs hq4))
          · refine g_icmp_ne C iG_138 (fun hc138_1 => ?_) (fun hc138_1 => ?_)
            · refine g_iconst C (1 : Int32) iG_141 rfl ?_
              refine g_goto C iG_142 ?_
              have e0 : (vG_21 p1 p2 p3 n ch cs) = (1 : Int32) := by simp only [vG_21, if_pos hc138_1]
              exact Go.cast J (by rw [e0])
            · refine g_iconst C (0 : Int32) iG_145 rfl ?_
              have e0 : (vG_21 p1 p2 p3 n ch cs) = (0 : Int32) := by simp only [vG_21, if_neg hc138_1]
              exact Go.cast J (by rw [e0])
        · refine g_if_eq C iG_84 (fun hc84_1 => ?_) (fun hc84_1 => ?_)
          · refine g_iload C iG_108 rfl ?_
            refine g_i2l C iG_110 ?_
            refine g_iloadN C iG_111 rfl ?_
            refine g_i2l C iG_112 ?_
            refine g_lsub C iG_113 ?_
            refine g_lconst C (0 : Int64) iG_114 rfl ?_
            refine g_lcmp C iG_115 ?_
            refine g_ifl_lt C iG_116 (fun hc116_1 => ?_) (fun hc116_1 => ?_)
            · refine g_iconst C (0 : Int32) iG_123 rfl ?_
              have e0 : (vG_20 p1 p2 p3 n ch cs) = (0 : Int32) := by simp only [vG_20, if_pos hc84_1, if_pos hc116_1]
              exact Go.cast J (by rw [e0])
            · refine g_iconst C (1 : Int32) iG_119 rfl ?_
              refine g_goto C iG_120 ?_
              have e0 : (vG_20 p1 p2 p3 n ch cs) = (1 : Int32) := by simp only [vG_20, if_pos hc84_1, if_neg hc116_1]
              exact Go.cast J (by rw [e0])
          · refine g_iload C iG_87 rfl ?_
            refine g_i2l C iG_89 ?_
            refine g_iloadN C iG_90 rfl ?_
            refine g_i2l C iG_91 ?_
            refine g_ladd C iG_92 ?_
            refine g_iload C iG_93 rfl ?_
            refine g_i2l C iG_95 ?_
            refine g_lcmp C iG_96 ?_
            refine g_ifl_gt C iG_97 (fun hc97_1 => ?_) (fun hc97_1 => ?_)
            · refine g_iconst C (0 : Int32) iG_104 rfl ?_
              refine g_goto C iG_105 ?_
              have e0 : (vG_20 p1 p2 p3 n ch cs) = (0 : Int32) := by simp only [vG_20, if_neg hc84_1, if_pos hc97_1]
              exact Go.cast J (by rw [e0])
            · refine g_iconst C (1 : Int32) iG_100 rfl ?_
              refine g_goto C iG_101 ?_
              have e0 : (vG_20 p1 p2 p3 n ch cs) = (1 : Int32) := by simp only [vG_20, if_neg hc84_1, if_neg hc97_1]
              exact Go.cast J (by rw [e0])
      · refine g_if_eq C iG_72 (fun hc72_1 => ?_) (fun hc72_1 => ?_)
        · refine g_iconst C (1 : Int32) iG_79 rfl ?_
          have e0 : (vG_1 p1 p2 p3 n ch cs) = (1 : Int32) := by simp only [vG_1, if_pos hc72_1]
          exact Go.cast J (by rw [e0])
        · refine g_iconst C (0 : Int32) iG_75 rfl ?_
          refine g_goto C iG_76 ?_
          have e0 : (vG_1 p1 p2 p3 n ch cs) = (0 : Int32) := by simp only [vG_1, if_neg hc72_1]
          exact Go.cast J (by rw [e0])
    · refine g_if_ne C iG_60 (fun hc60_1 => ?_) (fun hc60_1 => ?_)
      · refine g_iconst C (1 : Int32) iG_63 rfl ?_
        refine g_goto C iG_64 ?_
        have e0 : (vG_0 p1 p2 p3 n ch cs) = (1 : Int32) := by simp only [vG_0, if_pos hc60_1]
        exact Go.cast J (by rw [e0])
      · refine g_iconst C (0 : Int32) iG_67 rfl ?_
        have e0 : (vG_0 p1 p2 p3 n ch cs) = (0 : Int32) := by simp only [vG_0, if_neg hc60_1]
        exact Go.cast J (by rw [e0])
theorem own_n5 (x : Int32) : ((x &&& (2147483647 : Int32)) % (5 : Int32)) = 0 ∨ ((x &&& (2147483647 : Int32)) % (5 : Int32)) = 1 ∨ ((x &&& (2147483647 : Int32)) % (5 : Int32)) = 2 ∨ ((x &&& (2147483647 : Int32)) % (5 : Int32)) = 3 ∨ ((x &&& (2147483647 : Int32)) % (5 : Int32)) = 4 := by
  have h2 := own_fr (x := x) (m := 5) (L := 4) rfl (by decide)
  have e4 : (4 : Int32).toInt = 4 := rfl
  rcases (by omega : ((x &&& (2147483647 : Int32)) % (5 : Int32)).toInt = 0 ∨ ((x &&& (2147483647 : Int32)) % (5 : Int32)).toInt = 1 ∨ ((x &&& (2147483647 : Int32)) % (5 : Int32)).toInt = 2 ∨ ((x &&& (2147483647 : Int32)) % (5 : Int32)).toInt = 3 ∨ ((x &&& (2147483647 : Int32)) % (5 : Int32)).toInt = 4) with q | q | q | q | q
  · exact Or.inl (Int32.toInt_inj.mp q)
  · exact Or.inr (Or.inl (Int32.toInt_inj.mp q))
  · exact Or.inr (Or.inr (Or.inl (Int32.toInt_inj.mp q)))
  · exact Or.inr (Or.inr (Or.inr (Or.inl (Int32.toInt_inj.mp q))))
  · exact Or.inr (Or.inr (Or.inr (Or.inr (Int32.toInt_inj.mp q))))
theorem own_ch (x : Int32) : 0 ≤ ((x &&& (255 : Int32)).toUInt32.toUInt16.toUInt32.toInt32).toInt ∧ ((x &&& (255 : Int32)).toUInt32.toUInt16.toUInt32.toInt32).toInt ≤ 255 := by
  have h := c_and x 255 (by decide)
  have g : (255 : Int32).toInt = 255 := rfl
  generalize (x &&& (255 : Int32)) = y at h
  have key : ∀ a, a < 256 → 0 ≤ (a.toInt32.toUInt32.toUInt16.toUInt32.toInt32).toInt ∧ (a.toInt32.toUInt32.toUInt16.toUInt32.toInt32).toInt ≤ 255 := by decide +kernel
  have e : y = y.toNatClampNeg.toInt32 := (back32 (by rw [Int32.lt_iff_toInt_lt]; have e0 : (0 : Int32).toInt = 0 := rfl; omega)).1.symm
  rw [e]
  exact key _ (by simp only [Int32.toNatClampNeg]; omega)
theorem pn10 : plainFor (⟨"com/example/firm_input/firminput/regex/RegexInputFitsPinLaw", "law", "(IIII)Z"⟩ : MethodName) = true := by decide +kernel
theorem iM_0 : I1 code 0 (.iload_n 0) 1 1 := ⟨at_0, rfl⟩
theorem iM_1 : I1 code 1 (.ldc 7) 2 3 := ⟨at_1, rfl⟩
theorem iM_3 : I1 code 3 (.iand) 1 4 := ⟨at_3, rfl⟩
theorem iM_4 : I1 code 4 (.iconst 5) 1 5 := ⟨at_4, rfl⟩
theorem iM_5 : I1 code 5 (.irem) 1 6 := ⟨at_5, rfl⟩
theorem iM_6 : I1 code 6 (.istore 4) 2 8 := ⟨at_6, rfl⟩
theorem iM_8 : I1 code 8 (.iload_n 0) 1 9 := ⟨at_8, rfl⟩
theorem iM_9 : I1 code 9 (.bipush 8) 2 11 := ⟨at_9, rfl⟩
theorem iM_11 : I1 code 11 (.iushr) 1 12 := ⟨at_11, rfl⟩
theorem iM_12 : I1 code 12 (.sipush 255) 3 15 := ⟨at_12, rfl⟩
theorem iM_15 : I1 code 15 (.iand) 1 16 := ⟨at_15, rfl⟩
theorem iM_16 : I1 code 16 (.i2c) 1 17 := ⟨at_16, rfl⟩
theorem iM_17 : I1 code 17 (.istore 5) 2 19 := ⟨at_17, rfl⟩
theorem efM (m : MethodId) (p0 : Int32) (p1 : Int32) (p2 : Int32) (p3 : Int32) : entryFrame m #[(.int p0), (.int p1), (.int p2), (.int p3)] maxLocals = mkF m 0 #[.val (.int p0), .val (.int p1), .val (.int p2), .val (.int p3), .unset, .unset, .unset, .unset, .unset, .unset, .unset, .unset] [] := by first | (simp [entryFrame, mkF, argsToLocals, Value.category, maxLocals]; done) | rfl
def QM (Z : State) (p0 : Int32) (p1 : Int32) (p2 : Int32) (p3 : Int32) (cs : Int32) (h0 : Heap) (n0 : Nat) (v : Option Value) (h : Heap) : Prop := v = some (.int 1)
set_option maxRecDepth 65536 in
set_option maxHeartbeats 40000000 in
theorem rmM (l : Launch) (Z : State) (aZ : Array Value) (hw : ∀ d ∈ tables_1, d.before aZ Z = true) (p0 : Int32) (p1 : Int32) (p2 : Int32) (p3 : Int32) (cs : Int32) (h0 : Heap) (n0 : Nat) (Z0 : n0 ≤ h0.size) (OLD : Old Z n0 h0) (S_c : Sta Z Z.heap "java/lang/String" "COMPACT_STRINGS" "Z" (.int cs)) (hcs : ¬ (cs = (0 : Int32))) :
    CtrV l Z consts_1 x code maxLocals ret room_1 #[(.int p0), (.int p1), (.int p2), (.int p3)] h0 n0 (QM Z p0 p1 p2 p3 cs h0 n0) := by
  refine CtrV.of_go pn10 (fun m => efM m p0 p1 p2 p3) ?_
  intro p e s m below meth c hnm C HW
  refine g_iloadN C iM_0 rfl ?_
  refine g_ldcInt C iM_1 (hw _ (List.mem_of_getElem? (i := 0) rfl)) ?_
  refine g_iand C iM_3 ?_
  refine g_iconst C (5 : Int32) iM_4 rfl ?_
  refine g_irem C iM_5 (by decide) ?_
  refine g_istore C (Ls' := #[.val (.int p0), .val (.int p1), .val (.int p2), .val (.int p3), .val (.int ((p0 &&& (2147483647 : Int32)) % (5 : Int32))), .unset, .unset, .unset, .unset, .unset, .unset, .unset]) iM_6 rfl ?_
  refine g_iloadN C iM_8 rfl ?_
  refine g_bipush C (8 : Int32) iM_9 rfl ?_
  refine g_iushr C iM_11 ?_
  refine g_sipush C (255 : Int32) iM_12 rfl ?_
  refine g_iand C iM_15 ?_
  refine g_i2c C iM_16 ?_
  refine g_istore C (Ls' := #[.val (.int p0), .val (.int p1), .val (.int p2), .val (.int p3), .val (.int ((p0 &&& (2147483647 : Int32)) % (5 : Int32))), .val (.int ((((p0.toUInt32 >>> ((8 : Int32) &&& 31).toUInt32).toInt32) &&& (255 : Int32)).toUInt32.toUInt16.toUInt32.toInt32)), .unset, .unset, .unset, .unset, .unset, .unset]) iM_17 rfl ?_
  exact segG l Z aZ hw p0 p1 p2 p3 ((p0 &&& (2147483647 : Int32)) % (5 : Int32)) ((((p0.toUInt32 >>> ((8 : Int32) &&& 31).toUInt32).toInt32) &&& (255 : Int32)).toUInt32.toUInt16.toUInt32.toInt32) cs h0 n0 Z0 OLD S_c hcs (own_ch _) (own_n5 _) C HW
set_option maxRecDepth 65536 in
set_option maxHeartbeats 40000000 in
theorem comes_1 {Post : Tables → Env → Array Value → State → Outcome → State → Prop} (hpost : ∀ tb e args s v u, (limb_1_1.after args s (.returned v) u = true ∧ limb_1_2.after args s (.returned v) u = true ∧ True) → Jvm.D.FramedW s (.returned v) u (Jvm.fieldLocs frame_1_writes args s ++ Jvm.arrayLocs frame_1_arrays args s ++ Jvm.staticLocs frame_1_statics s) 24 1152 → Post tb e args s (.returned v) u) :
    ArmFor flags0 classFile x code maxLocals ret World_1 tables_1 room_1 Calls_1 rest_1 Pre_1 Post := by
  intro l hfl _ _ p e ha hc hk s m args below hf hA hF happ hP
  obtain ⟨hcalls, hrest, hpre⟩ := hP
  obtain ⟨-, -, -, hnamed, -, -, -, hat⟩ := (Spec.applies_iff hf).mp happ
  obtain ⟨hg, hn⟩ := and_e (Cond.before_iff.mp (show (Jvm.Cond.and given_1 narrow_1).before args s = true from hpre))
  obtain ⟨gg1, gg2⟩ := and_e hg
  obtain ⟨gg3, gg4⟩ := and_e gg2
  obtain ⟨gg5, gg6⟩ := and_e gg4
  obtain ⟨gg7, gg8⟩ := and_e gg6
  obtain ⟨w0, w1, w2, w3, rfl⟩ : ∃ w0 w1 w2 w3 : Value, args = #[w0, w1, w2, w3] := by
    have hs : args.size = 4 := by simpa [Cond.value, given_1] using gg1
    obtain ⟨L⟩ := args
    match L, hs with
    | [w0, w1, w2, w3], _ => exact ⟨w0, w1, w2, w3, rfl⟩
  have hw := fun d (hd : d ∈ tables_1) => atoms_spec (ws := Jvm.Cond.code x code maxLocals ret :: tables_1) hat d (List.mem_cons_of_mem _ hd)
  have hfit : Fit s := fun {y c} hc i hi => by
    obtain ⟨ha, rfl⟩ := Array.getElem?_eq_some_iff.mp hc
    have q := List.all_eq_true.mp ((Array.all_eq_true_iff_forall_mem.mp hF) _ (Array.getElem_mem ha)) i (List.mem_range.mpr hi)
    simpa [Array.getElem?_eq_getElem hi] using q
  obtain ⟨hsets, hown0⟩ := atoms_of _ (rest_1_c_eq ▸ (show rest_1_c.before _ s = true from hrest))
  have hr0 := Cond.before_iff.mp hown0
  obtain ⟨i0, ei0⟩ := is_v gg3
  obtain rfl : w0 = (.int i0) := Option.some.inj ei0
  obtain ⟨i1, ei1⟩ := is_v gg5
  obtain rfl : w1 = (.int i1) := Option.some.inj ei1
  obtain ⟨i2, ei2⟩ := is_v gg7
  obtain rfl : w2 = (.int i2) := Option.some.inj ei2
  obtain ⟨i3, ei3⟩ := is_v gg8
  obtain rfl : w3 = (.int i3) := Option.some.inj ei3
  obtain ⟨cs, ecs⟩ := is_v (Cond.before_iff.mp (hsets _ (List.mem_of_getElem? (i := 1) rfl)))
  have S_c := Sta.start ecs (Or.inl (hsets _ (List.mem_of_getElem? (i := 0) rfl)))
  have hcs : ¬ (cs = (0 : Int32)) := fun q => by
    have hn := (Cond.before_iff.mp (hsets _ (List.mem_of_getElem? (i := 2) rfl)))
    subst q
    simp [Cond.value, ecs, Term.int_eval] at hn
  obtain ⟨n, o, h1, h2, h3, _, L, rfl, ⟨rfl, N⟩, hq⟩ := rmM l s _ hw i0 i1 i2 i3 cs s.heap s.heap.size (Nat.le_refl _) (Old.start s) S_c hcs tables_1 p e ha hc hk s m _ below hf ((Spec.applies_iff_loose hf).mp happ).1 ⟨rfl, State.Warmed39.refl s, rfl, CHv.start (own_EWL hw) (fun p hp => hcalls.1 p hp) (hsets _ (List.mem_of_getElem? (i := 2) rfl)) (hw _ (List.mem_of_getElem? (i := 20) rfl)) (hw _ (List.mem_of_getElem? (i := 2) rfl))⟩ trivial
  refine ⟨n, _, h1, h2, h3, hpost _ _ _ _ _ _ ⟨Cond.after_iff.mpr rfl, Cond.after_iff.mpr (eq_i res_at (Term.int_eval (1)) rfl), trivial⟩ ⟨hq.1, hq.2.1, hq.2.2.1, (hq.2.2.2.sift fun y hy => Or.inr (N y hy)).mono (by decide) (by decide)⟩⟩
theorem main_1_1 : Claimed_1_1 := comes_1 fun _ _ _ _ _ _ h hF => ⟨h.1, hF⟩
theorem main_1_2 : Claimed_1_2 := comes_1 fun _ _ _ _ _ _ h hF => ⟨h.2.1, hF⟩
end Jvm.Pilot.@@N@@
namespace Jvm.Pilot.@@N@@
open Jvm Jvm.ClassFile Sem Op Lib Jvm.Free Jvm.Stand Jvm.Pilot.@@N@@.Jvm.D
/-! MADE BY PROGRAM (witnessworld.py) out of the Statement's table words and the real class files: 20 classes; the members and pool entries that the words name. The judged class is class 1, her method 2. -/
namespace start1
open Jvm.ClassFile
def u (s : String) : CpInfo := .utf8 (stringToUtf16 s)
/-- a pool by its gaps: so many unusable entries, then the entry; so many at the end -/
def gap : Nat → List CpInfo → List CpInfo
  | 0, r => r
  | n + 1, r => .unusable :: gap n r
def poolList (es : List (Nat × CpInfo)) (last : Nat) : List CpInfo := es.foldr (fun e r => gap e.1 (e.2 :: r)) (gap last [])
def pool (es : List (Nat × CpInfo)) (last : Nat) : Array CpInfo := ⟨poolList es last⟩
def fileOf (pool : Array CpInfo) (this : Nat) (attrs : Array Attribute := #[]) (ms : Array MethodInfo := #[]) (fl : Nat := 33) (sup : Nat := 0) (ifs : Array Nat := #[]) (fds : Array FieldInfo := #[]) : ClassFile where
  minorVersion := 0
  majorVersion := 65
  constantPool := pool
  accessFlags := fl
  thisClass := this
  superClass := sup
  interfaces := ifs
  fields := fds
  methods := ms
  attributes := attrs
def plain (name : String) (sup : Option ClassId) : Class where
  name := name
  kind := .ordinary
  loader := none
  accessFlags := 33
  super := sup
  interfaces := #[]
  cf := none
  fields := #[]
  methods := #[]
  instanceTypes := #[]
  staticTypes := #[]
  resolved := #[]
  callSites := []
  init := .initialized
  statics := none
  mirror := none

def pool0 : Array CpInfo := pool [(5, u "<init>"), (0, u "()V"), (1, .class_ 10), (1, u "java/lang/Object")] 113

def k0c0 : Code := { maxStack := 0, maxLocals := 1, code := object_method_1_code, exceptionTable := #[], attributes := #[] }
def k0m0 : Method := { name := "<init>", desc := "()V", sig := { parameters := [], returnType := none }, accessFlags := 1, code := some k0c0 }
/-- java/lang/Object -/
def k0 : Class := { plain "java/lang/Object" none with
  accessFlags := 33
  interfaces := #[]
  cf := some (fileOf pool0 8 #[] #[{ accessFlags := 1, nameIndex := 5, descriptorIndex := 6, attributes := #[] }] 33 0 #[] #[])
  fields := #[]
  methods := #[k0m0]
  instanceTypes := #[]
  staticTypes := #[]
  resolved := Array.replicate 124 none
  statics := none }

def pool1 : Array CpInfo := pool [(2, .class_ 4), (1, u "java/lang/Object"), (0, u "<init>"), (0, u "()V"), (0, .integer 2147483647), (0, .class_ 9), (0, u "java/lang/String"), (0, .methodref 11 12), (0, .class_ 13), (0, .nameAndType 14 15), (0, u "com/example/firm_input/firminput/regex/RegexInputFitsPinLaw"), (0, u "chars"), (0, u "(IC)[C"), (0, .methodref 8 17), (0, .nameAndType 5 18), (0, u "([C)V"), (0, .class_ 20), (0, u "com/example/firm_input/firminput/regex/RegexInput"), (0, .methodref 19 22), (0, .nameAndType 5 23), (0, u "(Ljava/lang/String;)V"), (2, .methodref 19 27), (0, .nameAndType 28 29), (0, u "fits"), (0, u "(III)Z"), (5, u "law"), (0, u "(IIII)Z")] 2

def k1m0 : Method := { name := "<init>", desc := "()V", sig := { parameters := [], returnType := none }, accessFlags := 1, code := none }
def k1c1 : Code := { maxStack := 4, maxLocals := 3, code := method_2_code, exceptionTable := #[], attributes := #[] }
def k1m1 : Method := { name := "chars", desc := "(IC)[C", sig := { parameters := [.int, .char], returnType := some (.array .char) }, accessFlags := 10, code := some k1c1 }
def k1c2 : Code := { maxStack := 4, maxLocals := 12, code := code, exceptionTable := #[], attributes := #[] }
def k1m2 : Method := { name := "law", desc := "(IIII)Z", sig := { parameters := [.int, .int, .int, .int], returnType := some .boolean }, accessFlags := 9, code := some k1c2 }
/-- com/example/firm_input/firminput/regex/RegexInputFitsPinLaw -/
def k1 : Class := { plain "com/example/firm_input/firminput/regex/RegexInputFitsPinLaw" (some 0) with
  accessFlags := 49
  interfaces := #[]
  cf := some (fileOf pool1 11 #[] #[{ accessFlags := 1, nameIndex := 5, descriptorIndex := 6, attributes := #[] }, { accessFlags := 10, nameIndex := 14, descriptorIndex := 15, attributes := #[] }, { accessFlags := 9, nameIndex := 35, descriptorIndex := 36, attributes := #[] }] 49 2 #[] #[])
  fields := #[]
  methods := #[k1m0, k1m1, k1m2]
  instanceTypes := #[]
  staticTypes := #[]
  resolved := Array.replicate 39 none
  statics := none }

def pool2 : Array CpInfo := pool [(1, .class_ 2), (0, u "java/io/Serializable"), (0, .class_ 4), (0, u "java/lang/Object")] 2

/-- java/io/Serializable -/
def k2 : Class := { plain "java/io/Serializable" (some 0) with
  accessFlags := 1537
  interfaces := #[]
  cf := some (fileOf pool2 1 #[] #[] 1537 3 #[] #[])
  fields := #[]
  methods := #[]
  instanceTypes := #[]
  staticTypes := #[]
  resolved := Array.replicate 7 none
  statics := none }

def pool3 : Array CpInfo := pool [(1, .class_ 2), (0, u "java/lang/Comparable"), (0, .class_ 4), (0, u "java/lang/Object")] 7

/-- java/lang/Comparable -/
def k3 : Class := { plain "java/lang/Comparable" (some 0) with
  accessFlags := 1537
  interfaces := #[]
  cf := some (fileOf pool3 1 #[] #[] 1537 3 #[] #[])
  fields := #[]
  methods := #[]
  instanceTypes := #[]
  staticTypes := #[]
  resolved := Array.replicate 12 none
  statics := none }

def pool4 : Array CpInfo := pool [(2, .class_ 4), (1, u "java/lang/CharSequence"), (42, .class_ 48), (0, u "java/lang/CharSequence$1CodePointIterator"), (10, .class_ 60), (0, u "java/lang/CharSequence$1CharIterator"), (5, .class_ 67), (0, u "java/lang/Object")] 63

/-- java/lang/CharSequence -/
def k4 : Class := { plain "java/lang/CharSequence" (some 0) with
  accessFlags := 1537
  interfaces := #[]
  cf := some (fileOf pool4 2 #[.nestMembers #[47, 59]] #[] 1537 66 #[] #[])
  fields := #[]
  methods := #[]
  instanceTypes := #[]
  staticTypes := #[]
  resolved := Array.replicate 131 none
  statics := none }

def pool5 : Array CpInfo := pool [(1, .class_ 2), (0, u "java/lang/constant/Constable"), (0, .class_ 4), (0, u "java/lang/Object")] 6

/-- java/lang/constant/Constable -/
def k5 : Class := { plain "java/lang/constant/Constable" (some 0) with
  accessFlags := 1537
  interfaces := #[]
  cf := some (fileOf pool5 1 #[] #[] 1537 3 #[] #[])
  fields := #[]
  methods := #[]
  instanceTypes := #[]
  staticTypes := #[]
  resolved := Array.replicate 11 none
  statics := none }

def pool6 : Array CpInfo := pool [(1, .class_ 2), (0, u "java/lang/constant/ConstantDesc"), (0, .class_ 4), (0, u "java/lang/Object")] 32

/-- java/lang/constant/ConstantDesc -/
def k6 : Class := { plain "java/lang/constant/ConstantDesc" (some 0) with
  accessFlags := 1537
  interfaces := #[]
  cf := some (fileOf pool6 1 #[] #[] 1537 3 #[] #[])
  fields := #[]
  methods := #[]
  instanceTypes := #[]
  staticTypes := #[]
  resolved := Array.replicate 37 none
  statics := none }

def pool7 : Array CpInfo := pool [(1, .methodref 2 3), (0, .class_ 4), (0, .nameAndType 5 6), (0, u "java/lang/Object"), (0, u "<init>"), (0, u "()V"), (0, .string 8), (0, u ""), (0, .fieldref 10 11), (0, .class_ 12), (0, .nameAndType 13 14), (0, u "java/lang/String"), (0, u "value"), (0, u "[B"), (0, .fieldref 10 16), (0, .nameAndType 17 18), (0, u "coder"), (0, u "B"), (2, u "hash"), (0, u "I"), (2, u "hashIsZero"), (0, u "Z"), (0, .methodref 10 28), (0, .nameAndType 5 29), (0, u "([CIILjava/lang/Void;)V"), (8, .fieldref 10 39), (0, .nameAndType 40 26), (0, u "COMPACT_STRINGS"), (1, .class_ 44), (1, u "java/lang/StringUTF16"), (0, u "compress"), (1, .methodref 42 48), (0, .nameAndType 49 50), (0, u "coderFromArrayLen"), (0, u "([BI)B"), (126, .methodref 42 178), (0, .nameAndType 45 179), (0, u "([CII)[B"), (154, u "()I"), (0, .methodref 10 336), (0, .nameAndType 17 337), (0, u "()B"), (169, u "length"), (67, .class_ 576), (0, u "java/lang/CharSequence"), (22, u "CASE_INSENSITIVE_ORDER"), (0, u "Ljava/util/Comparator;"), (409, u "([C)V"), (90, u "serialPersistentFields"), (0, u "[Ljava/io/ObjectStreamField;"), (0, .class_ 1104), (0, u "java/lang/String$CaseInsensitiveComparator"), (1, .class_ 1107), (0, u "java/io/Serializable"), (0, .class_ 1109), (0, u "java/lang/Comparable"), (0, .class_ 1111), (0, u "java/lang/constant/Constable"), (0, .class_ 1113), (0, u "java/lang/constant/ConstantDesc"), (2, u "serialVersionUID"), (0, u "J"), (3, u "REPL"), (0, u "C"), (2, u "LATIN1"), (1, u "UTF16")] 323

def k7m0 : Method := { name := "<init>", desc := "()V", sig := { parameters := [], returnType := none }, accessFlags := 1, code := none }
def k7c1 : Code := { maxStack := 5, maxLocals := 2, code := jdk_42_method_3_code, exceptionTable := #[], attributes := #[] }
def k7m1 : Method := { name := "<init>", desc := "([C)V", sig := { parameters := [(.array .char)], returnType := none }, accessFlags := 1, code := some k7c1 }
def k7c2 : Code := { maxStack := 2, maxLocals := 1, code := jdk_42_method_54_code, exceptionTable := #[], attributes := #[] }
def k7m2 : Method := { name := "length", desc := "()I", sig := { parameters := [], returnType := some .int }, accessFlags := 1, code := some k7c2 }
def k7c3 : Code := { maxStack := 4, maxLocals := 6, code := jdk_42_method_149_code, exceptionTable := #[], attributes := #[] }
def k7m3 : Method := { name := "<init>", desc := "([CIILjava/lang/Void;)V", sig := { parameters := [(.array .char), .int, .int, (.object "java/lang/Void")], returnType := none }, accessFlags := 2, code := some k7c3 }
def k7c4 : Code := { maxStack := 1, maxLocals := 1, code := jdk_42_method_152_code, exceptionTable := #[], attributes := #[] }
def k7m4 : Method := { name := "coder", desc := "()B", sig := { parameters := [], returnType := some .byte }, accessFlags := 0, code := some k7c4 }
/-- java/lang/String -/
def k7 : Class := { plain "java/lang/String" (some 0) with
  accessFlags := 49
  interfaces := #[2, 3, 4, 5, 6]
  cf := some (fileOf pool7 10 #[.nestMembers #[1103]] #[{ accessFlags := 1, nameIndex := 5, descriptorIndex := 6, attributes := #[] }, { accessFlags := 1, nameIndex := 5, descriptorIndex := 1010, attributes := #[] }, { accessFlags := 1, nameIndex := 507, descriptorIndex := 334, attributes := #[] }, { accessFlags := 2, nameIndex := 5, descriptorIndex := 29, attributes := #[] }, { accessFlags := 0, nameIndex := 17, descriptorIndex := 337, attributes := #[] }] 49 2 #[1106, 1108, 575, 1110, 1112] #[{ accessFlags := 18, nameIndex := 13, descriptorIndex := 14, attributes := #[] }, { accessFlags := 18, nameIndex := 17, descriptorIndex := 18, attributes := #[] }, { accessFlags := 2, nameIndex := 21, descriptorIndex := 22, attributes := #[] }, { accessFlags := 2, nameIndex := 25, descriptorIndex := 26, attributes := #[] }, { accessFlags := 26, nameIndex := 1116, descriptorIndex := 1117, attributes := #[] }, { accessFlags := 24, nameIndex := 40, descriptorIndex := 26, attributes := #[] }, { accessFlags := 26, nameIndex := 1101, descriptorIndex := 1102, attributes := #[] }, { accessFlags := 26, nameIndex := 1121, descriptorIndex := 1122, attributes := #[] }, { accessFlags := 25, nameIndex := 599, descriptorIndex := 600, attributes := #[] }, { accessFlags := 24, nameIndex := 1125, descriptorIndex := 18, attributes := #[] }, { accessFlags := 24, nameIndex := 1127, descriptorIndex := 18, attributes := #[] }])
  fields := #[{ name := "value", type := (.array .byte), accessFlags := 18, slot := 0, constantValue := 0 }, { name := "coder", type := .byte, accessFlags := 18, slot := 1, constantValue := 0 }, { name := "hash", type := .int, accessFlags := 2, slot := 2, constantValue := 0 }, { name := "hashIsZero", type := .boolean, accessFlags := 2, slot := 3, constantValue := 0 }, { name := "serialVersionUID", type := .long, accessFlags := 26, slot := 0, constantValue := 0 }, { name := "COMPACT_STRINGS", type := .boolean, accessFlags := 24, slot := 1, constantValue := 0 }, { name := "serialPersistentFields", type := (.array (.object "java/io/ObjectStreamField")), accessFlags := 26, slot := 2, constantValue := 0 }, { name := "REPL", type := .char, accessFlags := 26, slot := 3, constantValue := 0 }, { name := "CASE_INSENSITIVE_ORDER", type := (.object "java/util/Comparator"), accessFlags := 25, slot := 4, constantValue := 0 }, { name := "LATIN1", type := .byte, accessFlags := 24, slot := 5, constantValue := 0 }, { name := "UTF16", type := .byte, accessFlags := 24, slot := 6, constantValue := 0 }]
  methods := #[k7m0, k7m1, k7m2, k7m3, k7m4]
  instanceTypes := #[(.array .byte), .byte, .int, .boolean]
  staticTypes := #[.long, .boolean, (.array (.object "java/io/ObjectStreamField")), .char, (.object "java/util/Comparator"), .byte, .byte]
  resolved := Array.replicate 1451 none
  statics := some 0 }

def pool8 : Array CpInfo := pool [(1, .methodref 2 3), (0, .class_ 4), (0, .nameAndType 5 6), (0, u "java/lang/Object"), (0, u "<init>"), (0, u "()V"), (0, .fieldref 8 9), (0, .class_ 10), (0, .nameAndType 11 12), (0, u "com/example/firm_input/firminput/regex/RegexInput"), (0, u "text"), (0, u "Ljava/lang/String;"), (0, .methodref 14 15), (0, .class_ 16), (0, .nameAndType 17 18), (0, u "java/lang/String"), (0, u "length"), (0, u "()I"), (0, .fieldref 8 20), (0, .nameAndType 17 21), (0, u "I"), (45, u "fits"), (0, u "(III)Z"), (18, u "(Ljava/lang/String;)V")] 18

def k8c0 : Code := { maxStack := 2, maxLocals := 2, code := prog_27_method_1_code, exceptionTable := #[], attributes := #[] }
def k8m0 : Method := { name := "<init>", desc := "(Ljava/lang/String;)V", sig := { parameters := [(.object "java/lang/String")], returnType := none }, accessFlags := 0, code := some k8c0 }
def k8c1 : Code := { maxStack := 3, maxLocals := 4, code := prog_27_method_8_code, exceptionTable := #[], attributes := #[] }
def k8m1 : Method := { name := "fits", desc := "(III)Z", sig := { parameters := [.int, .int, .int], returnType := some .boolean }, accessFlags := 0, code := some k8c1 }
/-- com/example/firm_input/firminput/regex/RegexInput -/
def k8 : Class := { plain "com/example/firm_input/firminput/regex/RegexInput" (some 0) with
  accessFlags := 48
  interfaces := #[]
  cf := some (fileOf pool8 8 #[] #[{ accessFlags := 0, nameIndex := 5, descriptorIndex := 87, attributes := #[] }, { accessFlags := 0, nameIndex := 67, descriptorIndex := 68, attributes := #[] }] 48 2 #[] #[{ accessFlags := 18, nameIndex := 11, descriptorIndex := 12, attributes := #[] }, { accessFlags := 18, nameIndex := 17, descriptorIndex := 21, attributes := #[] }])
  fields := #[{ name := "text", type := (.object "java/lang/String"), accessFlags := 18, slot := 0, constantValue := 0 }, { name := "length", type := .int, accessFlags := 18, slot := 1, constantValue := 0 }]
  methods := #[k8m0, k8m1]
  instanceTypes := #[(.object "java/lang/String"), .int]
  staticTypes := #[]
  resolved := Array.replicate 106 none
  statics := none }

def pool9 : Array CpInfo := pool [(6, .class_ 8), (1, u "java/lang/Object"), (0, u "<init>"), (0, u "()V"), (1, .class_ 14), (1, u "java/lang/StringUTF16"), (31, u "$assertionsDisabled"), (0, u "Z"), (13, u "HI_BYTE_SHIFT"), (0, u "I"), (2, u "LO_BYTE_SHIFT"), (49, .methodref 12 116), (0, .nameAndType 117 118), (0, u "compress"), (0, u "([CI[BII)I"), (3, u "([CII)[B"), (138, u "coderFromArrayLen"), (0, u "([BI)B"), (106, .class_ 371), (1, u "java/lang/StringUTF16$LinesSpliterator"), (58, u "MAX_LENGTH"), (196, .class_ 628), (0, u "java/lang/StringUTF16$CodePointsSpliterator"), (0, .class_ 630), (0, u "java/lang/StringUTF16$CharsSpliterator")] 4

def k9m0 : Method := { name := "<init>", desc := "()V", sig := { parameters := [], returnType := none }, accessFlags := 0, code := none }
def k9c1 : Code := { maxStack := 2, maxLocals := 2, code := jdk_52_method_15_code, exceptionTable := #[], attributes := #[] }
def k9m1 : Method := { name := "coderFromArrayLen", desc := "([BI)B", sig := { parameters := [(.array .byte), .int], returnType := some .byte }, accessFlags := 8, code := some k9c1 }
def k9c2 : Code := { maxStack := 5, maxLocals := 6, code := jdk_52_method_16_code, exceptionTable := #[], attributes := #[] }
def k9m2 : Method := { name := "compress", desc := "([CII)[B", sig := { parameters := [(.array .char), .int, .int], returnType := some (.array .byte) }, accessFlags := 9, code := some k9c2 }
def k9c3 : Code := { maxStack := 3, maxLocals := 7, code := jdk_52_method_21_code, exceptionTable := #[], attributes := #[] }
def k9m3 : Method := { name := "compress", desc := "([CI[BII)I", sig := { parameters := [(.array .char), .int, (.array .byte), .int, .int], returnType := some .int }, accessFlags := 9, code := some k9c3 }
/-- java/lang/StringUTF16 -/
def k9 : Class := { plain "java/lang/StringUTF16" (some 0) with
  accessFlags := 48
  interfaces := #[]
  cf := some (fileOf pool9 12 #[.nestMembers #[627, 629, 369]] #[{ accessFlags := 0, nameIndex := 9, descriptorIndex := 10, attributes := #[] }, { accessFlags := 8, nameIndex := 261, descriptorIndex := 262, attributes := #[] }, { accessFlags := 9, nameIndex := 117, descriptorIndex := 122, attributes := #[] }, { accessFlags := 9, nameIndex := 117, descriptorIndex := 118, attributes := #[] }] 48 6 #[] #[{ accessFlags := 26, nameIndex := 61, descriptorIndex := 62, attributes := #[] }, { accessFlags := 26, nameIndex := 65, descriptorIndex := 62, attributes := #[] }, { accessFlags := 24, nameIndex := 430, descriptorIndex := 62, attributes := #[] }, { accessFlags := 4120, nameIndex := 46, descriptorIndex := 47, attributes := #[] }])
  fields := #[{ name := "HI_BYTE_SHIFT", type := .int, accessFlags := 26, slot := 0, constantValue := 0 }, { name := "LO_BYTE_SHIFT", type := .int, accessFlags := 26, slot := 1, constantValue := 0 }, { name := "MAX_LENGTH", type := .int, accessFlags := 24, slot := 2, constantValue := 0 }, { name := "$assertionsDisabled", type := .boolean, accessFlags := 4120, slot := 3, constantValue := 0 }]
  methods := #[k9m0, k9m1, k9m2, k9m3]
  instanceTypes := #[]
  staticTypes := #[.int, .int, .int, .boolean]
  resolved := Array.replicate 635 none
  statics := none }

def pool10 : Array CpInfo := pool [(4, .class_ 6), (1, u "java/lang/Object"), (0, u "<init>"), (0, u "()V"), (5, .class_ 16), (1, u "java/lang/StringLatin1"), (104, u "$assertionsDisabled"), (0, u "Z"), (98, .class_ 223), (1, u "java/lang/StringLatin1$LinesSpliterator"), (166, .class_ 391), (0, u "java/lang/StringLatin1$CharsSpliterator")] 3

def k10m0 : Method := { name := "<init>", desc := "()V", sig := { parameters := [], returnType := none }, accessFlags := 0, code := none }
/-- java/lang/StringLatin1 -/
def k10 : Class := { plain "java/lang/StringLatin1" (some 0) with
  accessFlags := 48
  interfaces := #[]
  cf := some (fileOf pool10 14 #[.nestMembers #[390, 221]] #[{ accessFlags := 0, nameIndex := 7, descriptorIndex := 8, attributes := #[] }] 48 4 #[] #[{ accessFlags := 4120, nameIndex := 121, descriptorIndex := 122, attributes := #[] }])
  fields := #[{ name := "$assertionsDisabled", type := .boolean, accessFlags := 4120, slot := 0, constantValue := 0 }]
  methods := #[k10m0]
  instanceTypes := #[]
  staticTypes := #[.boolean]
  resolved := Array.replicate 395 none
  statics := none }

def pool11 : Array CpInfo := pool [(2, .class_ 4), (1, u "java/lang/Object"), (0, u "<init>"), (0, u "()V"), (17, .class_ 26), (1, u "jdk/internal/util/Preconditions"), (28, .class_ 56), (0, u "jdk/internal/util/Preconditions$4"), (57, .class_ 115), (0, u "jdk/internal/util/Preconditions$1"), (7, u "SIOOBE_FORMATTER"), (0, u "Ljava/util/function/BiFunction;"), (0, .class_ 126), (0, u "jdk/internal/util/Preconditions$2"), (3, u "AIOOBE_FORMATTER"), (0, .class_ 132), (0, u "jdk/internal/util/Preconditions$3"), (3, u "IOOBE_FORMATTER")] 57

def k11m0 : Method := { name := "<init>", desc := "()V", sig := { parameters := [], returnType := none }, accessFlags := 1, code := none }
/-- jdk/internal/util/Preconditions -/
def k11 : Class := { plain "jdk/internal/util/Preconditions" (some 0) with
  accessFlags := 33
  interfaces := #[]
  cf := some (fileOf pool11 24 #[.nestMembers #[55, 131, 125, 114]] #[{ accessFlags := 1, nameIndex := 5, descriptorIndex := 6, attributes := #[] }] 33 2 #[] #[{ accessFlags := 25, nameIndex := 123, descriptorIndex := 124, attributes := #[] }, { accessFlags := 25, nameIndex := 130, descriptorIndex := 124, attributes := #[] }, { accessFlags := 25, nameIndex := 136, descriptorIndex := 124, attributes := #[] }])
  fields := #[{ name := "SIOOBE_FORMATTER", type := (.object "java/util/function/BiFunction"), accessFlags := 25, slot := 0, constantValue := 0 }, { name := "AIOOBE_FORMATTER", type := (.object "java/util/function/BiFunction"), accessFlags := 25, slot := 1, constantValue := 0 }, { name := "IOOBE_FORMATTER", type := (.object "java/util/function/BiFunction"), accessFlags := 25, slot := 2, constantValue := 0 }]
  methods := #[k11m0]
  instanceTypes := #[]
  staticTypes := #[(.object "java/util/function/BiFunction"), (.object "java/util/function/BiFunction"), (.object "java/util/function/BiFunction")]
  resolved := Array.replicate 194 none
  statics := some 1 }

def pool12 : Array CpInfo := pool [(9, u "<init>"), (6, .class_ 18), (1, u "java/lang/Object"), (0, u "()V"), (1, .class_ 23), (1, u "jdk/internal/util/ArraysSupport"), (0, u "LOG2_ARRAY_LONG_INDEX_SCALE"), (0, u "I"), (2, u "U"), (0, u "Ljdk/internal/misc/Unsafe;"), (8, u "BIG_ENDIAN"), (0, u "Z"), (8, u "LOG2_BYTE_BIT_SIZE"), (4, u "LOG2_ARRAY_INT_INDEX_SCALE"), (54, u "JLA"), (0, u "Ljdk/internal/access/JavaLangAccess;"), (11, u "LOG2_ARRAY_BOOLEAN_INDEX_SCALE"), (9, u "LOG2_ARRAY_BYTE_INDEX_SCALE"), (5, u "LOG2_ARRAY_CHAR_INDEX_SCALE"), (5, u "LOG2_ARRAY_SHORT_INDEX_SCALE"), (18, u "LOG2_ARRAY_FLOAT_INDEX_SCALE"), (24, u "LOG2_ARRAY_DOUBLE_INDEX_SCALE"), (89, u "T_BOOLEAN"), (2, u "T_CHAR"), (1, u "T_FLOAT"), (1, u "T_DOUBLE"), (1, u "T_BYTE"), (1, u "T_SHORT"), (1, u "T_INT"), (1, u "T_LONG"), (1, u "SOFT_MAX_ARRAY_LENGTH")] 83

def k12m0 : Method := { name := "<init>", desc := "()V", sig := { parameters := [], returnType := none }, accessFlags := 2, code := none }
/-- jdk/internal/util/ArraysSupport -/
def k12 : Class := { plain "jdk/internal/util/ArraysSupport" (some 0) with
  accessFlags := 33
  interfaces := #[]
  cf := some (fileOf pool12 21 #[] #[{ accessFlags := 2, nameIndex := 9, descriptorIndex := 19, attributes := #[] }] 33 16 #[] #[{ accessFlags := 24, nameIndex := 28, descriptorIndex := 29, attributes := #[] }, { accessFlags := 26, nameIndex := 38, descriptorIndex := 39, attributes := #[] }, { accessFlags := 25, nameIndex := 121, descriptorIndex := 25, attributes := #[] }, { accessFlags := 25, nameIndex := 131, descriptorIndex := 25, attributes := #[] }, { accessFlags := 25, nameIndex := 137, descriptorIndex := 25, attributes := #[] }, { accessFlags := 25, nameIndex := 143, descriptorIndex := 25, attributes := #[] }, { accessFlags := 25, nameIndex := 53, descriptorIndex := 25, attributes := #[] }, { accessFlags := 25, nameIndex := 24, descriptorIndex := 25, attributes := #[] }, { accessFlags := 25, nameIndex := 162, descriptorIndex := 25, attributes := #[] }, { accessFlags := 25, nameIndex := 187, descriptorIndex := 25, attributes := #[] }, { accessFlags := 26, nameIndex := 48, descriptorIndex := 25, attributes := #[] }, { accessFlags := 25, nameIndex := 277, descriptorIndex := 25, attributes := #[] }, { accessFlags := 25, nameIndex := 280, descriptorIndex := 25, attributes := #[] }, { accessFlags := 25, nameIndex := 282, descriptorIndex := 25, attributes := #[] }, { accessFlags := 25, nameIndex := 284, descriptorIndex := 25, attributes := #[] }, { accessFlags := 25, nameIndex := 286, descriptorIndex := 25, attributes := #[] }, { accessFlags := 25, nameIndex := 288, descriptorIndex := 25, attributes := #[] }, { accessFlags := 25, nameIndex := 290, descriptorIndex := 25, attributes := #[] }, { accessFlags := 25, nameIndex := 292, descriptorIndex := 25, attributes := #[] }, { accessFlags := 26, nameIndex := 108, descriptorIndex := 109, attributes := #[] }, { accessFlags := 25, nameIndex := 294, descriptorIndex := 25, attributes := #[] }])
  fields := #[{ name := "U", type := (.object "jdk/internal/misc/Unsafe"), accessFlags := 24, slot := 0, constantValue := 0 }, { name := "BIG_ENDIAN", type := .boolean, accessFlags := 26, slot := 1, constantValue := 0 }, { name := "LOG2_ARRAY_BOOLEAN_INDEX_SCALE", type := .int, accessFlags := 25, slot := 2, constantValue := 0 }, { name := "LOG2_ARRAY_BYTE_INDEX_SCALE", type := .int, accessFlags := 25, slot := 3, constantValue := 0 }, { name := "LOG2_ARRAY_CHAR_INDEX_SCALE", type := .int, accessFlags := 25, slot := 4, constantValue := 0 }, { name := "LOG2_ARRAY_SHORT_INDEX_SCALE", type := .int, accessFlags := 25, slot := 5, constantValue := 0 }, { name := "LOG2_ARRAY_INT_INDEX_SCALE", type := .int, accessFlags := 25, slot := 6, constantValue := 0 }, { name := "LOG2_ARRAY_LONG_INDEX_SCALE", type := .int, accessFlags := 25, slot := 7, constantValue := 0 }, { name := "LOG2_ARRAY_FLOAT_INDEX_SCALE", type := .int, accessFlags := 25, slot := 8, constantValue := 0 }, { name := "LOG2_ARRAY_DOUBLE_INDEX_SCALE", type := .int, accessFlags := 25, slot := 9, constantValue := 0 }, { name := "LOG2_BYTE_BIT_SIZE", type := .int, accessFlags := 26, slot := 10, constantValue := 0 }, { name := "T_BOOLEAN", type := .int, accessFlags := 25, slot := 11, constantValue := 0 }, { name := "T_CHAR", type := .int, accessFlags := 25, slot := 12, constantValue := 0 }, { name := "T_FLOAT", type := .int, accessFlags := 25, slot := 13, constantValue := 0 }, { name := "T_DOUBLE", type := .int, accessFlags := 25, slot := 14, constantValue := 0 }, { name := "T_BYTE", type := .int, accessFlags := 25, slot := 15, constantValue := 0 }, { name := "T_SHORT", type := .int, accessFlags := 25, slot := 16, constantValue := 0 }, { name := "T_INT", type := .int, accessFlags := 25, slot := 17, constantValue := 0 }, { name := "T_LONG", type := .int, accessFlags := 25, slot := 18, constantValue := 0 }, { name := "JLA", type := (.object "jdk/internal/access/JavaLangAccess"), accessFlags := 26, slot := 19, constantValue := 0 }, { name := "SOFT_MAX_ARRAY_LENGTH", type := .int, accessFlags := 25, slot := 20, constantValue := 0 }]
  methods := #[k12m0]
  instanceTypes := #[]
  staticTypes := #[(.object "jdk/internal/misc/Unsafe"), .boolean, .int, .int, .int, .int, .int, .int, .int, .int, .int, .int, .int, .int, .int, .int, .int, .int, .int, (.object "jdk/internal/access/JavaLangAccess"), .int]
  resolved := Array.replicate 378 none
  statics := none }

def pool13 : Array CpInfo := pool [(1, u "java/lang/Cloneable"), (0, .class_ 1), (0, u "java/lang/Object"), (0, .class_ 3)] 3

/-- java/lang/Cloneable -/
def k13 : Class := { plain "java/lang/Cloneable" (some 0) with
  accessFlags := 1537
  interfaces := #[]
  cf := some (fileOf pool13 2 #[] #[] 1537 4 #[] #[])
  fields := #[]
  methods := #[]
  instanceTypes := #[]
  staticTypes := #[]
  resolved := Array.replicate 8 none
  statics := none }

/-- the primitive byte -/
def k14 : Class := { plain "byte" none with kind := .primitive 'B', accessFlags := 0x411 }
/-- [B -/
def k15 : Class := { plain "[B" (some 0) with kind := .array 14 .byte, interfaces := #[13, 2], accessFlags := 1041 }

/-- the primitive char -/
def k16 : Class := { plain "char" none with kind := .primitive 'C', accessFlags := 0x411 }
/-- [C -/
def k17 : Class := { plain "[C" (some 0) with kind := .array 16 .char, interfaces := #[13, 2], accessFlags := 1041 }

/-- the primitive int -/
def k18 : Class := { plain "int" none with kind := .primitive 'I', accessFlags := 0x411 }
/-- [I -/
def k19 : Class := { plain "[I" (some 0) with kind := .array 18 .int, interfaces := #[13, 2], accessFlags := 1041 }

def heap : Heap := #[{ cls := 7, slots := #[.long 0, .int 1, .null, .int 0, .null, .int 0, .int 0], vm := .statics 7 },
  { cls := 11, slots := #[.null, .null, .null], vm := .statics 11 }]
def classes : Array Class := #[k0, k1, k2, k3, k4, k5, k6, k7, k8, k9, k10, k11, k12, k13, k14, k15, k16, k17, k18, k19]
def interned : List (Array UInt16 × Addr) := []
def slotsUsed : Nat := 10
def theMethod : MethodId := ⟨1, 2⟩
def args0 : Array Value := #[.int 5, .int 6, .int 7, .int 8]
def aboutOver (below : List Frame) : State where
  vm := { classes := classes, interned := interned.toArray }
  heap := heap
  slotsUsed := slotsUsed
  threads := #[{ frames := .invoking theMethod args0 :: below }]
def below0 : List Frame := [.native { method := ⟨0, 0⟩, args := #[] }]
def about1 : State := aboutOver below0
def p0 : Program := .bare "" "" ""
def e0 : Env := launch0.env 0 0 0
theorem w_frames : about1.frames = Frame.invoking theMethod args0 :: below0 := rfl
set_option maxRecDepth 65536 in
theorem w_args : argsFit about1.vm theMethod args0 = true := by decide +kernel
set_option maxRecDepth 65536 in
theorem w_heap : heapFits about1 = true := by decide +kernel
set_option maxRecDepth 65536 in
theorem w_runnable : about1.curStatus? = some .runnable := by decide +kernel
set_option maxRecDepth 65536 in
theorem w_alone : about1.alone = true := by decide +kernel
set_option maxRecDepth 65536 in
theorem w_named : about1.methodNamed? x = some theMethod := by decide +kernel
set_option maxRecDepth 65536 in
theorem w_hears : about1.hears theMethod below0 = true := by decide +kernel
set_option maxRecDepth 65536 in
theorem w_ripe : about1.ripe theMethod args0 below0 = true := by decide +kernel
theorem w_running : about1.status = .running := rfl
set_option maxRecDepth 65536 in
theorem w_room : about1.hasRoom e0.platform room_1 = true :=
  launch0.hasRoom_least _ room_1 (by decide +kernel) (by decide +kernel) (by decide +kernel) (by decide +kernel) (by decide +kernel) (by decide +kernel)
theorem allAtoms_all (ts : List Jvm.Cond) (a : Array Jvm.Value) (st : Jvm.State) : (allAtoms ts).before a st = ts.all (fun c => c.before a st) := by
  induction ts with
  | nil => rfl
  | cons c t ih =>
    show (Jvm.Cond.and c (allAtoms t)).before a st = _
    rw [Jvm.Cond.before_and, ih, List.all_cons]
def words1 : List Jvm.Cond := Jvm.Cond.code x code maxLocals ret :: tables_1
/-- a 'code' word, met by the world's own term for the bytes: nothing is compared byte by byte -/
theorem code_word {y : MethodName} {bytes : ByteArray} {mx : Nat} {rt : Option FieldType} {a : Array Value} {s : State} {m : MethodId} {meth : Method} {c : Code} (h1 : s.methodNamed? y = some m) (h2 : s.vm.method? m = some meth) (h3 : meth.code = some c) (h4 : c.code = bytes)
    (h5 : (c.maxLocals == mx && c.exceptionTable.isEmpty && decide (c.maxStack ≤ mostOperands) && decide (meth.sig.returnType = rt) && !meth.locks && decide (parseMethodDescriptor y.desc = some meth.sig)) = true) : (Jvm.Cond.code y bytes mx rt).before a s = true := by
  simp only [Bool.and_eq_true, beq_iff_eq, Bool.not_eq_true', decide_eq_true_eq] at h5
  obtain ⟨⟨⟨⟨⟨g1, g2⟩, g3⟩, g4⟩, g5⟩, g6⟩ := h5
  simp [Cond.before, Cond.holds, Cond.value, h1, h2, h3, h4, g1, g2, g3, g4, g5, g6]
def isCode : Jvm.Cond → Bool
  | .code _ _ _ _ => true
  | _ => false
theorem all_split {L : List Jvm.Cond} {P : Jvm.Cond → Bool} (h1 : L.all (fun c => isCode c || P c) = true) (h2 : ∀ c ∈ L.filter isCode, P c = true) : L.all P = true := by
  refine List.all_eq_true.mpr fun c hc => ?_
  have h := List.all_eq_true.mp h1 c hc
  rcases Bool.eq_false_or_eq_true (isCode c) with hi | hi
  · exact h2 c (List.mem_filter.mpr ⟨hc, hi⟩)
  · simpa [hi] using h
set_option maxRecDepth 65536 in
theorem w_c0 : (Jvm.Cond.code x code maxLocals ret).before args0 about1 = true := code_word (m := ⟨1, 2⟩) (meth := k1m2) (c := k1c2) (by decide +kernel) rfl rfl rfl (by decide +kernel)
set_option maxRecDepth 65536 in
theorem w_c1 : (Jvm.Cond.code ({ cls := "com/example/firm_input/firminput/regex/RegexInputFitsPinLaw", name := "chars", desc := "(IC)[C" } : Jvm.MethodName) method_2_code (3 : Nat) (Option.some (Jvm.ClassFile.FieldType.array Jvm.ClassFile.FieldType.char))).before args0 about1 = true := code_word (m := ⟨1, 1⟩) (meth := k1m1) (c := k1c1) (by decide +kernel) rfl rfl rfl (by decide +kernel)
set_option maxRecDepth 65536 in
theorem w_c2 : (Jvm.Cond.code ({ cls := "java/lang/String", name := "<init>", desc := "([C)V" } : Jvm.MethodName) jdk_42_method_3_code (2 : Nat) (Option.none : Option Jvm.ClassFile.FieldType)).before args0 about1 = true := code_word (m := ⟨7, 1⟩) (meth := k7m1) (c := k7c1) (by decide +kernel) rfl rfl rfl (by decide +kernel)
set_option maxRecDepth 65536 in
theorem w_c3 : (Jvm.Cond.code ({ cls := "java/lang/String", name := "<init>", desc := "([CIILjava/lang/Void;)V" } : Jvm.MethodName) jdk_42_method_149_code (6 : Nat) (Option.none : Option Jvm.ClassFile.FieldType)).before args0 about1 = true := code_word (m := ⟨7, 3⟩) (meth := k7m3) (c := k7c3) (by decide +kernel) rfl rfl rfl (by decide +kernel)
set_option maxRecDepth 65536 in
theorem w_c4 : (Jvm.Cond.code ({ cls := "java/lang/Object", name := "<init>", desc := "()V" } : Jvm.MethodName) object_method_1_code (1 : Nat) (Option.none : Option Jvm.ClassFile.FieldType)).before args0 about1 = true := code_word (m := ⟨0, 0⟩) (meth := k0m0) (c := k0c0) (by decide +kernel) rfl rfl rfl (by decide +kernel)
set_option maxRecDepth 65536 in
theorem w_c5 : (Jvm.Cond.code ({ cls := "com/example/firm_input/firminput/regex/RegexInput", name := "<init>", desc := "(Ljava/lang/String;)V" } : Jvm.MethodName) prog_27_method_1_code (2 : Nat) (Option.none : Option Jvm.ClassFile.FieldType)).before args0 about1 = true := code_word (m := ⟨8, 0⟩) (meth := k8m0) (c := k8c0) (by decide +kernel) rfl rfl rfl (by decide +kernel)
set_option maxRecDepth 65536 in
theorem w_c6 : (Jvm.Cond.code ({ cls := "java/lang/String", name := "length", desc := "()I" } : Jvm.MethodName) jdk_42_method_54_code (1 : Nat) (Option.some Jvm.ClassFile.FieldType.int)).before args0 about1 = true := code_word (m := ⟨7, 2⟩) (meth := k7m2) (c := k7c2) (by decide +kernel) rfl rfl rfl (by decide +kernel)
set_option maxRecDepth 65536 in
theorem w_c7 : (Jvm.Cond.code ({ cls := "java/lang/String", name := "coder", desc := "()B" } : Jvm.MethodName) jdk_42_method_152_code (1 : Nat) (Option.some Jvm.ClassFile.FieldType.byte)).before args0 about1 = true := code_word (m := ⟨7, 4⟩) (meth := k7m4) (c := k7c4) (by decide +kernel) rfl rfl rfl (by decide +kernel)
set_option maxRecDepth 65536 in
theorem w_c8 : (Jvm.Cond.code ({ cls := "com/example/firm_input/firminput/regex/RegexInput", name := "fits", desc := "(III)Z" } : Jvm.MethodName) prog_27_method_8_code (4 : Nat) (Option.some Jvm.ClassFile.FieldType.boolean)).before args0 about1 = true := code_word (m := ⟨8, 1⟩) (meth := k8m1) (c := k8c1) (by decide +kernel) rfl rfl rfl (by decide +kernel)
set_option maxRecDepth 65536 in
theorem w_c9 : (Jvm.Cond.code ({ cls := "java/lang/StringUTF16", name := "compress", desc := "([CII)[B" } : Jvm.MethodName) jdk_52_method_16_code (6 : Nat) (Option.some (Jvm.ClassFile.FieldType.array Jvm.ClassFile.FieldType.byte))).before args0 about1 = true := code_word (m := ⟨9, 2⟩) (meth := k9m2) (c := k9c2) (by decide +kernel) rfl rfl rfl (by decide +kernel)
set_option maxRecDepth 65536 in
theorem w_c10 : (Jvm.Cond.code ({ cls := "java/lang/StringUTF16", name := "compress", desc := "([CI[BII)I" } : Jvm.MethodName) jdk_52_method_21_code (7 : Nat) (Option.some Jvm.ClassFile.FieldType.int)).before args0 about1 = true := code_word (m := ⟨9, 3⟩) (meth := k9m3) (c := k9c3) (by decide +kernel) rfl rfl rfl (by decide +kernel)
set_option maxRecDepth 65536 in
theorem w_c11 : (Jvm.Cond.code ({ cls := "java/lang/StringUTF16", name := "coderFromArrayLen", desc := "([BI)B" } : Jvm.MethodName) jdk_52_method_15_code (2 : Nat) (Option.some Jvm.ClassFile.FieldType.byte)).before args0 about1 = true := code_word (m := ⟨9, 1⟩) (meth := k9m1) (c := k9c1) (by decide +kernel) rfl rfl rfl (by decide +kernel)
def codes1 : List Jvm.Cond := [Jvm.Cond.code x code maxLocals ret, Jvm.Cond.code ({ cls := "com/example/firm_input/firminput/regex/RegexInputFitsPinLaw", name := "chars", desc := "(IC)[C" } : Jvm.MethodName) method_2_code (3 : Nat) (Option.some (Jvm.ClassFile.FieldType.array Jvm.ClassFile.FieldType.char)), Jvm.Cond.code ({ cls := "java/lang/String", name := "<init>", desc := "([C)V" } : Jvm.MethodName) jdk_42_method_3_code (2 : Nat) (Option.none : Option Jvm.ClassFile.FieldType), Jvm.Cond.code ({ cls := "java/lang/String", name := "<init>", desc := "([CIILjava/lang/Void;)V" } : Jvm.MethodName) jdk_42_method_149_code (6 : Nat) (Option.none : Option Jvm.ClassFile.FieldType), Jvm.Cond.code ({ cls := "java/lang/Object", name := "<init>", desc := "()V" } : Jvm.MethodName) object_method_1_code (1 : Nat) (Option.none : Option Jvm.ClassFile.FieldType), Jvm.Cond.code ({ cls := "com/example/firm_input/firminput/regex/RegexInput", name := "<init>", desc := "(Ljava/lang/String;)V" } : Jvm.MethodName) prog_27_method_1_code (2 : Nat) (Option.none : Option Jvm.ClassFile.FieldType), Jvm.Cond.code ({ cls := "java/lang/String", name := "length", desc := "()I" } : Jvm.MethodName) jdk_42_method_54_code (1 : Nat) (Option.some Jvm.ClassFile.FieldType.int), Jvm.Cond.code ({ cls := "java/lang/String", name := "coder", desc := "()B" } : Jvm.MethodName) jdk_42_method_152_code (1 : Nat) (Option.some Jvm.ClassFile.FieldType.byte), Jvm.Cond.code ({ cls := "com/example/firm_input/firminput/regex/RegexInput", name := "fits", desc := "(III)Z" } : Jvm.MethodName) prog_27_method_8_code (4 : Nat) (Option.some Jvm.ClassFile.FieldType.boolean), Jvm.Cond.code ({ cls := "java/lang/StringUTF16", name := "compress", desc := "([CII)[B" } : Jvm.MethodName) jdk_52_method_16_code (6 : Nat) (Option.some (Jvm.ClassFile.FieldType.array Jvm.ClassFile.FieldType.byte)), Jvm.Cond.code ({ cls := "java/lang/StringUTF16", name := "compress", desc := "([CI[BII)I" } : Jvm.MethodName) jdk_52_method_21_code (7 : Nat) (Option.some Jvm.ClassFile.FieldType.int), Jvm.Cond.code ({ cls := "java/lang/StringUTF16", name := "coderFromArrayLen", desc := "([BI)B" } : Jvm.MethodName) jdk_52_method_15_code (2 : Nat) (Option.some Jvm.ClassFile.FieldType.byte)]
set_option maxRecDepth 65536 in
theorem codes_eq : words1.filter isCode = codes1 := rfl
theorem w_codes : ∀ c ∈ words1.filter isCode, c.before args0 about1 = true := by
  rw [codes_eq]
  intro c hc
  simp only [codes1, List.mem_cons, List.not_mem_nil, or_false] at hc
  rcases hc with rfl | rfl | rfl | rfl | rfl | rfl | rfl | rfl | rfl | rfl | rfl | rfl
  · exact w_c0
  · exact w_c1
  · exact w_c2
  · exact w_c3
  · exact w_c4
  · exact w_c5
  · exact w_c6
  · exact w_c7
  · exact w_c8
  · exact w_c9
  · exact w_c10
  · exact w_c11
set_option maxRecDepth 65536 in
theorem w_t1 : (words1.take 24).all (fun c => isCode c || c.before args0 about1) = true := by decide +kernel
set_option maxRecDepth 65536 in
theorem w_t2 : ((words1.drop 24).take 24).all (fun c => isCode c || c.before args0 about1) = true := by decide +kernel
set_option maxRecDepth 65536 in
theorem w_t3 : ((words1.drop 24).drop 24).all (fun c => isCode c || c.before args0 about1) = true := by decide +kernel
theorem w_tables : (allAtoms (Jvm.Cond.code x code maxLocals ret :: tables_1)).before args0 about1 = true := by
  rw [allAtoms_all]
  show words1.all (fun c => c.before args0 about1) = true
  refine all_split ?_ w_codes
  rw [← List.take_append_drop 24 words1, List.all_append, w_t1, ← List.take_append_drop 24 (words1.drop 24), List.all_append, w_t2, w_t3]
  rfl
set_option maxRecDepth 65536 in
theorem w_rest : rest_1_c.before args0 about1 = true := by decide +kernel
set_option maxRecDepth 65536 in
theorem w_case : (Jvm.Cond.and given_1 narrow_1).before args0 about1 = true := by decide +kernel
set_option maxRecDepth 65536 in
theorem w_consts : constsHeld consts_1 about1 := Jvm.Lit.constsHeldB_iff.mp (by decide +kernel)
theorem w_applies : (headSpec (Jvm.Cond.code x code maxLocals ret :: tables_1) room_1).applies x e0.platform about1 = true :=
  (Spec.applies_iff w_frames).mpr ⟨w_running, w_runnable, w_alone, w_named, w_hears, w_ripe, w_room, w_tables⟩
theorem atStart : AtStart classFile x code maxLocals ret World_1 tables_1 room_1 Calls_1 rest_1 Pre_1 launch0 p0 e0 about1 theMethod args0 below0 :=
  ⟨lists_1, trivial, launch0.admits_env _ _ _, launch0.least_env, fairChoices_fair.cas, fairChoices_fair.clock, w_frames, w_args, w_heap, w_applies, ⟨w_consts, trivial⟩, w_rest, w_case⟩
end start1
theorem witness_1 : WitnessClaimed_1 := ⟨start1.p0, start1.e0, start1.about1, start1.theMethod, start1.args0, start1.below0, start1.atStart⟩
end Jvm.Pilot.@@N@@
