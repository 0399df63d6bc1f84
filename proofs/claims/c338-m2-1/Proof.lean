import JvmDerived
import JvmDerived.Pilot.@@N@@Statement
import JvmDerived.Pilot.@@N@@Code
set_option linter.unusedVariables false
set_option linter.unusedSimpArgs false
namespace Jvm.Own
open Sem ClassFile Op Lib Jvm.Stand Jvm.Free Jvm.LawKit Jvm.RoadKit
/-! A small logic of walks: 'Wp' says of a point of a body (pc, locals, stack, heap) that from every state that stands there the run ends with Q; one rule an instruction. 'Ct' is a body's contract. -/
def Fen (wd : Bool) (U : State) (o : Outcome) (U' : State) (L : List Loc) (k n : Nat) : Prop := ReturnedEndW U o U' L k n ∧ (wd = false → U.WarmedH U'.vm)
def Wh (hs : Heap) (ws : List Addr) (L : List Loc) : Prop := ∀ y ∈ L, y.base ∈ ws ∨ hs.size ≤ y.base
def Sf (Z : State) (EL : List (String × Nat)) (vm : Vm) (h : Heap) (F : List Addr) : Prop := ∀ x ∈ F, x < h.size ∧ Safe Z EL vm h x
def Sfe (Z : State) (EL : List (String × Nat)) (h : Heap) (F : List Addr) (a : Addr) : Prop := ∀ vm, Z.vm.Alike vm → Sf Z EL vm h F → Safe Z EL vm h a
def Ct (wd : Bool) (l : Launch) (Z : State) (EL : List (String × Nat)) (cw : List Cond) (y : MethodName) (bytes : ByteArray) (maxL : Nat) (ret : Option FieldType) (rm : Room) (as : Array Value) (h : Heap) (F ws : List Addr) (Q : Option Value → Heap → Prop) : Prop :=
  MetFree l y (head1 (Cond.code y bytes maxL ret :: cw) rm)
    (fun a U => a = as ∧ Z.Warmed39 U.vm ∧ U.heap = h ∧ CHv Z EL U.vm h ∧ Sf Z EL U.vm h F) (fun _ _ _ _ _ => True)
    (fun _ U o U' => ∃ v L, o = .returned v ∧ (Wh U.heap ws L ∧ Q v U'.heap) ∧ CHr Z EL U.vm U.heap U'.vm U'.heap ∧ Fen wd U o U' L rm.cells rm.slots)
def Inv (wd : Bool) (l : Launch) (Z : State) (a0 : Array Value) (EL : List (String × Nat)) (R : Room) (y : MethodName) (bytes : ByteArray) (maxL : Nat) (ret : Option FieldType) (hs : Heap) (ws : List Addr) (h : Heap) (F : List Addr) (k n : Nat)
    (p : Program) (e : Env) (s : State) (m : MethodId) (args : Array Value) (below : List Frame) (meth : Method) (c : Code) (vm0 : Vm) (k0 : Nat) (T : State) (locs : List Loc) : Prop :=
  (EW Z a0 EL ∧ p.tables.exec = Jvm.exec ∧ c.code = bytes ∧ c.maxLocals = maxL ∧ meth.sig.returnType = ret ∧ meth.name = y.name ∧ meth.locks = false) ∧
  (s.heap = hs ∧ (∀ x ∈ ws, Z.heap.size ≤ x) ∧ Z.heap.size ≤ hs.size ∧ Wh hs ws locs ∧ Ext Z.heap h) ∧
  (vm0.findClass y.cls = some m.cls ∧ s.Since vm0 k0 ∧ k0 ≤ h.size ∧ (wd = false → s.WarmedH vm0) ∧ Z.Warmed39 vm0 ∧ CHr Z EL s.vm hs vm0 h ∧ Sf Z EL vm0 h F) ∧
  Stand p l e R (s.setVm vm0) m args below meth c T locs k n ∧ T.heap = h
def Out (wd : Bool) (Z : State) (EL : List (String × Nat)) (R : Room) (hs : Heap) (ws : List Addr) (Q : Option Value → Heap → Prop) (p : Program) (e : Env) (s : State) (below : List Frame) (st : State) : Prop :=
  ∃ (v : Option Value) (t : State), Steps p.tables e below st t ∧ t.status = .running ∧ Ended t below (.returned v) ∧ ∃ L, Wh hs ws L ∧ Q v t.heap ∧ CHr Z EL s.vm hs t.vm t.heap ∧ Fen wd s (.returned v) t L R.cells R.slots
def Wp (wd : Bool) (l : Launch) (Z : State) (a0 : Array Value) (EL : List (String × Nat)) (R : Room) (y : MethodName) (bytes : ByteArray) (maxL : Nat) (ret : Option FieldType) (hs : Heap) (ws : List Addr) (Q : Option Value → Heap → Prop) (h : Heap) (F : List Addr) (k n pc : Nat) (Ls : Array Slot) (S : List Value) : Prop :=
  ∀ (p : Program) (e : Env) (s : State) (m : MethodId) (args : Array Value) (below : List Frame) (meth : Method) (c : Code) (vm0 : Vm) (k0 : Nat) (T : State) (locs : List Loc),
    Inv wd l Z a0 EL R y bytes maxL ret hs ws h F k n p e s m args below meth c vm0 k0 T locs → Out wd Z EL R hs ws Q p e s below (T.setTop (mkF m pc Ls S))
section Kit
variable {wd : Bool} {l : Launch} {Z : State} {EL : List (String × Nat)} {R : Room} {y : MethodName} {bytes : ByteArray} {maxL : Nat} {ret : Option FieldType} {hs : Heap} {ws : List Addr} {Q : Option Value → Heap → Prop} {h h' : Heap} {F F' : List Addr} {k n k' n' pc pc' pc1 : Nat} {Ls Ls' : Array Slot} {S S' : List Value}
variable {a0 : Array Value} {a b : Addr} {C O nm d : String} {v w : Value} {sl : Nat} {cl : Cell} {ty : FieldType}
theorem Sfe.mem (q : a ∈ F) : Sfe Z EL h F a := fun _ _ S => (S a q).2
theorem Sfe.exa (E : Exa Z h a C) (h1 : C ≠ "java/lang/String") (h2 : C ≠ "[B") : Sfe Z EL h F a := fun _ hal _ => Safe.exa hal E h1 h2
theorem Sfe.arr (A : Arr Z h a cl ty) (ht : ty ≠ .byte) : Sfe Z EL h F a := fun _ hal _ => Safe.arr hal A ht
theorem Out.back {p : Program} {e : Env} {s : State} {below : List Frame} {st st' : State} (o : Out wd Z EL R hs ws Q p e s below st') (f : ∀ t, Steps p.tables e below st' t → Steps p.tables e below st t) : Out wd Z EL R hs ws Q p e s below st := by
  obtain ⟨v, t, h1, r⟩ := o; exact ⟨v, t, f t h1, r⟩
theorem Wp.lift (f : ∀ (p : Program) (e : Env) (m : MethodId) (below : List Frame) (c : Code) (T t : State), At T m c below → p.tables.exec = Jvm.exec → c.code = bytes → Steps p.tables e below (T.setTop (mkF m pc' Ls' S')) t → Steps p.tables e below (T.setTop (mkF m pc Ls S)) t)
    (K : Wp wd l Z a0 EL R y bytes maxL ret hs ws Q h F k n pc' Ls' S') : Wp wd l Z a0 EL R y bytes maxL ret hs ws Q h F k n pc Ls S :=
  fun p e s m args below meth c vm0 k0 T locs I => (K p e s m args below meth c vm0 k0 T locs I).back fun t st => f p e m below c T t I.2.2.2.1.here I.1.2.1 I.1.2.2.1 st
theorem Wp.old (K : Ext Z.heap h → Wp wd l Z a0 EL R y bytes maxL ret hs ws Q h F k n pc Ls S) : Wp wd l Z a0 EL R y bytes maxL ret hs ws Q h F k n pc Ls S :=
  fun p e s m args below meth c vm0 k0 T locs I => K I.2.1.2.2.2.2 p e s m args below meth c vm0 k0 T locs I
theorem Wp.eqS (q : S = S') (K : Wp wd l Z a0 EL R y bytes maxL ret hs ws Q h F k n pc Ls S') : Wp wd l Z a0 EL R y bytes maxL ret hs ws Q h F k n pc Ls S := q ▸ K
theorem Wp.more (hk : k ≤ k') (hn : n ≤ n') (K : Wp wd l Z a0 EL R y bytes maxL ret hs ws Q h F k' n' pc Ls S) : Wp wd l Z a0 EL R y bytes maxL ret hs ws Q h F k n pc Ls S :=
  fun p e s m args below meth c vm0 k0 T locs I => K p e s m args below meth c vm0 k0 T locs ⟨I.1, I.2.1, I.2.2.1, I.2.2.2.1.mono hk hn, I.2.2.2.2⟩
theorem Wp.less (hF : ∀ x ∈ F', x ∈ F) (K : Wp wd l Z a0 EL R y bytes maxL ret hs ws Q h F' k n pc Ls S) : Wp wd l Z a0 EL R y bytes maxL ret hs ws Q h F k n pc Ls S :=
  fun p e s m args below meth c vm0 k0 T locs I => K p e s m args below meth c vm0 k0 T locs ⟨I.1, I.2.1, ⟨I.2.2.1.1, I.2.2.1.2.1, I.2.2.1.2.2.1, I.2.2.1.2.2.2.1, I.2.2.1.2.2.2.2.1, I.2.2.1.2.2.2.2.2.1, fun x hx => I.2.2.1.2.2.2.2.2.2 x (hF x hx)⟩, I.2.2.2⟩
/-- the cells of the start stand, but for the listed -/
theorem keep_of {s T : State} {locs : List Loc} {kk nn : Nat} (hsm : s.sameButNew T locs kk nn) (hL : Wh s.heap ws locs) : Keep s.heap T.heap ws := by
  refine ⟨hsm.2.1, fun x c hx hn => ?_, fun x c hx => ?_⟩
  · obtain ⟨c', h1, h2, -, h4⟩ := hsm.2.2.2.2.2 x c hx
    have hb := (Array.getElem?_eq_some_iff.mp hx).1
    have hsl : c'.slots = c.slots := Array.ext_getElem? fun i => h4 i fun hm => (hL _ hm).elim hn fun q => absurd q (Nat.not_le.mpr hb)
    have hcc : c' = c := by rw [h2, hsl]
    rw [← hcc]; exact h1
  · obtain ⟨c', h1, h2, h3, -⟩ := hsm.2.2.2.2.2 x c hx
    exact ⟨c', h1, by rw [h2], by rw [h2], h3⟩
theorem Ext.trans {h1 h2 h3 : Heap} (A : Ext h1 h2) (B : Ext h2 h3) : Ext h1 h3 := ⟨Nat.le_trans A.1 B.1, fun x c q => B.2 x c (A.2 x c q)⟩
theorem ext_wr (O : Ext Z.heap h) (W : Wr h h' a sl v) (q : Z.heap.size ≤ a) : Ext Z.heap h' := ⟨by rw [W.size]; exact O.1, fun x c hx => by
  obtain ⟨c', h1, -, -, -, h5, -⟩ := wr_at W (O.2 x c hx)
  rw [← h5 (Nat.ne_of_lt (Nat.lt_of_lt_of_le (Array.getElem?_eq_some_iff.mp hx).1 q))]; exact h1⟩
theorem ext_keep {wc : List Addr} (O : Ext Z.heap h) (K : Keep h h' wc) (q : ∀ x ∈ wc, Z.heap.size ≤ x) : Ext Z.heap h' := ⟨Nat.le_trans O.1 K.1, fun x c hx => K.2.1 x c (O.2 x c hx) fun hm => absurd (Array.getElem?_eq_some_iff.mp hx).1 (Nat.not_lt.mpr (q x hm))⟩
/-- a step that reads the tables or the heap and moves neither but by resolving -/
theorem Wp.tab (law : ∀ (p : Program) (e : Env) (s : State) (m : MethodId) (args : Array Value) (below : List Frame) (meth : Method) (c : Code) (T : State) (locs : List Loc), Stand p l e R s m args below meth c T locs k n → p.tables.exec = Jvm.exec → Z.Warmed39 s.vm → s.vm.findClass y.cls = some m.cls → c.code = bytes → c.maxLocals = maxL → s.heap = hs → T.heap = h → Ext Z.heap h →
      ∃ T', Stand p l e R s m args below meth c T' locs k n ∧ T'.heap = h ∧ ∀ t, Steps p.tables e below (T'.setTop (mkF m pc' Ls' S')) t → Steps p.tables e below (T.setTop (mkF m pc Ls S)) t)
    (K : Wp wd l Z a0 EL R y bytes maxL ret hs ws Q h F k n pc' Ls' S') : Wp wd l Z a0 EL R y bytes maxL ret hs ws Q h F k n pc Ls S := fun p e s m args below meth c vm0 k0 T locs I => by
  obtain ⟨⟨i1, i2, i3, i4, i5⟩, J, ⟨j1, j2, j3, j4, j5, j6⟩, X, eT⟩ := I
  obtain ⟨T', X', eT', st⟩ := law p e (s.setVm vm0) m args below meth c T locs X i2 j5 j1 i3 i4 J.1 eT J.2.2.2.2
  exact (K p e s m args below meth c vm0 k0 T' locs ⟨⟨i1, i2, i3, i4, i5⟩, J, ⟨j1, j2, j3, j4, j5, j6⟩, X', eT'⟩).back st
/-- a step that writes one place -/
theorem Wp.put (hw : a ∈ ws ∨ hs.size ≤ a) (sf : Sfe Z EL h F a) (law : ∀ (p : Program) (e : Env) (s : State) (m : MethodId) (args : Array Value) (below : List Frame) (meth : Method) (c : Code) (T : State) (locs : List Loc), Stand p l e R s m args below meth c T locs k n → p.tables.exec = Jvm.exec → Z.Warmed39 s.vm → s.vm.findClass y.cls = some m.cls → c.code = bytes → meth.name = y.name → T.heap = h →
      ∃ T' h', Stand p l e R s m args below meth c T' (locs ++ [⟨a, sl⟩]) k n ∧ T'.heap = h' ∧ Wr h h' a sl v ∧ ∀ t, Steps p.tables e below (T'.setTop (mkF m pc' Ls' S')) t → Steps p.tables e below (T.setTop (mkF m pc Ls S)) t)
    (K : ∀ h', Wr h h' a sl v → Wp wd l Z a0 EL R y bytes maxL ret hs ws Q h' F k n pc' Ls' S') : Wp wd l Z a0 EL R y bytes maxL ret hs ws Q h F k n pc Ls S := fun p e s m args below meth c vm0 k0 T locs I => by
  obtain ⟨⟨i1, i2, i3, i4, i5, i6, i7⟩, ⟨q1, q2, q3, q4, q5⟩, ⟨j1, j2, j3, j4, j5, j6, j7⟩, X, eT⟩ := I
  obtain ⟨T', h', X', eT', W, st⟩ := law p e (s.setVm vm0) m args below meth c T locs X i2 j5 j1 i3 i6 eT
  have S := sf vm0 j5.alike j7
  refine (K h' W p e s m args below meth c vm0 k0 T' _ ⟨⟨i1, i2, i3, i4, i5, i6, i7⟩, ⟨q1, q2, q3, fun z hz => ?_, ext_wr q5 W (hw.elim (q2 a) (Nat.le_trans q3))⟩, ⟨j1, j2, by rw [W.size]; exact j3, j4, j5, j6.trans (CHr.wr W S j6.1), fun x hx => ⟨by rw [W.size]; exact (j7 x hx).1, Safe.wr W S j6.1 (j7 x hx).2⟩⟩, X', eT'⟩).back st
  rcases List.mem_append.mp hz with hz | hz
  · exact q4 z hz
  · cases List.mem_singleton.mp hz; exact hw
/-- a step that makes one cell -/
theorem Wp.mk (P : Heap → Prop) (hlt : ∀ h', P h' → h.size < h'.size) (law : ∀ (p : Program) (e : Env) (s : State) (m : MethodId) (args : Array Value) (below : List Frame) (meth : Method) (c : Code) (T : State) (locs : List Loc), Stand p l e R s m args below meth c T locs k n → p.tables.exec = Jvm.exec → Z.Warmed39 s.vm → s.vm.findClass y.cls = some m.cls → c.code = bytes → T.heap = h →
      ∃ T' h', Stand p l e R s m args below meth c T' locs k' n' ∧ T'.heap = h' ∧ Ext h h' ∧ P h' ∧ ∀ t, Steps p.tables e below (T'.setTop (mkF m pc' Ls' S')) t → Steps p.tables e below (T.setTop (mkF m pc Ls S)) t)
    (K : ∀ h', hs.size ≤ h.size → Ext h h' → P h' → Wp wd l Z a0 EL R y bytes maxL ret hs ws Q h' (h.size :: F) k' n' pc' Ls' S') : Wp wd l Z a0 EL R y bytes maxL ret hs ws Q h F k n pc Ls S := fun p e s m args below meth c vm0 k0 T locs I => by
  obtain ⟨⟨i1, i2, i3, i4, i5⟩, ⟨q1, q2, q3, q4, q5⟩, ⟨j1, j2, j3, j4, j5, j6, j7⟩, X, eT⟩ := I
  obtain ⟨T', h', X', eT', E, hP, st⟩ := law p e (s.setVm vm0) m args below meth c T locs X i2 j5 j1 i3 eT
  refine (K h' j6.2.1 E hP p e s m args below meth c vm0 k0 T' _ ⟨⟨i1, i2, i3, i4, i5⟩, ⟨q1, q2, q3, q4, Ext.trans q5 E⟩, ⟨j1, j2, Nat.le_trans j3 E.1, j4, j5, j6.trans (CHr.ext E j6.1), fun x hx => ?_⟩, X', eT'⟩).back st
  rcases List.mem_cons.mp hx with rfl | hx
  · exact ⟨hlt h' hP, Safe.ext E j6.1 (Safe.new (Nat.le_refl _))⟩
  · exact ⟨Nat.lt_of_lt_of_le (j7 x hx).1 E.1, Safe.ext E j6.1 (j7 x hx).2⟩
/-- the return -/
theorem Wp.leave (hk : k ≤ R.cells) (hn : n ≤ R.slots) {v' : Option Value} (hv : ret = none → v' = none) (hQ : Q v' h) (law : ∀ (p : Program) (e : Env) (s : State) (m : MethodId) (args : Array Value) (below : List Frame) (meth : Method) (c : Code) (T : State) (locs : List Loc) (fs : List Frame), Stand p l e R s m args below meth c T locs k n → p.tables.exec = Jvm.exec → c.code = bytes → meth.sig.returnType = ret →
      (∀ (f : JFrame) (acts : List Action), f.method = m → f.locked = none → f.entered = [] → (doReturn e (T.setTop f) acts v').1 = T.setFrames fs) → Steps p.tables e below (T.setTop (mkF m pc Ls S)) (T.setFrames fs)) :
    Wp wd l Z a0 EL R y bytes maxL ret hs ws Q h F k n pc Ls S := fun p e s m args below meth c vm0 k0 T locs I => by
  obtain ⟨⟨i1, i2, i3, i4, i5, i6, i7⟩, ⟨q1, q2, q3, q4, q5⟩, ⟨j1, j2, j3, j4, j5, j6, j7⟩, X, eT⟩ := I
  subst eT
  obtain ⟨fs, hr, hrun, hended, hE⟩ := X.leaveW j2 j3 (v := v') (by rw [i5]; exact hv) i7
  refine ⟨v', _, law p e (s.setVm vm0) m args below meth c T locs fs X i2 i3 i5 hr, hrun, hended, locs, q4, hQ, j6.trans (show CHr Z EL vm0 T.heap T.vm T.heap from CHv.at X j5 i1 j6.1), ⟨hE.1, hE.2.1, hE.2.2.1, hE.2.2.2.mono hk hn⟩, fun z => ?_⟩
  exact State.WarmedH.trans (t := s.setVm vm0) (j4 z) X.warmed
end Kit
end Jvm.Own
namespace Jvm.Own
open Sem ClassFile Op Lib Jvm.Stand Jvm.Free Jvm.LawKit Jvm.RoadKit
section Rules
variable {wd : Bool} {l : Launch} {Z : State} {EL : List (String × Nat)} {R : Room} {y : MethodName} {bytes : ByteArray} {maxL : Nat} {ret : Option FieldType} {hs : Heap} {ws : List Addr} {Q : Option Value → Heap → Prop} {h h' : Heap} {F F' : List Addr} {k n k' n' pc pc' pc1 : Nat} {Ls Ls' : Array Slot} {S S' : List Value}
variable {a0 : Array Value} {a b : Addr} {C O nm d : String} {v w : Value} {sl : Nat} {cl : Cell} {ty : FieldType}
theorem Wp.iloadN {i : Fin 4} {x : Int32} (hd : decode bytes pc = .ok (.iload_n i, 1)) (hp : pc + 1 = pc') (hl : Ls[i.val]? = some (.val (.int x))) (K : Wp wd l Z a0 EL R y bytes maxL ret hs ws Q h F k n pc' Ls (.int x :: S)) : Wp wd l Z a0 EL R y bytes maxL ret hs ws Q h F k n pc Ls S := by
  subst hp; exact Wp.lift (fun p e m below c T t A hx hby st => XS.iloadN A hx rfl (hb hby hd) hl st) K
theorem Wp.iload {i : Nat} {x : Int32} (hd : decode bytes pc = .ok (.iload i, 2)) (hp : pc + 2 = pc') (hl : Ls[i]? = some (.val (.int x))) (K : Wp wd l Z a0 EL R y bytes maxL ret hs ws Q h F k n pc' Ls (.int x :: S)) : Wp wd l Z a0 EL R y bytes maxL ret hs ws Q h F k n pc Ls S := by
  subst hp; exact Wp.lift (fun p e m below c T t A hx hby st => XS.iload A hx rfl (hb hby hd) hl st) K
theorem Wp.istoreN {i : Fin 4} {x : Int32} {l' : Array Slot} (hd : decode bytes pc = .ok (.istore_n i, 1)) (hp : pc + 1 = pc') (hl : storeLocals Ls i.val (.int x) = some l') (K : Wp wd l Z a0 EL R y bytes maxL ret hs ws Q h F k n pc' l' S) : Wp wd l Z a0 EL R y bytes maxL ret hs ws Q h F k n pc Ls (.int x :: S) := by
  subst hp; exact Wp.lift (fun p e m below c T t A hx hby st => XS.istoreN A hx rfl (hb hby hd) rfl hl st) K
theorem Wp.istore {i : Nat} {x : Int32} {l' : Array Slot} (hd : decode bytes pc = .ok (.istore i, 2)) (hp : pc + 2 = pc') (hl : storeLocals Ls i (.int x) = some l') (K : Wp wd l Z a0 EL R y bytes maxL ret hs ws Q h F k n pc' l' S) : Wp wd l Z a0 EL R y bytes maxL ret hs ws Q h F k n pc Ls (.int x :: S) := by
  subst hp; exact Wp.lift (fun p e m below c T t A hx hby st => XS.istore A hx rfl (hb hby hd) rfl hl st) K
theorem Wp.lloadN {i : Fin 4} {x : Int64} (hd : decode bytes pc = .ok (.lload_n i, 1)) (hp : pc + 1 = pc') (hl : Ls[i.val]? = some (.val (.long x))) (K : Wp wd l Z a0 EL R y bytes maxL ret hs ws Q h F k n pc' Ls (.long x :: S)) : Wp wd l Z a0 EL R y bytes maxL ret hs ws Q h F k n pc Ls S := by
  subst hp; exact Wp.lift (fun p e m below c T t A hx hby st => XS.lloadN A hx rfl (hb hby hd) hl st) K
theorem Wp.lload {i : Nat} {x : Int64} (hd : decode bytes pc = .ok (.lload i, 2)) (hp : pc + 2 = pc') (hl : Ls[i]? = some (.val (.long x))) (K : Wp wd l Z a0 EL R y bytes maxL ret hs ws Q h F k n pc' Ls (.long x :: S)) : Wp wd l Z a0 EL R y bytes maxL ret hs ws Q h F k n pc Ls S := by
  subst hp; exact Wp.lift (fun p e m below c T t A hx hby st => XS.lload A hx rfl (hb hby hd) hl st) K
theorem Wp.lstoreN {i : Fin 4} {x : Int64} {l' : Array Slot} (hd : decode bytes pc = .ok (.lstore_n i, 1)) (hp : pc + 1 = pc') (hl : storeLocals Ls i.val (.long x) = some l') (K : Wp wd l Z a0 EL R y bytes maxL ret hs ws Q h F k n pc' l' S) : Wp wd l Z a0 EL R y bytes maxL ret hs ws Q h F k n pc Ls (.long x :: S) := by
  subst hp; exact Wp.lift (fun p e m below c T t A hx hby st => XS.lstoreN A hx rfl (hb hby hd) rfl hl st) K
theorem Wp.lstore {i : Nat} {x : Int64} {l' : Array Slot} (hd : decode bytes pc = .ok (.lstore i, 2)) (hp : pc + 2 = pc') (hl : storeLocals Ls i (.long x) = some l') (K : Wp wd l Z a0 EL R y bytes maxL ret hs ws Q h F k n pc' l' S) : Wp wd l Z a0 EL R y bytes maxL ret hs ws Q h F k n pc Ls (.long x :: S) := by
  subst hp; exact Wp.lift (fun p e m below c T t A hx hby st => XS.lstore A hx rfl (hb hby hd) rfl hl st) K
theorem Wp.aloadN {i : Fin 4} {v : Value} (hd : decode bytes pc = .ok (.aload_n i, 1)) (hp : pc + 1 = pc') (hl : Ls[i.val]? = some (.val v)) (hv : v.isRef = true) (K : Wp wd l Z a0 EL R y bytes maxL ret hs ws Q h F k n pc' Ls (v :: S)) : Wp wd l Z a0 EL R y bytes maxL ret hs ws Q h F k n pc Ls S := by
  subst hp; exact Wp.lift (fun p e m below c T t A hx hby st => XS.aloadN A hx rfl (hb hby hd) hl hv st) K
theorem Wp.aload {i : Nat} {v : Value} (hd : decode bytes pc = .ok (.aload i, 2)) (hp : pc + 2 = pc') (hl : Ls[i]? = some (.val v)) (hv : v.isRef = true) (K : Wp wd l Z a0 EL R y bytes maxL ret hs ws Q h F k n pc' Ls (v :: S)) : Wp wd l Z a0 EL R y bytes maxL ret hs ws Q h F k n pc Ls S := by
  subst hp; exact Wp.lift (fun p e m below c T t A hx hby st => XS.aload A hx rfl (hb hby hd) hl hv st) K
theorem Wp.astoreN {i : Fin 4} {v : Value} {l' : Array Slot} (hd : decode bytes pc = .ok (.astore_n i, 1)) (hp : pc + 1 = pc') (hv : v.isRef = true) (hl : storeLocals Ls i.val v = some l') (K : Wp wd l Z a0 EL R y bytes maxL ret hs ws Q h F k n pc' l' S) : Wp wd l Z a0 EL R y bytes maxL ret hs ws Q h F k n pc Ls (v :: S) := by
  subst hp; exact Wp.lift (fun p e m below c T t A hx hby st => XS.astoreN A hx rfl (hb hby hd) rfl hv hl st) K
theorem Wp.astore {i : Nat} {v : Value} {l' : Array Slot} (hd : decode bytes pc = .ok (.astore i, 2)) (hp : pc + 2 = pc') (hv : v.isRef = true) (hl : storeLocals Ls i v = some l') (K : Wp wd l Z a0 EL R y bytes maxL ret hs ws Q h F k n pc' l' S) : Wp wd l Z a0 EL R y bytes maxL ret hs ws Q h F k n pc Ls (v :: S) := by
  subst hp; exact Wp.lift (fun p e m below c T t A hx hby st => XS.astore A hx rfl (hb hby hd) rfl hv hl st) K
theorem Wp.iconst {i : Int} {x : Int32} (hd : decode bytes pc = .ok (.iconst i, 1)) (hp : pc + 1 = pc') (hi : Int32.ofInt i = x) (K : Wp wd l Z a0 EL R y bytes maxL ret hs ws Q h F k n pc' Ls (.int x :: S)) : Wp wd l Z a0 EL R y bytes maxL ret hs ws Q h F k n pc Ls S := by
  subst hp; exact Wp.lift (fun p e m below c T t A hx hby st => XS.iconst A hx rfl (hb hby hd) (hi ▸ st)) K
theorem Wp.bipush {i : Int} {x : Int32} (hd : decode bytes pc = .ok (.bipush i, 2)) (hp : pc + 2 = pc') (hi : (Int8.ofInt i).toInt32 = x) (K : Wp wd l Z a0 EL R y bytes maxL ret hs ws Q h F k n pc' Ls (.int x :: S)) : Wp wd l Z a0 EL R y bytes maxL ret hs ws Q h F k n pc Ls S := by
  subst hp; exact Wp.lift (fun p e m below c T t A hx hby st => XS.bipush A hx rfl (hb hby hd) (hi ▸ st)) K
theorem Wp.sipush {i : Int} {x : Int32} (hd : decode bytes pc = .ok (.sipush i, 3)) (hp : pc + 3 = pc') (hi : (Int16.ofInt i).toInt32 = x) (K : Wp wd l Z a0 EL R y bytes maxL ret hs ws Q h F k n pc' Ls (.int x :: S)) : Wp wd l Z a0 EL R y bytes maxL ret hs ws Q h F k n pc Ls S := by
  subst hp; exact Wp.lift (fun p e m below c T t A hx hby st => XS.sipush A hx rfl (hb hby hd) (hi ▸ st)) K
theorem Wp.lconst {i : Fin 2} {x : Int64} (hd : decode bytes pc = .ok (.lconst i, 1)) (hp : pc + 1 = pc') (hi : Int64.ofNat i = x) (K : Wp wd l Z a0 EL R y bytes maxL ret hs ws Q h F k n pc' Ls (.long x :: S)) : Wp wd l Z a0 EL R y bytes maxL ret hs ws Q h F k n pc Ls S := by
  subst hp; exact Wp.lift (fun p e m below c T t A hx hby st => XS.lconst A hx rfl (hb hby hd) (hi ▸ st)) K
theorem Wp.aconstNull  (hd : decode bytes pc = .ok (.aconst_null, 1)) (hp : pc + 1 = pc') (K : Wp wd l Z a0 EL R y bytes maxL ret hs ws Q h F k n pc' Ls (.null :: S)) : Wp wd l Z a0 EL R y bytes maxL ret hs ws Q h F k n pc Ls S := by
  subst hp; exact Wp.lift (fun p e m below c T t A hx hby st => XS.aconstNull A hx rfl (hb hby hd) st) K
theorem Wp.iadd {x z : Int32} (hd : decode bytes pc = .ok (.iadd, 1)) (hp : pc + 1 = pc') (K : Wp wd l Z a0 EL R y bytes maxL ret hs ws Q h F k n pc' Ls (.int (x + z) :: S)) : Wp wd l Z a0 EL R y bytes maxL ret hs ws Q h F k n pc Ls (.int z :: .int x :: S) := by
  subst hp; exact Wp.lift (fun p e m below c T t A hx hby st => XS.iadd A hx rfl (hb hby hd) rfl st) K
theorem Wp.ladd {x z : Int64} (hd : decode bytes pc = .ok (.ladd, 1)) (hp : pc + 1 = pc') (K : Wp wd l Z a0 EL R y bytes maxL ret hs ws Q h F k n pc' Ls (.long (x + z) :: S)) : Wp wd l Z a0 EL R y bytes maxL ret hs ws Q h F k n pc Ls (.long z :: .long x :: S) := by
  subst hp; exact Wp.lift (fun p e m below c T t A hx hby st => XS.ladd A hx rfl (hb hby hd) rfl st) K
theorem Wp.isub {x z : Int32} (hd : decode bytes pc = .ok (.isub, 1)) (hp : pc + 1 = pc') (K : Wp wd l Z a0 EL R y bytes maxL ret hs ws Q h F k n pc' Ls (.int (x - z) :: S)) : Wp wd l Z a0 EL R y bytes maxL ret hs ws Q h F k n pc Ls (.int z :: .int x :: S) := by
  subst hp; exact Wp.lift (fun p e m below c T t A hx hby st => XS.isub A hx rfl (hb hby hd) rfl st) K
theorem Wp.lsub {x z : Int64} (hd : decode bytes pc = .ok (.lsub, 1)) (hp : pc + 1 = pc') (K : Wp wd l Z a0 EL R y bytes maxL ret hs ws Q h F k n pc' Ls (.long (x - z) :: S)) : Wp wd l Z a0 EL R y bytes maxL ret hs ws Q h F k n pc Ls (.long z :: .long x :: S) := by
  subst hp; exact Wp.lift (fun p e m below c T t A hx hby st => XS.lsub A hx rfl (hb hby hd) rfl st) K
theorem Wp.imul {x z : Int32} (hd : decode bytes pc = .ok (.imul, 1)) (hp : pc + 1 = pc') (K : Wp wd l Z a0 EL R y bytes maxL ret hs ws Q h F k n pc' Ls (.int (x * z) :: S)) : Wp wd l Z a0 EL R y bytes maxL ret hs ws Q h F k n pc Ls (.int z :: .int x :: S) := by
  subst hp; exact Wp.lift (fun p e m below c T t A hx hby st => XS.imul A hx rfl (hb hby hd) rfl st) K
theorem Wp.lmul {x z : Int64} (hd : decode bytes pc = .ok (.lmul, 1)) (hp : pc + 1 = pc') (K : Wp wd l Z a0 EL R y bytes maxL ret hs ws Q h F k n pc' Ls (.long (x * z) :: S)) : Wp wd l Z a0 EL R y bytes maxL ret hs ws Q h F k n pc Ls (.long z :: .long x :: S) := by
  subst hp; exact Wp.lift (fun p e m below c T t A hx hby st => XS.lmul A hx rfl (hb hby hd) rfl st) K
theorem Wp.iand {x z : Int32} (hd : decode bytes pc = .ok (.iand, 1)) (hp : pc + 1 = pc') (K : Wp wd l Z a0 EL R y bytes maxL ret hs ws Q h F k n pc' Ls (.int (x &&& z) :: S)) : Wp wd l Z a0 EL R y bytes maxL ret hs ws Q h F k n pc Ls (.int z :: .int x :: S) := by
  subst hp; exact Wp.lift (fun p e m below c T t A hx hby st => XS.iand A hx rfl (hb hby hd) rfl st) K
theorem Wp.land {x z : Int64} (hd : decode bytes pc = .ok (.land, 1)) (hp : pc + 1 = pc') (K : Wp wd l Z a0 EL R y bytes maxL ret hs ws Q h F k n pc' Ls (.long (x &&& z) :: S)) : Wp wd l Z a0 EL R y bytes maxL ret hs ws Q h F k n pc Ls (.long z :: .long x :: S) := by
  subst hp; exact Wp.lift (fun p e m below c T t A hx hby st => XS.land A hx rfl (hb hby hd) rfl st) K
theorem Wp.ior {x z : Int32} (hd : decode bytes pc = .ok (.ior, 1)) (hp : pc + 1 = pc') (K : Wp wd l Z a0 EL R y bytes maxL ret hs ws Q h F k n pc' Ls (.int (x ||| z) :: S)) : Wp wd l Z a0 EL R y bytes maxL ret hs ws Q h F k n pc Ls (.int z :: .int x :: S) := by
  subst hp; exact Wp.lift (fun p e m below c T t A hx hby st => XS.ior A hx rfl (hb hby hd) rfl st) K
theorem Wp.lor {x z : Int64} (hd : decode bytes pc = .ok (.lor, 1)) (hp : pc + 1 = pc') (K : Wp wd l Z a0 EL R y bytes maxL ret hs ws Q h F k n pc' Ls (.long (x ||| z) :: S)) : Wp wd l Z a0 EL R y bytes maxL ret hs ws Q h F k n pc Ls (.long z :: .long x :: S) := by
  subst hp; exact Wp.lift (fun p e m below c T t A hx hby st => XS.lor A hx rfl (hb hby hd) rfl st) K
theorem Wp.ixor {x z : Int32} (hd : decode bytes pc = .ok (.ixor, 1)) (hp : pc + 1 = pc') (K : Wp wd l Z a0 EL R y bytes maxL ret hs ws Q h F k n pc' Ls (.int (x ^^^ z) :: S)) : Wp wd l Z a0 EL R y bytes maxL ret hs ws Q h F k n pc Ls (.int z :: .int x :: S) := by
  subst hp; exact Wp.lift (fun p e m below c T t A hx hby st => XS.ixor A hx rfl (hb hby hd) rfl st) K
theorem Wp.lxor {x z : Int64} (hd : decode bytes pc = .ok (.lxor, 1)) (hp : pc + 1 = pc') (K : Wp wd l Z a0 EL R y bytes maxL ret hs ws Q h F k n pc' Ls (.long (x ^^^ z) :: S)) : Wp wd l Z a0 EL R y bytes maxL ret hs ws Q h F k n pc Ls (.long z :: .long x :: S) := by
  subst hp; exact Wp.lift (fun p e m below c T t A hx hby st => XS.lxor A hx rfl (hb hby hd) rfl st) K
theorem Wp.ineg {x : Int32} (hd : decode bytes pc = .ok (.ineg, 1)) (hp : pc + 1 = pc') (K : Wp wd l Z a0 EL R y bytes maxL ret hs ws Q h F k n pc' Ls (.int (-x) :: S)) : Wp wd l Z a0 EL R y bytes maxL ret hs ws Q h F k n pc Ls (.int x :: S) := by
  subst hp; exact Wp.lift (fun p e m below c T t A hx hby st => XS.ineg A hx rfl (hb hby hd) rfl st) K
theorem Wp.i2l {x : Int32} (hd : decode bytes pc = .ok (.i2l, 1)) (hp : pc + 1 = pc') (K : Wp wd l Z a0 EL R y bytes maxL ret hs ws Q h F k n pc' Ls (.long (x.toInt64) :: S)) : Wp wd l Z a0 EL R y bytes maxL ret hs ws Q h F k n pc Ls (.int x :: S) := by
  subst hp; exact Wp.lift (fun p e m below c T t A hx hby st => XS.i2l A hx rfl (hb hby hd) rfl st) K
theorem Wp.l2i {x : Int64} (hd : decode bytes pc = .ok (.l2i, 1)) (hp : pc + 1 = pc') (K : Wp wd l Z a0 EL R y bytes maxL ret hs ws Q h F k n pc' Ls (.int (x.toInt32) :: S)) : Wp wd l Z a0 EL R y bytes maxL ret hs ws Q h F k n pc Ls (.long x :: S) := by
  subst hp; exact Wp.lift (fun p e m below c T t A hx hby st => XS.l2i A hx rfl (hb hby hd) rfl st) K
theorem Wp.i2b {x : Int32} (hd : decode bytes pc = .ok (.i2b, 1)) (hp : pc + 1 = pc') (K : Wp wd l Z a0 EL R y bytes maxL ret hs ws Q h F k n pc' Ls (.int (x.toInt8.toInt32) :: S)) : Wp wd l Z a0 EL R y bytes maxL ret hs ws Q h F k n pc Ls (.int x :: S) := by
  subst hp; exact Wp.lift (fun p e m below c T t A hx hby st => XS.i2b A hx rfl (hb hby hd) rfl st) K
theorem Wp.i2s {x : Int32} (hd : decode bytes pc = .ok (.i2s, 1)) (hp : pc + 1 = pc') (K : Wp wd l Z a0 EL R y bytes maxL ret hs ws Q h F k n pc' Ls (.int (x.toInt16.toInt32) :: S)) : Wp wd l Z a0 EL R y bytes maxL ret hs ws Q h F k n pc Ls (.int x :: S) := by
  subst hp; exact Wp.lift (fun p e m below c T t A hx hby st => XS.i2s A hx rfl (hb hby hd) rfl st) K
theorem Wp.i2c {x : Int32} (hd : decode bytes pc = .ok (.i2c, 1)) (hp : pc + 1 = pc') (K : Wp wd l Z a0 EL R y bytes maxL ret hs ws Q h F k n pc' Ls (.int (x.toUInt32.toUInt16.toUInt32.toInt32) :: S)) : Wp wd l Z a0 EL R y bytes maxL ret hs ws Q h F k n pc Ls (.int x :: S) := by
  subst hp; exact Wp.lift (fun p e m below c T t A hx hby st => XS.i2c A hx rfl (hb hby hd) rfl st) K
theorem Wp.ishl {x : Int32} {z : Int32} (hd : decode bytes pc = .ok (.ishl, 1)) (hp : pc + 1 = pc') (K : Wp wd l Z a0 EL R y bytes maxL ret hs ws Q h F k n pc' Ls (.int (x <<< (z &&& 31)) :: S)) : Wp wd l Z a0 EL R y bytes maxL ret hs ws Q h F k n pc Ls (.int z :: .int x :: S) := by
  subst hp; exact Wp.lift (fun p e m below c T t A hx hby st => XS.ishl A hx rfl (hb hby hd) rfl st) K
theorem Wp.ishr {x : Int32} {z : Int32} (hd : decode bytes pc = .ok (.ishr, 1)) (hp : pc + 1 = pc') (K : Wp wd l Z a0 EL R y bytes maxL ret hs ws Q h F k n pc' Ls (.int (x >>> (z &&& 31)) :: S)) : Wp wd l Z a0 EL R y bytes maxL ret hs ws Q h F k n pc Ls (.int z :: .int x :: S) := by
  subst hp; exact Wp.lift (fun p e m below c T t A hx hby st => XS.ishr A hx rfl (hb hby hd) rfl st) K
theorem Wp.iushr {x : Int32} {z : Int32} (hd : decode bytes pc = .ok (.iushr, 1)) (hp : pc + 1 = pc') (K : Wp wd l Z a0 EL R y bytes maxL ret hs ws Q h F k n pc' Ls (.int ((x.toUInt32 >>> (z &&& 31).toUInt32).toInt32) :: S)) : Wp wd l Z a0 EL R y bytes maxL ret hs ws Q h F k n pc Ls (.int z :: .int x :: S) := by
  subst hp; exact Wp.lift (fun p e m below c T t A hx hby st => XS.iushr A hx rfl (hb hby hd) rfl st) K
theorem Wp.lshl {x : Int64} {z : Int32} (hd : decode bytes pc = .ok (.lshl, 1)) (hp : pc + 1 = pc') (K : Wp wd l Z a0 EL R y bytes maxL ret hs ws Q h F k n pc' Ls (.long (x <<< (z &&& 0x3f).toInt64) :: S)) : Wp wd l Z a0 EL R y bytes maxL ret hs ws Q h F k n pc Ls (.int z :: .long x :: S) := by
  subst hp; exact Wp.lift (fun p e m below c T t A hx hby st => XS.lshl A hx rfl (hb hby hd) rfl st) K
theorem Wp.lshr {x : Int64} {z : Int32} (hd : decode bytes pc = .ok (.lshr, 1)) (hp : pc + 1 = pc') (K : Wp wd l Z a0 EL R y bytes maxL ret hs ws Q h F k n pc' Ls (.long (x >>> (z &&& 0x3f).toInt64) :: S)) : Wp wd l Z a0 EL R y bytes maxL ret hs ws Q h F k n pc Ls (.int z :: .long x :: S) := by
  subst hp; exact Wp.lift (fun p e m below c T t A hx hby st => XS.lshr A hx rfl (hb hby hd) rfl st) K
theorem Wp.lushr {x : Int64} {z : Int32} (hd : decode bytes pc = .ok (.lushr, 1)) (hp : pc + 1 = pc') (K : Wp wd l Z a0 EL R y bytes maxL ret hs ws Q h F k n pc' Ls (.long ((x.toUInt64 >>> (z &&& 0x3f).toInt64.toUInt64).toInt64) :: S)) : Wp wd l Z a0 EL R y bytes maxL ret hs ws Q h F k n pc Ls (.int z :: .long x :: S) := by
  subst hp; exact Wp.lift (fun p e m below c T t A hx hby st => XS.lushr A hx rfl (hb hby hd) rfl st) K
theorem Wp.lcmp {x z : Int64} (hd : decode bytes pc = .ok (.lcmp, 1)) (hp : pc + 1 = pc') (K : Wp wd l Z a0 EL R y bytes maxL ret hs ws Q h F k n pc' Ls (.int (lcmpW x z) :: S)) : Wp wd l Z a0 EL R y bytes maxL ret hs ws Q h F k n pc Ls (.long z :: .long x :: S) := by
  subst hp; exact Wp.lift (fun p e m below c T t A hx hby st => XS.lcmp A hx rfl (hb hby hd) rfl st) K
theorem Wp.idiv {x z : Int32} (hd : decode bytes pc = .ok (.idiv, 1)) (hp : pc + 1 = pc') (hz : z ≠ 0) (K : Wp wd l Z a0 EL R y bytes maxL ret hs ws Q h F k n pc' Ls (.int (x / z) :: S)) : Wp wd l Z a0 EL R y bytes maxL ret hs ws Q h F k n pc Ls (.int z :: .int x :: S) := by
  subst hp; exact Wp.lift (fun p e m below c T t A hx hby st => XS.idiv A hx rfl (hb hby hd) rfl hz st) K
theorem Wp.irem {x z : Int32} (hd : decode bytes pc = .ok (.irem, 1)) (hp : pc + 1 = pc') (hz : z ≠ 0) (K : Wp wd l Z a0 EL R y bytes maxL ret hs ws Q h F k n pc' Ls (.int (x % z) :: S)) : Wp wd l Z a0 EL R y bytes maxL ret hs ws Q h F k n pc Ls (.int z :: .int x :: S) := by
  subst hp; exact Wp.lift (fun p e m below c T t A hx hby st => XS.irem A hx rfl (hb hby hd) rfl hz (by rw [irem_eq_mod]; exact st)) K
theorem Wp.ldiv {x z : Int64} (hd : decode bytes pc = .ok (.ldiv, 1)) (hp : pc + 1 = pc') (hz : z ≠ 0) (K : Wp wd l Z a0 EL R y bytes maxL ret hs ws Q h F k n pc' Ls (.long (x / z) :: S)) : Wp wd l Z a0 EL R y bytes maxL ret hs ws Q h F k n pc Ls (.long z :: .long x :: S) := by
  subst hp; exact Wp.lift (fun p e m below c T t A hx hby st => XS.ldiv A hx rfl (hb hby hd) rfl hz st) K
theorem Wp.lrem {x z : Int64} (hd : decode bytes pc = .ok (.lrem, 1)) (hp : pc + 1 = pc') (hz : z ≠ 0) (K : Wp wd l Z a0 EL R y bytes maxL ret hs ws Q h F k n pc' Ls (.long (x - (x / z) * z) :: S)) : Wp wd l Z a0 EL R y bytes maxL ret hs ws Q h F k n pc Ls (.long z :: .long x :: S) := by
  subst hp; exact Wp.lift (fun p e m below c T t A hx hby st => XS.lrem A hx rfl (hb hby hd) rfl hz st) K
theorem Wp.dup {v : Value} (hd : decode bytes pc = .ok (.dup, 1)) (hp : pc + 1 = pc') (hc : v.category = 1) (K : Wp wd l Z a0 EL R y bytes maxL ret hs ws Q h F k n pc' Ls (v :: v :: S)) : Wp wd l Z a0 EL R y bytes maxL ret hs ws Q h F k n pc Ls (v :: S) := by
  subst hp; exact Wp.lift (fun p e m below c T t A hx hby st => XS.dup A hx rfl (hb hby hd) rfl hc st) K
theorem Wp.pop {v : Value} (hd : decode bytes pc = .ok (.pop, 1)) (hp : pc + 1 = pc') (hc : v.category = 1) (K : Wp wd l Z a0 EL R y bytes maxL ret hs ws Q h F k n pc' Ls S) : Wp wd l Z a0 EL R y bytes maxL ret hs ws Q h F k n pc Ls (v :: S) := by
  subst hp; exact Wp.lift (fun p e m below c T t A hx hby st => XS.pop A hx rfl (hb hby hd) rfl hc st) K
theorem Wp.dupX1 {v w : Value} (hd : decode bytes pc = .ok (.dup_x1, 1)) (hp : pc + 1 = pc') (hc : v.category = 1) (hc' : w.category = 1) (K : Wp wd l Z a0 EL R y bytes maxL ret hs ws Q h F k n pc' Ls (v :: w :: v :: S)) : Wp wd l Z a0 EL R y bytes maxL ret hs ws Q h F k n pc Ls (v :: w :: S) := by
  subst hp; exact Wp.lift (fun p e m below c T t A hx hby st => XS.dupX1 A hx rfl (hb hby hd) rfl hc hc' st) K
theorem Wp.dup2 {v w : Value} (hd : decode bytes pc = .ok (.dup2, 1)) (hp : pc + 1 = pc') (hc : v.category = 1) (hc' : w.category = 1) (K : Wp wd l Z a0 EL R y bytes maxL ret hs ws Q h F k n pc' Ls (v :: w :: v :: w :: S)) : Wp wd l Z a0 EL R y bytes maxL ret hs ws Q h F k n pc Ls (v :: w :: S) := by
  subst hp; exact Wp.lift (fun p e m below c T t A hx hby st => XT.dup2 A hx rfl (hb hby hd) rfl hc hc' st) K
theorem Wp.iinc {i : Nat} {q : Int} {x : Int32} {l' : Array Slot} (hd : decode bytes pc = .ok (.iinc i q, 3)) (hp : pc + 3 = pc') (hl : Ls[i]? = some (.val (.int x))) (hs' : storeLocals Ls i (.int (x + Int32.ofInt q)) = some l') (K : Wp wd l Z a0 EL R y bytes maxL ret hs ws Q h F k n pc' l' S) : Wp wd l Z a0 EL R y bytes maxL ret hs ws Q h F k n pc Ls S := by
  subst hp; exact Wp.lift (fun p e m below c T t A hx hby st => XS.iinc A hx rfl (hb hby hd) hl hs' st) K
theorem Wp.goto {q : Int} (hd : decode bytes pc = .ok (.goto q, 3)) (h0 : 0 ≤ (pc : Int) + q) (hp : ((pc : Int) + q).toNat = pc') (K : Wp wd l Z a0 EL R y bytes maxL ret hs ws Q h F k n pc' Ls S) : Wp wd l Z a0 EL R y bytes maxL ret hs ws Q h F k n pc Ls S :=
  Wp.lift (fun p e m below c T t A hx hby st => XS.goto A hx rfl rfl (hb hby hd) h0 hp st) K
theorem Wp.tswOut {dflt low high : Int} {offs : Array Int} {len : Nat} {x : Int32} (hd : decode bytes pc = .ok (.tableswitch dflt low high offs, len)) (hout : x.toInt < low ∨ x.toInt > high) (h0 : 0 ≤ (pc : Int) + dflt) (hp : ((pc : Int) + dflt).toNat = pc') (K : Wp wd l Z a0 EL R y bytes maxL ret hs ws Q h F k n pc' Ls S) : Wp wd l Z a0 EL R y bytes maxL ret hs ws Q h F k n pc Ls (.int x :: S) :=
  Wp.lift (fun p e m below c T t A hx hby st => XS.tswOut A hx rfl rfl (hb hby hd) rfl hout h0 hp st) K
theorem Wp.tswIn {dflt low high q : Int} {offs : Array Int} {len : Nat} {x : Int32} (hd : decode bytes pc = .ok (.tableswitch dflt low high offs, len)) (hin : ¬ (x.toInt < low ∨ x.toInt > high)) (hoff : offs[(x.toInt - low).toNat]? = some q) (h0 : 0 ≤ (pc : Int) + q) (hp : ((pc : Int) + q).toNat = pc') (K : Wp wd l Z a0 EL R y bytes maxL ret hs ws Q h F k n pc' Ls S) : Wp wd l Z a0 EL R y bytes maxL ret hs ws Q h F k n pc Ls (.int x :: S) :=
  Wp.lift (fun p e m below c T t A hx hby st => XS.tswIn A hx rfl rfl (hb hby hd) rfl hin hoff h0 hp st) K
theorem Wp.icmp_lt {x z : Int32} {q : Int} (hd : decode bytes pc = .ok (.if_icmp .lt q, 3)) (h0 : 0 ≤ (pc : Int) + q) (h1 : ((pc : Int) + q).toNat = pc1) (hp : pc + 3 = pc') (K1 : x < z → Wp wd l Z a0 EL R y bytes maxL ret hs ws Q h F k n pc1 Ls S) (K2 : ¬ (x < z) → Wp wd l Z a0 EL R y bytes maxL ret hs ws Q h F k n pc' Ls S) : Wp wd l Z a0 EL R y bytes maxL ret hs ws Q h F k n pc Ls (.int z :: .int x :: S) := by
  subst hp
  exact (Classical.em (x < z)).elim (fun hc => Wp.lift (fun p e m below c T t A hx hby st => XS.icmpYes A hx rfl rfl (hb hby hd) rfl (tlt hc).1 h0 h1 st) (K1 hc)) (fun hc => Wp.lift (fun p e m below c T t A hx hby st => XS.icmpNo A hx rfl (hb hby hd) rfl (flt hc).1 st) (K2 hc))
theorem Wp.if_lt {x : Int32} {q : Int} (hd : decode bytes pc = .ok (.ifCond .lt q, 3)) (h0 : 0 ≤ (pc : Int) + q) (h1 : ((pc : Int) + q).toNat = pc1) (hp : pc + 3 = pc') (K1 : x < (0 : Int32) → Wp wd l Z a0 EL R y bytes maxL ret hs ws Q h F k n pc1 Ls S) (K2 : ¬ (x < (0 : Int32)) → Wp wd l Z a0 EL R y bytes maxL ret hs ws Q h F k n pc' Ls S) : Wp wd l Z a0 EL R y bytes maxL ret hs ws Q h F k n pc Ls (.int x :: S) := by
  subst hp
  exact (Classical.em (x < (0 : Int32))).elim (fun hc => Wp.lift (fun p e m below c T t A hx hby st => XS.ifYes A hx rfl rfl (hb hby hd) rfl ((if0 _ _).trans (tlt hc).1) h0 h1 st) (K1 hc)) (fun hc => Wp.lift (fun p e m below c T t A hx hby st => XS.ifNo A hx rfl (hb hby hd) rfl ((if0 _ _).trans (flt hc).1) st) (K2 hc))
theorem Wp.icmp_ge {x z : Int32} {q : Int} (hd : decode bytes pc = .ok (.if_icmp .ge q, 3)) (h0 : 0 ≤ (pc : Int) + q) (h1 : ((pc : Int) + q).toNat = pc1) (hp : pc + 3 = pc') (K1 : ¬ (x < z) → Wp wd l Z a0 EL R y bytes maxL ret hs ws Q h F k n pc1 Ls S) (K2 : x < z → Wp wd l Z a0 EL R y bytes maxL ret hs ws Q h F k n pc' Ls S) : Wp wd l Z a0 EL R y bytes maxL ret hs ws Q h F k n pc Ls (.int z :: .int x :: S) := by
  subst hp
  exact (Classical.em (x < z)).elim (fun hc => Wp.lift (fun p e m below c T t A hx hby st => XS.icmpNo A hx rfl (hb hby hd) rfl (tlt hc).2.1 st) (K2 hc)) (fun hc => Wp.lift (fun p e m below c T t A hx hby st => XS.icmpYes A hx rfl rfl (hb hby hd) rfl (flt hc).2.1 h0 h1 st) (K1 hc))
theorem Wp.if_ge {x : Int32} {q : Int} (hd : decode bytes pc = .ok (.ifCond .ge q, 3)) (h0 : 0 ≤ (pc : Int) + q) (h1 : ((pc : Int) + q).toNat = pc1) (hp : pc + 3 = pc') (K1 : ¬ (x < (0 : Int32)) → Wp wd l Z a0 EL R y bytes maxL ret hs ws Q h F k n pc1 Ls S) (K2 : x < (0 : Int32) → Wp wd l Z a0 EL R y bytes maxL ret hs ws Q h F k n pc' Ls S) : Wp wd l Z a0 EL R y bytes maxL ret hs ws Q h F k n pc Ls (.int x :: S) := by
  subst hp
  exact (Classical.em (x < (0 : Int32))).elim (fun hc => Wp.lift (fun p e m below c T t A hx hby st => XS.ifNo A hx rfl (hb hby hd) rfl ((if0 _ _).trans (tlt hc).2.1) st) (K2 hc)) (fun hc => Wp.lift (fun p e m below c T t A hx hby st => XS.ifYes A hx rfl rfl (hb hby hd) rfl ((if0 _ _).trans (flt hc).2.1) h0 h1 st) (K1 hc))
theorem Wp.icmp_gt {x z : Int32} {q : Int} (hd : decode bytes pc = .ok (.if_icmp .gt q, 3)) (h0 : 0 ≤ (pc : Int) + q) (h1 : ((pc : Int) + q).toNat = pc1) (hp : pc + 3 = pc') (K1 : z < x → Wp wd l Z a0 EL R y bytes maxL ret hs ws Q h F k n pc1 Ls S) (K2 : ¬ (z < x) → Wp wd l Z a0 EL R y bytes maxL ret hs ws Q h F k n pc' Ls S) : Wp wd l Z a0 EL R y bytes maxL ret hs ws Q h F k n pc Ls (.int z :: .int x :: S) := by
  subst hp
  exact (Classical.em (z < x)).elim (fun hc => Wp.lift (fun p e m below c T t A hx hby st => XS.icmpYes A hx rfl rfl (hb hby hd) rfl (tlt hc).2.2.1 h0 h1 st) (K1 hc)) (fun hc => Wp.lift (fun p e m below c T t A hx hby st => XS.icmpNo A hx rfl (hb hby hd) rfl (flt hc).2.2.1 st) (K2 hc))
theorem Wp.if_gt {x : Int32} {q : Int} (hd : decode bytes pc = .ok (.ifCond .gt q, 3)) (h0 : 0 ≤ (pc : Int) + q) (h1 : ((pc : Int) + q).toNat = pc1) (hp : pc + 3 = pc') (K1 : (0 : Int32) < x → Wp wd l Z a0 EL R y bytes maxL ret hs ws Q h F k n pc1 Ls S) (K2 : ¬ ((0 : Int32) < x) → Wp wd l Z a0 EL R y bytes maxL ret hs ws Q h F k n pc' Ls S) : Wp wd l Z a0 EL R y bytes maxL ret hs ws Q h F k n pc Ls (.int x :: S) := by
  subst hp
  exact (Classical.em ((0 : Int32) < x)).elim (fun hc => Wp.lift (fun p e m below c T t A hx hby st => XS.ifYes A hx rfl rfl (hb hby hd) rfl ((if0 _ _).trans (tlt hc).2.2.1) h0 h1 st) (K1 hc)) (fun hc => Wp.lift (fun p e m below c T t A hx hby st => XS.ifNo A hx rfl (hb hby hd) rfl ((if0 _ _).trans (flt hc).2.2.1) st) (K2 hc))
theorem Wp.icmp_le {x z : Int32} {q : Int} (hd : decode bytes pc = .ok (.if_icmp .le q, 3)) (h0 : 0 ≤ (pc : Int) + q) (h1 : ((pc : Int) + q).toNat = pc1) (hp : pc + 3 = pc') (K1 : ¬ (z < x) → Wp wd l Z a0 EL R y bytes maxL ret hs ws Q h F k n pc1 Ls S) (K2 : z < x → Wp wd l Z a0 EL R y bytes maxL ret hs ws Q h F k n pc' Ls S) : Wp wd l Z a0 EL R y bytes maxL ret hs ws Q h F k n pc Ls (.int z :: .int x :: S) := by
  subst hp
  exact (Classical.em (z < x)).elim (fun hc => Wp.lift (fun p e m below c T t A hx hby st => XS.icmpNo A hx rfl (hb hby hd) rfl (tlt hc).2.2.2 st) (K2 hc)) (fun hc => Wp.lift (fun p e m below c T t A hx hby st => XS.icmpYes A hx rfl rfl (hb hby hd) rfl (flt hc).2.2.2 h0 h1 st) (K1 hc))
theorem Wp.if_le {x : Int32} {q : Int} (hd : decode bytes pc = .ok (.ifCond .le q, 3)) (h0 : 0 ≤ (pc : Int) + q) (h1 : ((pc : Int) + q).toNat = pc1) (hp : pc + 3 = pc') (K1 : ¬ ((0 : Int32) < x) → Wp wd l Z a0 EL R y bytes maxL ret hs ws Q h F k n pc1 Ls S) (K2 : (0 : Int32) < x → Wp wd l Z a0 EL R y bytes maxL ret hs ws Q h F k n pc' Ls S) : Wp wd l Z a0 EL R y bytes maxL ret hs ws Q h F k n pc Ls (.int x :: S) := by
  subst hp
  exact (Classical.em ((0 : Int32) < x)).elim (fun hc => Wp.lift (fun p e m below c T t A hx hby st => XS.ifNo A hx rfl (hb hby hd) rfl ((if0 _ _).trans (tlt hc).2.2.2) st) (K2 hc)) (fun hc => Wp.lift (fun p e m below c T t A hx hby st => XS.ifYes A hx rfl rfl (hb hby hd) rfl ((if0 _ _).trans (flt hc).2.2.2) h0 h1 st) (K1 hc))
theorem Wp.icmp_eq {x z : Int32} {q : Int} (hd : decode bytes pc = .ok (.if_icmp .eq q, 3)) (h0 : 0 ≤ (pc : Int) + q) (h1 : ((pc : Int) + q).toNat = pc1) (hp : pc + 3 = pc') (K1 : x = z → Wp wd l Z a0 EL R y bytes maxL ret hs ws Q h F k n pc1 Ls S) (K2 : ¬ (x = z) → Wp wd l Z a0 EL R y bytes maxL ret hs ws Q h F k n pc' Ls S) : Wp wd l Z a0 EL R y bytes maxL ret hs ws Q h F k n pc Ls (.int z :: .int x :: S) := by
  subst hp
  exact (Classical.em (x = z)).elim (fun hc => Wp.lift (fun p e m below c T t A hx hby st => XS.icmpYes A hx rfl rfl (hb hby hd) rfl (teq hc).1 h0 h1 st) (K1 hc)) (fun hc => Wp.lift (fun p e m below c T t A hx hby st => XS.icmpNo A hx rfl (hb hby hd) rfl (feq hc).1 st) (K2 hc))
theorem Wp.if_eq {x : Int32} {q : Int} (hd : decode bytes pc = .ok (.ifCond .eq q, 3)) (h0 : 0 ≤ (pc : Int) + q) (h1 : ((pc : Int) + q).toNat = pc1) (hp : pc + 3 = pc') (K1 : x = (0 : Int32) → Wp wd l Z a0 EL R y bytes maxL ret hs ws Q h F k n pc1 Ls S) (K2 : ¬ (x = (0 : Int32)) → Wp wd l Z a0 EL R y bytes maxL ret hs ws Q h F k n pc' Ls S) : Wp wd l Z a0 EL R y bytes maxL ret hs ws Q h F k n pc Ls (.int x :: S) := by
  subst hp
  exact (Classical.em (x = (0 : Int32))).elim (fun hc => Wp.lift (fun p e m below c T t A hx hby st => XS.ifYes A hx rfl rfl (hb hby hd) rfl ((if0 _ _).trans (teq hc).1) h0 h1 st) (K1 hc)) (fun hc => Wp.lift (fun p e m below c T t A hx hby st => XS.ifNo A hx rfl (hb hby hd) rfl ((if0 _ _).trans (feq hc).1) st) (K2 hc))
theorem Wp.icmp_ne {x z : Int32} {q : Int} (hd : decode bytes pc = .ok (.if_icmp .ne q, 3)) (h0 : 0 ≤ (pc : Int) + q) (h1 : ((pc : Int) + q).toNat = pc1) (hp : pc + 3 = pc') (K1 : ¬ (x = z) → Wp wd l Z a0 EL R y bytes maxL ret hs ws Q h F k n pc1 Ls S) (K2 : x = z → Wp wd l Z a0 EL R y bytes maxL ret hs ws Q h F k n pc' Ls S) : Wp wd l Z a0 EL R y bytes maxL ret hs ws Q h F k n pc Ls (.int z :: .int x :: S) := by
  subst hp
  exact (Classical.em (x = z)).elim (fun hc => Wp.lift (fun p e m below c T t A hx hby st => XS.icmpNo A hx rfl (hb hby hd) rfl (teq hc).2 st) (K2 hc)) (fun hc => Wp.lift (fun p e m below c T t A hx hby st => XS.icmpYes A hx rfl rfl (hb hby hd) rfl (feq hc).2 h0 h1 st) (K1 hc))
theorem Wp.if_ne {x : Int32} {q : Int} (hd : decode bytes pc = .ok (.ifCond .ne q, 3)) (h0 : 0 ≤ (pc : Int) + q) (h1 : ((pc : Int) + q).toNat = pc1) (hp : pc + 3 = pc') (K1 : ¬ (x = (0 : Int32)) → Wp wd l Z a0 EL R y bytes maxL ret hs ws Q h F k n pc1 Ls S) (K2 : x = (0 : Int32) → Wp wd l Z a0 EL R y bytes maxL ret hs ws Q h F k n pc' Ls S) : Wp wd l Z a0 EL R y bytes maxL ret hs ws Q h F k n pc Ls (.int x :: S) := by
  subst hp
  exact (Classical.em (x = (0 : Int32))).elim (fun hc => Wp.lift (fun p e m below c T t A hx hby st => XS.ifNo A hx rfl (hb hby hd) rfl ((if0 _ _).trans (teq hc).2) st) (K2 hc)) (fun hc => Wp.lift (fun p e m below c T t A hx hby st => XS.ifYes A hx rfl rfl (hb hby hd) rfl ((if0 _ _).trans (feq hc).2) h0 h1 st) (K1 hc))
theorem Wp.ifnullYes {q : Int} (hd : decode bytes pc = .ok (.ifnull q, 3)) (h0 : 0 ≤ (pc : Int) + q) (h1 : ((pc : Int) + q).toNat = pc') (K : Wp wd l Z a0 EL R y bytes maxL ret hs ws Q h F k n pc' Ls S) : Wp wd l Z a0 EL R y bytes maxL ret hs ws Q h F k n pc Ls (.null :: S) :=
  Wp.lift (fun p e m below c T t A hx hby st => XS.ifnullYes A hx rfl rfl (hb hby hd) rfl h0 h1 st) K
theorem Wp.ifnullNo {q : Int} (hd : decode bytes pc = .ok (.ifnull q, 3)) (hp : pc + 3 = pc') (K : Wp wd l Z a0 EL R y bytes maxL ret hs ws Q h F k n pc' Ls S) : Wp wd l Z a0 EL R y bytes maxL ret hs ws Q h F k n pc Ls ((.ref a) :: S) := by
  subst hp; exact Wp.lift (fun p e m below c T t A hx hby st => XS.ifnullNo A hx rfl (hb hby hd) rfl st) K
theorem Wp.ifnonnullYes {q : Int} (hd : decode bytes pc = .ok (.ifnonnull q, 3)) (h0 : 0 ≤ (pc : Int) + q) (h1 : ((pc : Int) + q).toNat = pc') (K : Wp wd l Z a0 EL R y bytes maxL ret hs ws Q h F k n pc' Ls S) : Wp wd l Z a0 EL R y bytes maxL ret hs ws Q h F k n pc Ls ((.ref a) :: S) :=
  Wp.lift (fun p e m below c T t A hx hby st => XS.ifnonnullYes A hx rfl rfl (hb hby hd) rfl h0 h1 st) K
theorem Wp.ifnonnullNo {q : Int} (hd : decode bytes pc = .ok (.ifnonnull q, 3)) (hp : pc + 3 = pc') (K : Wp wd l Z a0 EL R y bytes maxL ret hs ws Q h F k n pc' Ls S) : Wp wd l Z a0 EL R y bytes maxL ret hs ws Q h F k n pc Ls (.null :: S) := by
  subst hp; exact Wp.lift (fun p e m below c T t A hx hby st => XS.ifnonnullNo A hx rfl (hb hby hd) rfl st) K
theorem Wp.acmp_eq {q : Int} (hv : v.isRef = true) (hw : w.isRef = true) (hd : decode bytes pc = .ok (.if_acmp .eq q, 3)) (h0 : 0 ≤ (pc : Int) + q) (h1 : ((pc : Int) + q).toNat = pc1) (hp : pc + 3 = pc') (K1 : v = w → Wp wd l Z a0 EL R y bytes maxL ret hs ws Q h F k n pc1 Ls S) (K2 : ¬ v = w → Wp wd l Z a0 EL R y bytes maxL ret hs ws Q h F k n pc' Ls S) : Wp wd l Z a0 EL R y bytes maxL ret hs ws Q h F k n pc Ls (w :: v :: S) := by
  by_cases hc : v = w
  · exact Wp.tab (fun p e s m args below meth c T locs X hx hZ hown hby hml hsh eT hO => ⟨T, X, eT, fun t st => Jvm.RoadKit.acmp (g := mkF m pc Ls (w :: v :: S)) X hx rfl hv hw (same := true) rfl (hb hby hd) rfl (decide_eq_true hc) h0 (by simp [acV]; omega) st⟩) (K1 hc)
  · exact Wp.tab (fun p e s m args below meth c T locs X hx hZ hown hby hml hsh eT hO => ⟨T, X, eT, fun t st => Jvm.RoadKit.acmp (g := mkF m pc Ls (w :: v :: S)) X hx rfl hv hw (same := false) rfl (hb hby hd) rfl (decide_eq_false hc) h0 (by simp [acV]; omega) st⟩) (K2 hc)
theorem Wp.acmp_ne {q : Int} (hv : v.isRef = true) (hw : w.isRef = true) (hd : decode bytes pc = .ok (.if_acmp .ne q, 3)) (h0 : 0 ≤ (pc : Int) + q) (h1 : ((pc : Int) + q).toNat = pc1) (hp : pc + 3 = pc') (K1 : ¬ v = w → Wp wd l Z a0 EL R y bytes maxL ret hs ws Q h F k n pc1 Ls S) (K2 : v = w → Wp wd l Z a0 EL R y bytes maxL ret hs ws Q h F k n pc' Ls S) : Wp wd l Z a0 EL R y bytes maxL ret hs ws Q h F k n pc Ls (w :: v :: S) := by
  by_cases hc : v = w
  · exact Wp.tab (fun p e s m args below meth c T locs X hx hZ hown hby hml hsh eT hO => ⟨T, X, eT, fun t st => Jvm.RoadKit.acmp (g := mkF m pc Ls (w :: v :: S)) X hx rfl hv hw (same := true) rfl (hb hby hd) rfl (decide_eq_true hc) h0 (by simp [acV]; omega) st⟩) (K2 hc)
  · exact Wp.tab (fun p e s m args below meth c T locs X hx hZ hown hby hml hsh eT hO => ⟨T, X, eT, fun t st => Jvm.RoadKit.acmp (g := mkF m pc Ls (w :: v :: S)) X hx rfl hv hw (same := false) rfl (hb hby hd) rfl (decide_eq_false hc) h0 (by simp [acV]; omega) st⟩) (K1 hc)
theorem Wp.getF {own host : String} {index : Nat} (hown0 : y.cls = own) (lk : (Cond.fieldLink own index C nm d).before a0 Z = true ∨ (Cond.fieldLinkNest own index C nm d host).before a0 Z = true) (via : Via Z C O nm d) (Fl : Fld Z h a O nm d v) (hd : decode bytes pc = .ok (.getfield index, 3)) (hp : pc + 3 = pc') (K : Wp wd l Z a0 EL R y bytes maxL ret hs ws Q h F k n pc' Ls (v :: S)) : Wp wd l Z a0 EL R y bytes maxL ret hs ws Q h F k n pc Ls (.ref a :: S) := by
  subst hp hown0
  exact Wp.tab (fun p e s m args below meth c T locs X hx hZ hown hby hml hsh eT hO => Jvm.RoadKit.getF X hx hZ hown lk via eT Fl (g := mkF m pc Ls (.ref a :: S)) rfl rfl (hb hby hd)) K
theorem Wp.getS {own host : String} {index : Nat} (hown0 : y.cls = own) (lk : (Cond.fieldLink own index C nm d).before a0 Z = true ∨ (Cond.fieldLinkNest own index C nm d host).before a0 Z = true) (via : Via Z C O nm d) (Sv : Sta Z Z.heap O nm d v) (hd : decode bytes pc = .ok (.getstatic index, 3)) (hp : pc + 3 = pc') (K : Wp wd l Z a0 EL R y bytes maxL ret hs ws Q h F k n pc' Ls (v :: S)) : Wp wd l Z a0 EL R y bytes maxL ret hs ws Q h F k n pc Ls S := by
  subst hp hown0
  exact Wp.tab (fun p e s m args below meth c T locs X hx hZ hown hby hml hsh eT hO => Jvm.RoadKit.getS2 X hx hZ hown lk via eT (Sv.ext hO) (g := mkF m pc Ls S) rfl (hb hby hd)) K
theorem Wp.castY {own : String} {index : Nat} (hown0 : y.cls = own) (lk : (Cond.classLink own index C).before a0 Z = true) (I : Ins Z h a C true) (hd : decode bytes pc = .ok (.checkcast index, 3)) (hp : pc + 3 = pc') (K : Wp wd l Z a0 EL R y bytes maxL ret hs ws Q h F k n pc' Ls (.ref a :: S)) : Wp wd l Z a0 EL R y bytes maxL ret hs ws Q h F k n pc Ls (.ref a :: S) := by
  subst hp hown0
  exact Wp.tab (fun p e s m args below meth c T locs X hx hZ hown hby hml hsh eT hO => Jvm.RoadKit.castY X hx hZ hown lk eT I (g := mkF m pc Ls (.ref a :: S)) rfl rfl (hb hby hd)) K
theorem Wp.instY {own : String} {index : Nat} (hown0 : y.cls = own) (lk : (Cond.classLink own index C).before a0 Z = true) (I : Ins Z h a C true) (hd : decode bytes pc = .ok (.instanceof index, 3)) (hp : pc + 3 = pc') (K : Wp wd l Z a0 EL R y bytes maxL ret hs ws Q h F k n pc' Ls (.int 1 :: S)) : Wp wd l Z a0 EL R y bytes maxL ret hs ws Q h F k n pc Ls (.ref a :: S) := by
  subst hp hown0
  exact Wp.tab (fun p e s m args below meth c T locs X hx hZ hown hby hml hsh eT hO => Jvm.RoadKit.instY X hx hZ hown lk eT I (g := mkF m pc Ls (.ref a :: S)) rfl rfl (hb hby hd)) K
theorem Wp.instN {own D : String} {index : Nat} (hown0 : y.cls = own) (lk : (Cond.classLink own index C).before a0 Z = true) (I : Ins Z hs a C false) (E : Exa Z hs a D) (hd : decode bytes pc = .ok (.instanceof index, 3)) (hp : pc + 3 = pc') (K : Wp wd l Z a0 EL R y bytes maxL ret hs ws Q h F k n pc' Ls (.int 0 :: S)) : Wp wd l Z a0 EL R y bytes maxL ret hs ws Q h F k n pc Ls (.ref a :: S) := by
  subst hp hown0
  exact Wp.tab (fun p e s m args below meth c T locs X hx hZ hown hby hml hsh eT hO => Jvm.RoadKit.instN X hx hZ hown lk eT (hsh ▸ I) (hsh ▸ E) (g := mkF m pc Ls (.ref a :: S)) rfl rfl (hb hby hd)) K
theorem Wp.instNo {own D : String} {index : Nat} (hown0 : y.cls = own) (lk : (Cond.classLink own index C).before a0 Z = true) (E : Exa Z h a D) (hno : ∃ c t, Z.vm.findClass D = some c ∧ Z.vm.findClass C = some t ∧ Z.vm.assignable c t = false) (hd : decode bytes pc = .ok (.instanceof index, 3)) (hp : pc + 3 = pc') (K : Wp wd l Z a0 EL R y bytes maxL ret hs ws Q h F k n pc' Ls (.int 0 :: S)) : Wp wd l Z a0 EL R y bytes maxL ret hs ws Q h F k n pc Ls (.ref a :: S) := by
  subst hp hown0
  exact Wp.tab (fun p e s m args below meth c T locs X hx hZ hown hby hml hsh eT hO => Jvm.RoadKit.instNo X hx hZ hown lk eT E hno (g := mkF m pc Ls (.ref a :: S)) rfl rfl (hb hby hd)) K
theorem Wp.instNull {index : Nat} (hd : decode bytes pc = .ok (.instanceof index, 3)) (hp : pc + 3 = pc') (K : Wp wd l Z a0 EL R y bytes maxL ret hs ws Q h F k n pc' Ls (.int 0 :: S)) : Wp wd l Z a0 EL R y bytes maxL ret hs ws Q h F k n pc Ls (.null :: S) := by
  subst hp
  exact Wp.tab (fun p e s m args below meth c T locs X hx hZ hown hby hml hsh eT hO => ⟨T, X, eT, fun t st => X.instanceofNull hx (g := mkF m pc Ls (.null :: S)) rfl rfl (hb hby hd) t st⟩) K
theorem Wp.castNull {index : Nat} (hd : decode bytes pc = .ok (.checkcast index, 3)) (hp : pc + 3 = pc') (K : Wp wd l Z a0 EL R y bytes maxL ret hs ws Q h F k n pc' Ls (.null :: S)) : Wp wd l Z a0 EL R y bytes maxL ret hs ws Q h F k n pc Ls (.null :: S) := by
  subst hp
  exact Wp.tab (fun p e s m args below meth c T locs X hx hZ hown hby hml hsh eT hO => ⟨T, X, eT, fun t st => X.checkcastNull hx (g := mkF m pc Ls (.null :: S)) rfl rfl (hb hby hd) t st⟩) K
theorem Wp.initO {own : String} {idx : Nat} {W : Nat} (hown0 : y.cls = own) (w1 : (Cond.methodLink own idx Lib.objectInit).before a0 Z = true) (w2 : (Cond.instanceMethod Lib.objectInit).before a0 Z = true) (w3 : (Cond.code Lib.objectInit ⟨#[0xb1]⟩ 1 none).before a0 Z = true) (hd : decode bytes pc = .ok (.invokespecial idx, 3)) (hp : pc + 3 = pc') (hsz : Ls.size = maxL)
    (hf : 1 ≤ R.frames) (hW : (S.map fun v => v.category).sum ≤ W) (hl : W + 12 ≤ R.locals) (K : Wp wd l Z a0 EL R y bytes maxL ret hs ws Q h F k n pc' Ls S) : Wp wd l Z a0 EL R y bytes maxL ret hs ws Q h F k n pc Ls (.ref a :: S) := by
  subst hp hown0
  exact Wp.tab (fun p e s m args below meth c T locs X hx hZ hown hby hml hsh eT hO => Jvm.RoadKit.initO X hx hZ hown w1 w2 w3 eT (g := mkF m pc Ls (.ref a :: S)) rfl (by rw [hml]; exact hsz) rfl (hb hby hd) hf (W := W) (by show 2 * 0 + _ ≤ _; omega) hl) K
theorem Wp.ldcI {own : String} {index : Nat} {x : Int32} (hown0 : y.cls = own) (wc : (Cond.constant own index x).before a0 Z = true) (hd : decode bytes pc = .ok (.ldc index, 2)) (hp : pc + 2 = pc') (K : Wp wd l Z a0 EL R y bytes maxL ret hs ws Q h F k n pc' Ls (.int x :: S)) : Wp wd l Z a0 EL R y bytes maxL ret hs ws Q h F k n pc Ls S := by
  subst hp hown0
  exact Wp.tab (fun p e s m args below meth c T locs X hx hZ hown hby hml hsh eT hO => ⟨T, X, eT, fun t st => X.ldcInt hx hown (mvT hZ wc) (g := mkF m pc Ls S) rfl (hb hby hd) t st⟩) K
theorem Wp.ldcL {own : String} {index : Nat} {x : Int64} (hown0 : y.cls = own) (wc : (Cond.constantLong own index x).before a0 Z = true) (hd : decode bytes pc = .ok (.ldc2_w index, 3)) (hp : pc + 3 = pc') (K : Wp wd l Z a0 EL R y bytes maxL ret hs ws Q h F k n pc' Ls (.long x :: S)) : Wp wd l Z a0 EL R y bytes maxL ret hs ws Q h F k n pc Ls S := by
  subst hp hown0
  exact Wp.tab (fun p e s m args below meth c T locs X hx hZ hown hby hml hsh eT hO => ⟨T, X, eT, fun t st => X.ldc2Long hx hown (mvT hZ wc) (g := mkF m pc Ls S) rfl (hb hby hd) t st⟩) K
theorem Wp.alen {kA : ClassId} {z : Int32} {vs : List Value} {dv : Value} (V : Arv Z h a kA ty z vs dv) (hd : decode bytes pc = .ok (.arraylength, 1)) (hp : pc + 1 = pc') (K : Wp wd l Z a0 EL R y bytes maxL ret hs ws Q h F k n pc' Ls (.int z :: S)) : Wp wd l Z a0 EL R y bytes maxL ret hs ws Q h F k n pc Ls (.ref a :: S) := by
  subst hp
  obtain ⟨cl, A, -, hz1, hz2, -⟩ := V
  have e1 := len_of hz1 hz2
  exact Wp.tab (fun p e s m args below meth c T locs X hx hZ hown hby hml hsh eT hO => ⟨T, X, eT, fun t st => X.arraylength hx (by rw [eT]; exact A.1) (State.isArrayOf_alike hZ.alike A.2.1) (g := mkF m pc Ls (.ref a :: S)) rfl rfl (hb hby hd) t (by rw [e1]; exact st)⟩) K
theorem Wp.caload {kA : ClassId} {z j : Int32} {vs : List Value} {dv : Value} (V : Arv Z h a kA .char z vs dv) (h1 : ¬ j < 0) (h2 : j < z) (hv : vs.getD j.toNatClampNeg dv = v) (hd : decode bytes pc = .ok (.caload, 1)) (hp : pc + 1 = pc') (K : Wp wd l Z a0 EL R y bytes maxL ret hs ws Q h F k n pc' Ls (v :: S)) : Wp wd l Z a0 EL R y bytes maxL ret hs ws Q h F k n pc Ls (.int j :: .ref a :: S) := by
  subst hp
  obtain ⟨cl, A, -, hz1, hz2, H, -⟩ := V
  have hin := inb_of hz1 ⟨h1, h2⟩
  have hat := H.at hin hv
  exact Wp.tab (fun p e s m args below meth c T locs X hx hZ hown hby hml hsh eT hO => ⟨T, X, eT, fun t st => X.caload hx (by rw [eT]; exact A.1) (State.isArrayOf_alike hZ.alike A.2.1) A.2.2 hin hat (g := mkF m pc Ls (.int j :: .ref a :: S)) rfl rfl (hb hby hd) t st⟩) K
theorem Wp.iaload {kA : ClassId} {z j : Int32} {vs : List Value} {dv : Value} (V : Arv Z h a kA .int z vs dv) (h1 : ¬ j < 0) (h2 : j < z) (hv : vs.getD j.toNatClampNeg dv = v) (hd : decode bytes pc = .ok (.iaload, 1)) (hp : pc + 1 = pc') (K : Wp wd l Z a0 EL R y bytes maxL ret hs ws Q h F k n pc' Ls (v :: S)) : Wp wd l Z a0 EL R y bytes maxL ret hs ws Q h F k n pc Ls (.int j :: .ref a :: S) := by
  subst hp
  obtain ⟨cl, A, -, hz1, hz2, H, -⟩ := V
  have hin := inb_of hz1 ⟨h1, h2⟩
  have hat := H.at hin hv
  exact Wp.tab (fun p e s m args below meth c T locs X hx hZ hown hby hml hsh eT hO => ⟨T, X, eT, fun t st => X.iaload hx (by rw [eT]; exact A.1) (State.isArrayOf_alike hZ.alike A.2.1) A.2.2 hin hat (g := mkF m pc Ls (.int j :: .ref a :: S)) rfl rfl (hb hby hd) t st⟩) K
theorem Wp.laload {kA : ClassId} {z j : Int32} {vs : List Value} {dv : Value} (V : Arv Z h a kA .long z vs dv) (h1 : ¬ j < 0) (h2 : j < z) (hv : vs.getD j.toNatClampNeg dv = v) (hd : decode bytes pc = .ok (.laload, 1)) (hp : pc + 1 = pc') (K : Wp wd l Z a0 EL R y bytes maxL ret hs ws Q h F k n pc' Ls (v :: S)) : Wp wd l Z a0 EL R y bytes maxL ret hs ws Q h F k n pc Ls (.int j :: .ref a :: S) := by
  subst hp
  obtain ⟨cl, A, -, hz1, hz2, H, -⟩ := V
  have hin := inb_of hz1 ⟨h1, h2⟩
  have hat := H.at hin hv
  exact Wp.tab (fun p e s m args below meth c T locs X hx hZ hown hby hml hsh eT hO => ⟨T, X, eT, fun t st => X.laload hx (by rw [eT]; exact A.1) (State.isArrayOf_alike hZ.alike A.2.1) A.2.2 hin hat (g := mkF m pc Ls (.int j :: .ref a :: S)) rfl rfl (hb hby hd) t st⟩) K
theorem Wp.baload {kA : ClassId} {z j : Int32} {vs : List Value} {dv : Value} (V : Arv Z h a kA .byte z vs dv) (h1 : ¬ j < 0) (h2 : j < z) (hv : vs.getD j.toNatClampNeg dv = v) (hd : decode bytes pc = .ok (.baload, 1)) (hp : pc + 1 = pc') (K : Wp wd l Z a0 EL R y bytes maxL ret hs ws Q h F k n pc' Ls (v :: S)) : Wp wd l Z a0 EL R y bytes maxL ret hs ws Q h F k n pc Ls (.int j :: .ref a :: S) := by
  subst hp
  obtain ⟨cl, A, -, hz1, hz2, H, -⟩ := V
  have hin := inb_of hz1 ⟨h1, h2⟩
  have hat := H.at hin hv
  exact Wp.tab (fun p e s m args below meth c T locs X hx hZ hown hby hml hsh eT hO => ⟨T, X, eT, fun t st => X.baloadBytes hx (by rw [eT]; exact A.1) (State.isArrayOf_alike hZ.alike A.2.1) A.2.2 hin hat (g := mkF m pc Ls (.int j :: .ref a :: S)) rfl rfl (hb hby hd) t st⟩) K
theorem Wp.aaload {kA : ClassId} {z j : Int32} {vs : List Value} {dv : Value} (V : Arv Z h a kA ty z vs dv) (hty : ty.isReference = true) (h1 : ¬ j < 0) (h2 : j < z) (hv : vs.getD j.toNatClampNeg dv = v) (hd : decode bytes pc = .ok (.aaload, 1)) (hp : pc + 1 = pc') (K : Wp wd l Z a0 EL R y bytes maxL ret hs ws Q h F k n pc' Ls (v :: S)) : Wp wd l Z a0 EL R y bytes maxL ret hs ws Q h F k n pc Ls (.int j :: .ref a :: S) := by
  subst hp
  obtain ⟨cl, A, -, hz1, hz2, H, -⟩ := V
  have hin := inb_of hz1 ⟨h1, h2⟩
  have hat := H.at hin hv
  exact Wp.tab (fun p e s m args below meth c T locs X hx hZ hown hby hml hsh eT hO => ⟨T, X, eT, fun t st => X.aaload hx (by rw [eT]; exact A.1) (State.isArrayOf_alike hZ.alike A.2.1) hty A.2.2 hin hat (g := mkF m pc Ls (.int j :: .ref a :: S)) rfl rfl (hb hby hd) t st⟩) K
theorem Wp.putF {own host : String} {index kk : Nat} {C0 : String} {old : Value} (hown0 : y.cls = own) (lk : (Cond.fieldLink own index C0 nm d).before a0 Z = true ∨ (Cond.fieldLinkNest own index C0 nm d host).before a0 Z = true) (via : Via Z C0 O nm d) (Fl : Fld Z h a O nm d old) (E : Exa Z h a C)
    (L : (Cond.lays C O nm d).before a0 Z = true ∨ ((Cond.laysFinal C O nm d).before a0 Z = true ∧ own = O ∧ y.name = "<init>")) (wi : (Cond.instantiable C kk).before a0 Z = true) (hty : parseFieldDescriptor d = some ty) (hn : narrow ty v = v) (hf : fits ty v = true) (hd : decode bytes pc = .ok (.putfield index, 3)) (hp : pc + 3 = pc')
    (hw : a ∈ ws ∨ hs.size ≤ a) (sf : Sfe Z EL h F a) (K : ∀ h', Wr h h' a (Jvm.RoadKit.slotOf Z O nm d) v → Fld Z h' a O nm d v → Wp wd l Z a0 EL R y bytes maxL ret hs ws Q h' F k n pc' Ls S) : Wp wd l Z a0 EL R y bytes maxL ret hs ws Q h F k n pc Ls (v :: .ref a :: S) := by
  subst hp hown0
  exact Wp.put hw sf (fun p e s m args below meth c T locs X hx hZ hown hby hnm eT => Jvm.RoadKit.putF X hx hZ hown lk via eT Fl E (L.imp id fun q => ⟨q.1, q.2.1, hnm.trans q.2.2⟩) wi hty hn hf (g := mkF m pc Ls (v :: .ref a :: S)) rfl rfl (hb hby hd)) (fun h' W => K h' W (Fl.same W))
theorem Wp.putFN {own : String} {index kk : Nat} {C0 : String} {old v' : Value} (hown0 : y.cls = own) (lk : (Cond.fieldLink own index C0 nm d).before a0 Z = true) (via : Via Z C0 O nm d) (Fl : Fld Z h a O nm d old) (E : Exa Z h a C)
    (L : (Cond.lays C O nm d).before a0 Z = true ∨ ((Cond.laysFinal C O nm d).before a0 Z = true ∧ own = O ∧ y.name = "<init>")) (wi : (Cond.instantiable C kk).before a0 Z = true) (hty : parseFieldDescriptor d = some ty) (hn : narrow ty v = v') (hf : fits ty v' = true) (hd : decode bytes pc = .ok (.putfield index, 3)) (hp : pc + 3 = pc')
    (hw : a ∈ ws ∨ hs.size ≤ a) (sf : Sfe Z EL h F a) (K : ∀ h', Wr h h' a (Jvm.RoadKit.slotOf Z O nm d) v' → Fld Z h' a O nm d v' → Wp wd l Z a0 EL R y bytes maxL ret hs ws Q h' F k n pc' Ls S) : Wp wd l Z a0 EL R y bytes maxL ret hs ws Q h F k n pc Ls (v :: .ref a :: S) := by
  subst hp hown0
  exact Wp.put hw sf (fun p e s m args below meth c T locs X hx hZ hown hby hnm eT => Jvm.RoadKit.putFN X hx hZ hown lk via eT Fl E (L.imp id fun q => ⟨q.1, q.2.1, hnm.trans q.2.2⟩) wi hty hn hf (g := mkF m pc Ls (v :: .ref a :: S)) rfl rfl (hb hby hd)) (fun h' W => K h' W (Fl.same W))
theorem Wp.castore {kA : ClassId} {z j x : Int32} {vs : List Value} {dv : Value} {i : Nat} (V : Arv Z h a kA .char z vs dv) (h1 : ¬ j < 0) (h2 : j < z) (hj : j.toNatClampNeg = i) (hi : i < vs.length) (hd : decode bytes pc = .ok (.castore, 1)) (hp : pc + 1 = pc')
    (hw : a ∈ ws ∨ hs.size ≤ a) (K : ∀ h', Wr h h' a j.toNatClampNeg (.int (nar .char x)) → Arv Z h' a kA .char z (vs.set i (.int (nar .char x))) dv → Wp wd l Z a0 EL R y bytes maxL ret hs ws Q h' F k n pc' Ls S) : Wp wd l Z a0 EL R y bytes maxL ret hs ws Q h F k n pc Ls (.int x :: .int j :: .ref a :: S) := by
  subst hp
  obtain ⟨cl, A, hz0, hz1, hz2, H, G⟩ := V
  have hin := inb_of hz1 ⟨h1, h2⟩
  exact Wp.put hw (Sfe.arr A (by decide)) (fun p e s m args below meth c T locs X hx hZ hown hby hnm eT => Jvm.RoadKit.stC X hx hZ eT A hin (g := mkF m pc Ls (.int x :: .int j :: .ref a :: S)) rfl rfl (hb hby hd)) (fun h' W => K h' W (Arv.set A hz0 hz1 hz2 H G (fits_nar_char _) W i hj hi))
theorem Wp.bastore {kA : ClassId} {z j x : Int32} {vs : List Value} {dv : Value} {i : Nat} (V : Arv Z h a kA .byte z vs dv) (h1 : ¬ j < 0) (h2 : j < z) (hj : j.toNatClampNeg = i) (hi : i < vs.length) (hd : decode bytes pc = .ok (.bastore, 1)) (hp : pc + 1 = pc')
    (hw : a ∈ ws ∨ hs.size ≤ a) (sf : Sfe Z EL h F a) (K : ∀ h', Wr h h' a j.toNatClampNeg (.int (nar .byte x)) → Arv Z h' a kA .byte z (vs.set i (.int (nar .byte x))) dv → Wp wd l Z a0 EL R y bytes maxL ret hs ws Q h' F k n pc' Ls S) : Wp wd l Z a0 EL R y bytes maxL ret hs ws Q h F k n pc Ls (.int x :: .int j :: .ref a :: S) := by
  subst hp
  obtain ⟨cl, A, hz0, hz1, hz2, H, G⟩ := V
  have hin := inb_of hz1 ⟨h1, h2⟩
  exact Wp.put hw sf (fun p e s m args below meth c T locs X hx hZ hown hby hnm eT => Jvm.RoadKit.stB X hx hZ eT A hin (g := mkF m pc Ls (.int x :: .int j :: .ref a :: S)) rfl rfl (hb hby hd)) (fun h' W => K h' W (Arv.set A hz0 hz1 hz2 H G (fits_nar_byte _) W i hj hi))
theorem Wp.iastore {kA : ClassId} {z j x : Int32} {vs : List Value} {dv : Value} {i : Nat} (V : Arv Z h a kA .int z vs dv) (h1 : ¬ j < 0) (h2 : j < z) (hj : j.toNatClampNeg = i) (hi : i < vs.length) (hd : decode bytes pc = .ok (.iastore, 1)) (hp : pc + 1 = pc')
    (hw : a ∈ ws ∨ hs.size ≤ a) (K : ∀ h', Wr h h' a j.toNatClampNeg (.int x) → Arv Z h' a kA .int z (vs.set i (.int x)) dv → Wp wd l Z a0 EL R y bytes maxL ret hs ws Q h' F k n pc' Ls S) : Wp wd l Z a0 EL R y bytes maxL ret hs ws Q h F k n pc Ls (.int x :: .int j :: .ref a :: S) := by
  subst hp
  obtain ⟨cl, A, hz0, hz1, hz2, H, G⟩ := V
  have hin := inb_of hz1 ⟨h1, h2⟩
  exact Wp.put hw (Sfe.arr A (by decide)) (fun p e s m args below meth c T locs X hx hZ hown hby hnm eT => Jvm.RoadKit.stI X hx hZ eT A hin (g := mkF m pc Ls (.int x :: .int j :: .ref a :: S)) rfl rfl (hb hby hd)) (fun h' W => K h' W (Arv.set A hz0 hz1 hz2 H G rfl W i hj hi))
theorem Wp.lastore {kA : ClassId} {z j : Int32} {x : Int64} {vs : List Value} {dv : Value} {i : Nat} (V : Arv Z h a kA .long z vs dv) (h1 : ¬ j < 0) (h2 : j < z) (hj : j.toNatClampNeg = i) (hi : i < vs.length) (hd : decode bytes pc = .ok (.lastore, 1)) (hp : pc + 1 = pc')
    (hw : a ∈ ws ∨ hs.size ≤ a) (K : ∀ h', Wr h h' a j.toNatClampNeg (.long x) → Arv Z h' a kA .long z (vs.set i (.long x)) dv → Wp wd l Z a0 EL R y bytes maxL ret hs ws Q h' F k n pc' Ls S) : Wp wd l Z a0 EL R y bytes maxL ret hs ws Q h F k n pc Ls (.long x :: .int j :: .ref a :: S) := by
  subst hp
  obtain ⟨cl, A, hz0, hz1, hz2, H, G⟩ := V
  have hin := inb_of hz1 ⟨h1, h2⟩
  exact Wp.put hw (Sfe.arr A (by decide)) (fun p e s m args below meth c T locs X hx hZ hown hby hnm eT => Jvm.RoadKit.stJ X hx hZ eT A hin (g := mkF m pc Ls (.long x :: .int j :: .ref a :: S)) rfl rfl (hb hby hd)) (fun h' W => K h' W (Arv.set A hz0 hz1 hz2 H G rfl W i hj hi))
theorem Wp.aastore {kA : ClassId} {z j : Int32} {vs : List Value} {dv : Value} {i : Nat} (V : Arv Z h a kA ty z vs dv) (hty : ty.isReference = true) (hby0 : ty ≠ .byte) (hfit : fits ty v = true) (St : v = .null ∨ ∃ D y', v = .ref y' ∧ Ovr Z kA D ∧ Ins Z h y' D true) (h1 : ¬ j < 0) (h2 : j < z) (hj : j.toNatClampNeg = i) (hi : i < vs.length) (hd : decode bytes pc = .ok (.aastore, 1)) (hp : pc + 1 = pc')
    (hw : a ∈ ws ∨ hs.size ≤ a) (K : ∀ h', Wr h h' a j.toNatClampNeg v → Arv Z h' a kA ty z (vs.set i v) dv → Wp wd l Z a0 EL R y bytes maxL ret hs ws Q h' F k n pc' Ls S) : Wp wd l Z a0 EL R y bytes maxL ret hs ws Q h F k n pc Ls (v :: .int j :: .ref a :: S) := by
  subst hp
  obtain ⟨cl, A, hz0, hz1, hz2, H, G⟩ := V
  have hin := inb_of hz1 ⟨h1, h2⟩
  have hSt : Sto Z h a v := by
    rcases St with rfl | ⟨D, y', rfl, Ov, I⟩
    · exact Or.inl rfl
    · exact Sto.ofV A hz0 Ov I
  exact Wp.put hw (Sfe.arr A hby0) (fun p e s m args below meth c T locs X hx hZ hown hby hnm eT => Jvm.RoadKit.stR X hx hZ eT A hin hty hSt (g := mkF m pc Ls (v :: .int j :: .ref a :: S)) rfl rfl (hb hby hd)) (fun h' W => K h' W (Arv.set A hz0 hz1 hz2 H G hfit W i hj hi))
theorem Wp.new {own : String} {index : Nat} (hown0 : y.cls = own) (lk : (Cond.classLink own index C).before a0 Z = true) (wi : (Cond.instantiable C sl).before a0 Z = true) (wz : (Cond.initialized C).before a0 Z = true) (hd : decode bytes pc = .ok (.new index, 3)) (hp : pc + 3 = pc') (hk : k + 1 = k') (hn : n + sl = n') (hk' : k' ≤ R.cells) (hn' : n' ≤ R.slots)
    (K : ∀ h' b, b = h.size → hs.size ≤ b → Ext h h' → Exa Z h' b C → (∀ {O nm d : String} {ty : FieldType}, Laid Z a0 C O nm d → parseFieldDescriptor d = some ty → Fld Z h' b O nm d (defaultValue ty)) → Wp wd l Z a0 EL R y bytes maxL ret hs ws Q h' (b :: F) k' n' pc' Ls (.ref b :: S)) : Wp wd l Z a0 EL R y bytes maxL ret hs ws Q h F k n pc Ls S := by
  subst hp hown0 hk hn
  exact Wp.mk (fun h' => Exa Z h' h.size C ∧ ∀ {O nm d : String} {ty : FieldType}, Laid Z a0 C O nm d → parseFieldDescriptor d = some ty → Fld Z h' h.size O nm d (defaultValue ty)) (fun h' q => q.1.lt)
    (fun p e s m args below meth c T locs X hx hZ hown hby eT => by obtain ⟨T', h', X', e', E, A, D, -, st⟩ := Jvm.RoadKit.newO X hx hZ hown lk wi wz eT (g := mkF m pc Ls S) rfl (hb hby hd) hk' hn'; exact ⟨T', h', X', e', E, ⟨A, D⟩, st⟩) (fun h' z E q => K h' _ rfl z E q.1 q.2)
theorem Wp.newP {aty : ArrayType} {z : Int32} {cap : Nat} (wa : (Cond.arrayClass (newarray.typeOf aty)).before a0 Z = true) (hz : ¬ z < 0) (hcap : z.toNatClampNeg ≤ cap) (hb8 : cap * 8 ≤ 536870912) (hd : decode bytes pc = .ok (.newarray aty, 2)) (hp : pc + 2 = pc') (hk : k + 1 = k') (hn : n + cap = n') (hk' : k' ≤ R.cells) (hn' : n' ≤ R.slots)
    (K : ∀ h' b kA, b = h.size → hs.size ≤ b → Ext h h' → Arv Z h' b kA (newarray.typeOf aty) z [] (defaultValue (newarray.typeOf aty)) → Wp wd l Z a0 EL R y bytes maxL ret hs ws Q h' (b :: F) k' n' pc' Ls (.ref b :: S)) : Wp wd l Z a0 EL R y bytes maxL ret hs ws Q h F k n pc Ls (.int z :: S) := by
  subst hp hk hn
  exact Wp.mk (fun h' => ∃ kA, Arv Z h' h.size kA (newarray.typeOf aty) z [] (defaultValue (newarray.typeOf aty))) (fun h' q => q.elim fun _ A => A.lt)
    (fun p e s m args below meth c T locs X hx hZ hown hby eT => by obtain ⟨T', h', kA, X', e', E, A, st⟩ := Jvm.RoadKit.newP X hx hZ wa eT (g := mkF m pc Ls (.int z :: S)) rfl (hb hby hd) rfl hz hcap hb8 hk' hn'; exact ⟨T', h', X', e', E, ⟨kA, Arv.new A hz⟩, st⟩) (fun h' z E q => q.elim fun kA A => K h' _ kA rfl z E A)
theorem Wp.newR {own : String} {index : Nat} {z : Int32} {cap : Nat} (hown0 : y.cls = own) (lk : (Cond.classLink own index C).before a0 Z = true) (wa : (Cond.arrayOver (.object C)).before a0 Z = true) (hz : ¬ z < 0) (hcap : z.toNatClampNeg ≤ cap) (hb8 : cap * 8 ≤ 536870912) (hd : decode bytes pc = .ok (.anewarray index, 3)) (hp : pc + 3 = pc') (hk : k + 1 = k') (hn : n + cap = n') (hk' : k' ≤ R.cells) (hn' : n' ≤ R.slots)
    (K : ∀ h' b kA, b = h.size → hs.size ≤ b → Ext h h' → Arv Z h' b kA (.object C) z [] .null → Ovr Z kA C → Wp wd l Z a0 EL R y bytes maxL ret hs ws Q h' (b :: F) k' n' pc' Ls (.ref b :: S)) : Wp wd l Z a0 EL R y bytes maxL ret hs ws Q h F k n pc Ls (.int z :: S) := by
  subst hp hk hn hown0
  exact Wp.mk (fun h' => ∃ kA, Arv Z h' h.size kA (.object C) z [] .null ∧ Ovr Z kA C) (fun h' q => q.elim fun _ A => A.1.lt)
    (fun p e s m args below meth c T locs X hx hZ hown hby eT => by obtain ⟨T', h', kA, X', e', E, A, Ov, st⟩ := Jvm.RoadKit.newR X hx hZ hown lk wa eT (g := mkF m pc Ls (.int z :: S)) rfl (hb hby hd) rfl hz hcap hb8 hk' hn'; exact ⟨T', h', X', e', E, ⟨kA, Arv.new A hz, Ov⟩, st⟩) (fun h' z E q => q.elim fun kA A => K h' _ kA rfl z E A.1 A.2)
theorem Wp.retn (hr : ret = none) (hd : decode bytes pc = .ok (.return_, 1)) (hk : k ≤ R.cells) (hn : n ≤ R.slots) (hQ : Q none h) : Wp wd l Z a0 EL R y bytes maxL ret hs ws Q h F k n pc Ls [] :=
  Wp.leave hk hn (fun _ => rfl) hQ (fun p e s m args below meth c T locs fs X hx hby hret hl => X.returnOut hx (hret.trans hr) (hb hby hd) hl)
theorem Wp.retN {t : FieldType} {x x' : Int32} (hr : ret = some t) (ht : t = .boolean ∨ t = .byte ∨ t = .char ∨ t = .short) (hx' : nar t x = x') (hd : decode bytes pc = .ok (.ireturn, 1)) (hk : k ≤ R.cells) (hn : n ≤ R.slots) (hQ : Q (some (.int x')) h) : Wp wd l Z a0 EL R y bytes maxL ret hs ws Q h F k n pc Ls (.int x :: S) := by
  subst hx'
  exact Wp.leave hk hn (fun q => by rw [hr] at q; cases q) hQ (fun p e s m args below meth c T locs fs X hx hby hret hl => Jvm.RoadKit.retN X hx (hret.trans hr) ht (hb hby hd) hl)
theorem Wp.retV {i : Instr} {t : FieldType} (hr : ret = some t) (hn' : narrow t v = v) (hi : (i = .ireturn ∧ (t = .int ∨ t = .boolean ∨ t = .byte ∨ t = .char ∨ t = .short) ∧ ∃ z, v = .int z) ∨ (i = .lreturn ∧ t = .long ∧ ∃ z, v = .long z) ∨ (i = .dreturn ∧ t = .double ∧ ∃ z, v = .double z) ∨ (i = .freturn ∧ t = .float ∧ ∃ z, v = .float z) ∨ (i = .areturn ∧ t.isReference = true ∧ v.isRef = true))
    (hd : decode bytes pc = .ok (i, 1)) (hk : k ≤ R.cells) (hn : n ≤ R.slots) (hQ : Q (some v) h) : Wp wd l Z a0 EL R y bytes maxL ret hs ws Q h F k n pc Ls (v :: S) :=
  Wp.leave hk hn (fun q => by rw [hr] at q; cases q) hQ (fun p e s m args below meth c T locs fs X hx hby hret hl => Jvm.RoadKit.retOut X hx (hret.trans hr) hn' hi (hb hby hd) hl)
theorem Wp.retI {x : Int32} (hr : ret = some .int) (hd : decode bytes pc = .ok (.ireturn, 1)) (hk : k ≤ R.cells) (hn : n ≤ R.slots) (hQ : Q (some (.int x)) h) : Wp wd l Z a0 EL R y bytes maxL ret hs ws Q h F k n pc Ls (.int x :: S) :=
  Wp.retV hr rfl (Or.inl ⟨rfl, Or.inl rfl, _, rfl⟩) hd hk hn hQ
theorem Wp.retL {x : Int64} (hr : ret = some .long) (hd : decode bytes pc = .ok (.lreturn, 1)) (hk : k ≤ R.cells) (hn : n ≤ R.slots) (hQ : Q (some (.long x)) h) : Wp wd l Z a0 EL R y bytes maxL ret hs ws Q h F k n pc Ls (.long x :: S) :=
  Wp.retV hr rfl (Or.inr (Or.inl ⟨rfl, rfl, _, rfl⟩)) hd hk hn hQ
theorem Wp.retA {t : FieldType} (hr : ret = some t) (ht : t.isReference = true) (hv : v.isRef = true) (hd : decode bytes pc = .ok (.areturn, 1)) (hk : k ≤ R.cells) (hn : n ≤ R.slots) (hQ : Q (some v) h) : Wp wd l Z a0 EL R y bytes maxL ret hs ws Q h F k n pc Ls (v :: S) :=
  Wp.retV hr (by cases t <;> first | rfl | cases ht) (Or.inr (Or.inr (Or.inr (Or.inr ⟨rfl, ht, hv⟩)))) hd hk hn hQ
end Rules
end Jvm.Own
namespace Jvm.Own
open Sem ClassFile Op Lib Jvm.Stand Jvm.Free Jvm.LawKit Jvm.RoadKit
section Calls
variable {wd : Bool} {l : Launch} {Z : State} {EL : List (String × Nat)} {R : Room} {y : MethodName} {bytes : ByteArray} {maxL : Nat} {ret : Option FieldType} {hs : Heap} {ws : List Addr} {Q : Option Value → Heap → Prop} {h h' : Heap} {F F' : List Addr} {k n k' n' pc pc' pc1 : Nat} {Ls Ls' : Array Slot} {S S' : List Value}
variable {a0 : Array Value} {a b : Addr} {C O nm d : String} {v w : Value} {sl : Nat} {cl : Cell} {ty : FieldType}
variable {y' : MethodName} {bytes' : ByteArray} {maxL' : Nat} {ret' : Option FieldType} {rm : Room} {as : Array Value} {Fc wc : List Addr} {Qc : Option Value → Heap → Prop}
theorem mvMN {s : State} {args : Array Value} {own host : String} {idx : Nat} (hZ : Z.Warmed39 s.vm) (w : (Cond.methodLinkNest own idx y' host).before a0 Z = true) : (Cond.methodLinkNest own idx y' host).before args s = true := (Cond.methodLinkNest_wide hZ w :)
/-- a body's contract, from its walk -/
theorem Ct.of_wp {cw : List Cond} (hpl : plainFor y = true) (hE : EW Z a0 EL) (hO : Ext Z.heap h) (hws : ∀ x ∈ ws, Z.heap.size ≤ x) (hef : ∀ m, entryFrame m as maxL = mkF m 0 Ls []) (K : Wp wd l Z a0 EL rm y bytes maxL ret h ws Q h F 0 0 0 Ls []) : Ct wd l Z EL cw y bytes maxL ret rm as h F ws Q := by
  refine MetFree.of_bodySF (code := bytes) (maxLocals := maxL) (ret := ret) hpl hisR ?_
  intro p e s m args below meth c s₁ Bd hml0 hP hK
  obtain ⟨rfl, hZ, rfl, hC, hF⟩ := hP
  have e0 : s₁.heap = s.heap := by rw [Bd.state]; rfl
  obtain ⟨v, t, h1, h2, h3, L, r1, r2, r3, r4⟩ := K p e s m args below meth c s.vm s.heap.size s₁ [] ⟨⟨hE, Bd.exec, Bd.bytes, hml0, Bd.returns, (name_of_methodNamed Bd.named Bd.method).1, Bd.notSynchronized⟩, ⟨rfl, hws, hO.1, (fun _ q => nomatch q), hO⟩, ⟨findClass_of_methodNamed Bd.named, (State.WarmedH.refl s).since _, Nat.le_refl _, fun _ => State.WarmedH.refl s, hZ, CHr.refl hC, hF⟩, Stand.of_body Bd, e0⟩
  exact ⟨t, _, castTop (hef m) h1, h2, h3, v, L, rfl, ⟨r1, r2⟩, r3, r4⟩
/-- a contract pays a call -/
theorem Ct.pays {p : Program} {e : Env} {below : List Frame} {s : State} {args : Array Value} {vm0 : Vm} {len W : Nat} (hM : Ct wd l Z EL [] y' bytes' maxL' ret' rm as h Fc wc Qc) (hE : EW Z a0 EL) (hZ : Z.Warmed39 vm0) (wcode : (Cond.code y' bytes' maxL' ret').before a0 Z = true) (wz : (Cond.initialized y'.cls).before a0 Z = true) (hf : rm.frames + 1 ≤ R.frames) (hl : W + (maxL' + 11) + rm.locals ≤ R.locals) (H : CHv Z EL vm0 h) (HF : Sf Z EL vm0 h Fc) :
    BackS l R p e below (s.setVm vm0) args y' len W (fun A a => a = as ∧ A.U.heap = h ∧ A.cells + rm.cells ≤ R.cells ∧ A.slots + rm.slots ≤ R.slots)
      (fun A _ v B => ∃ L, (Wh h wc L ∧ Qc v B.U.heap) ∧ B.locs = A.locs ++ L ∧ B.cells = A.cells + rm.cells ∧ B.slots = A.slots + rm.slots ∧ CHr Z EL vm0 h B.U.vm B.U.heap ∧ Keep h B.U.heap wc ∧ (wd = false → (s.setVm vm0).WarmedH B.U.vm)) :=
  BackS.of_freeW (bytes := bytes') (maxL := maxL') (ret := ret') (E := fun _ first o t L k n => k = rm.cells ∧ n = rm.slots ∧ (∃ v, o = .returned v ∧ Wh first.heap wc L ∧ Qc v t.heap) ∧ CHr Z EL first.vm first.heap t.vm t.heap ∧ Keep first.heap t.heap wc ∧ (wd = false → first.WarmedH t.vm)) hM hf hl
    (fun m meth c A a Y hp => have hU : Z.Warmed39 A.U.vm := wtrans (s := s.setVm vm0) hZ Y.warmed
      ⟨by show (Cond.and _ .tt).before a A.U = true; rw [Cond.before_and, mv hU wcode]; rfl, mv hU wcode, mv hU wz, hp.2.2.1, hp.2.2.2⟩)
    (fun m meth c A a g mk Y hp => ⟨hp.1, wtrans (s := s.setVm vm0) hZ Y.warmed, hp.2.1, (CHv.at Y hZ hE H).1, fun x hx => ⟨(HF x hx).1, CHr.safe (CHv.at Y hZ hE H) (HF x hx).1 (HF x hx).2⟩⟩) (fun _ _ _ _ _ _ _ _ _ => trivial)
    (fun _ first _ t ⟨v, L, h1, h2, h3, h4⟩ => ⟨L, _, _, h4.1, rfl, rfl, ⟨v, h1, h2⟩, h3, (show Keep first.heap t.heap wc from keep_of (T := ({ t with vm := first.vm } : State)) h4.1.2.2.2 h2.1), h4.2⟩)
    (fun m meth c A a g mk v t L k n Y hp _ _ ⟨e1, e2, ⟨v', e3, e4, e5⟩, e6, e7, e8⟩ => by
      cases e3; subst e1 e2
      have eh : (A.U.calling g mk a).heap = h := hp.2.1
      rw [eh] at e4 e6 e7
      exact ⟨L, ⟨e4, e5⟩, rfl, rfl, rfl, (CHv.at Y hZ hE H).trans e6, e7, fun z => State.WarmedH.trans (t := A.U) Y.warmed (e8 z)⟩)
/-- a call, whatever its kind -/
theorem Wp.call {len W : Nat} {rest : List Value} (Cc : Ct wd l Z EL [] y' bytes' maxL' ret' rm as h Fc wc Qc) (wcode : (Cond.code y' bytes' maxL' ret').before a0 Z = true) (wz : (Cond.initialized y'.cls).before a0 Z = true) (hFc : ∀ x ∈ Fc, x ∈ F) (hwc : ∀ x ∈ wc, x ∈ ws ∨ hs.size ≤ x) (hf : rm.frames + 1 ≤ R.frames) (hl : W + (maxL' + 11) + rm.locals ≤ R.locals) (hk : k + rm.cells = k') (hn : n + rm.slots = n') (hk' : k' ≤ R.cells) (hn' : n' ≤ R.slots)
    (law : ∀ (p : Program) (e : Env) (s : State) (m : MethodId) (args : Array Value) (below : List Frame) (meth : Method) (c : Code) (T : State) (locs : List Loc) (Pre : Pt → Array Value → Prop) (Post : Pt → Array Value → Option Value → Pt → Prop), Stand p l e R s m args below meth c T locs k n → p.tables.exec = Jvm.exec → Z.Warmed39 s.vm → s.vm.findClass y.cls = some m.cls → c.code = bytes → c.maxLocals = maxL → T.heap = h →
      BackS l R p e below s args y' len W Pre Post → (∀ vm₁, s.WarmedH vm₁ → Pre ⟨T.setVm vm₁, locs, k, n⟩ as) →
      ∃ (v : Option Value) (vm₁ : Vm) (B : Pt), s.WarmedH vm₁ ∧ Stand p l e R (s.setVm B.U.vm) m args below meth c B.U B.locs B.cells B.slots ∧ s.Since B.U.vm B.U.heap.size ∧ T.heap.size ≤ B.U.heap.size ∧ Post ⟨T.setVm vm₁, locs, k, n⟩ as v B ∧
        Steps p.tables e below (T.setTop (mkF m pc Ls S)) (B.U.setTop (mkF m pc' Ls (v.toList ++ rest))))
    (K : ∀ v h', hs.size ≤ h.size → Keep h h' wc → Qc v h' → Wp wd l Z a0 EL R y bytes maxL ret hs ws Q h' F k' n' pc' Ls (v.toList ++ rest)) : Wp wd l Z a0 EL R y bytes maxL ret hs ws Q h F k n pc Ls S := fun p e s m args below meth c vm0 k0 T locs I => by
  obtain ⟨⟨i1, i2, i3, i4, i5⟩, ⟨q1, q2, q3, q4, q5⟩, ⟨j1, j2, j3, j4, j5, j6, j7⟩, X, eT⟩ := I
  subst hk hn
  obtain ⟨v, vm₁, ⟨U, L', kk, nn⟩, hW₁, X', hS', hgr, ⟨L, ⟨c1, c2⟩, c3, c4, c5, c6, c7, c8⟩, st⟩ := law p e (s.setVm vm0) m args below meth c T locs _ _ X i2 j5 j1 i3 i4 eT (Ct.pays Cc i1 j5 wcode wz hf hl j6.1 fun x hx => j7 x (hFc x hx)) (fun _ _ => ⟨rfl, eT, hk', hn'⟩)
  dsimp only [Pt.U, Pt.locs, Pt.cells, Pt.slots] at X' hS' hgr c2 c3 c4 c5 c6 c7 c8 st
  subst c3 c4 c5
  have hhs : hs.size ≤ h.size := j6.2.1
  have hSin : s.Since U.vm U.heap.size := j2.trans hS' (Nat.le_trans j3 (by rw [← eT]; exact hgr))
  refine (K v U.heap hhs c7 c2 p e s m args below meth c U.vm U.heap.size U _ ⟨⟨i1, i2, i3, i4, i5⟩, ⟨q1, q2, q3, fun z hz => ?_, ext_keep q5 c7 fun x hx => (hwc x hx).elim (q2 x) (Nat.le_trans q3)⟩, ⟨(hS'.1.alike.findClass _ _).trans j1, hSin, Nat.le_refl _, fun z => State.WarmedH.trans (t := s.setVm vm0) (j4 z) (c8 z), State.Warmed39.trans (t := s.setVm vm0) j5 hS'.1, j6.trans c6, fun x hx => ⟨Nat.lt_of_lt_of_le (j7 x hx).1 c7.1, CHr.safe c6 (j7 x hx).1 (j7 x hx).2⟩⟩, X', rfl⟩).back fun t => st.trans
  rcases List.mem_append.mp hz with hz | hz
  · exact q4 z hz
  · rcases c1 z hz with q | q
    · exact hwc _ q
    · exact Or.inr (Nat.le_trans hhs q)

theorem Wp.callS {own : String} {idx W : Nat} {argsL rest : List Value} (hown0 : y.cls = own) (Cc : Ct wd l Z EL [] y' bytes' maxL' ret' rm as h Fc wc Qc) (wl : (Cond.methodLink own idx y').before a0 Z = true) (wst : (Cond.static y').before a0 Z = true) (wcode : (Cond.code y' bytes' maxL' ret').before a0 Z = true) (wz : (Cond.initialized y'.cls).before a0 Z = true) (hy : y'.cls ≠ "java/lang/invoke/MethodHandle" ∧ y'.cls ≠ "java/lang/invoke/VarHandle") (hlen : ∀ sig, parseMethodDescriptor y'.desc = some sig → argsL.length = sig.parameters.length) (hd : decode bytes pc = .ok (.invokestatic idx, 3))
    (hsz : Ls.size = maxL) (hst : S = argsL.reverse ++ rest) (has : argsL.toArray = as) (hW : (rest.map fun v => v.category).sum ≤ W) (hp : pc + 3 = pc') (hFc : ∀ x ∈ Fc, x ∈ F) (hwc : ∀ x ∈ wc, x ∈ ws ∨ hs.size ≤ x) (hf : rm.frames + 1 ≤ R.frames) (hl : W + (maxL' + 11) + rm.locals ≤ R.locals) (hk : k + rm.cells = k') (hn : n + rm.slots = n') (hk' : k' ≤ R.cells) (hn' : n' ≤ R.slots)
    (K : ∀ v h', hs.size ≤ h.size → Keep h h' wc → Qc v h' → Wp wd l Z a0 EL R y bytes maxL ret hs ws Q h' F k' n' pc' Ls (v.toList ++ rest)) : Wp wd l Z a0 EL R y bytes maxL ret hs ws Q h F k n pc Ls S := by
  subst hown0 hst has hp
  exact Wp.call Cc wcode wz hFc hwc hf hl hk hn hk' hn' (fun p e s m args below meth c T locs Pre Post X hx hZ hown hby hml eT hK hpre => callSS X hx hown (mvT hZ wl) (mvT hZ wst) (mvT hZ wz) (mvT hZ wcode) hy hK (g := mkF m pc Ls (argsL.reverse ++ rest)) rfl (by rw [hml]; exact hsz) hlen rfl (by show 2 * 0 + _ ≤ _; omega) (hb hby hd) hpre) K
theorem Wp.callI {own : String} {idx W : Nat} {argsL rest : List Value} (hown0 : y.cls = own) (Cc : Ct wd l Z EL [] y' bytes' maxL' ret' rm as h Fc wc Qc) (hy1 : y'.name = "<init>") (hr' : ret' = none) (wl : (Cond.methodLink own idx y').before a0 Z = true) (wi : (Cond.instanceMethod y').before a0 Z = true) (wcode : (Cond.code y' bytes' maxL' ret').before a0 Z = true) (wz : (Cond.initialized y'.cls).before a0 Z = true) (hy : y'.cls ≠ "java/lang/invoke/MethodHandle" ∧ y'.cls ≠ "java/lang/invoke/VarHandle") (hlen : ∀ sig, parseMethodDescriptor y'.desc = some sig → argsL.length = sig.parameters.length) (hd : decode bytes pc = .ok (.invokespecial idx, 3))
    (hsz : Ls.size = maxL) (hst : S = argsL.reverse ++ .ref a :: rest) (has : (Value.ref a :: argsL).toArray = as) (hW : (rest.map fun v => v.category).sum ≤ W) (hp : pc + 3 = pc') (hFc : ∀ x ∈ Fc, x ∈ F) (hwc : ∀ x ∈ wc, x ∈ ws ∨ hs.size ≤ x) (hf : rm.frames + 1 ≤ R.frames) (hl : W + (maxL' + 11) + rm.locals ≤ R.locals) (hk : k + rm.cells = k') (hn : n + rm.slots = n') (hk' : k' ≤ R.cells) (hn' : n' ≤ R.slots)
    (K : ∀ v h', hs.size ≤ h.size → Keep h h' wc → Qc v h' → Wp wd l Z a0 EL R y bytes maxL ret hs ws Q h' F k' n' pc' Ls (v.toList ++ rest)) : Wp wd l Z a0 EL R y bytes maxL ret hs ws Q h F k n pc Ls S := by
  subst hown0 hst has hp hr'
  exact Wp.call Cc wcode wz hFc hwc hf hl hk hn hk' hn' (fun p e s m args below meth c T locs Pre Post X hx hZ hown hby hml eT hK hpre => X.specialBackS hx hy1 hown (mvT hZ wl) (mvT hZ wi) (mvT hZ wcode) hy hK (g := mkF m pc Ls (argsL.reverse ++ .ref a :: rest)) rfl (by rw [hml]; exact hsz) (Steps.refl _) hlen rfl (by show 2 * 0 + _ ≤ _; omega) (hb hby hd) hpre) K
theorem Wp.callIN {host : String} {own : String} {idx W : Nat} {argsL rest : List Value} (hown0 : y.cls = own) (Cc : Ct wd l Z EL [] y' bytes' maxL' ret' rm as h Fc wc Qc) (hy1 : y'.name = "<init>") (hr' : ret' = none) (wl : (Cond.methodLinkNest own idx y' host).before a0 Z = true) (wi : (Cond.instanceMethod y').before a0 Z = true) (wcode : (Cond.code y' bytes' maxL' ret').before a0 Z = true) (wz : (Cond.initialized y'.cls).before a0 Z = true) (hy : y'.cls ≠ "java/lang/invoke/MethodHandle" ∧ y'.cls ≠ "java/lang/invoke/VarHandle") (hlen : ∀ sig, parseMethodDescriptor y'.desc = some sig → argsL.length = sig.parameters.length) (hd : decode bytes pc = .ok (.invokespecial idx, 3))
    (hsz : Ls.size = maxL) (hst : S = argsL.reverse ++ .ref a :: rest) (has : (Value.ref a :: argsL).toArray = as) (hW : (rest.map fun v => v.category).sum ≤ W) (hp : pc + 3 = pc') (hFc : ∀ x ∈ Fc, x ∈ F) (hwc : ∀ x ∈ wc, x ∈ ws ∨ hs.size ≤ x) (hf : rm.frames + 1 ≤ R.frames) (hl : W + (maxL' + 11) + rm.locals ≤ R.locals) (hk : k + rm.cells = k') (hn : n + rm.slots = n') (hk' : k' ≤ R.cells) (hn' : n' ≤ R.slots)
    (K : ∀ v h', hs.size ≤ h.size → Keep h h' wc → Qc v h' → Wp wd l Z a0 EL R y bytes maxL ret hs ws Q h' F k' n' pc' Ls (v.toList ++ rest)) : Wp wd l Z a0 EL R y bytes maxL ret hs ws Q h F k n pc Ls S := by
  subst hown0 hst has hp hr'
  exact Wp.call Cc wcode wz hFc hwc hf hl hk hn hk' hn' (fun p e s m args below meth c T locs Pre Post X hx hZ hown hby hml eT hK hpre => X.specialBackNestS hx hy1 hown (mvMN hZ wl) (mvT hZ wi) (mvT hZ wcode) hy hK (g := mkF m pc Ls (argsL.reverse ++ .ref a :: rest)) rfl (by rw [hml]; exact hsz) (Steps.refl _) hlen rfl (by show 2 * 0 + _ ≤ _; omega) (hb hby hd) hpre) K
theorem Wp.callV {x' : MethodName} {own : String} {idx W : Nat} {argsL rest : List Value} (hown0 : y.cls = own) (Cc : Ct wd l Z EL [] y' bytes' maxL' ret' rm as h Fc wc Qc) (wl : (Cond.methodLink own idx x').before a0 Z = true) (wd' : (Cond.declares x').before a0 Z = true) (wsel : (Cond.selects C x' y').before a0 Z = true) (wi : (Cond.instanceMethod y').before a0 Z = true) (wcode : (Cond.code y' bytes' maxL' ret').before a0 Z = true) (wz : (Cond.initialized y'.cls).before a0 Z = true) (nf : ∀ s : State, Z.Warmed39 s.vm → NotFace s x') (E : Exa Z h a C) (hy : x'.cls ≠ "java/lang/invoke/MethodHandle" ∧ x'.cls ≠ "java/lang/invoke/VarHandle") (hlen : ∀ sig, parseMethodDescriptor x'.desc = some sig → argsL.length = sig.parameters.length) (hd : decode bytes pc = .ok (.invokevirtual idx, 3))
    (hsz : Ls.size = maxL) (hst : S = argsL.reverse ++ .ref a :: rest) (has : (Value.ref a :: argsL).toArray = as) (hW : (rest.map fun v => v.category).sum ≤ W) (hp : pc + 3 = pc') (hFc : ∀ x ∈ Fc, x ∈ F) (hwc : ∀ x ∈ wc, x ∈ ws ∨ hs.size ≤ x) (hf : rm.frames + 1 ≤ R.frames) (hl : W + (maxL' + 11) + rm.locals ≤ R.locals) (hk : k + rm.cells = k') (hn : n + rm.slots = n') (hk' : k' ≤ R.cells) (hn' : n' ≤ R.slots)
    (K : ∀ v h', hs.size ≤ h.size → Keep h h' wc → Qc v h' → Wp wd l Z a0 EL R y bytes maxL ret hs ws Q h' F k' n' pc' Ls (v.toList ++ rest)) : Wp wd l Z a0 EL R y bytes maxL ret hs ws Q h F k n pc Ls S := by
  subst hown0 hst has hp
  exact Wp.call Cc wcode wz hFc hwc hf hl hk hn hk' hn' (fun p e s m args below meth c T locs Pre Post X hx hZ hown hby hml eT hK hpre => by
    obtain ⟨cq, kq, qa, qb, qc⟩ := isOf (T := T) hZ eT E
    exact X.virtualBackS hx hown (mvT hZ wl) (mvT hZ wd') (nf s hZ) (mvT hZ wsel) (mvT hZ wi) hy hK qa qc (g := mkF m pc Ls (argsL.reverse ++ .ref a :: rest)) rfl (by rw [hml]; exact hsz) (Steps.refl _) hlen rfl (by show 2 * 0 + _ ≤ _; omega) (hb hby hd) hpre) K
theorem nf_sel {x' y'' : MethodName} (hc : C = x'.cls) (wsel : (Cond.selects C x' y'').before a0 Z = true) (s : State) (hZ : Z.Warmed39 s.vm) (h1 : x' = y'') : NotFace s x' := by
  subst h1 hc; exact notFace_of_selects (args := #[]) (mvT hZ wsel)
theorem Wp.callF {x' : MethodName} {count : Nat} {own : String} {idx W : Nat} {argsL rest : List Value} (hown0 : y.cls = own) (Cc : Ct wd l Z EL [] y' bytes' maxL' ret' rm as h Fc wc Qc) (wl : (Cond.methodLink own idx x').before a0 Z = true) (wd' : (Cond.declares x').before a0 Z = true) (wf : (Cond.interfaceMethod x'.cls x'.cls x'.name x'.desc).before a0 Z = true) (wsel : (Cond.selects C x' y').before a0 Z = true) (wi : (Cond.instanceMethod y').before a0 Z = true) (wp : (Cond.publicMethod y').before a0 Z = true) (hfa : ((Cond.interfaceMethod x'.cls x'.cls x'.name x'.desc).onTables && (Cond.interfaceMethod x'.cls x'.cls x'.name x'.desc).keepsFace) = true) (wu : (Cond.unhidden C x'.name x'.desc).before a0 Z = true) (wca : (Cond.castable C x'.cls).before a0 Z = true) (wcode : (Cond.code y' bytes' maxL' ret').before a0 Z = true) (wz : (Cond.initialized y'.cls).before a0 Z = true) (E : Exa Z h a C) (hy : x'.cls ≠ "java/lang/invoke/MethodHandle" ∧ x'.cls ≠ "java/lang/invoke/VarHandle") (hlen : ∀ sig, parseMethodDescriptor x'.desc = some sig → argsL.length = sig.parameters.length) (hd : decode bytes pc = .ok (.invokeinterface idx count, 5))
    (hsz : Ls.size = maxL) (hst : S = argsL.reverse ++ .ref a :: rest) (has : (Value.ref a :: argsL).toArray = as) (hW : (rest.map fun v => v.category).sum ≤ W) (hp : pc + 5 = pc') (hFc : ∀ x ∈ Fc, x ∈ F) (hwc : ∀ x ∈ wc, x ∈ ws ∨ hs.size ≤ x) (hf : rm.frames + 1 ≤ R.frames) (hl : W + (maxL' + 11) + rm.locals ≤ R.locals) (hk : k + rm.cells = k') (hn : n + rm.slots = n') (hk' : k' ≤ R.cells) (hn' : n' ≤ R.slots)
    (K : ∀ v h', hs.size ≤ h.size → Keep h h' wc → Qc v h' → Wp wd l Z a0 EL R y bytes maxL ret hs ws Q h' F k' n' pc' Ls (v.toList ++ rest)) : Wp wd l Z a0 EL R y bytes maxL ret hs ws Q h F k n pc Ls S := by
  subst hown0 hst has hp
  exact Wp.call Cc wcode wz hFc hwc hf hl hk hn hk' hn' (fun p e s m args below meth c T locs Pre Post X hx hZ hown hby hml eT hK hpre => by
    obtain ⟨cq, kq, qa, qb, qc⟩ := isOf (T := T) hZ eT E
    exact X.interfaceBackS hx hown (mvT hZ wl) (mvT hZ wd') (mvT hZ wf hfa) (mvT hZ wsel) (mvT hZ wi) (mvT hZ wp) (mvT hZ wu) (mvT hZ wca) hy hK qa qb qc (g := mkF m pc Ls (argsL.reverse ++ .ref a :: rest)) rfl (by rw [hml]; exact hsz) (Steps.refl _) hlen rfl (by show 2 * 0 + _ ≤ _; omega) (hb hby hd) hpre) K
/-- ldc of a String constant, opaque -/
theorem Wp.ldcO {own text : String} {idx nn : Nat} (hwd : wd = true) (hown0 : y.cls = own) (lk : (Cond.stringLink own idx text).before a0 Z = true) (wS : ∀ d ∈ Bundle.stringAtoms, d.before a0 Z = true) (hd : decode bytes pc = .ok (.ldc idx, 2)) (hp : pc + 2 = pc') (hnn : 4 * text.toList.length ≤ nn) (hbig : nn ≤ 536870912) (hk : k + 2 = k') (hn : n + (nn + 4) = n') (hk' : k' ≤ R.cells) (hn' : n' ≤ R.slots)
    (K : ∀ h' b, Ext h h' → Wp wd l Z a0 EL R y bytes maxL ret hs ws Q h' F k' n' pc' Ls (.ref b :: S)) : Wp wd l Z a0 EL R y bytes maxL ret hs ws Q h F k n pc Ls S := fun p e s m args below meth c vm0 k0 T locs I => by
  obtain ⟨⟨i1, i2, i3, i4, i5⟩, ⟨q1, q2, q3, q4, q5⟩, ⟨j1, j2, j3, j4, j5, j6, j7⟩, X, eT⟩ := I
  subst hk hn hp hown0
  obtain ⟨b, T', h', k1, X', e', E, hS, hk1, hW, hf, hC, -, st⟩ := ldcOH X i2 j5 j1 lk wS eT j2 j3 i1 j6.1 (g := mkF m pc Ls S) rfl (hb i3 hd) hnn hbig hk' hn'
  exact (K h' b E p e s m args below meth c T'.vm k1 T' locs ⟨⟨i1, i2, i3, i4, i5⟩, ⟨q1, q2, q3, q4, Ext.trans q5 E⟩, ⟨hf, hS, hk1, (fun z => by rw [hwd] at z; cases z), hW, j6.trans hC, fun x hx => ⟨Nat.lt_of_lt_of_le (j7 x hx).1 E.1, CHr.safe hC (j7 x hx).1 (j7 x hx).2⟩⟩, X', e'⟩).back st
/-- ldc of a String constant whose text is read -/
theorem Wp.ldcC {own text : String} {idx nn : Nat} {vs : List Value} {z : Int32} (hwd : wd = true) (hown0 : y.cls = own) (lk : (Cond.stringLink own idx text).before a0 Z = true) (wS : ∀ d ∈ Bundle.stringAtoms, d.before a0 Z = true) (hmem : (own, idx) ∈ EL) (ht : (∀ c ∈ text.toList, c.toNat < 256) ∧ text.toList.map (fun c => Value.int (Jvm.Lit.byteI c.toNat.toUInt16)) = vs) (hz : ¬ z < 0) (hl : z.toNatClampNeg = vs.length)
    (hd : decode bytes pc = .ok (.ldc idx, 2)) (hp : pc + 2 = pc') (hnn : 4 * text.toList.length ≤ nn) (hbig : nn ≤ 536870912) (hk : k + 2 = k') (hn : n + (nn + 4) = n') (hk' : k' ≤ R.cells) (hn' : n' ≤ R.slots)
    (K : ∀ h' b c kA, Ext h h' → Exa Z h' b "java/lang/String" → Fld Z h' b "java/lang/String" "coder" "B" (.int 0) → Fld Z h' b "java/lang/String" "value" "[B" (.ref c) → Arv Z h' c kA .byte z vs (.int 0) → (∀ x ∈ F, x ≠ b ∧ x ≠ c) → Wp wd l Z a0 EL R y bytes maxL ret hs ws Q h' F k' n' pc' Ls (.ref b :: S)) : Wp wd l Z a0 EL R y bytes maxL ret hs ws Q h F k n pc Ls S := fun p e s m args below meth c vm0 k0 T locs I => by
  obtain ⟨⟨i1, i2, i3, i4, i5⟩, ⟨q1, q2, q3, q4, q5⟩, ⟨j1, j2, j3, j4, j5, j6, j7⟩, X, eT⟩ := I
  subst hk hn hp hown0
  obtain ⟨b, T', h', k1, cc, kA, X', e', E, hS, hk1, hW, hf, r1, r2, r3, r4, -, -, hC, -, hne, st⟩ := ldcCH X i2 j5 j1 lk wS eT j2 j3 i1 hmem j6.1 ht hz hl (g := mkF m pc Ls S) rfl (hb i3 hd) hnn hbig hk' hn'
  have hSf : Sf Z EL T'.vm h' F := fun x hx => ⟨Nat.lt_of_lt_of_le (j7 x hx).1 E.1, CHr.safe hC (j7 x hx).1 (j7 x hx).2⟩
  exact (K h' b cc kA E r1 r2 r3 r4 (fun x hx => hne x (hSf x hx).2) p e s m args below meth c T'.vm k1 T' locs ⟨⟨i1, i2, i3, i4, i5⟩, ⟨q1, q2, q3, q4, Ext.trans q5 E⟩, ⟨hf, hS, hk1, (fun z => by rw [hwd] at z; cases z), hW, j6.trans hC, hSf⟩, X', e'⟩).back st
end Calls
end Jvm.Own
namespace Jvm.Own
open Sem ClassFile Op Lib Jvm.Stand Jvm.Free Jvm.LawKit Jvm.RoadKit
/-! small naturals as ints -/
theorem on_toInt {i : Nat} (h : i < 2147483648) : (Int32.ofNat i).toInt = i := Int32.toInt_ofNat_of_lt h
theorem on_lt {i n : Nat} (hn : n < 2147483648) (h : i < n) : Int32.ofNat i < Int32.ofNat n := by rw [Int32.lt_iff_toInt_lt, on_toInt (by omega), on_toInt hn]; omega
theorem on_nlt {i n : Nat} (hi : i < 2147483648) (h : n ≤ i) : ¬ Int32.ofNat i < Int32.ofNat n := by rw [Int32.lt_iff_toInt_lt, on_toInt hi, on_toInt (i := n) (by omega)]; omega
theorem on_nneg {i : Nat} (hi : i < 2147483648) : ¬ Int32.ofNat i < 0 := by rw [Int32.lt_iff_toInt_lt, on_toInt hi]; show ¬ ((i : Int) < 0); omega
theorem on_clamp {i : Nat} (hi : i < 2147483648) : (Int32.ofNat i).toNatClampNeg = i := by simp only [Int32.toNatClampNeg, on_toInt hi]; omega
theorem on_succ (i : Nat) : Int32.ofNat i + (1 : Int32) = Int32.ofNat (i + 1) := (Int32.ofNat_add i 1).symm
theorem on_eq {i n : Nat} (hi : i < 2147483648) (hn : n < 2147483648) : Int32.ofNat i = Int32.ofNat n ↔ i = n := by
  rw [← Int32.toInt_inj, on_toInt hi, on_toInt hn]; omega
/-- what the low byte of a char is, as the JVM keeps it -/
def lb (c : Int32) : Int32 := c.toInt8.toInt32
theorem nar_lb (c : Int32) : nar .byte c.toInt8.toInt32 = lb c := by show (c.toInt8.toInt32).toInt8.toInt32 = _; rw [Int8.toInt8_toInt32]; rfl
theorem set_step {f : Int32 → Value} {cs : List Int32} {i j : Nat} {c : Int32} {z v : Value} (hc : cs[i]? = some c) (hv : v = f c) : ((cs.take i).map f ++ List.replicate (j + 1) z).set i v = (cs.take (i + 1)).map f ++ List.replicate j z := by
  obtain ⟨hi, rfl⟩ := List.getElem?_eq_some_iff.mp hc
  have hl : ((cs.take i).map f).length = i := by simp; omega
  rw [List.set_append_right _ _ (by omega), hl, Nat.sub_self, List.replicate_succ, List.set_cons_zero, List.take_add_one, List.map_append, hv, hc]
  simp
/-- an object of C is none of K: neither C nor its only superclass O is K -/
theorem ns_no {Z : State} {a0 : Array Value} {C O K : String} {n : Nat} (w : (Cond.superclass C O).before a0 Z = true) (wr : (Cond.noSuperclass O).before a0 Z = true) (wk : (Cond.instantiable K n).before a0 Z = true) (hn : C ≠ K) (hn2 : O ≠ K) : ∃ c t, Z.vm.findClass C = some c ∧ Z.vm.findClass K = some t ∧ Z.vm.assignable c t = false := by
  obtain ⟨t, kt, g1, g2, g3, g4, -⟩ := Cond.instantiable_spec wk
  have hN : NS Z O K := by
    obtain ⟨c, k, h1, h2, h3, -, -⟩ := Cond.noSuperclass_spec wr
    have ne := ids_ne h1 g1 hn2
    refine ⟨c, t, h1, g1, fun fuel => ?_⟩
    cases fuel with
    | zero => rfl
    | succ f => simp [Vm.isSubclassAux, ne, h2, h3]
  obtain ⟨c, t', h0, g0, n3⟩ := NS.step w hN hn
  cases g1.symm.trans g0
  obtain ⟨p, k, kp, h1, h2, h3, h4, h5, -, h7⟩ := Cond.superclass_spec h0 w
  have ne := ids_ne h0 g0 hn
  have g5 : kt.isInterface = false := (Bool.or_eq_false_iff.mp g4).1
  refine ⟨c, t, h0, g1, ?_⟩
  show Z.vm.assignableAux (255 + 1) c t = false
  simp [Vm.assignableAux, ne, h2, g2, h5, g3, g5, Vm.isSubclass, n3]
section Str
variable {Z : State} {a0 : Array Value} {h h' : Heap} {s w : Addr} {bs : List Int32} {C : String} {n sl : Nat} {v : Value} {k : ClassId} {ty : FieldType} {z : Int32} {vs : List Value} {d : Value}
/-- a Latin-1 String: its bytes, as ints -/
def SL (Z : State) (h : Heap) (s : Addr) (bs : List Int32) : Prop := Exa Z h s "java/lang/String" ∧ Fld Z h s "java/lang/String" "coder" "B" (.int 0) ∧ ∃ b k, Fld Z h s "java/lang/String" "value" "[B" (.ref b) ∧ Arv Z h b k .byte (Int32.ofNat bs.length) (bs.map Value.int) (.int 0)
theorem SL.lt (S : SL Z h s bs) : s < h.size := S.1.lt
theorem SL.ext (S : SL Z h s bs) (E : Ext h h') : SL Z h' s bs := by
  obtain ⟨A, B, b, k, D, G⟩ := S; exact ⟨A.ext E, B.ext E, b, k, D.ext E, G.ext E⟩
theorem SL.keep0 (S : SL Z h s bs) (K : Keep h h' []) : SL Z h' s bs := by
  obtain ⟨A, B, b, k, D, G⟩ := S; exact ⟨A.keep K, B.keep K nin0, b, k, D.keep K nin0, G.keep K nin0⟩
theorem SL.keep1 (S : SL Z h s bs) (K : Keep h h' [w]) (q : s ≠ w) (E : Exa Z h w C) (wi : (Cond.instantiable C n).before a0 Z = true) : SL Z h' s bs := by
  obtain ⟨A, B, b, k, D, G⟩ := S; exact ⟨A.keep K, B.keep K (ninS q nin0), b, k, D.keep K (ninS q nin0), G.keep K (ninS (Ne.symm (Exa.neArv E G wi)) nin0)⟩
theorem SL.wr (S : SL Z h s bs) (W : Wr h h' w sl v) (q : s ≠ w) (E : Exa Z h w C) (wi : (Cond.instantiable C n).before a0 Z = true) : SL Z h' s bs := S.keep1 (Keep.of_wr W) q E wi
theorem Arv.neTy {a b : Addr} {k' : ClassId} {ty' : FieldType} {z' : Int32} {vs' : List Value} {d' : Value} (A : Arv Z h a k ty z vs d) (B : Arv Z h b k' ty' z' vs' d') (q : ty ≠ ty') : a ≠ b := fun e => by
  subst e
  obtain ⟨c, ⟨h1, ⟨-, kk, h2, cm, h3⟩, -⟩, -⟩ := A
  obtain ⟨c', ⟨g1, ⟨-, kk', g2, cm', g3⟩, -⟩, -⟩ := B
  cases h1.symm.trans g1
  cases h2.symm.trans g2
  rw [h3] at g3; injection g3 with _ g3; exact q g3
theorem SL.keepA (S : SL Z h s bs) (K : Keep h h' [w]) (V : Arv Z h w k ty z vs d) (ht : ty ≠ .byte) (wi : (Cond.instantiable "java/lang/String" n).before a0 Z = true) : SL Z h' s bs := by
  obtain ⟨A, B, b, k, D, G⟩ := S
  have q : s ≠ w := Exa.neArv A V wi
  exact ⟨A.keep K, B.keep K (ninS q nin0), b, k, D.keep K (ninS q nin0), G.keep K (ninS (Arv.neTy G V (Ne.symm ht)) nin0)⟩
theorem SL.wrA (S : SL Z h s bs) (W : Wr h h' w sl v) (V : Arv Z h w k ty z vs d) (ht : ty ≠ .byte) (wi : (Cond.instantiable "java/lang/String" n).before a0 Z = true) : SL Z h' s bs := S.keepA (Keep.of_wr W) V ht wi
end Str
end Jvm.Own
namespace Jvm.Own
/-- two lists of one length that are alike up to i, and at i .. -/
theorem take_step {α : Type} {xs ys : List α} {i : Nat} {x y : α} (hx : xs[i]? = some x) (hy : ys[i]? = some y) (h : xs.take i = ys.take i) : (xs.take (i + 1) = ys.take (i + 1)) ↔ x = y := by
  rw [List.take_add_one, List.take_add_one, hx, hy, h]; simp
theorem ne_at {α : Type} {xs ys : List α} {i : Nat} {x y : α} (hx : xs[i]? = some x) (hy : ys[i]? = some y) (h : ¬ x = y) : ¬ xs = ys := fun e => by
  rw [e, hy] at hx; exact h (Option.some.inj hx).symm
theorem ne_len {α : Type} {xs ys : List α} (hx : xs.length < 2147483647) (hy : ys.length < 2147483647) (h : ¬ Int32.ofNat xs.length = Int32.ofNat ys.length) : ¬ xs = ys := fun e => h (by rw [e])
theorem all_take {α : Type} {xs ys : List α} (hl : xs.length = ys.length) (h : xs.take xs.length = ys.take xs.length) : xs = ys := by
  rw [List.take_length] at h; rw [hl, List.take_length] at h; exact h
end Jvm.Own
namespace Jvm.Own
open Sem ClassFile Op Lib Jvm.Stand Jvm.Free Jvm.LawKit Jvm.RoadKit
/-! chars of 16 bits, kept as two bytes; Strings of either coder -/
def hbt (c : Int32) : Int32 := lb (c >>> ((8 : Int32) &&& 31))
theorem i2c_bv (x : Int32) : x.toUInt32.toUInt16.toUInt32.toInt32.toBitVec = BitVec.setWidth 32 (BitVec.setWidth 16 x.toBitVec) := by
  show (x.toUInt32.toUInt16.toUInt32).toBitVec = _
  rw [UInt16.toBitVec_toUInt32, UInt32.toBitVec_toUInt16]; rfl
theorem join16 (c : Int32) : (((lb c &&& (255 : Int32)) <<< ((0:Int32) &&& 31)) ||| ((hbt c &&& (255 : Int32)) <<< ((8:Int32) &&& 31))).toUInt32.toUInt16.toUInt32.toInt32 = c.toUInt32.toUInt16.toUInt32.toInt32 := by
  apply Int32.toBitVec_inj.mp
  simp only [lb, hbt]
  rw [i2c_bv, i2c_bv]
  have e0 : ((0 : Int32) &&& 31) = 0 := rfl
  have e8 : ((8 : Int32) &&& 31) = 8 := rfl
  rw [e0, e8]
  simp only [Int32.toBitVec_or, Int32.toBitVec_shiftLeft, Int32.toBitVec_and, Int8.toBitVec_toInt32, Int32.toBitVec_toInt8, Int32.toBitVec_shiftRight]
  have s0 : BitVec.smod (Int32.toBitVec 0) 32 = 0#32 := by decide
  have s8 : BitVec.smod (Int32.toBitVec 8) 32 = 8#32 := by decide
  have s255 : Int32.toBitVec 255 = 255#32 := rfl
  rw [s0, s8, s255]
  generalize c.toBitVec = b
  ext i hi
  rcases (by omega : i = 0 ∨ i = 1 ∨ i = 2 ∨ i = 3 ∨ i = 4 ∨ i = 5 ∨ i = 6 ∨ i = 7 ∨ i = 8 ∨ i = 9 ∨ i = 10 ∨ i = 11 ∨ i = 12 ∨ i = 13 ∨ i = 14 ∨ i = 15 ∨ i = 16 ∨ i = 17 ∨ i = 18 ∨ i = 19 ∨ i = 20 ∨ i = 21 ∨ i = 22 ∨ i = 23 ∨ i = 24 ∨ i = 25 ∨ i = 26 ∨ i = 27 ∨ i = 28 ∨ i = 29 ∨ i = 30 ∨ i = 31) with rfl | rfl | rfl | rfl | rfl | rfl | rfl | rfl | rfl | rfl | rfl | rfl | rfl | rfl | rfl | rfl | rfl | rfl | rfl | rfl | rfl | rfl | rfl | rfl | rfl | rfl | rfl | rfl | rfl | rfl | rfl | rfl <;> simp [BitVec.getElem_sshiftRight, BitVec.getElem_signExtend, BitVec.getElem_setWidth, BitVec.sshiftRight']

theorem on_shr0 (x : Int32) : x >>> ((0 : Int32) &&& 31) = x := by
  apply Int32.toBitVec_inj.mp; simp
theorem on_shl0 (x : Int32) : x <<< ((0 : Int32) &&& 31) = x := by
  apply Int32.toBitVec_inj.mp; simp
theorem on_shl1 {k : Nat} (hk : k < 1073741824) : Int32.ofNat k <<< ((1 : Int32) &&& 31) = Int32.ofNat (2 * k) := by
  have e1 : ((1 : Int32) &&& 31) = 1 := rfl
  have s1 : BitVec.smod (Int32.toBitVec 1) 32 = 1#32 := by decide
  apply Int32.toBitVec_inj.mp
  rw [e1, Int32.toBitVec_shiftLeft, s1]
  apply BitVec.eq_of_toNat_eq
  simp [Nat.shiftLeft_eq, Nat.mul_comm]
theorem on_shr1 {k : Nat} (hk : k < 1073741824) : Int32.ofNat (2 * k) >>> ((1 : Int32) &&& 31) = Int32.ofNat k := by
  have e1 : ((1 : Int32) &&& 31) = 1 := rfl
  have s1 : BitVec.smod (Int32.toBitVec 1) 32 = 1#32 := by decide
  apply Int32.toBitVec_inj.mp
  rw [e1, Int32.toBitVec_shiftRight, s1]
  apply BitVec.eq_of_toInt_eq
  rw [BitVec.sshiftRight', BitVec.toInt_sshiftRight]
  show (Int32.ofNat (2 * k)).toInt >>> 1 = (Int32.ofNat k).toInt
  rw [on_toInt (by omega), on_toInt (by omega), Int.shiftRight_eq_div_pow]
  omega
theorem on_cfa {n : Nat} (h0 : 0 < n) (hn : n < 1073741824) : ((Int32.ofNat n - Int32.ofNat (2 * n)).toUInt32 >>> ((31 : Int32) &&& 31).toUInt32).toInt32.toInt8.toInt32 = 1 := by
  have e : ((Int32.ofNat n - Int32.ofNat (2 * n)).toUInt32 >>> ((31 : Int32) &&& 31).toUInt32) = 1 := by
    apply UInt32.toNat_inj.mp
    have e31 : ((31 : Int32) &&& 31).toUInt32.toNat % 32 = 31 := by decide
    rw [UInt32.toNat_shiftRight, e31, Nat.shiftRight_eq_div_pow]
    have hb : (Int32.ofNat n - Int32.ofNat (2 * n)).toUInt32.toNat = (2 ^ 32 - n) := by
      show (Int32.ofNat n - Int32.ofNat (2 * n)).toBitVec.toNat = _
      rw [Int32.toBitVec_sub, BitVec.toNat_sub]
      show (2 ^ 32 - (BitVec.ofNat 32 (2 * n)).toNat + (BitVec.ofNat 32 n).toNat) % 2 ^ 32 = _
      simp only [BitVec.toNat_ofNat]
      omega
    rw [hb]
    show _ = 1
    omega
  rw [e]; rfl

def utf : List Int32 → List Value
  | [] => []
  | c :: cs => .int (lb c) :: .int (hbt c) :: utf cs
theorem utf_len (cs : List Int32) : (utf cs).length = 2 * cs.length := by
  induction cs with
  | nil => rfl
  | cons c cs ih => simp [utf, ih]; omega
theorem utf_app (xs ys : List Int32) : utf (xs ++ ys) = utf xs ++ utf ys := by
  induction xs with
  | nil => rfl
  | cons c cs ih => simp [utf, ih]
theorem utf_at {cs : List Int32} {i : Nat} {c : Int32} (h : cs[i]? = some c) : (utf cs)[2 * i]? = some (Value.int (lb c)) ∧ (utf cs)[2 * i + 1]? = some (.int (hbt c)) := by
  induction cs generalizing i with
  | nil => cases h
  | cons d ds ih =>
    cases i with
    | zero => cases h; exact ⟨rfl, rfl⟩
    | succ j =>
      have h' : ds[j]? = some c := h
      have e : 2 * (j + 1) = 2 * j + 1 + 1 := by omega
      rw [e]; exact ih h'
theorem set_two {α : Type} (A R : List α) (x y u v : α) : ((A ++ x :: y :: R).set A.length u).set (A.length + 1) v = A ++ u :: v :: R := by
  induction A with
  | nil => rfl
  | cons a A ih => simp
theorem utf_step {cs : List Int32} {i j : Nat} {c : Int32} (h : cs[i]? = some c) : ((utf (cs.take i) ++ List.replicate (2 * (j + 1)) (Value.int 0)).set (2 * i) (Value.int (lb c))).set (2 * i + 1) (Value.int (hbt c)) = utf (cs.take (i + 1)) ++ List.replicate (2 * j) (Value.int 0) := by
  have hl : (utf (cs.take i)).length = 2 * i := by
    have hi := (List.getElem?_eq_some_iff.mp h).1
    rw [utf_len, List.length_take]; omega
  have e : List.replicate (2 * (j + 1)) (Value.int 0) = .int 0 :: .int 0 :: List.replicate (2 * j) (Value.int 0) := by
    rw [show 2 * (j + 1) = 2 * j + 1 + 1 by omega, List.replicate_succ, List.replicate_succ]
  rw [e, ← hl, set_two, List.take_add_one, h, utf_app, List.append_assoc]; rfl
/-- how a String's fields hold a text: its coder, its array's length, its bytes -/
def Enc (cs : List Int32) (w zz : Int32) (vs : List Value) : Prop := (w = 0 ∧ zz = Int32.ofNat cs.length ∧ vs = cs.map (fun c => Value.int (lb c)) ∧ ∀ c ∈ cs, ¬ (255 : Int32) < c) ∨ (w = 1 ∧ zz = Int32.ofNat (2 * cs.length) ∧ vs = utf cs ∧ ∃ c ∈ cs, (255 : Int32) < c)
theorem Enc.w01 {cs : List Int32} {w zz : Int32} {vs : List Value} (e : Enc cs w zz vs) : w = 0 ∨ w = 1 := e.elim (fun q => Or.inl q.1) fun q => Or.inr q.1
theorem nar_w {w : Int32} (h : w = 0 ∨ w = 1) : nar .byte w = w := by rcases h with rfl | rfl <;> rfl
theorem fit_w {w : Int32} (h : w = 0 ∨ w = 1) : fits .byte (.int w) = true := by rcases h with rfl | rfl <;> rfl
theorem Enc.len {cs : List Int32} {w zz : Int32} {vs : List Value} (e : Enc cs w zz vs) (hn : cs.length < 1073741824) : zz >>> (w &&& 31) = Int32.ofNat cs.length := by
  rcases e with ⟨rfl, rfl, -⟩ | ⟨rfl, rfl, -⟩
  · exact on_shr0 _
  · exact on_shr1 hn
theorem Enc.cfa {cs : List Int32} {w zz : Int32} {vs : List Value} (e : Enc cs w zz vs) (hn : cs.length < 1073741824) : nar .byte ((Int32.ofNat cs.length - zz).toUInt32 >>> ((31 : Int32) &&& 31).toUInt32).toInt32.toInt8.toInt32 = w := by
  rcases e with ⟨rfl, rfl, -⟩ | ⟨rfl, rfl, -, c, hc, -⟩
  · rw [Int32.sub_self]; rfl
  · rw [on_cfa (List.length_pos_of_mem hc) hn]; rfl
def ST (Z : State) (h : Heap) (s : Addr) (cs : List Int32) : Prop := ∃ b k w zz vs, Exa Z h s "java/lang/String" ∧ Fld Z h s "java/lang/String" "coder" "B" (.int w) ∧ Fld Z h s "java/lang/String" "value" "[B" (.ref b) ∧ Arv Z h b k .byte zz vs (.int 0) ∧ Enc cs w zz vs
theorem ST.exa {Z : State} {h : Heap} {s : Addr} {cs : List Int32} (S : ST Z h s cs) : Exa Z h s "java/lang/String" := by obtain ⟨b, k, w, zz, vs, A, -⟩ := S; exact A
theorem ST.lt {Z : State} {h : Heap} {s : Addr} {cs : List Int32} (S : ST Z h s cs) : s < h.size := S.exa.lt
theorem ST.ext {Z : State} {h h' : Heap} {s : Addr} {cs : List Int32} (S : ST Z h s cs) (E : Ext h h') : ST Z h' s cs := by
  obtain ⟨b, k, w, zz, vs, A, B, C, D, G⟩ := S; exact ⟨b, k, w, zz, vs, A.ext E, B.ext E, C.ext E, D.ext E, G⟩
theorem ST.keep0 {Z : State} {h h' : Heap} {s : Addr} {cs : List Int32} (S : ST Z h s cs) (K : Keep h h' []) : ST Z h' s cs := by
  obtain ⟨b, k, w, zz, vs, A, B, C, D, G⟩ := S; exact ⟨b, k, w, zz, vs, A.keep K, B.keep K nin0, C.keep K nin0, D.keep K nin0, G⟩
theorem ch_nar (x : Int32) : nar .char (nar .char x) = nar .char x := by
  show x.toUInt32.toUInt16.toUInt32.toInt32.toUInt32.toUInt16.toUInt32.toInt32 = x.toUInt32.toUInt16.toUInt32.toInt32
  apply Int32.toBitVec_inj.mp
  rw [i2c_bv, i2c_bv]
  apply BitVec.eq_of_toNat_eq
  simp
theorem ch_nn {c : Int32} (h : nar .char c = c) : ¬ c < 0 ∧ c.toInt < 65536 := by
  rw [← h]
  have h2 := (c.toUInt32.toUInt16).toNat_lt
  have e : (nar .char c).toInt = c.toUInt32.toUInt16.toNat := by
    show ((c.toUInt32.toUInt16.toUInt32).toBitVec).toInt = _
    have hm : (c.toUInt32.toUInt16.toUInt32).toBitVec.toNat = c.toUInt32.toUInt16.toNat := by
      show (c.toUInt32.toUInt16.toUInt32).toNat = _
      simp
    rw [BitVec.toInt_eq_toNat_cond, hm, if_pos (by omega)]
  have e2 : (0 : Int32).toInt = 0 := rfl
  rw [Int32.lt_iff_toInt_lt, e, e2]; omega
end Jvm.Own
namespace Jvm.Own
open Sem ClassFile Op Lib Jvm.Stand Jvm.Free Jvm.LawKit Jvm.RoadKit
section Calls
variable {wd : Bool} {l : Launch} {Z : State} {EL : List (String × Nat)} {R : Room} {y : MethodName} {bytes : ByteArray} {maxL : Nat} {ret : Option FieldType} {hs : Heap} {ws : List Addr} {Q : Option Value → Heap → Prop} {h h' : Heap} {F F' : List Addr} {k n k' n' pc pc' pc1 : Nat} {Ls Ls' : Array Slot} {S S' : List Value}
variable {a0 : Array Value} {a b : Addr} {C O nm d : String} {v w : Value} {sl : Nat} {cl : Cell} {ty : FieldType}
variable {y' : MethodName} {bytes' : ByteArray} {maxL' : Nat} {ret' : Option FieldType} {rm : Room} {as : Array Value} {Fc wc : List Addr} {Qc : Option Value → Heap → Prop}
/-- a call of a body that interns nothing and writes nothing old: what it made may be written -/
theorem Wp.callN {len W : Nat} {rest : List Value} (Cc : Ct false l Z EL [] y' bytes' maxL' ret' rm as h [] [] Qc) (wcode : (Cond.code y' bytes' maxL' ret').before a0 Z = true) (wz : (Cond.initialized y'.cls).before a0 Z = true) (hf : rm.frames + 1 ≤ R.frames) (hl : W + (maxL' + 11) + rm.locals ≤ R.locals) (hk : k + rm.cells = k') (hn : n + rm.slots = n') (hk' : k' ≤ R.cells) (hn' : n' ≤ R.slots)
    (law : ∀ (p : Program) (e : Env) (s : State) (m : MethodId) (args : Array Value) (below : List Frame) (meth : Method) (c : Code) (T : State) (locs : List Loc) (Pre : Pt → Array Value → Prop) (Post : Pt → Array Value → Option Value → Pt → Prop), Stand p l e R s m args below meth c T locs k n → p.tables.exec = Jvm.exec → Z.Warmed39 s.vm → s.vm.findClass y.cls = some m.cls → c.code = bytes → c.maxLocals = maxL → T.heap = h →
      BackS l R p e below s args y' len W Pre Post → (∀ vm₁, s.WarmedH vm₁ → Pre ⟨T.setVm vm₁, locs, k, n⟩ as) →
      ∃ (v : Option Value) (vm₁ : Vm) (B : Pt), s.WarmedH vm₁ ∧ Stand p l e R (s.setVm B.U.vm) m args below meth c B.U B.locs B.cells B.slots ∧ s.Since B.U.vm B.U.heap.size ∧ T.heap.size ≤ B.U.heap.size ∧ Post ⟨T.setVm vm₁, locs, k, n⟩ as v B ∧
        Steps p.tables e below (T.setTop (mkF m pc Ls S)) (B.U.setTop (mkF m pc' Ls (v.toList ++ rest))))
    (K : ∀ v h', hs.size ≤ h.size → Keep h h' [] → Qc v h' → ∃ d, h.size ≤ d ∧ d < h'.size ∧ Wp wd l Z a0 EL R y bytes maxL ret hs ws Q h' (d :: F) k' n' pc' Ls (v.toList ++ rest)) : Wp wd l Z a0 EL R y bytes maxL ret hs ws Q h F k n pc Ls S := fun p e s m args below meth c vm0 k0 T locs I => by
  obtain ⟨⟨i1, i2, i3, i4, i5⟩, ⟨q1, q2, q3, q4, q5⟩, ⟨j1, j2, j3, j4, j5, j6, j7⟩, X, eT⟩ := I
  subst hk hn
  obtain ⟨v, vm₁, ⟨U, L', kk, nn⟩, hW₁, X', hS', hgr, ⟨L, ⟨c1, c2⟩, c3, c4, c5, c6, c7, c8⟩, st⟩ := law p e (s.setVm vm0) m args below meth c T locs _ _ X i2 j5 j1 i3 i4 eT (Ct.pays Cc i1 j5 wcode wz hf hl j6.1 (fun x hx => nomatch hx)) (fun _ _ => ⟨rfl, eT, hk', hn'⟩)
  dsimp only [Pt.U, Pt.locs, Pt.cells, Pt.slots] at X' hS' hgr c2 c3 c4 c5 c6 c7 c8 st
  subst c3 c4 c5
  have hhs : hs.size ≤ h.size := j6.2.1
  have hSin : s.Since U.vm U.heap.size := j2.trans hS' (Nat.le_trans j3 (by rw [← eT]; exact hgr))
  obtain ⟨d, hd1, hd2, Kd⟩ := K v U.heap hhs c7 c2
  have hE0 : Ext h U.heap := ⟨c7.1, fun x c hx => c7.2.1 x c hx nin0⟩
  have hW := c8 rfl
  have q := CHv.later (h' := U.heap) j5 (hW := (show (Wst Z vm0 U.heap).Warmed39 U.vm from hW.wide)) i1 ⟨Nat.le_refl _, fun _ _ q => q⟩ (Or.inl hW.interned_eq) (CHv.ext hE0 j6.1)
  have hsd : Safe Z EL U.vm U.heap d := CHr.safe (show CHr Z EL vm0 U.heap U.vm U.heap from ⟨q.1, Nat.le_refl _, q.2⟩) hd2 (Safe.ext hE0 j6.1 (Safe.new hd1))
  refine (Kd p e s m args below meth c U.vm U.heap.size U _ ⟨⟨i1, i2, i3, i4, i5⟩, ⟨q1, q2, q3, fun z hz => ?_, Ext.trans q5 hE0⟩, ⟨(hS'.1.alike.findClass _ _).trans j1, hSin, Nat.le_refl _, fun z => State.WarmedH.trans (t := s.setVm vm0) (j4 z) hW, State.Warmed39.trans (t := s.setVm vm0) j5 hS'.1, j6.trans c6, fun x hx => ?_⟩, X', rfl⟩).back fun t => st.trans
  · rcases List.mem_append.mp hz with hz | hz
    · exact q4 z hz
    · rcases c1 z hz with q | q
      · cases q
      · exact Or.inr (Nat.le_trans hhs q)
  · rcases List.mem_cons.mp hx with rfl | hx
    · exact ⟨hd2, hsd⟩
    · exact ⟨Nat.lt_of_lt_of_le (j7 x hx).1 c7.1, CHr.safe c6 (j7 x hx).1 (j7 x hx).2⟩
theorem Wp.callSF {own : String} {idx W : Nat} {argsL rest : List Value} (hown0 : y.cls = own) (Cc : Ct false l Z EL [] y' bytes' maxL' ret' rm as h [] [] Qc) (wl : (Cond.methodLink own idx y').before a0 Z = true) (wst : (Cond.static y').before a0 Z = true) (wcode : (Cond.code y' bytes' maxL' ret').before a0 Z = true) (wz : (Cond.initialized y'.cls).before a0 Z = true) (hy : y'.cls ≠ "java/lang/invoke/MethodHandle" ∧ y'.cls ≠ "java/lang/invoke/VarHandle") (hlen : ∀ sig, parseMethodDescriptor y'.desc = some sig → argsL.length = sig.parameters.length) (hd : decode bytes pc = .ok (.invokestatic idx, 3))
    (hsz : Ls.size = maxL) (hst : S = argsL.reverse ++ rest) (has : argsL.toArray = as) (hW : (rest.map fun v => v.category).sum ≤ W) (hp : pc + 3 = pc') (hf : rm.frames + 1 ≤ R.frames) (hl : W + (maxL' + 11) + rm.locals ≤ R.locals) (hk : k + rm.cells = k') (hn : n + rm.slots = n') (hk' : k' ≤ R.cells) (hn' : n' ≤ R.slots)
    (K : ∀ v h', hs.size ≤ h.size → Keep h h' [] → Qc v h' → ∃ d, h.size ≤ d ∧ d < h'.size ∧ Wp wd l Z a0 EL R y bytes maxL ret hs ws Q h' (d :: F) k' n' pc' Ls (v.toList ++ rest)) : Wp wd l Z a0 EL R y bytes maxL ret hs ws Q h F k n pc Ls S := by
  subst hown0 hst has hp
  exact Wp.callN Cc wcode wz hf hl hk hn hk' hn' (fun p e s m args below meth c T locs Pre Post X hx hZ hown hby hml eT hK hpre => callSS X hx hown (mvT hZ wl) (mvT hZ wst) (mvT hZ wz) (mvT hZ wcode) hy hK (g := mkF m pc Ls (argsL.reverse ++ rest)) rfl (by rw [hml]; exact hsz) hlen rfl (by show 2 * 0 + _ ≤ _; omega) (hb hby hd) hpre) K
end Calls
end Jvm.Own
@@BLOCK:NumsL.lean.txt@@
namespace Jvm.Pilot.@@N@@
open Jvm Jvm.ClassFile Sem Op Lib Jvm.Free Jvm.Stand Jvm.LawKit Jvm.RoadKit Bundle Jvm.Own Jvm.Pilot.@@N@@.Jvm.D
theorem own_and3 (p : Int32) : (p &&& (3 : Int32)) = 0 ∨ (p &&& (3 : Int32)) = 1 ∨ (p &&& (3 : Int32)) = 2 ∨ (p &&& (3 : Int32)) = 3 := by
  have e := Jvm.Kit.i32_mask p 3 (k := 2) (by decide) (by decide)
  simp only [← Int32.toInt_inj]
  show _ = (0 : Int) ∨ _ = (1 : Int) ∨ _ = (2 : Int) ∨ _ = (3 : Int)
  rw [e]; omega
theorem own_255 (x : Int32) : ¬ (255 : Int32) < (x &&& (255 : Int32)) ∧ ¬ (x &&& (255 : Int32)) < 0 := by
  have e := Jvm.Kit.i32_mask x 255 (k := 8) (by decide) (by decide)
  have e1 : (255 : Int32).toInt = 255 := rfl
  have e2 : (0 : Int32).toInt = 0 := rfl
  rw [Int32.lt_iff_toInt_lt, Int32.lt_iff_toInt_lt, e]; omega
theorem own_nar (x : Int32) : nar .char (x &&& (255 : Int32)) = x &&& (255 : Int32) := i2c_mask x
theorem own_lb {x y : Int32} (hx : ¬ (255 : Int32) < x ∧ ¬ x < 0) (hy : ¬ (255 : Int32) < y ∧ ¬ y < 0) : lb x = lb y ↔ x = y := by
  constructor
  · intro h
    have e1 : (255 : Int32).toInt = 255 := rfl
    have e2 : (0 : Int32).toInt = 0 := rfl
    simp only [Int32.lt_iff_toInt_lt, e1, e2] at hx hy
    have h1 := congrArg Int32.toInt h
    simp only [lb, Int8.toInt_toInt32, Int32.toInt_toInt8, Int.bmod_def] at h1
    apply Int32.toInt_inj.mp
    omega
  · rintro rfl; rfl
def own_hi (c : Int32) : Bool := !decide (c < (55296 : Int32)) && !decide ((56319 : Int32) < c)
def own_lo (c : Int32) : Bool := !decide (c < (56320 : Int32)) && !decide ((57343 : Int32) < c)
theorem own_hi2 (c : Int32) : (c < (56320 : Int32)) ↔ ¬ ((56319 : Int32) < c) := by
  have e1 : (56320 : Int32).toInt = 56320 := rfl
  have e2 : (56319 : Int32).toInt = 56319 := rfl
  rw [Int32.lt_iff_toInt_lt, Int32.lt_iff_toInt_lt, e1, e2]; omega
theorem own_lo2 (c : Int32) : (c < (57344 : Int32)) ↔ ¬ ((57343 : Int32) < c) := by
  have e1 : (57344 : Int32).toInt = 57344 := rfl
  have e2 : (57343 : Int32).toInt = 57343 := rfl
  rw [Int32.lt_iff_toInt_lt, Int32.lt_iff_toInt_lt, e1, e2]; omega
theorem own_ex (c : Int32) : (own_lo c && own_hi c) = false := by
  have h := own_hi2 c
  cases e : own_lo c with
  | false => rfl
  | true =>
    simp only [own_lo, Bool.and_eq_true, Bool.not_eq_true', decide_eq_false_iff_not] at e
    have z : (56319 : Int32) < c := Classical.byContradiction fun q => e.1 (h.mpr q)
    simp [own_hi, z]
theorem own_hi0 {c : Int32} (h : ¬ (255 : Int32) < c) : own_hi c = false := by
  have e1 : (55296 : Int32).toInt = 55296 := rfl
  have e2 : (255 : Int32).toInt = 255 := rfl
  have z : c < (55296 : Int32) := by rw [Int32.lt_iff_toInt_lt] at *; omega
  simp [own_hi, z]
def own_pairs : List Int32 → Nat
  | [] => 0
  | [_] => 0
  | c :: d :: r => if own_hi c && own_lo d then own_pairs r + 1 else own_pairs (d :: r)
theorem own_pl : ∀ (cs : List Int32), (∀ c ∈ cs, ¬ (255 : Int32) < c) → own_pairs cs = 0
  | [], _ => rfl
  | [_], _ => rfl
  | c :: d :: r, h => by
    rw [own_pairs, own_hi0 (h c (by simp)), Bool.false_and, if_neg (by decide)]
    exact own_pl (d :: r) fun x hx => h x (List.mem_cons_of_mem _ hx)
theorem own_p1 {cs : List Int32} {i : Nat} (h : cs.length ≤ i + 1) : own_pairs (cs.drop i) = 0 := by
  have hl : (cs.drop i).length ≤ 1 := by rw [List.length_drop]; omega
  match hd : cs.drop i, hl with
  | [], _ => rfl
  | [_], _ => rfl
  | _ :: _ :: _, hl => simp at hl
theorem own_p2 {cs : List Int32} {i : Nat} {c d : Int32} (hc : cs[i]? = some c) (hd : cs[i + 1]? = some d) : own_pairs (cs.drop i) = if own_hi c && own_lo d then own_pairs (cs.drop (i + 2)) + 1 else own_pairs (cs.drop (i + 1)) := by
  obtain ⟨h1, rfl⟩ := List.getElem?_eq_some_iff.mp hc
  obtain ⟨h2, rfl⟩ := List.getElem?_eq_some_iff.mp hd
  rw [List.drop_eq_getElem_cons h1, List.drop_eq_getElem_cons h2, own_pairs]
theorem own_mn (x z : Int32) : ¬ x < (if z < x then z else x) := by
  split
  · rename_i h; exact Int32.lt_asymm h
  · exact Int32.lt_irrefl
theorem own_mx (x z : Int32) : ¬ (if x < z then z else x) < x := by
  split
  · rename_i h; exact Int32.lt_asymm h
  · exact Int32.lt_irrefl
theorem own_n5 (p2 : Int32) : (((p2.toUInt32 >>> ((8 : Int32) &&& 31).toUInt32).toInt32) % (5 : Int32)) = 0 ∨ (((p2.toUInt32 >>> ((8 : Int32) &&& 31).toUInt32).toInt32) % (5 : Int32)) = 1 ∨ (((p2.toUInt32 >>> ((8 : Int32) &&& 31).toUInt32).toInt32) % (5 : Int32)) = 2 ∨ (((p2.toUInt32 >>> ((8 : Int32) &&& 31).toUInt32).toInt32) % (5 : Int32)) = 3 ∨ (((p2.toUInt32 >>> ((8 : Int32) &&& 31).toUInt32).toInt32) % (5 : Int32)) = 4 := by
  have h31 : ((8 : Int32) &&& 31).toUInt32.toNat % 32 = 8 := by decide
  have e : ((p2.toUInt32 >>> ((8 : Int32) &&& 31).toUInt32).toInt32).toInt = ((p2.toUInt32.toNat / 256 : Nat) : Int) := by
    have h1 : (p2.toUInt32 >>> ((8 : Int32) &&& 31).toUInt32).toNat = p2.toUInt32.toNat / 256 := by rw [UInt32.toNat_shiftRight, h31, Nat.shiftRight_eq_div_pow]
    have h2 := p2.toUInt32.toNat_lt
    show ((p2.toUInt32 >>> ((8 : Int32) &&& 31).toUInt32).toBitVec).toInt = _
    have h3 : (p2.toUInt32 >>> ((8 : Int32) &&& 31).toUInt32).toBitVec.toNat = p2.toUInt32.toNat / 256 := h1
    rw [BitVec.toInt_eq_toNat_cond, h3, if_pos (by omega)]
  have e5 : (5 : Int32).toInt = 5 := rfl
  simp only [← Int32.toInt_inj]
  show _ = (0 : Int) ∨ _ = (1 : Int) ∨ _ = (2 : Int) ∨ _ = (3 : Int) ∨ _ = (4 : Int)
  rw [Int32.toInt_mod, e, e5, Int.tmod_eq_emod_of_nonneg (by omega)]; omega
theorem own_k4 (h0 h1 h2 l1 l2 l3 : Bool) (x1 : (l1 && h1) = false) (x2 : (l2 && h2) = false) : (4 : Int32) - ((if h0 && l1 then (1 : Int32) else 0) + (if h1 && l2 then (1 : Int32) else 0) + (if h2 && l3 then (1 : Int32) else 0)) = Int32.ofNat 4 - Int32.ofNat (if h0 && l1 then (if h2 && l3 then 0 + 1 else 0) + 1 else if h1 && l2 then 0 + 1 else if h2 && l3 then 0 + 1 else 0) := by
  cases h0 <;> cases h1 <;> cases h2 <;> cases l1 <;> cases l2 <;> cases l3 <;> first | rfl | exact absurd x1 (by decide) | exact absurd x2 (by decide)
theorem own_k3 (h0 h1 l1 l2 : Bool) (x1 : (l1 && h1) = false) : (3 : Int32) - ((if h0 && l1 then (1 : Int32) else 0) + (if h1 && l2 then (1 : Int32) else 0)) = Int32.ofNat 3 - Int32.ofNat (if h0 && l1 then 0 + 1 else if h1 && l2 then 0 + 1 else 0) := by
  cases h0 <;> cases h1 <;> cases l1 <;> cases l2 <;> first | rfl | exact absurd x1 (by decide)
theorem own_k2 (h0 l1 : Bool) : (2 : Int32) - (if h0 && l1 then (1 : Int32) else 0) = Int32.ofNat 2 - Int32.ofNat (if h0 && l1 then 0 + 1 else 0) := by
  cases h0 <;> cases l1 <;> rfl
theorem own_wS {Z : State} {a0 : Array Value} (hw : ∀ d ∈ tables_1, d.before a0 Z = true) : ∀ d ∈ Bundle.stringAtoms, d.before a0 Z = true := by
  intro d hd
  simp only [Bundle.stringAtoms, Bundle.sN, List.mem_cons, List.not_mem_nil, or_false] at hd
  rcases hd with rfl | rfl | rfl | rfl | rfl | rfl | rfl
  · exact (hw _ (List.mem_of_getElem? (i := 15) rfl))
  · exact (hw _ (List.mem_of_getElem? (i := 14) rfl))
  · exact (hw _ (List.mem_of_getElem? (i := 27) rfl))
  · exact (hw _ (List.mem_of_getElem? (i := 28) rfl))
  · exact (hw _ (List.mem_of_getElem? (i := 29) rfl))
  · exact (hw _ (List.mem_of_getElem? (i := 30) rfl))
  · exact (hw _ (List.mem_of_getElem? (i := 31) rfl))
theorem d15_0 : decode jdk_52_method_21_code 0 = .ok (.iconst 0, 1) := by decide +kernel
theorem d15_1 : decode jdk_52_method_21_code 1 = .ok (.istore 5, 2) := by decide +kernel
theorem d15_3 : decode jdk_52_method_21_code 3 = .ok (.iload 5, 2) := by decide +kernel
theorem d15_5 : decode jdk_52_method_21_code 5 = .ok (.iload 4, 2) := by decide +kernel
theorem d15_7 : decode jdk_52_method_21_code 7 = .ok (.if_icmp .ge 37, 3) := by decide +kernel
theorem d15_10 : decode jdk_52_method_21_code 10 = .ok (.aload_n 0, 1) := by decide +kernel
theorem d15_11 : decode jdk_52_method_21_code 11 = .ok (.iload_n 1, 1) := by decide +kernel
theorem d15_12 : decode jdk_52_method_21_code 12 = .ok (.caload, 1) := by decide +kernel
theorem d15_13 : decode jdk_52_method_21_code 13 = .ok (.istore 6, 2) := by decide +kernel
theorem d15_15 : decode jdk_52_method_21_code 15 = .ok (.iload 6, 2) := by decide +kernel
theorem d15_17 : decode jdk_52_method_21_code 17 = .ok (.sipush 255, 3) := by decide +kernel
theorem d15_20 : decode jdk_52_method_21_code 20 = .ok (.if_icmp .le 6, 3) := by decide +kernel
theorem d15_23 : decode jdk_52_method_21_code 23 = .ok (.iload 5, 2) := by decide +kernel
theorem d15_25 : decode jdk_52_method_21_code 25 = .ok (.ireturn, 1) := by decide +kernel
theorem d15_26 : decode jdk_52_method_21_code 26 = .ok (.aload_n 2, 1) := by decide +kernel
theorem d15_27 : decode jdk_52_method_21_code 27 = .ok (.iload_n 3, 1) := by decide +kernel
theorem d15_28 : decode jdk_52_method_21_code 28 = .ok (.iload 6, 2) := by decide +kernel
theorem d15_30 : decode jdk_52_method_21_code 30 = .ok (.i2b, 1) := by decide +kernel
theorem d15_31 : decode jdk_52_method_21_code 31 = .ok (.bastore, 1) := by decide +kernel
theorem d15_32 : decode jdk_52_method_21_code 32 = .ok (.iinc 1 1, 3) := by decide +kernel
theorem d15_35 : decode jdk_52_method_21_code 35 = .ok (.iinc 3 1, 3) := by decide +kernel
theorem d15_38 : decode jdk_52_method_21_code 38 = .ok (.iinc 5 1, 3) := by decide +kernel
theorem d15_41 : decode jdk_52_method_21_code 41 = .ok (.goto (-38), 3) := by decide +kernel
theorem d15_44 : decode jdk_52_method_21_code 44 = .ok (.iload 4, 2) := by decide +kernel
theorem d15_46 : decode jdk_52_method_21_code 46 = .ok (.ireturn, 1) := by decide +kernel
set_option maxRecDepth 65536 in
set_option maxHeartbeats 40000000 in
theorem own_lpC (l : Launch) (Z : State) (a0 : Array Value) (hw : ∀ d ∈ tables_1, d.before a0 Z = true) (hE : EW Z a0 [("java/lang/String", 7)]) (a d : Addr) (ka kd : ClassId) (cs : List Int32) (hn : cs.length < 2147483647) (hs : Heap) :
    ∀ (j i : Nat) (h : Heap) (s6 : Slot), i + j = cs.length → (s6 = .unset ∨ ∃ x : Int32, s6 = .val (.int x)) → (∀ c ∈ cs.take i, ¬ (255 : Int32) < c) → Arv Z h a ka .char (Int32.ofNat cs.length) (cs.map Value.int) (.int 0) → Arv Z h d kd .byte (Int32.ofNat cs.length) ((cs.take i).map (fun c => Value.int (lb c)) ++ List.replicate j (.int 0)) (.int 0) → a ≠ d →
      Wp true l Z a0 [("java/lang/String", 7)] ({ frames := 0, cells := 0, slots := 0, locals := 0 } : Room) (⟨"java/lang/StringUTF16", "compress", "([CI[BII)I"⟩ : MethodName) jdk_52_method_21_code 7 (some .int) hs [d] (fun v h => (v = some (.int (Int32.ofNat cs.length)) ∧ (∀ c ∈ cs, ¬ (255 : Int32) < c) ∧ Arv Z h d kd .byte (Int32.ofNat cs.length) (cs.map fun c => Value.int (lb c)) (.int 0)) ∨ ∃ t c, t < cs.length ∧ cs[t]? = some c ∧ (255 : Int32) < c ∧ v = some (.int (Int32.ofNat t))) h [d] 0 0 3 #[.val (.ref a), .val (.int (Int32.ofNat i)), .val (.ref d), .val (.int (Int32.ofNat i)), .val (.int (Int32.ofNat cs.length)), .val (.int (Int32.ofNat i)), s6] [] := by
  intro j
  induction j with
  | zero =>
    intro i h s6 hi h6 hall V_a V_d ne_a_d
    have ei : i = cs.length := by omega
    subst ei
    rw [List.take_length] at hall V_d
    refine Wp.iload d15_3 (pc' := 5) rfl rfl ?_
    refine Wp.iload d15_5 (pc' := 7) rfl rfl ?_
    refine Wp.icmp_ge (pc1 := 44) (pc' := 10) d15_7 (by decide) (by decide) rfl (fun hc101 => ?_) (fun hc101 => by exact absurd hc101 Int32.lt_irrefl)
    refine Wp.iload d15_44 (pc' := 46) rfl rfl ?_
    refine Wp.retI rfl d15_46 (by decide) (by decide) ?_
    exact Or.inl ⟨rfl, hall, by simpa using V_d⟩
  | succ j ih =>
    intro i h s6 hi h6 hall V_a V_d ne_a_d
    have hin : i < cs.length := by omega
    obtain ⟨c, hc⟩ : ∃ c, cs[i]? = some c := ⟨_, List.getElem?_eq_getElem hin⟩
    refine Wp.iload d15_3 (pc' := 5) rfl rfl ?_
    refine Wp.iload d15_5 (pc' := 7) rfl rfl ?_
    refine Wp.icmp_ge (pc1 := 44) (pc' := 10) d15_7 (by decide) (by decide) rfl (fun hc101 => by exact absurd (on_lt (by omega) hin) hc101) (fun hc101 => ?_)
    refine Wp.aloadN d15_10 (pc' := 11) rfl rfl rfl ?_
    refine Wp.iloadN d15_11 (pc' := 12) rfl rfl ?_
    refine Wp.caload V_a (on_nneg (by omega)) (on_lt (by omega) hin) (v := .int c) (by rw [on_clamp (by omega)]; simp [List.getD_eq_getElem?_getD, hc]) d15_12 (pc' := 13) rfl ?_
    refine Wp.istore (l' := #[.val (.ref a), .val (.int (Int32.ofNat i)), .val (.ref d), .val (.int (Int32.ofNat i)), .val (.int (Int32.ofNat cs.length)), .val (.int (Int32.ofNat i)), .val (.int c)]) d15_13 (pc' := 15) rfl (by rcases h6 with rfl | ⟨_, rfl⟩ <;> rfl) ?_
    refine Wp.iload d15_15 (pc' := 17) rfl rfl ?_
    refine Wp.sipush (x := (255 : Int32)) d15_17 (pc' := 20) rfl rfl ?_
    refine Wp.icmp_le (pc1 := 26) (pc' := 23) d15_20 (by decide) (by decide) rfl (fun hc102 => ?_) (fun hc102 => ?_)
    · have hcc : ¬ ((255 : Int32) < c) := hc102
      refine Wp.aloadN d15_26 (pc' := 27) rfl rfl rfl ?_
      refine Wp.iloadN d15_27 (pc' := 28) rfl rfl ?_
      refine Wp.iload d15_28 (pc' := 30) rfl rfl ?_
      refine Wp.i2b d15_30 (pc' := 31) rfl ?_
      refine Wp.bastore V_d (on_nneg (by omega)) (on_lt (by omega) hin) (i := i) (on_clamp (by omega)) (by simp; omega) d15_31 (pc' := 32) rfl (Or.inl (by simp)) (Sfe.mem (by simp)) (fun h2 W2 V2 => ?_)
      replace V_a := V_a.other W2 ne_a_d
      rw [nar_lb, set_step (f := fun c => Value.int (lb c)) hc rfl] at V2
      refine Wp.iinc (l' := #[.val (.ref a), .val (.int ((Int32.ofNat i) + (1 : Int32))), .val (.ref d), .val (.int (Int32.ofNat i)), .val (.int (Int32.ofNat cs.length)), .val (.int (Int32.ofNat i)), .val (.int c)]) d15_32 (pc' := 35) rfl rfl rfl ?_
      refine Wp.iinc (l' := #[.val (.ref a), .val (.int ((Int32.ofNat i) + (1 : Int32))), .val (.ref d), .val (.int ((Int32.ofNat i) + (1 : Int32))), .val (.int (Int32.ofNat cs.length)), .val (.int (Int32.ofNat i)), .val (.int c)]) d15_35 (pc' := 38) rfl rfl rfl ?_
      refine Wp.iinc (l' := #[.val (.ref a), .val (.int ((Int32.ofNat i) + (1 : Int32))), .val (.ref d), .val (.int ((Int32.ofNat i) + (1 : Int32))), .val (.int (Int32.ofNat cs.length)), .val (.int ((Int32.ofNat i) + (1 : Int32))), .val (.int c)]) d15_38 (pc' := 41) rfl rfl rfl ?_
      refine Wp.goto (pc' := 3) d15_41 (by decide) (by decide) ?_
      rw [on_succ]
      refine ih (i + 1) h2 _ (by omega) (Or.inr ⟨c, rfl⟩) (fun x hx => ?_) V_a V2 ne_a_d
      rw [List.take_add_one, hc] at hx
      rcases List.mem_append.mp hx with hx | hx
      · exact hall x hx
      · simp at hx; subst hx; exact hcc
    · have hc102 : (255 : Int32) < c := hc102
      refine Wp.iload d15_23 (pc' := 25) rfl rfl ?_
      refine Wp.retI rfl d15_25 (by decide) (by decide) ?_
      exact Or.inr ⟨i, c, hin, hc, hc102, rfl⟩
theorem pn_java_lang_StringUTF16 : plainName "java/lang/StringUTF16" = true := by first | (simp [plainName, overriddenIn]; done) | decide +kernel
theorem ef_ctCMP5 (m : MethodId) (x0 : Addr) (x1 : Int32) (x2 : Addr) (x3 : Int32) (x4 : Int32) : entryFrame m #[(.ref x0), (.int x1), (.ref x2), (.int x3), (.int x4)] 7 = mkF m 0 #[.val (.ref x0), .val (.int x1), .val (.ref x2), .val (.int x3), .val (.int x4), .unset, .unset] [] := by first | (simp [entryFrame, mkF, argsToLocals, Value.category]; done) | rfl
set_option maxRecDepth 65536 in
set_option maxHeartbeats 40000000 in
theorem ctCMP5 (l : Launch) (Z : State) (a0 : Array Value) (hw : ∀ d ∈ tables_1, d.before a0 Z = true) (hE : EW Z a0 [("java/lang/String", 7)]) (a d : Addr) (ka kd : ClassId) (cs : List Int32) (h0 : Heap) (hO : Ext Z.heap h0) (hn : cs.length < 2147483647) (V_a : Arv Z h0 a ka .char (Int32.ofNat cs.length) (cs.map Value.int) (.int 0)) (V_d : Arv Z h0 d kd .byte (Int32.ofNat cs.length) (List.replicate cs.length (.int 0)) (.int 0)) (ne_a_d : a ≠ d) (hd0 : Z.heap.size ≤ d) :
    Ct true l Z [("java/lang/String", 7)] [] (⟨"java/lang/StringUTF16", "compress", "([CI[BII)I"⟩ : MethodName) jdk_52_method_21_code 7 (some .int) ({ frames := 0, cells := 0, slots := 0, locals := 0 } : Room) #[(.ref a), (.int (0 : Int32)), (.ref d), (.int (0 : Int32)), (.int (Int32.ofNat cs.length))] h0 [d] [d] (fun v h => (v = some (.int (Int32.ofNat cs.length)) ∧ (∀ c ∈ cs, ¬ (255 : Int32) < c) ∧ Arv Z h d kd .byte (Int32.ofNat cs.length) (cs.map fun c => Value.int (lb c)) (.int 0)) ∨ ∃ t c, t < cs.length ∧ cs[t]? = some c ∧ (255 : Int32) < c ∧ v = some (.int (Int32.ofNat t))) := by
  refine Ct.of_wp (a0 := a0) (Ls := #[.val (.ref a), .val (.int (0 : Int32)), .val (.ref d), .val (.int (0 : Int32)), .val (.int (Int32.ofNat cs.length)), .unset, .unset]) (plainFor_of_name pn_java_lang_StringUTF16) hE hO (by intro x hx; cases List.mem_singleton.mp hx; exact hd0) (fun m => ef_ctCMP5 m a (0 : Int32) d (0 : Int32) (Int32.ofNat cs.length)) ?_
  refine Wp.iconst (x := (0 : Int32)) d15_0 (pc' := 1) rfl rfl ?_
  refine Wp.istore (l' := #[.val (.ref a), .val (.int (0 : Int32)), .val (.ref d), .val (.int (0 : Int32)), .val (.int (Int32.ofNat cs.length)), .val (.int (0 : Int32)), .unset]) d15_1 (pc' := 3) rfl rfl ?_
  exact own_lpC l Z a0 hw hE a d ka kd cs hn h0 cs.length 0 h0 _ (by omega) (Or.inl rfl) (by simp) V_a (by simpa using V_d) ne_a_d
def own_U (Z : State) : Prop := Sta Z Z.heap "java/lang/StringUTF16" "$assertionsDisabled" "Z" (.int 1) ∧ Sta Z Z.heap "java/lang/StringUTF16" "HI_BYTE_SHIFT" "I" (.int 0) ∧ Sta Z Z.heap "java/lang/StringUTF16" "LO_BYTE_SHIFT" "I" (.int 8)
theorem d18_0 : decode jdk_52_method_3_code 0 = .ok (.iload_n 0, 1) := by decide +kernel
theorem d18_1 : decode jdk_52_method_3_code 1 = .ok (.ifCond .ge 11, 3) := by decide +kernel
theorem d18_4 : decode jdk_52_method_3_code 4 = .ok (.new 17, 3) := by decide +kernel
theorem d18_7 : decode jdk_52_method_3_code 7 = .ok (.dup, 1) := by decide +kernel
theorem d18_8 : decode jdk_52_method_3_code 8 = .ok (.invokespecial 19, 3) := by decide +kernel
theorem d18_11 : decode jdk_52_method_3_code 11 = .ok (.athrow, 1) := by decide +kernel
theorem d18_12 : decode jdk_52_method_3_code 12 = .ok (.iload_n 0, 1) := by decide +kernel
theorem d18_13 : decode jdk_52_method_3_code 13 = .ok (.ldc 20, 2) := by decide +kernel
theorem d18_15 : decode jdk_52_method_3_code 15 = .ok (.if_icmp .lt 40, 3) := by decide +kernel
theorem d18_18 : decode jdk_52_method_3_code 18 = .ok (.new 21, 3) := by decide +kernel
theorem d18_21 : decode jdk_52_method_3_code 21 = .ok (.dup, 1) := by decide +kernel
theorem d18_22 : decode jdk_52_method_3_code 22 = .ok (.new 23, 3) := by decide +kernel
theorem d18_25 : decode jdk_52_method_3_code 25 = .ok (.dup, 1) := by decide +kernel
theorem d18_26 : decode jdk_52_method_3_code 26 = .ok (.invokespecial 25, 3) := by decide +kernel
theorem d18_29 : decode jdk_52_method_3_code 29 = .ok (.ldc 26, 2) := by decide +kernel
theorem d18_31 : decode jdk_52_method_3_code 31 = .ok (.invokevirtual 28, 3) := by decide +kernel
theorem d18_34 : decode jdk_52_method_3_code 34 = .ok (.iload_n 0, 1) := by decide +kernel
theorem d18_35 : decode jdk_52_method_3_code 35 = .ok (.invokevirtual 32, 3) := by decide +kernel
theorem d18_38 : decode jdk_52_method_3_code 38 = .ok (.ldc 35, 2) := by decide +kernel
theorem d18_40 : decode jdk_52_method_3_code 40 = .ok (.invokevirtual 28, 3) := by decide +kernel
theorem d18_43 : decode jdk_52_method_3_code 43 = .ok (.ldc 20, 2) := by decide +kernel
theorem d18_45 : decode jdk_52_method_3_code 45 = .ok (.invokevirtual 32, 3) := by decide +kernel
theorem d18_48 : decode jdk_52_method_3_code 48 = .ok (.invokevirtual 37, 3) := by decide +kernel
theorem d18_51 : decode jdk_52_method_3_code 51 = .ok (.invokespecial 41, 3) := by decide +kernel
theorem d18_54 : decode jdk_52_method_3_code 54 = .ok (.athrow, 1) := by decide +kernel
theorem d18_55 : decode jdk_52_method_3_code 55 = .ok (.iload_n 0, 1) := by decide +kernel
theorem d18_56 : decode jdk_52_method_3_code 56 = .ok (.iconst 1, 1) := by decide +kernel
theorem d18_57 : decode jdk_52_method_3_code 57 = .ok (.ishl, 1) := by decide +kernel
theorem d18_58 : decode jdk_52_method_3_code 58 = .ok (.ireturn, 1) := by decide +kernel
theorem ef_ctNBL (m : MethodId) (x0 : Int32) : entryFrame m #[(.int x0)] 1 = mkF m 0 #[.val (.int x0)] [] := by first | (simp [entryFrame, mkF, argsToLocals, Value.category]; done) | rfl
set_option maxRecDepth 65536 in
set_option maxHeartbeats 40000000 in
theorem ctNBL (l : Launch) (Z : State) (a0 : Array Value) (hw : ∀ d ∈ tables_1, d.before a0 Z = true) (hE : EW Z a0 [("java/lang/String", 7)]) (n : Nat) (h0 : Heap) (hO : Ext Z.heap h0) (hn : n < 1073741823) :
    Ct false l Z [("java/lang/String", 7)] [] (⟨"java/lang/StringUTF16", "newBytesLength", "(I)I"⟩ : MethodName) jdk_52_method_3_code 1 (some .int) ({ frames := 0, cells := 0, slots := 0, locals := 0 } : Room) #[(.int (Int32.ofNat n))] h0 [] [] (fun v h => v = some (.int (Int32.ofNat (2 * n)))) := by
  refine Ct.of_wp (a0 := a0) (Ls := #[.val (.int (Int32.ofNat n))]) (plainFor_of_name pn_java_lang_StringUTF16) hE hO nofun (fun m => ef_ctNBL m (Int32.ofNat n)) ?_
  refine Wp.iloadN d18_0 (pc' := 1) rfl rfl ?_
  refine Wp.if_ge (pc1 := 12) (pc' := 4) d18_1 (by decide) (by decide) rfl (fun hc1 => ?_) (fun hc1 => by exact absurd hc1 (on_nneg (by omega)))
  refine Wp.iloadN d18_12 (pc' := 13) rfl rfl ?_
  refine Wp.ldcI rfl (hw _ (List.mem_of_getElem? (i := 87) rfl)) d18_13 (pc' := 15) rfl ?_
  refine Wp.icmp_lt (pc1 := 55) (pc' := 18) d18_15 (by decide) (by decide) rfl (fun hc2 => ?_) (fun hc2 => by exact absurd (on_lt (n := 1073741823) (by omega) hn) hc2)
  refine Wp.iloadN d18_55 (pc' := 56) rfl rfl ?_
  refine Wp.iconst (x := (1 : Int32)) d18_56 (pc' := 57) rfl rfl ?_
  refine Wp.ishl d18_57 (pc' := 58) rfl ?_
  refine Wp.retI rfl d18_58 (by decide) (by decide) ?_
  rw [on_shl1 (by omega)]
theorem d17_0 : decode jdk_52_method_2_code 0 = .ok (.iload_n 0, 1) := by decide +kernel
theorem d17_1 : decode jdk_52_method_2_code 1 = .ok (.invokestatic 11, 3) := by decide +kernel
theorem d17_4 : decode jdk_52_method_2_code 4 = .ok (.newarray .byte, 2) := by decide +kernel
theorem d17_6 : decode jdk_52_method_2_code 6 = .ok (.areturn, 1) := by decide +kernel
theorem ef_ctNBF (m : MethodId) (x0 : Int32) : entryFrame m #[(.int x0)] 1 = mkF m 0 #[.val (.int x0)] [] := by first | (simp [entryFrame, mkF, argsToLocals, Value.category]; done) | rfl
theorem pd__I_I : parseMethodDescriptor "(I)I" = some ⟨[.int], some .int⟩ := by decide +kernel
set_option maxRecDepth 65536 in
set_option maxHeartbeats 40000000 in
theorem ctNBF (l : Launch) (Z : State) (a0 : Array Value) (hw : ∀ d ∈ tables_1, d.before a0 Z = true) (hE : EW Z a0 [("java/lang/String", 7)]) (n : Nat) (h0 : Heap) (hO : Ext Z.heap h0) (hn : n < 1073741823) (hcap : n ≤ 4) :
    Ct false l Z [("java/lang/String", 7)] [] (⟨"java/lang/StringUTF16", "newBytesFor", "(I)[B"⟩ : MethodName) jdk_52_method_2_code 1 (some (.array .byte)) ({ frames := 1, cells := 1, slots := 8, locals := 12 } : Room) #[(.int (Int32.ofNat n))] h0 [] [] (fun v h => ∃ d kd, v = some (.ref d) ∧ h0.size ≤ d ∧ Arv Z h d kd .byte (Int32.ofNat (2 * n)) (List.replicate (2 * n) (.int 0)) (.int 0)) := by
  refine Ct.of_wp (a0 := a0) (Ls := #[.val (.int (Int32.ofNat n))]) (plainFor_of_name pn_java_lang_StringUTF16) hE hO nofun (fun m => ef_ctNBF m (Int32.ofNat n)) ?_
  refine Wp.iloadN d17_0 (pc' := 1) rfl rfl ?_
  refine Wp.old fun hOc => ?_
  refine Wp.callS (W := 0) (argsL := [(.int (Int32.ofNat n))]) (rest := []) rfl (ctNBL l Z a0 hw hE n h0 hOc hn) (hw _ (List.mem_of_getElem? (i := 84) rfl)) (hw _ (List.mem_of_getElem? (i := 85) rfl)) (hw _ (List.mem_of_getElem? (i := 86) rfl)) (hw _ (List.mem_of_getElem? (i := 73) rfl)) (by decide) (lenOf pd__I_I rfl) d17_1 rfl rfl rfl (Nat.le_of_eq rfl) (pc' := 4) rfl nofun nofun (by decide) (by decide) (k' := 0) (n' := 0) rfl rfl (by decide) (by decide) (fun vh1 h1 zh1 Kh1 qh1 => ?_)
  obtain rfl := qh1
  refine Wp.eqS (S' := [(.int (Int32.ofNat (2 * n)))]) rfl ?_
  refine Wp.newP (cap := 8) (hw _ (List.mem_of_getElem? (i := 27) rfl)) (on_nneg (by omega)) (by rw [on_clamp (by omega)]; omega) (by decide) d17_4 (pc' := 6) rfl (k' := 1) (n' := 8) rfl rfl (by decide) (by decide) (fun h2 b2 k_b2 g_b2 sz_b2 Xh2 V_b2 => ?_)
  replace V_b2 := V_b2.pad (pad_rep [] (.int (0 : Int32)) (2 * n))
  refine Wp.retA rfl rfl rfl d17_6 (by decide) (by decide) ?_
  exact ⟨_, k_b2, rfl, sz_b2, V_b2⟩
theorem d19_0 : decode jdk_52_method_4_code 0 = .ok (.getstatic 44, 3) := by decide +kernel
theorem d19_3 : decode jdk_52_method_4_code 3 = .ok (.ifCond .ne 25, 3) := by decide +kernel
theorem d19_6 : decode jdk_52_method_4_code 6 = .ok (.iload_n 1, 1) := by decide +kernel
theorem d19_7 : decode jdk_52_method_4_code 7 = .ok (.ifCond .lt 11, 3) := by decide +kernel
theorem d19_10 : decode jdk_52_method_4_code 10 = .ok (.iload_n 1, 1) := by decide +kernel
theorem d19_11 : decode jdk_52_method_4_code 11 = .ok (.aload_n 0, 1) := by decide +kernel
theorem d19_12 : decode jdk_52_method_4_code 12 = .ok (.invokestatic 48, 3) := by decide +kernel
theorem d19_15 : decode jdk_52_method_4_code 15 = .ok (.if_icmp .lt 13, 3) := by decide +kernel
theorem d19_18 : decode jdk_52_method_4_code 18 = .ok (.new 52, 3) := by decide +kernel
theorem d19_21 : decode jdk_52_method_4_code 21 = .ok (.dup, 1) := by decide +kernel
theorem d19_22 : decode jdk_52_method_4_code 22 = .ok (.ldc 54, 2) := by decide +kernel
theorem d19_24 : decode jdk_52_method_4_code 24 = .ok (.invokespecial 56, 3) := by decide +kernel
theorem d19_27 : decode jdk_52_method_4_code 27 = .ok (.athrow, 1) := by decide +kernel
theorem d19_28 : decode jdk_52_method_4_code 28 = .ok (.iload_n 1, 1) := by decide +kernel
theorem d19_29 : decode jdk_52_method_4_code 29 = .ok (.iconst 1, 1) := by decide +kernel
theorem d19_30 : decode jdk_52_method_4_code 30 = .ok (.ishl, 1) := by decide +kernel
theorem d19_31 : decode jdk_52_method_4_code 31 = .ok (.istore_n 1, 1) := by decide +kernel
theorem d19_32 : decode jdk_52_method_4_code 32 = .ok (.aload_n 0, 1) := by decide +kernel
theorem d19_33 : decode jdk_52_method_4_code 33 = .ok (.iload_n 1, 1) := by decide +kernel
theorem d19_34 : decode jdk_52_method_4_code 34 = .ok (.iinc 1 1, 3) := by decide +kernel
theorem d19_37 : decode jdk_52_method_4_code 37 = .ok (.iload_n 2, 1) := by decide +kernel
theorem d19_38 : decode jdk_52_method_4_code 38 = .ok (.getstatic 59, 3) := by decide +kernel
theorem d19_41 : decode jdk_52_method_4_code 41 = .ok (.ishr, 1) := by decide +kernel
theorem d19_42 : decode jdk_52_method_4_code 42 = .ok (.i2b, 1) := by decide +kernel
theorem d19_43 : decode jdk_52_method_4_code 43 = .ok (.bastore, 1) := by decide +kernel
theorem d19_44 : decode jdk_52_method_4_code 44 = .ok (.aload_n 0, 1) := by decide +kernel
theorem d19_45 : decode jdk_52_method_4_code 45 = .ok (.iload_n 1, 1) := by decide +kernel
theorem d19_46 : decode jdk_52_method_4_code 46 = .ok (.iload_n 2, 1) := by decide +kernel
theorem d19_47 : decode jdk_52_method_4_code 47 = .ok (.getstatic 63, 3) := by decide +kernel
theorem d19_50 : decode jdk_52_method_4_code 50 = .ok (.ishr, 1) := by decide +kernel
theorem d19_51 : decode jdk_52_method_4_code 51 = .ok (.i2b, 1) := by decide +kernel
theorem d19_52 : decode jdk_52_method_4_code 52 = .ok (.bastore, 1) := by decide +kernel
theorem d19_53 : decode jdk_52_method_4_code 53 = .ok (.return_, 1) := by decide +kernel
theorem ef_ctPUT (m : MethodId) (x0 : Addr) (x1 : Int32) (x2 : Int32) : entryFrame m #[(.ref x0), (.int x1), (.int x2)] 3 = mkF m 0 #[.val (.ref x0), .val (.int x1), .val (.int x2)] [] := by first | (simp [entryFrame, mkF, argsToLocals, Value.category]; done) | rfl
set_option maxRecDepth 65536 in
set_option maxHeartbeats 40000000 in
theorem ctPUT (l : Launch) (Z : State) (a0 : Array Value) (hw : ∀ d ∈ tables_1, d.before a0 Z = true) (hE : EW Z a0 [("java/lang/String", 7)]) (d : Addr) (kd : ClassId) (i m_ : Nat) (c : Int32) (vs : List Value) (h0 : Heap) (hO : Ext Z.heap h0) (hU : own_U Z) (V_d : Arv Z h0 d kd .byte (Int32.ofNat m_) vs (.int 0)) (hm : vs.length = m_) (hi : 2 * i + 1 < m_) (hm2 : m_ < 2147483647) (hd0 : Z.heap.size ≤ d) :
    Ct true l Z [("java/lang/String", 7)] [] (⟨"java/lang/StringUTF16", "putChar", "([BII)V"⟩ : MethodName) jdk_52_method_4_code 3 none ({ frames := 0, cells := 0, slots := 0, locals := 0 } : Room) #[(.ref d), (.int (Int32.ofNat i)), (.int c)] h0 [d] [d] (fun v h => v = none ∧ Arv Z h d kd .byte (Int32.ofNat m_) ((vs.set (2 * i) (.int (lb c))).set (2 * i + 1) (.int (hbt c))) (.int 0)) := by
  refine Ct.of_wp (a0 := a0) (Ls := #[.val (.ref d), .val (.int (Int32.ofNat i)), .val (.int c)]) (plainFor_of_name pn_java_lang_StringUTF16) hE hO (by intro x hx; cases List.mem_singleton.mp hx; exact hd0) (fun m => ef_ctPUT m d (Int32.ofNat i) c) ?_
  refine Wp.getS rfl (host := "") (Or.inl (hw _ (List.mem_of_getElem? (i := 91) rfl))) Via.refl hU.1 d19_0 (pc' := 3) rfl ?_
  refine Wp.if_ne (pc1 := 28) (pc' := 6) d19_3 (by decide) (by decide) rfl (fun hc1 => ?_) (fun hc1 => by exact absurd hc1 (by decide))
  refine Wp.iloadN d19_28 (pc' := 29) rfl rfl ?_
  refine Wp.iconst (x := (1 : Int32)) d19_29 (pc' := 30) rfl rfl ?_
  refine Wp.ishl d19_30 (pc' := 31) rfl ?_
  rw [on_shl1 (by omega)]
  refine Wp.istoreN (l' := #[.val (.ref d), .val (.int (Int32.ofNat (2 * i))), .val (.int c)]) d19_31 (pc' := 32) rfl rfl ?_
  refine Wp.aloadN d19_32 (pc' := 33) rfl rfl rfl ?_
  refine Wp.iloadN d19_33 (pc' := 34) rfl rfl ?_
  refine Wp.iinc (l' := #[.val (.ref d), .val (.int ((Int32.ofNat (2 * i)) + (1 : Int32))), .val (.int c)]) d19_34 (pc' := 37) rfl rfl rfl ?_
  rw [on_succ]
  refine Wp.iloadN d19_37 (pc' := 38) rfl rfl ?_
  refine Wp.getS rfl (host := "") (Or.inl (hw _ (List.mem_of_getElem? (i := 92) rfl))) Via.refl hU.2.1 d19_38 (pc' := 41) rfl ?_
  refine Wp.ishr d19_41 (pc' := 42) rfl ?_
  refine Wp.i2b d19_42 (pc' := 43) rfl ?_
  refine Wp.bastore V_d (on_nneg (by omega)) (on_lt (by omega) (by omega : 2 * i < m_)) (i := 2 * i) (on_clamp (by omega)) (by omega) d19_43 (pc' := 44) rfl (Or.inl (by simp)) (Sfe.mem (by simp)) (fun h2 W2 V2 => ?_)
  rw [nar_lb, on_shr0] at V2
  refine Wp.aloadN d19_44 (pc' := 45) rfl rfl rfl ?_
  refine Wp.iloadN d19_45 (pc' := 46) rfl rfl ?_
  refine Wp.iloadN d19_46 (pc' := 47) rfl rfl ?_
  refine Wp.getS rfl (host := "") (Or.inl (hw _ (List.mem_of_getElem? (i := 93) rfl))) Via.refl hU.2.2 d19_47 (pc' := 50) rfl ?_
  refine Wp.ishr d19_50 (pc' := 51) rfl ?_
  refine Wp.i2b d19_51 (pc' := 52) rfl ?_
  refine Wp.bastore V2 (on_nneg (by omega)) (on_lt (by omega) hi) (i := 2 * i + 1) (on_clamp (by omega)) (by simp; omega) d19_52 (pc' := 53) rfl (Or.inl (by simp)) (Sfe.mem (by simp)) (fun h3 W3 V3 => ?_)
  rw [nar_lb] at V3
  refine Wp.retn rfl d19_53 (by decide) (by decide) ?_
  exact ⟨rfl, V3⟩
theorem d20_0 : decode jdk_52_method_5_code 0 = .ok (.getstatic 44, 3) := by decide +kernel
theorem d20_3 : decode jdk_52_method_5_code 3 = .ok (.ifCond .ne 25, 3) := by decide +kernel
theorem d20_6 : decode jdk_52_method_5_code 6 = .ok (.iload_n 1, 1) := by decide +kernel
theorem d20_7 : decode jdk_52_method_5_code 7 = .ok (.ifCond .lt 11, 3) := by decide +kernel
theorem d20_10 : decode jdk_52_method_5_code 10 = .ok (.iload_n 1, 1) := by decide +kernel
theorem d20_11 : decode jdk_52_method_5_code 11 = .ok (.aload_n 0, 1) := by decide +kernel
theorem d20_12 : decode jdk_52_method_5_code 12 = .ok (.invokestatic 48, 3) := by decide +kernel
theorem d20_15 : decode jdk_52_method_5_code 15 = .ok (.if_icmp .lt 13, 3) := by decide +kernel
theorem d20_18 : decode jdk_52_method_5_code 18 = .ok (.new 52, 3) := by decide +kernel
theorem d20_21 : decode jdk_52_method_5_code 21 = .ok (.dup, 1) := by decide +kernel
theorem d20_22 : decode jdk_52_method_5_code 22 = .ok (.ldc 54, 2) := by decide +kernel
theorem d20_24 : decode jdk_52_method_5_code 24 = .ok (.invokespecial 56, 3) := by decide +kernel
theorem d20_27 : decode jdk_52_method_5_code 27 = .ok (.athrow, 1) := by decide +kernel
theorem d20_28 : decode jdk_52_method_5_code 28 = .ok (.iload_n 1, 1) := by decide +kernel
theorem d20_29 : decode jdk_52_method_5_code 29 = .ok (.iconst 1, 1) := by decide +kernel
theorem d20_30 : decode jdk_52_method_5_code 30 = .ok (.ishl, 1) := by decide +kernel
theorem d20_31 : decode jdk_52_method_5_code 31 = .ok (.istore_n 1, 1) := by decide +kernel
theorem d20_32 : decode jdk_52_method_5_code 32 = .ok (.aload_n 0, 1) := by decide +kernel
theorem d20_33 : decode jdk_52_method_5_code 33 = .ok (.iload_n 1, 1) := by decide +kernel
theorem d20_34 : decode jdk_52_method_5_code 34 = .ok (.iinc 1 1, 3) := by decide +kernel
theorem d20_37 : decode jdk_52_method_5_code 37 = .ok (.baload, 1) := by decide +kernel
theorem d20_38 : decode jdk_52_method_5_code 38 = .ok (.sipush 255, 3) := by decide +kernel
theorem d20_41 : decode jdk_52_method_5_code 41 = .ok (.iand, 1) := by decide +kernel
theorem d20_42 : decode jdk_52_method_5_code 42 = .ok (.getstatic 59, 3) := by decide +kernel
theorem d20_45 : decode jdk_52_method_5_code 45 = .ok (.ishl, 1) := by decide +kernel
theorem d20_46 : decode jdk_52_method_5_code 46 = .ok (.aload_n 0, 1) := by decide +kernel
theorem d20_47 : decode jdk_52_method_5_code 47 = .ok (.iload_n 1, 1) := by decide +kernel
theorem d20_48 : decode jdk_52_method_5_code 48 = .ok (.baload, 1) := by decide +kernel
theorem d20_49 : decode jdk_52_method_5_code 49 = .ok (.sipush 255, 3) := by decide +kernel
theorem d20_52 : decode jdk_52_method_5_code 52 = .ok (.iand, 1) := by decide +kernel
theorem d20_53 : decode jdk_52_method_5_code 53 = .ok (.getstatic 63, 3) := by decide +kernel
theorem d20_56 : decode jdk_52_method_5_code 56 = .ok (.ishl, 1) := by decide +kernel
theorem d20_57 : decode jdk_52_method_5_code 57 = .ok (.ior, 1) := by decide +kernel
theorem d20_58 : decode jdk_52_method_5_code 58 = .ok (.i2c, 1) := by decide +kernel
theorem d20_59 : decode jdk_52_method_5_code 59 = .ok (.ireturn, 1) := by decide +kernel
theorem ef_ctGET (m : MethodId) (x0 : Addr) (x1 : Int32) : entryFrame m #[(.ref x0), (.int x1)] 2 = mkF m 0 #[.val (.ref x0), .val (.int x1)] [] := by first | (simp [entryFrame, mkF, argsToLocals, Value.category]; done) | rfl
set_option maxRecDepth 65536 in
set_option maxHeartbeats 40000000 in
theorem ctGET (l : Launch) (Z : State) (a0 : Array Value) (hw : ∀ d ∈ tables_1, d.before a0 Z = true) (hE : EW Z a0 [("java/lang/String", 7)]) (d : Addr) (kd : ClassId) (i : Nat) (c : Int32) (cs : List Int32) (h0 : Heap) (hO : Ext Z.heap h0) (hU : own_U Z) (V_d : Arv Z h0 d kd .byte (Int32.ofNat (2 * cs.length)) (utf cs) (.int 0)) (hc : cs[i]? = some c) (hn : cs.length < 1073741823) (h16 : nar .char c = c) :
    Ct true l Z [("java/lang/String", 7)] [] (⟨"java/lang/StringUTF16", "getChar", "([BI)C"⟩ : MethodName) jdk_52_method_5_code 2 (some .char) ({ frames := 0, cells := 0, slots := 0, locals := 0 } : Room) #[(.ref d), (.int (Int32.ofNat i))] h0 [] [] (fun v h => v = some (.int c)) := by
  refine Ct.of_wp (a0 := a0) (Ls := #[.val (.ref d), .val (.int (Int32.ofNat i))]) (plainFor_of_name pn_java_lang_StringUTF16) hE hO nofun (fun m => ef_ctGET m d (Int32.ofNat i)) ?_
  have hin : i < cs.length := (List.getElem?_eq_some_iff.mp hc).1
  refine Wp.getS rfl (host := "") (Or.inl (hw _ (List.mem_of_getElem? (i := 91) rfl))) Via.refl hU.1 d20_0 (pc' := 3) rfl ?_
  refine Wp.if_ne (pc1 := 28) (pc' := 6) d20_3 (by decide) (by decide) rfl (fun hc1 => ?_) (fun hc1 => by exact absurd hc1 (by decide))
  refine Wp.iloadN d20_28 (pc' := 29) rfl rfl ?_
  refine Wp.iconst (x := (1 : Int32)) d20_29 (pc' := 30) rfl rfl ?_
  refine Wp.ishl d20_30 (pc' := 31) rfl ?_
  rw [on_shl1 (by omega)]
  refine Wp.istoreN (l' := #[.val (.ref d), .val (.int (Int32.ofNat (2 * i)))]) d20_31 (pc' := 32) rfl rfl ?_
  refine Wp.aloadN d20_32 (pc' := 33) rfl rfl rfl ?_
  refine Wp.iloadN d20_33 (pc' := 34) rfl rfl ?_
  refine Wp.iinc (l' := #[.val (.ref d), .val (.int ((Int32.ofNat (2 * i)) + (1 : Int32)))]) d20_34 (pc' := 37) rfl rfl rfl ?_
  rw [on_succ]
  refine Wp.baload V_d (on_nneg (by omega)) (on_lt (by omega) (by omega : 2 * i < 2 * cs.length)) (v := .int (lb c)) (by rw [on_clamp (by omega)]; simp [List.getD_eq_getElem?_getD, (utf_at hc).1]) d20_37 (pc' := 38) rfl ?_
  refine Wp.sipush (x := (255 : Int32)) d20_38 (pc' := 41) rfl rfl ?_
  refine Wp.iand d20_41 (pc' := 42) rfl ?_
  refine Wp.getS rfl (host := "") (Or.inl (hw _ (List.mem_of_getElem? (i := 92) rfl))) Via.refl hU.2.1 d20_42 (pc' := 45) rfl ?_
  refine Wp.ishl d20_45 (pc' := 46) rfl ?_
  refine Wp.aloadN d20_46 (pc' := 47) rfl rfl rfl ?_
  refine Wp.iloadN d20_47 (pc' := 48) rfl rfl ?_
  refine Wp.baload V_d (on_nneg (by omega)) (on_lt (by omega) (by omega : 2 * i + 1 < 2 * cs.length)) (v := .int (hbt c)) (by rw [on_clamp (by omega)]; simp [List.getD_eq_getElem?_getD, (utf_at hc).2]) d20_48 (pc' := 49) rfl ?_
  refine Wp.sipush (x := (255 : Int32)) d20_49 (pc' := 52) rfl rfl ?_
  refine Wp.iand d20_52 (pc' := 53) rfl ?_
  refine Wp.getS rfl (host := "") (Or.inl (hw _ (List.mem_of_getElem? (i := 93) rfl))) Via.refl hU.2.2 d20_53 (pc' := 56) rfl ?_
  refine Wp.ishl d20_56 (pc' := 57) rfl ?_
  refine Wp.ior d20_57 (pc' := 58) rfl ?_
  refine Wp.i2c d20_58 (pc' := 59) rfl ?_
  refine Wp.retN (t := .char) rfl (by simp) rfl d20_59 (by decide) (by decide) ?_
  rw [(join16 c).trans h16, h16]
theorem pd___BII_V : parseMethodDescriptor "([BII)V" = some ⟨[(.array .byte), .int, .int], none⟩ := by decide +kernel
theorem pd___BI_C : parseMethodDescriptor "([BI)C" = some ⟨[(.array .byte), .int], some .char⟩ := by decide +kernel
theorem d16_0 : decode jdk_52_method_14_code 0 = .ok (.iload_n 2, 1) := by decide +kernel
theorem d16_1 : decode jdk_52_method_14_code 1 = .ok (.invokestatic 107, 3) := by decide +kernel
theorem d16_4 : decode jdk_52_method_14_code 4 = .ok (.astore_n 3, 1) := by decide +kernel
theorem d16_5 : decode jdk_52_method_14_code 5 = .ok (.iconst 0, 1) := by decide +kernel
theorem d16_6 : decode jdk_52_method_14_code 6 = .ok (.istore 4, 2) := by decide +kernel
theorem d16_8 : decode jdk_52_method_14_code 8 = .ok (.iload 4, 2) := by decide +kernel
theorem d16_10 : decode jdk_52_method_14_code 10 = .ok (.iload_n 2, 1) := by decide +kernel
theorem d16_11 : decode jdk_52_method_14_code 11 = .ok (.if_icmp .ge 21, 3) := by decide +kernel
theorem d16_14 : decode jdk_52_method_14_code 14 = .ok (.aload_n 3, 1) := by decide +kernel
theorem d16_15 : decode jdk_52_method_14_code 15 = .ok (.iload 4, 2) := by decide +kernel
theorem d16_17 : decode jdk_52_method_14_code 17 = .ok (.aload_n 0, 1) := by decide +kernel
theorem d16_18 : decode jdk_52_method_14_code 18 = .ok (.iload_n 1, 1) := by decide +kernel
theorem d16_19 : decode jdk_52_method_14_code 19 = .ok (.caload, 1) := by decide +kernel
theorem d16_20 : decode jdk_52_method_14_code 20 = .ok (.invokestatic 111, 3) := by decide +kernel
theorem d16_23 : decode jdk_52_method_14_code 23 = .ok (.iinc 1 1, 3) := by decide +kernel
theorem d16_26 : decode jdk_52_method_14_code 26 = .ok (.iinc 4 1, 3) := by decide +kernel
theorem d16_29 : decode jdk_52_method_14_code 29 = .ok (.goto (-21), 3) := by decide +kernel
theorem d16_32 : decode jdk_52_method_14_code 32 = .ok (.aload_n 3, 1) := by decide +kernel
theorem d16_33 : decode jdk_52_method_14_code 33 = .ok (.areturn, 1) := by decide +kernel
set_option maxRecDepth 65536 in
set_option maxHeartbeats 40000000 in
theorem own_lpU (l : Launch) (Z : State) (a0 : Array Value) (hw : ∀ d ∈ tables_1, d.before a0 Z = true) (hE : EW Z a0 [("java/lang/String", 7)]) (hU : own_U Z) (a d : Addr) (ka kd : ClassId) (cs : List Int32) (hn : cs.length < 1073741823) (hs : Heap) (sz_d : hs.size ≤ d) (hd0 : Z.heap.size ≤ d) :
    ∀ (j i : Nat) (h : Heap), i + j = cs.length → Arv Z h a ka .char (Int32.ofNat cs.length) (cs.map Value.int) (.int 0) → Arv Z h d kd .byte (Int32.ofNat (2 * cs.length)) (utf (cs.take i) ++ List.replicate (2 * j) (.int 0)) (.int 0) → a ≠ d →
      Wp true l Z a0 [("java/lang/String", 7)] ({ frames := 2, cells := 1, slots := 8, locals := 24 } : Room) (⟨"java/lang/StringUTF16", "toBytes", "([CII)[B"⟩ : MethodName) jdk_52_method_14_code 5 (some (.array .byte)) hs [] (fun v h => ∃ d kd, v = some (.ref d) ∧ hs.size ≤ d ∧ Arv Z h d kd .byte (Int32.ofNat (2 * cs.length)) (utf cs) (.int 0)) h [d] 1 8 8 #[.val (.ref a), .val (.int (Int32.ofNat i)), .val (.int (Int32.ofNat cs.length)), .val (.ref d), .val (.int (Int32.ofNat i))] [] := by
  intro j
  induction j with
  | zero =>
    intro i h hi V_a V_d ne_a_d
    have ei : i = cs.length := by omega
    subst ei
    rw [List.take_length] at V_d
    refine Wp.iload d16_8 (pc' := 10) rfl rfl ?_
    refine Wp.iloadN d16_10 (pc' := 11) rfl rfl ?_
    refine Wp.icmp_ge (pc1 := 32) (pc' := 14) d16_11 (by decide) (by decide) rfl (fun hc101 => ?_) (fun hc101 => by exact absurd hc101 Int32.lt_irrefl)
    refine Wp.aloadN d16_32 (pc' := 33) rfl rfl rfl ?_
    refine Wp.retA rfl rfl rfl d16_33 (by decide) (by decide) ?_
    exact ⟨_, kd, rfl, sz_d, by simpa using V_d⟩
  | succ j ih =>
    intro i h hi V_a V_d ne_a_d
    have hin : i < cs.length := by omega
    obtain ⟨c, hc⟩ : ∃ c, cs[i]? = some c := ⟨_, List.getElem?_eq_getElem hin⟩
    refine Wp.iload d16_8 (pc' := 10) rfl rfl ?_
    refine Wp.iloadN d16_10 (pc' := 11) rfl rfl ?_
    refine Wp.icmp_ge (pc1 := 32) (pc' := 14) d16_11 (by decide) (by decide) rfl (fun hc101 => by exact absurd (on_lt (by omega) hin) hc101) (fun hc101 => ?_)
    refine Wp.aloadN d16_14 (pc' := 15) rfl rfl rfl ?_
    refine Wp.iload d16_15 (pc' := 17) rfl rfl ?_
    refine Wp.aloadN d16_17 (pc' := 18) rfl rfl rfl ?_
    refine Wp.iloadN d16_18 (pc' := 19) rfl rfl ?_
    refine Wp.caload V_a (on_nneg (by omega)) (on_lt (by omega) hin) (v := .int c) (by rw [on_clamp (by omega)]; simp [List.getD_eq_getElem?_getD, hc]) d16_19 (pc' := 20) rfl ?_
    refine Wp.old fun hOc => ?_
    refine Wp.callS (W := 0) (argsL := [(.ref d), (.int (Int32.ofNat i)), (.int c)]) (rest := []) rfl (ctPUT l Z a0 hw hE d kd i (2 * cs.length) c _ h hOc hU V_d (by simp [utf_len]; omega) (by omega) (by omega) hd0) (hw _ (List.mem_of_getElem? (i := 88) rfl)) (hw _ (List.mem_of_getElem? (i := 89) rfl)) (hw _ (List.mem_of_getElem? (i := 90) rfl)) (hw _ (List.mem_of_getElem? (i := 73) rfl)) (by decide) (lenOf pd___BII_V rfl) d16_20 rfl rfl rfl (Nat.le_of_eq rfl) (pc' := 23) rfl (by simp) (by intro x hx; simp only [List.mem_cons, List.not_mem_nil, or_false] at hx; rcases hx with rfl; exact (Or.inr sz_d)) (by decide) (by decide) (k' := 1) (n' := 8) rfl rfl (by decide) (by decide) (fun vh102 h102 zh102 Kh102 qh102 => ?_)
    obtain ⟨rfl, V_d⟩ := qh102
    rw [utf_step hc] at V_d
    replace V_a := V_a.keep Kh102 (ninS ne_a_d nin0)
    refine Wp.eqS (S' := []) rfl ?_
    refine Wp.iinc (l' := #[.val (.ref a), .val (.int ((Int32.ofNat i) + (1 : Int32))), .val (.int (Int32.ofNat cs.length)), .val (.ref d), .val (.int (Int32.ofNat i))]) d16_23 (pc' := 26) rfl rfl rfl ?_
    refine Wp.iinc (l' := #[.val (.ref a), .val (.int ((Int32.ofNat i) + (1 : Int32))), .val (.int (Int32.ofNat cs.length)), .val (.ref d), .val (.int ((Int32.ofNat i) + (1 : Int32)))]) d16_26 (pc' := 29) rfl rfl rfl ?_
    refine Wp.goto (pc' := 8) d16_29 (by decide) (by decide) ?_
    rw [on_succ]
    exact ih (i + 1) h102 (by omega) V_a V_d ne_a_d
theorem ef_ctTB16 (m : MethodId) (x0 : Addr) (x1 : Int32) (x2 : Int32) : entryFrame m #[(.ref x0), (.int x1), (.int x2)] 5 = mkF m 0 #[.val (.ref x0), .val (.int x1), .val (.int x2), .unset, .unset] [] := by first | (simp [entryFrame, mkF, argsToLocals, Value.category]; done) | rfl
theorem pd__I__B : parseMethodDescriptor "(I)[B" = some ⟨[.int], some (.array .byte)⟩ := by decide +kernel
set_option maxRecDepth 65536 in
set_option maxHeartbeats 40000000 in
theorem ctTB16 (l : Launch) (Z : State) (a0 : Array Value) (hw : ∀ d ∈ tables_1, d.before a0 Z = true) (hE : EW Z a0 [("java/lang/String", 7)]) (a : Addr) (ka : ClassId) (cs : List Int32) (h0 : Heap) (hO : Ext Z.heap h0) (hU : own_U Z) (hn : cs.length < 1073741823) (hcap : cs.length ≤ 4) (V_a : Arv Z h0 a ka .char (Int32.ofNat cs.length) (cs.map Value.int) (.int 0)) :
    Ct true l Z [("java/lang/String", 7)] [] (⟨"java/lang/StringUTF16", "toBytes", "([CII)[B"⟩ : MethodName) jdk_52_method_14_code 5 (some (.array .byte)) ({ frames := 2, cells := 1, slots := 8, locals := 24 } : Room) #[(.ref a), (.int (0 : Int32)), (.int (Int32.ofNat cs.length))] h0 [] [] (fun v h => ∃ d kd, v = some (.ref d) ∧ h0.size ≤ d ∧ Arv Z h d kd .byte (Int32.ofNat (2 * cs.length)) (utf cs) (.int 0)) := by
  refine Ct.of_wp (a0 := a0) (Ls := #[.val (.ref a), .val (.int (0 : Int32)), .val (.int (Int32.ofNat cs.length)), .unset, .unset]) (plainFor_of_name pn_java_lang_StringUTF16) hE hO nofun (fun m => ef_ctTB16 m a (0 : Int32) (Int32.ofNat cs.length)) ?_
  refine Wp.iloadN d16_0 (pc' := 1) rfl rfl ?_
  refine Wp.old fun hOc => ?_
  refine Wp.callSF (W := 0) (argsL := [(.int (Int32.ofNat cs.length))]) (rest := []) rfl (ctNBF l Z a0 hw hE cs.length h0 hOc (by omega) hcap) (hw _ (List.mem_of_getElem? (i := 81) rfl)) (hw _ (List.mem_of_getElem? (i := 82) rfl)) (hw _ (List.mem_of_getElem? (i := 83) rfl)) (hw _ (List.mem_of_getElem? (i := 73) rfl)) (by decide) (lenOf pd__I__B rfl) d16_1 rfl rfl rfl (Nat.le_of_eq rfl) (pc' := 4) rfl (by decide) (by decide) (k' := 1) (n' := 8) rfl rfl (by decide) (by decide) (fun vh1 h1 zh1 Kh1 qh1 => ?_)
  obtain ⟨d, kd, rfl, sb_d, V_d⟩ := qh1
  refine ⟨d, sb_d, V_d.lt, ?_⟩
  have ne_a_d : a ≠ d := Nat.ne_of_lt (Nat.lt_of_lt_of_le V_a.lt sb_d)
  replace V_a := V_a.keep Kh1 nin0
  refine Wp.eqS (S' := [(.ref d)]) rfl ?_
  have sz_d : h0.size ≤ d := Nat.le_trans zh1 sb_d
  refine Wp.astoreN (l' := #[.val (.ref a), .val (.int (0 : Int32)), .val (.int (Int32.ofNat cs.length)), .val (.ref d), .unset]) d16_4 (pc' := 5) rfl rfl rfl ?_
  refine Wp.iconst (x := (0 : Int32)) d16_5 (pc' := 6) rfl rfl ?_
  refine Wp.istore (l' := #[.val (.ref a), .val (.int (0 : Int32)), .val (.int (Int32.ofNat cs.length)), .val (.ref d), .val (.int (0 : Int32))]) d16_6 (pc' := 8) rfl rfl ?_
  exact own_lpU l Z a0 hw hE hU a d ka kd cs hn h0 sz_d (Nat.le_trans hO.1 sz_d) cs.length 0 _ (by omega) V_a (by simpa [utf] using V_d) ne_a_d
theorem d14_0 : decode jdk_52_method_16_code 0 = .ok (.iload_n 2, 1) := by decide +kernel
theorem d14_1 : decode jdk_52_method_16_code 1 = .ok (.newarray .byte, 2) := by decide +kernel
theorem d14_3 : decode jdk_52_method_16_code 3 = .ok (.astore_n 3, 1) := by decide +kernel
theorem d14_4 : decode jdk_52_method_16_code 4 = .ok (.aload_n 0, 1) := by decide +kernel
theorem d14_5 : decode jdk_52_method_16_code 5 = .ok (.iload_n 1, 1) := by decide +kernel
theorem d14_6 : decode jdk_52_method_16_code 6 = .ok (.aload_n 3, 1) := by decide +kernel
theorem d14_7 : decode jdk_52_method_16_code 7 = .ok (.iconst 0, 1) := by decide +kernel
theorem d14_8 : decode jdk_52_method_16_code 8 = .ok (.iload_n 2, 1) := by decide +kernel
theorem d14_9 : decode jdk_52_method_16_code 9 = .ok (.invokestatic 115, 3) := by decide +kernel
theorem d14_12 : decode jdk_52_method_16_code 12 = .ok (.istore 4, 2) := by decide +kernel
theorem d14_14 : decode jdk_52_method_16_code 14 = .ok (.iload 4, 2) := by decide +kernel
theorem d14_16 : decode jdk_52_method_16_code 16 = .ok (.iload_n 2, 1) := by decide +kernel
theorem d14_17 : decode jdk_52_method_16_code 17 = .ok (.if_icmp .eq 40, 3) := by decide +kernel
theorem d14_20 : decode jdk_52_method_16_code 20 = .ok (.aload_n 0, 1) := by decide +kernel
theorem d14_21 : decode jdk_52_method_16_code 21 = .ok (.iload_n 1, 1) := by decide +kernel
theorem d14_22 : decode jdk_52_method_16_code 22 = .ok (.iload_n 2, 1) := by decide +kernel
theorem d14_23 : decode jdk_52_method_16_code 23 = .ok (.invokestatic 119, 3) := by decide +kernel
theorem d14_26 : decode jdk_52_method_16_code 26 = .ok (.astore 5, 2) := by decide +kernel
theorem d14_28 : decode jdk_52_method_16_code 28 = .ok (.aload 5, 2) := by decide +kernel
theorem d14_30 : decode jdk_52_method_16_code 30 = .ok (.iload 4, 2) := by decide +kernel
theorem d14_32 : decode jdk_52_method_16_code 32 = .ok (.invokestatic 71, 3) := by decide +kernel
theorem d14_35 : decode jdk_52_method_16_code 35 = .ok (.sipush 255, 3) := by decide +kernel
theorem d14_38 : decode jdk_52_method_16_code 38 = .ok (.if_icmp .gt 16, 3) := by decide +kernel
theorem d14_41 : decode jdk_52_method_16_code 41 = .ok (.aload 5, 2) := by decide +kernel
theorem d14_43 : decode jdk_52_method_16_code 43 = .ok (.iconst 0, 1) := by decide +kernel
theorem d14_44 : decode jdk_52_method_16_code 44 = .ok (.aload_n 3, 1) := by decide +kernel
theorem d14_45 : decode jdk_52_method_16_code 45 = .ok (.iconst 0, 1) := by decide +kernel
theorem d14_46 : decode jdk_52_method_16_code 46 = .ok (.iload_n 2, 1) := by decide +kernel
theorem d14_47 : decode jdk_52_method_16_code 47 = .ok (.invokestatic 123, 3) := by decide +kernel
theorem d14_50 : decode jdk_52_method_16_code 50 = .ok (.iload_n 2, 1) := by decide +kernel
theorem d14_51 : decode jdk_52_method_16_code 51 = .ok (.if_icmp .eq 6, 3) := by decide +kernel
theorem d14_54 : decode jdk_52_method_16_code 54 = .ok (.aload 5, 2) := by decide +kernel
theorem d14_56 : decode jdk_52_method_16_code 56 = .ok (.areturn, 1) := by decide +kernel
theorem d14_57 : decode jdk_52_method_16_code 57 = .ok (.aload_n 3, 1) := by decide +kernel
theorem d14_58 : decode jdk_52_method_16_code 58 = .ok (.areturn, 1) := by decide +kernel
theorem ef_ctCMP3 (m : MethodId) (x0 : Addr) (x1 : Int32) (x2 : Int32) : entryFrame m #[(.ref x0), (.int x1), (.int x2)] 6 = mkF m 0 #[.val (.ref x0), .val (.int x1), .val (.int x2), .unset, .unset, .unset] [] := by first | (simp [entryFrame, mkF, argsToLocals, Value.category]; done) | rfl
theorem pd___CI_BII_I : parseMethodDescriptor "([CI[BII)I" = some ⟨[(.array .char), .int, (.array .byte), .int, .int], some .int⟩ := by decide +kernel
theorem pd___CII__B : parseMethodDescriptor "([CII)[B" = some ⟨[(.array .char), .int, .int], some (.array .byte)⟩ := by decide +kernel
set_option maxRecDepth 65536 in
set_option maxHeartbeats 40000000 in
theorem ctCMP3 (l : Launch) (Z : State) (a0 : Array Value) (hw : ∀ d ∈ tables_1, d.before a0 Z = true) (hE : EW Z a0 [("java/lang/String", 7)]) (a : Addr) (ka : ClassId) (cs : List Int32) (h0 : Heap) (hO : Ext Z.heap h0) (hU : own_U Z) (hn : cs.length < 1073741823) (hcap : cs.length ≤ 4) (h16 : ∀ c ∈ cs, nar .char c = c) (V_a : Arv Z h0 a ka .char (Int32.ofNat cs.length) (cs.map Value.int) (.int 0)) :
    Ct true l Z [("java/lang/String", 7)] [] (⟨"java/lang/StringUTF16", "compress", "([CII)[B"⟩ : MethodName) jdk_52_method_16_code 6 (some (.array .byte)) ({ frames := 3, cells := 2, slots := 12, locals := 40 } : Room) #[(.ref a), (.int (0 : Int32)), (.int (Int32.ofNat cs.length))] h0 [] [] (fun v h => ∃ d kd w zz vs, v = some (.ref d) ∧ h0.size ≤ d ∧ Arv Z h d kd .byte zz vs (.int 0) ∧ Enc cs w zz vs) := by
  refine Ct.of_wp (a0 := a0) (Ls := #[.val (.ref a), .val (.int (0 : Int32)), .val (.int (Int32.ofNat cs.length)), .unset, .unset, .unset]) (plainFor_of_name pn_java_lang_StringUTF16) hE hO nofun (fun m => ef_ctCMP3 m a (0 : Int32) (Int32.ofNat cs.length)) ?_
  refine Wp.iloadN d14_0 (pc' := 1) rfl rfl ?_
  refine Wp.newP (cap := 4) (hw _ (List.mem_of_getElem? (i := 27) rfl)) (on_nneg (by omega)) (by rw [on_clamp (by omega)]; exact hcap) (by decide) d14_1 (pc' := 3) rfl (k' := 1) (n' := 4) rfl rfl (by decide) (by decide) (fun h1 b1 k_b1 g_b1 sz_b1 Xh1 V_b1 => ?_)
  have ne_a_b1 : a ≠ b1 := Nat.ne_of_lt (Nat.lt_of_lt_of_eq V_a.lt g_b1.symm)
  replace V_a := V_a.ext Xh1
  replace V_b1 := V_b1.pad (pad_rep [] (.int (0 : Int32)) cs.length)
  refine Wp.astoreN (l' := #[.val (.ref a), .val (.int (0 : Int32)), .val (.int (Int32.ofNat cs.length)), .val (.ref b1), .unset, .unset]) d14_3 (pc' := 4) rfl rfl rfl ?_
  refine Wp.aloadN d14_4 (pc' := 5) rfl rfl rfl ?_
  refine Wp.iloadN d14_5 (pc' := 6) rfl rfl ?_
  refine Wp.aloadN d14_6 (pc' := 7) rfl rfl rfl ?_
  refine Wp.iconst (x := (0 : Int32)) d14_7 (pc' := 8) rfl rfl ?_
  refine Wp.iloadN d14_8 (pc' := 9) rfl rfl ?_
  refine Wp.old fun hOc => ?_
  refine Wp.callS (W := 0) (argsL := [(.ref a), (.int (0 : Int32)), (.ref b1), (.int (0 : Int32)), (.int (Int32.ofNat cs.length))]) (rest := []) rfl (ctCMP5 l Z a0 hw hE a b1 ka k_b1 cs h1 hOc (by omega) V_a V_b1 ne_a_b1 (Nat.le_trans hO.1 sz_b1)) (hw _ (List.mem_of_getElem? (i := 75) rfl)) (hw _ (List.mem_of_getElem? (i := 76) rfl)) (hw _ (List.mem_of_getElem? (i := 77) rfl)) (hw _ (List.mem_of_getElem? (i := 73) rfl)) (by decide) (lenOf pd___CI_BII_I rfl) d14_9 rfl rfl rfl (Nat.le_of_eq rfl) (pc' := 12) rfl (by simp) (by intro x hx; simp only [List.mem_cons, List.not_mem_nil, or_false] at hx; rcases hx with rfl; exact (Or.inr sz_b1)) (by decide) (by decide) (k' := 1) (n' := 4) rfl rfl (by decide) (by decide) (fun vh2 h2 zh2 Kh2 qh2 => ?_)
  obtain ⟨t, rfl, hq⟩ : ∃ t : Nat, vh2 = some (.int (Int32.ofNat t)) ∧ ((t = cs.length ∧ (∀ c ∈ cs, ¬ (255 : Int32) < c) ∧ Arv Z h2 b1 k_b1 .byte (Int32.ofNat cs.length) (cs.map fun c => Value.int (lb c)) (.int 0)) ∨ (∃ c, t < cs.length ∧ cs[t]? = some c ∧ (255 : Int32) < c)) := by
    rcases qh2 with ⟨rfl, qa, qb⟩ | ⟨t, c, q1, q2, q3, rfl⟩
    · exact ⟨_, rfl, Or.inl ⟨rfl, qa, qb⟩⟩
    · exact ⟨t, rfl, Or.inr ⟨c, q1, q2, q3⟩⟩
  replace V_a := V_a.keep Kh2 (ninS ne_a_b1 nin0)
  refine Wp.eqS (S' := [(.int (Int32.ofNat t))]) rfl ?_
  refine Wp.istore (l' := #[.val (.ref a), .val (.int (0 : Int32)), .val (.int (Int32.ofNat cs.length)), .val (.ref b1), .val (.int (Int32.ofNat t)), .unset]) d14_12 (pc' := 14) rfl rfl ?_
  refine Wp.iload d14_14 (pc' := 16) rfl rfl ?_
  refine Wp.iloadN d14_16 (pc' := 17) rfl rfl ?_
  refine Wp.icmp_eq (pc1 := 57) (pc' := 20) d14_17 (by decide) (by decide) rfl (fun hc3 => ?_) (fun hc3 => ?_)
  · have hc3 : (Int32.ofNat t) = (Int32.ofNat cs.length) := hc3
    refine Wp.aloadN d14_57 (pc' := 58) rfl rfl rfl ?_
    refine Wp.retA rfl rfl rfl d14_58 (by decide) (by decide) ?_
    rcases hq with ⟨-, qa, qb⟩ | ⟨c, q1, q2, q3⟩
    · exact ⟨_, k_b1, 0, _, _, rfl, sz_b1, qb, Or.inl ⟨rfl, rfl, rfl, qa⟩⟩
    · exact absurd ((on_eq (by omega) (by omega)).mp hc3) (by omega)
  · have hc3 : ¬ ((Int32.ofNat t) = (Int32.ofNat cs.length)) := hc3
    obtain ⟨c, q1, q2, q3⟩ := hq.resolve_left (fun z => hc3 (by rw [z.1]))
    refine Wp.aloadN d14_20 (pc' := 21) rfl rfl rfl ?_
    refine Wp.iloadN d14_21 (pc' := 22) rfl rfl ?_
    refine Wp.iloadN d14_22 (pc' := 23) rfl rfl ?_
    refine Wp.old fun hOc => ?_
    refine Wp.callS (W := 0) (argsL := [(.ref a), (.int (0 : Int32)), (.int (Int32.ofNat cs.length))]) (rest := []) rfl (ctTB16 l Z a0 hw hE a ka cs h2 hOc hU hn hcap V_a) (hw _ (List.mem_of_getElem? (i := 78) rfl)) (hw _ (List.mem_of_getElem? (i := 79) rfl)) (hw _ (List.mem_of_getElem? (i := 80) rfl)) (hw _ (List.mem_of_getElem? (i := 73) rfl)) (by decide) (lenOf pd___CII__B rfl) d14_23 rfl rfl rfl (Nat.le_of_eq rfl) (pc' := 26) rfl nofun nofun (by decide) (by decide) (k' := 2) (n' := 12) rfl rfl (by decide) (by decide) (fun vh4 h4 zh4 Kh4 qh4 => ?_)
    obtain ⟨u, ku, rfl, sb_u, V_u⟩ := qh4
    have ne_a_u : a ≠ u := Nat.ne_of_lt (Nat.lt_of_lt_of_le V_a.lt sb_u)
    replace V_a := V_a.keep Kh4 nin0
    refine Wp.eqS (S' := [(.ref u)]) rfl ?_
    have sz_u : h0.size ≤ u := Nat.le_trans zh4 sb_u
    refine Wp.astore (l' := #[.val (.ref a), .val (.int (0 : Int32)), .val (.int (Int32.ofNat cs.length)), .val (.ref b1), .val (.int (Int32.ofNat t)), .val (.ref u)]) d14_26 (pc' := 28) rfl rfl rfl ?_
    refine Wp.aload d14_28 (pc' := 30) rfl rfl rfl ?_
    refine Wp.iload d14_30 (pc' := 32) rfl rfl ?_
    refine Wp.old fun hOc => ?_
    refine Wp.callS (W := 0) (argsL := [(.ref u), (.int (Int32.ofNat t))]) (rest := []) rfl (ctGET l Z a0 hw hE u ku t c cs h4 hOc hU V_u q2 hn (h16 c (List.mem_of_getElem? q2))) (hw _ (List.mem_of_getElem? (i := 94) rfl)) (hw _ (List.mem_of_getElem? (i := 95) rfl)) (hw _ (List.mem_of_getElem? (i := 96) rfl)) (hw _ (List.mem_of_getElem? (i := 73) rfl)) (by decide) (lenOf pd___BI_C rfl) d14_32 rfl rfl rfl (Nat.le_of_eq rfl) (pc' := 35) rfl nofun nofun (by decide) (by decide) (k' := 2) (n' := 12) rfl rfl (by decide) (by decide) (fun vh5 h5 zh5 Kh5 qh5 => ?_)
    obtain rfl := qh5
    replace V_a := V_a.keep Kh5 nin0
    replace V_u := V_u.keep Kh5 nin0
    refine Wp.eqS (S' := [(.int c)]) rfl ?_
    refine Wp.sipush (x := (255 : Int32)) d14_35 (pc' := 38) rfl rfl ?_
    refine Wp.icmp_gt (pc1 := 54) (pc' := 41) d14_38 (by decide) (by decide) rfl (fun hc6 => ?_) (fun hc6 => by exact absurd q3 hc6)
    refine Wp.aload d14_54 (pc' := 56) rfl rfl rfl ?_
    refine Wp.retA rfl rfl rfl d14_56 (by decide) (by decide) ?_
    exact ⟨u, ku, 1, _, _, rfl, sz_u, V_u, Or.inr ⟨rfl, rfl, rfl, c, List.mem_of_getElem? q2, q3⟩⟩
theorem d21_0 : decode jdk_52_method_15_code 0 = .ok (.iload_n 1, 1) := by decide +kernel
theorem d21_1 : decode jdk_52_method_15_code 1 = .ok (.aload_n 0, 1) := by decide +kernel
theorem d21_2 : decode jdk_52_method_15_code 2 = .ok (.arraylength, 1) := by decide +kernel
theorem d21_3 : decode jdk_52_method_15_code 3 = .ok (.isub, 1) := by decide +kernel
theorem d21_4 : decode jdk_52_method_15_code 4 = .ok (.bipush 31, 2) := by decide +kernel
theorem d21_6 : decode jdk_52_method_15_code 6 = .ok (.iushr, 1) := by decide +kernel
theorem d21_7 : decode jdk_52_method_15_code 7 = .ok (.i2b, 1) := by decide +kernel
theorem d21_8 : decode jdk_52_method_15_code 8 = .ok (.ireturn, 1) := by decide +kernel
theorem ef_ctCFA (m : MethodId) (x0 : Addr) (x1 : Int32) : entryFrame m #[(.ref x0), (.int x1)] 2 = mkF m 0 #[.val (.ref x0), .val (.int x1)] [] := by first | (simp [entryFrame, mkF, argsToLocals, Value.category]; done) | rfl
set_option maxRecDepth 65536 in
set_option maxHeartbeats 40000000 in
theorem ctCFA (l : Launch) (Z : State) (a0 : Array Value) (hw : ∀ d ∈ tables_1, d.before a0 Z = true) (hE : EW Z a0 [("java/lang/String", 7)]) (d : Addr) (kd : ClassId) (cs : List Int32) (w zz : Int32) (vs : List Value) (h0 : Heap) (hO : Ext Z.heap h0) (hn : cs.length < 1073741823) (V_d : Arv Z h0 d kd .byte zz vs (.int 0)) (hEn : Enc cs w zz vs) :
    Ct true l Z [("java/lang/String", 7)] [] (⟨"java/lang/StringUTF16", "coderFromArrayLen", "([BI)B"⟩ : MethodName) jdk_52_method_15_code 2 (some .byte) ({ frames := 0, cells := 0, slots := 0, locals := 0 } : Room) #[(.ref d), (.int (Int32.ofNat cs.length))] h0 [] [] (fun v h => v = some (.int w)) := by
  refine Ct.of_wp (a0 := a0) (Ls := #[.val (.ref d), .val (.int (Int32.ofNat cs.length))]) (plainFor_of_name pn_java_lang_StringUTF16) hE hO nofun (fun m => ef_ctCFA m d (Int32.ofNat cs.length)) ?_
  refine Wp.iloadN d21_0 (pc' := 1) rfl rfl ?_
  refine Wp.aloadN d21_1 (pc' := 2) rfl rfl rfl ?_
  refine Wp.alen V_d d21_2 (pc' := 3) rfl ?_
  refine Wp.isub d21_3 (pc' := 4) rfl ?_
  refine Wp.bipush (x := (31 : Int32)) d21_4 (pc' := 6) rfl rfl ?_
  refine Wp.iushr d21_6 (pc' := 7) rfl ?_
  refine Wp.i2b d21_7 (pc' := 8) rfl ?_
  refine Wp.retN (t := .byte) rfl (by simp) rfl d21_8 (by decide) (by decide) ?_
  rw [hEn.cfa (by omega)]
theorem d5_0 : decode jdk_42_method_149_code 0 = .ok (.aload_n 0, 1) := by decide +kernel
theorem d5_1 : decode jdk_42_method_149_code 1 = .ok (.invokespecial 1, 3) := by decide +kernel
theorem d5_4 : decode jdk_42_method_149_code 4 = .ok (.iload_n 3, 1) := by decide +kernel
theorem d5_5 : decode jdk_42_method_149_code 5 = .ok (.ifCond .ne 22, 3) := by decide +kernel
theorem d5_8 : decode jdk_42_method_149_code 8 = .ok (.aload_n 0, 1) := by decide +kernel
theorem d5_9 : decode jdk_42_method_149_code 9 = .ok (.ldc 7, 2) := by decide +kernel
theorem d5_11 : decode jdk_42_method_149_code 11 = .ok (.getfield 9, 3) := by decide +kernel
theorem d5_14 : decode jdk_42_method_149_code 14 = .ok (.putfield 9, 3) := by decide +kernel
theorem d5_17 : decode jdk_42_method_149_code 17 = .ok (.aload_n 0, 1) := by decide +kernel
theorem d5_18 : decode jdk_42_method_149_code 18 = .ok (.ldc 7, 2) := by decide +kernel
theorem d5_20 : decode jdk_42_method_149_code 20 = .ok (.getfield 15, 3) := by decide +kernel
theorem d5_23 : decode jdk_42_method_149_code 23 = .ok (.putfield 15, 3) := by decide +kernel
theorem d5_26 : decode jdk_42_method_149_code 26 = .ok (.return_, 1) := by decide +kernel
theorem d5_27 : decode jdk_42_method_149_code 27 = .ok (.getstatic 38, 3) := by decide +kernel
theorem d5_30 : decode jdk_42_method_149_code 30 = .ok (.ifCond .eq 28, 3) := by decide +kernel
theorem d5_33 : decode jdk_42_method_149_code 33 = .ok (.aload_n 1, 1) := by decide +kernel
theorem d5_34 : decode jdk_42_method_149_code 34 = .ok (.iload_n 2, 1) := by decide +kernel
theorem d5_35 : decode jdk_42_method_149_code 35 = .ok (.iload_n 3, 1) := by decide +kernel
theorem d5_36 : decode jdk_42_method_149_code 36 = .ok (.invokestatic 177, 3) := by decide +kernel
theorem d5_39 : decode jdk_42_method_149_code 39 = .ok (.astore 5, 2) := by decide +kernel
theorem d5_41 : decode jdk_42_method_149_code 41 = .ok (.aload_n 0, 1) := by decide +kernel
theorem d5_42 : decode jdk_42_method_149_code 42 = .ok (.aload 5, 2) := by decide +kernel
theorem d5_44 : decode jdk_42_method_149_code 44 = .ok (.iload_n 3, 1) := by decide +kernel
theorem d5_45 : decode jdk_42_method_149_code 45 = .ok (.invokestatic 47, 3) := by decide +kernel
theorem d5_48 : decode jdk_42_method_149_code 48 = .ok (.putfield 15, 3) := by decide +kernel
theorem d5_51 : decode jdk_42_method_149_code 51 = .ok (.aload_n 0, 1) := by decide +kernel
theorem d5_52 : decode jdk_42_method_149_code 52 = .ok (.aload 5, 2) := by decide +kernel
theorem d5_54 : decode jdk_42_method_149_code 54 = .ok (.putfield 9, 3) := by decide +kernel
theorem d5_57 : decode jdk_42_method_149_code 57 = .ok (.return_, 1) := by decide +kernel
theorem d5_58 : decode jdk_42_method_149_code 58 = .ok (.aload_n 0, 1) := by decide +kernel
theorem d5_59 : decode jdk_42_method_149_code 59 = .ok (.iconst 1, 1) := by decide +kernel
theorem d5_60 : decode jdk_42_method_149_code 60 = .ok (.putfield 15, 3) := by decide +kernel
theorem d5_63 : decode jdk_42_method_149_code 63 = .ok (.aload_n 0, 1) := by decide +kernel
theorem d5_64 : decode jdk_42_method_149_code 64 = .ok (.aload_n 1, 1) := by decide +kernel
theorem d5_65 : decode jdk_42_method_149_code 65 = .ok (.iload_n 2, 1) := by decide +kernel
theorem d5_66 : decode jdk_42_method_149_code 66 = .ok (.iload_n 3, 1) := by decide +kernel
theorem d5_67 : decode jdk_42_method_149_code 67 = .ok (.invokestatic 180, 3) := by decide +kernel
theorem d5_70 : decode jdk_42_method_149_code 70 = .ok (.putfield 9, 3) := by decide +kernel
theorem d5_73 : decode jdk_42_method_149_code 73 = .ok (.return_, 1) := by decide +kernel
theorem pn_java_lang_String : plainName "java/lang/String" = true := by first | (simp [plainName, overriddenIn]; done) | decide +kernel
theorem ef_ctSI4 (m : MethodId) (x0 : Addr) (x1 : Addr) (x2 : Int32) (x3 : Int32) : entryFrame m #[(.ref x0), (.ref x1), (.int x2), (.int x3), .null] 6 = mkF m 0 #[.val (.ref x0), .val (.ref x1), .val (.int x2), .val (.int x3), .val .null, .unset] [] := by first | (simp [entryFrame, mkF, argsToLocals, Value.category]; done) | rfl
theorem pd___BI_B : parseMethodDescriptor "([BI)B" = some ⟨[(.array .byte), .int], some .byte⟩ := by decide +kernel
set_option maxRecDepth 65536 in
set_option maxHeartbeats 40000000 in
theorem ctSI4 (l : Launch) (Z : State) (a0 : Array Value) (hw : ∀ d ∈ tables_1, d.before a0 Z = true) (hE : EW Z a0 [("java/lang/String", 7)]) (s a : Addr) (ka : ClassId) (cs : List Int32) (cz : Int32) (h0 : Heap) (hO : Ext Z.heap h0) (hU : own_U Z) (hn : cs.length < 1073741823) (hcap : cs.length ≤ 4) (h16 : ∀ c ∈ cs, nar .char c = c) (V_a : Arv Z h0 a ka .char (Int32.ofNat cs.length) (cs.map Value.int) (.int 0)) (E_s : Exa Z h0 s "java/lang/String") (F_v : Fld Z h0 s "java/lang/String" "value" "[B" .null) (F_c : Fld Z h0 s "java/lang/String" "coder" "B" (.int 0)) (hs0 : Z.heap.size ≤ s) (ne_a_s : a ≠ s) (hco : Sta Z Z.heap "java/lang/String" "COMPACT_STRINGS" "Z" (.int cz)) (hcz : ¬ cz = 0) :
    Ct true l Z [("java/lang/String", 7)] [] (⟨"java/lang/String", "<init>", "([CIILjava/lang/Void;)V"⟩ : MethodName) jdk_42_method_149_code 6 none ({ frames := 4, cells := 4, slots := 12, locals := 57 } : Room) #[(.ref s), (.ref a), (.int (0 : Int32)), (.int (Int32.ofNat cs.length)), .null] h0 [s] [s] (fun v h => v = none ∧ ST Z h s cs) := by
  refine Ct.of_wp (a0 := a0) (Ls := #[.val (.ref s), .val (.ref a), .val (.int (0 : Int32)), .val (.int (Int32.ofNat cs.length)), .val .null, .unset]) (plainFor_of_name pn_java_lang_String) hE hO (by intro x hx; cases List.mem_singleton.mp hx; exact hs0) (fun m => ef_ctSI4 m s a (0 : Int32) (Int32.ofNat cs.length)) ?_
  have ne_a_s := ne_a_s
  refine Wp.aloadN d5_0 (pc' := 1) rfl rfl rfl ?_
  refine Wp.initO (W := 0) rfl (hw _ (List.mem_of_getElem? (i := 23) rfl)) (hw _ (List.mem_of_getElem? (i := 24) rfl)) (hw _ (List.mem_of_getElem? (i := 25) rfl)) d5_1 (pc' := 4) rfl rfl (by decide) (Nat.le_of_eq rfl) (by decide) ?_
  refine Wp.iloadN d5_4 (pc' := 5) rfl rfl ?_
  refine Wp.if_ne (pc1 := 27) (pc' := 8) d5_5 (by decide) (by decide) rfl (fun hc1 => ?_) (fun hc1 => ?_)
  · have hc1 : ¬ ((Int32.ofNat cs.length) = (0 : Int32)) := hc1
    refine Wp.getS rfl (host := "") (Or.inl (hw _ (List.mem_of_getElem? (i := 49) rfl))) Via.refl hco d5_27 (pc' := 30) rfl ?_
    refine Wp.if_eq (pc1 := 58) (pc' := 33) d5_30 (by decide) (by decide) rfl (fun hc2 => by exact absurd hc2 hcz) (fun hc2 => ?_)
    refine Wp.aloadN d5_33 (pc' := 34) rfl rfl rfl ?_
    refine Wp.iloadN d5_34 (pc' := 35) rfl rfl ?_
    refine Wp.iloadN d5_35 (pc' := 36) rfl rfl ?_
    refine Wp.old fun hOc => ?_
    refine Wp.callS (W := 0) (argsL := [(.ref a), (.int (0 : Int32)), (.int (Int32.ofNat cs.length))]) (rest := []) rfl (ctCMP3 l Z a0 hw hE a ka cs h0 hOc hU hn hcap h16 V_a) (hw _ (List.mem_of_getElem? (i := 71) rfl)) (hw _ (List.mem_of_getElem? (i := 72) rfl)) (hw _ (List.mem_of_getElem? (i := 74) rfl)) (hw _ (List.mem_of_getElem? (i := 73) rfl)) (by decide) (lenOf pd___CII__B rfl) d5_36 rfl rfl rfl (Nat.le_of_eq rfl) (pc' := 39) rfl nofun nofun (by decide) (by decide) (k' := 2) (n' := 12) rfl rfl (by decide) (by decide) (fun vh3 h3 zh3 Kh3 qh3 => ?_)
    obtain ⟨d, kd, w, zz, vs, rfl, sb_d, V_d, hEn⟩ := qh3
    have ne_a_d : a ≠ d := Nat.ne_of_lt (Nat.lt_of_lt_of_le V_a.lt sb_d)
    have ne_s_d : s ≠ d := Nat.ne_of_lt (Nat.lt_of_lt_of_le E_s.lt sb_d)
    replace V_a := V_a.keep Kh3 nin0
    replace E_s := E_s.keep Kh3
    replace F_v := F_v.keep Kh3 nin0
    replace F_c := F_c.keep Kh3 nin0
    refine Wp.eqS (S' := [(.ref d)]) rfl ?_
    have sz_d : h0.size ≤ d := Nat.le_trans zh3 sb_d
    refine Wp.astore (l' := #[.val (.ref s), .val (.ref a), .val (.int (0 : Int32)), .val (.int (Int32.ofNat cs.length)), .val .null, .val (.ref d)]) d5_39 (pc' := 41) rfl rfl rfl ?_
    refine Wp.aloadN d5_41 (pc' := 42) rfl rfl rfl ?_
    refine Wp.aload d5_42 (pc' := 44) rfl rfl rfl ?_
    refine Wp.iloadN d5_44 (pc' := 45) rfl rfl ?_
    refine Wp.old fun hOc => ?_
    refine Wp.callS (W := 1) (argsL := [(.ref d), (.int (Int32.ofNat cs.length))]) (rest := [(.ref s)]) rfl (ctCFA l Z a0 hw hE d kd cs w _ _ h3 hOc hn V_d hEn) (hw _ (List.mem_of_getElem? (i := 97) rfl)) (hw _ (List.mem_of_getElem? (i := 98) rfl)) (hw _ (List.mem_of_getElem? (i := 99) rfl)) (hw _ (List.mem_of_getElem? (i := 73) rfl)) (by decide) (lenOf pd___BI_B rfl) d5_45 rfl rfl rfl (Nat.le_of_eq rfl) (pc' := 48) rfl nofun nofun (by decide) (by decide) (k' := 2) (n' := 12) rfl rfl (by decide) (by decide) (fun vh4 h4 zh4 Kh4 qh4 => ?_)
    obtain rfl := qh4
    replace V_a := V_a.keep Kh4 nin0
    replace E_s := E_s.keep Kh4
    replace F_v := F_v.keep Kh4 nin0
    replace F_c := F_c.keep Kh4 nin0
    replace V_d := V_d.keep Kh4 nin0
    refine Wp.eqS (S' := [(.int w), (.ref s)]) rfl ?_
    refine Wp.putFN rfl (hw _ (List.mem_of_getElem? (i := 33) rfl)) Via.refl F_c E_s (Or.inr ⟨(hw _ (List.mem_of_getElem? (i := 29) rfl)), rfl, rfl⟩) (hw _ (List.mem_of_getElem? (i := 14) rfl)) (ty := .byte) (v' := .int w) (by decide) (by rcases hEn.w01 with rfl | rfl <;> rfl) (fit_w hEn.w01) d5_48 (pc' := 51) rfl (Or.inl (by simp)) (Sfe.mem (by simp)) (fun h5 W5 Fh5 => ?_)
    replace V_a := V_a.other W5 (by omega : a ≠ s)
    replace E_s := E_s.wr W5
    replace F_v := F_v.other W5 (Or.inr (slot_ne (Or.inr (hw _ (List.mem_of_getElem? (i := 28) rfl))) (Or.inr (hw _ (List.mem_of_getElem? (i := 29) rfl))) (by decide) (t := (.array .byte)) (t' := .byte) (by decide) (by decide)))
    replace V_d := V_d.other W5 (Ne.symm ne_s_d)
    replace F_c := Fh5
    refine Wp.aloadN d5_51 (pc' := 52) rfl rfl rfl ?_
    refine Wp.aload d5_52 (pc' := 54) rfl rfl rfl ?_
    refine Wp.putF rfl (host := "") (Or.inl (hw _ (List.mem_of_getElem? (i := 32) rfl))) Via.refl F_v E_s (Or.inr ⟨(hw _ (List.mem_of_getElem? (i := 28) rfl)), rfl, rfl⟩) (hw _ (List.mem_of_getElem? (i := 14) rfl)) (ty := (.array .byte)) (by decide) rfl rfl d5_54 (pc' := 57) rfl (Or.inl (by simp)) (Sfe.mem (by simp)) (fun h6 W6 Fh6 => ?_)
    replace V_a := V_a.other W6 (by omega : a ≠ s)
    replace E_s := E_s.wr W6
    replace F_c := F_c.other W6 (Or.inr (slot_ne (Or.inr (hw _ (List.mem_of_getElem? (i := 29) rfl))) (Or.inr (hw _ (List.mem_of_getElem? (i := 28) rfl))) (by decide) (t := .byte) (t' := (.array .byte)) (by decide) (by decide)))
    replace V_d := V_d.other W6 (Ne.symm ne_s_d)
    replace F_v := Fh6
    refine Wp.retn rfl d5_57 (by decide) (by decide) ?_
    exact ⟨rfl, _, _, w, _, _, E_s, F_c, F_v, V_d, hEn⟩
  · have hc1 : (Int32.ofNat cs.length) = (0 : Int32) := hc1
    refine Wp.aloadN d5_8 (pc' := 9) rfl rfl rfl ?_
    refine Wp.ldcC (nn := 0) (vs := []) (z := (0 : Int32)) rfl rfl (hw _ (List.mem_of_getElem? (i := 26) rfl)) (own_wS hw) (by simp) ⟨by simp, rfl⟩ (by decide) rfl d5_9 (pc' := 11) rfl (by decide) (by decide) (k' := 2) (n' := 4) rfl rfl (by decide) (by decide) (fun h7 y7 z7 k_z7 Xh7 E_y7 C_y7 Fv_y7 V_z7 N_y7 => ?_)
    replace V_a := V_a.ext Xh7
    replace E_s := E_s.ext Xh7
    replace F_v := F_v.ext Xh7
    replace F_c := F_c.ext Xh7
    have ne_s_y7 : s ≠ y7 := (N_y7 s (by simp)).1
    have ne_s_z7 : s ≠ z7 := (N_y7 s (by simp)).2
    refine Wp.getF rfl (host := "") (Or.inl (hw _ (List.mem_of_getElem? (i := 32) rfl))) Via.refl Fv_y7 d5_11 (pc' := 14) rfl ?_
    refine Wp.putF rfl (host := "") (Or.inl (hw _ (List.mem_of_getElem? (i := 32) rfl))) Via.refl F_v E_s (Or.inr ⟨(hw _ (List.mem_of_getElem? (i := 28) rfl)), rfl, rfl⟩) (hw _ (List.mem_of_getElem? (i := 14) rfl)) (ty := (.array .byte)) (by decide) rfl rfl d5_14 (pc' := 17) rfl (Or.inl (by simp)) (Sfe.mem (by simp)) (fun h8 W8 Fh8 => ?_)
    replace V_a := V_a.other W8 (by omega : a ≠ s)
    replace E_s := E_s.wr W8
    replace F_c := F_c.other W8 (Or.inr (slot_ne (Or.inr (hw _ (List.mem_of_getElem? (i := 29) rfl))) (Or.inr (hw _ (List.mem_of_getElem? (i := 28) rfl))) (by decide) (t := .byte) (t' := (.array .byte)) (by decide) (by decide)))
    replace E_y7 := E_y7.wr W8
    replace C_y7 := C_y7.other W8 (Or.inl (Ne.symm ne_s_y7))
    replace Fv_y7 := Fv_y7.other W8 (Or.inl (Ne.symm ne_s_y7))
    replace V_z7 := V_z7.other W8 (Ne.symm ne_s_z7)
    replace F_v := Fh8
    refine Wp.aloadN d5_17 (pc' := 18) rfl rfl rfl ?_
    refine Wp.ldcC (nn := 0) (vs := []) (z := (0 : Int32)) rfl rfl (hw _ (List.mem_of_getElem? (i := 26) rfl)) (own_wS hw) (by simp) ⟨by simp, rfl⟩ (by decide) rfl d5_18 (pc' := 20) rfl (by decide) (by decide) (k' := 4) (n' := 8) rfl rfl (by decide) (by decide) (fun h9 y9 z9 k_z9 Xh9 E_y9 C_y9 Fv_y9 V_z9 N_y9 => ?_)
    replace V_a := V_a.ext Xh9
    replace E_s := E_s.ext Xh9
    replace F_v := F_v.ext Xh9
    replace F_c := F_c.ext Xh9
    replace E_y7 := E_y7.ext Xh9
    replace C_y7 := C_y7.ext Xh9
    replace Fv_y7 := Fv_y7.ext Xh9
    replace V_z7 := V_z7.ext Xh9
    have ne_s_y9 : s ≠ y9 := (N_y9 s (by simp)).1
    have ne_s_z9 : s ≠ z9 := (N_y9 s (by simp)).2
    refine Wp.getF rfl (host := "") (Or.inl (hw _ (List.mem_of_getElem? (i := 33) rfl))) Via.refl C_y9 d5_20 (pc' := 23) rfl ?_
    refine Wp.putFN rfl (hw _ (List.mem_of_getElem? (i := 33) rfl)) Via.refl F_c E_s (Or.inr ⟨(hw _ (List.mem_of_getElem? (i := 29) rfl)), rfl, rfl⟩) (hw _ (List.mem_of_getElem? (i := 14) rfl)) (ty := .byte) (v' := .int (0 : Int32)) (by decide) rfl rfl d5_23 (pc' := 26) rfl (Or.inl (by simp)) (Sfe.mem (by simp)) (fun h10 W10 Fh10 => ?_)
    replace V_a := V_a.other W10 (by omega : a ≠ s)
    replace E_s := E_s.wr W10
    replace F_v := F_v.other W10 (Or.inr (slot_ne (Or.inr (hw _ (List.mem_of_getElem? (i := 28) rfl))) (Or.inr (hw _ (List.mem_of_getElem? (i := 29) rfl))) (by decide) (t := (.array .byte)) (t' := .byte) (by decide) (by decide)))
    replace E_y7 := E_y7.wr W10
    replace C_y7 := C_y7.other W10 (Or.inl (Ne.symm ne_s_y7))
    replace Fv_y7 := Fv_y7.other W10 (Or.inl (Ne.symm ne_s_y7))
    replace V_z7 := V_z7.other W10 (Ne.symm ne_s_z7)
    replace E_y9 := E_y9.wr W10
    replace C_y9 := C_y9.other W10 (Or.inl (Ne.symm ne_s_y9))
    replace Fv_y9 := Fv_y9.other W10 (Or.inl (Ne.symm ne_s_y9))
    replace V_z9 := V_z9.other W10 (Ne.symm ne_s_z9)
    replace F_c := Fh10
    refine Wp.retn rfl d5_26 (by decide) (by decide) ?_
    have e0 : cs = [] := by
      have := (on_eq (by omega) (by decide)).mp (show Int32.ofNat cs.length = Int32.ofNat 0 from hc1)
      exact List.eq_nil_of_length_eq_zero this
    subst e0
    exact ⟨rfl, _, _, 0, _, _, E_s, F_c, F_v, V_z7, Or.inl ⟨rfl, rfl, rfl, fun c hc => nomatch hc⟩⟩
theorem d4_0 : decode jdk_42_method_3_code 0 = .ok (.aload_n 0, 1) := by decide +kernel
theorem d4_1 : decode jdk_42_method_3_code 1 = .ok (.aload_n 1, 1) := by decide +kernel
theorem d4_2 : decode jdk_42_method_3_code 2 = .ok (.iconst 0, 1) := by decide +kernel
theorem d4_3 : decode jdk_42_method_3_code 3 = .ok (.aload_n 1, 1) := by decide +kernel
theorem d4_4 : decode jdk_42_method_3_code 4 = .ok (.arraylength, 1) := by decide +kernel
theorem d4_5 : decode jdk_42_method_3_code 5 = .ok (.aconst_null, 1) := by decide +kernel
theorem d4_6 : decode jdk_42_method_3_code 6 = .ok (.invokespecial 27, 3) := by decide +kernel
theorem d4_9 : decode jdk_42_method_3_code 9 = .ok (.return_, 1) := by decide +kernel
theorem ef_ctSI (m : MethodId) (x0 : Addr) (x1 : Addr) : entryFrame m #[(.ref x0), (.ref x1)] 2 = mkF m 0 #[.val (.ref x0), .val (.ref x1)] [] := by first | (simp [entryFrame, mkF, argsToLocals, Value.category]; done) | rfl
theorem pd___CIILjava_lang_Void__V : parseMethodDescriptor "([CIILjava/lang/Void;)V" = some ⟨[(.array .char), .int, .int, (.object "java/lang/Void")], none⟩ := by decide +kernel
set_option maxRecDepth 65536 in
set_option maxHeartbeats 40000000 in
theorem ctSI (l : Launch) (Z : State) (a0 : Array Value) (hw : ∀ d ∈ tables_1, d.before a0 Z = true) (hE : EW Z a0 [("java/lang/String", 7)]) (s a : Addr) (ka : ClassId) (cs : List Int32) (cz : Int32) (h0 : Heap) (hO : Ext Z.heap h0) (hU : own_U Z) (hn : cs.length < 1073741823) (hcap : cs.length ≤ 4) (h16 : ∀ c ∈ cs, nar .char c = c) (V_a : Arv Z h0 a ka .char (Int32.ofNat cs.length) (cs.map Value.int) (.int 0)) (E_s : Exa Z h0 s "java/lang/String") (F_v : Fld Z h0 s "java/lang/String" "value" "[B" .null) (F_c : Fld Z h0 s "java/lang/String" "coder" "B" (.int 0)) (hs0 : Z.heap.size ≤ s) (ne_a_s : a ≠ s) (hco : Sta Z Z.heap "java/lang/String" "COMPACT_STRINGS" "Z" (.int cz)) (hcz : ¬ cz = 0) :
    Ct true l Z [("java/lang/String", 7)] [] (⟨"java/lang/String", "<init>", "([C)V"⟩ : MethodName) jdk_42_method_3_code 2 none ({ frames := 5, cells := 4, slots := 12, locals := 74 } : Room) #[(.ref s), (.ref a)] h0 [s] [s] (fun v h => v = none ∧ ST Z h s cs) := by
  refine Ct.of_wp (a0 := a0) (Ls := #[.val (.ref s), .val (.ref a)]) (plainFor_of_name pn_java_lang_String) hE hO (by intro x hx; cases List.mem_singleton.mp hx; exact hs0) (fun m => ef_ctSI m s a) ?_
  refine Wp.aloadN d4_0 (pc' := 1) rfl rfl rfl ?_
  refine Wp.aloadN d4_1 (pc' := 2) rfl rfl rfl ?_
  refine Wp.iconst (x := (0 : Int32)) d4_2 (pc' := 3) rfl rfl ?_
  refine Wp.aloadN d4_3 (pc' := 4) rfl rfl rfl ?_
  refine Wp.alen V_a d4_4 (pc' := 5) rfl ?_
  refine Wp.aconstNull d4_5 (pc' := 6) rfl ?_
  refine Wp.old fun hOc => ?_
  refine Wp.callI (a := s) (W := 0) (argsL := [(.ref a), (.int (0 : Int32)), (.int (Int32.ofNat cs.length)), .null]) (rest := []) rfl (ctSI4 l Z a0 hw hE s a ka cs cz h0 hOc hU hn hcap h16 V_a E_s F_v F_c hs0 ne_a_s hco hcz) rfl rfl (hw _ (List.mem_of_getElem? (i := 19) rfl)) (hw _ (List.mem_of_getElem? (i := 20) rfl)) (hw _ (List.mem_of_getElem? (i := 22) rfl)) (hw _ (List.mem_of_getElem? (i := 15) rfl)) (by decide) (lenOf pd___CIILjava_lang_Void__V rfl) d4_6 rfl rfl rfl (Nat.le_of_eq rfl) (pc' := 9) rfl (by simp) (by intro x hx; simp only [List.mem_cons, List.not_mem_nil, or_false] at hx; rcases hx with rfl; exact (Or.inl (by simp))) (by decide) (by decide) (k' := 4) (n' := 12) rfl rfl (by decide) (by decide) (fun vh1 h1 zh1 Kh1 qh1 => ?_)
  obtain ⟨rfl, S_s⟩ := qh1
  replace V_a := V_a.keep Kh1 (ninS (by omega : a ≠ s) nin0)
  replace E_s := E_s.keep Kh1
  refine Wp.eqS (S' := []) rfl ?_
  refine Wp.retn rfl d4_9 (by decide) (by decide) ?_
  exact ⟨rfl, S_s⟩
theorem d9_0 : decode jdk_42_method_152_code 0 = .ok (.getstatic 38, 3) := by decide +kernel
theorem d9_3 : decode jdk_42_method_152_code 3 = .ok (.ifCond .eq 10, 3) := by decide +kernel
theorem d9_6 : decode jdk_42_method_152_code 6 = .ok (.aload_n 0, 1) := by decide +kernel
theorem d9_7 : decode jdk_42_method_152_code 7 = .ok (.getfield 15, 3) := by decide +kernel
theorem d9_10 : decode jdk_42_method_152_code 10 = .ok (.goto 4, 3) := by decide +kernel
theorem d9_13 : decode jdk_42_method_152_code 13 = .ok (.iconst 1, 1) := by decide +kernel
theorem d9_14 : decode jdk_42_method_152_code 14 = .ok (.ireturn, 1) := by decide +kernel
theorem ef_ctCOD (m : MethodId) (x0 : Addr) : entryFrame m #[(.ref x0)] 1 = mkF m 0 #[.val (.ref x0)] [] := by first | (simp [entryFrame, mkF, argsToLocals, Value.category]; done) | rfl
set_option maxRecDepth 65536 in
set_option maxHeartbeats 40000000 in
theorem ctCOD (l : Launch) (Z : State) (a0 : Array Value) (hw : ∀ d ∈ tables_1, d.before a0 Z = true) (hE : EW Z a0 [("java/lang/String", 7)]) (s : Addr) (w cz : Int32) (h0 : Heap) (hO : Ext Z.heap h0) (C_s : Fld Z h0 s "java/lang/String" "coder" "B" (.int w)) (hw01 : w = 0 ∨ w = 1) (hco : Sta Z Z.heap "java/lang/String" "COMPACT_STRINGS" "Z" (.int cz)) (hcz : ¬ cz = 0) :
    Ct true l Z [("java/lang/String", 7)] [] (⟨"java/lang/String", "coder", "()B"⟩ : MethodName) jdk_42_method_152_code 1 (some .byte) ({ frames := 0, cells := 0, slots := 0, locals := 0 } : Room) #[(.ref s)] h0 [] [] (fun v h => v = some (.int w)) := by
  refine Ct.of_wp (a0 := a0) (Ls := #[.val (.ref s)]) (plainFor_of_name pn_java_lang_String) hE hO nofun (fun m => ef_ctCOD m s) ?_
  refine Wp.getS rfl (host := "") (Or.inl (hw _ (List.mem_of_getElem? (i := 49) rfl))) Via.refl hco d9_0 (pc' := 3) rfl ?_
  refine Wp.if_eq (pc1 := 13) (pc' := 6) d9_3 (by decide) (by decide) rfl (fun hc1 => by exact absurd hc1 hcz) (fun hc1 => ?_)
  refine Wp.aloadN d9_6 (pc' := 7) rfl rfl rfl ?_
  refine Wp.getF rfl (host := "") (Or.inl (hw _ (List.mem_of_getElem? (i := 33) rfl))) Via.refl C_s d9_7 (pc' := 10) rfl ?_
  refine Wp.goto (pc' := 14) d9_10 (by decide) (by decide) ?_
  refine Wp.retN (t := .byte) rfl (by simp) rfl d9_14 (by decide) (by decide) ?_
  rw [nar_w hw01]
theorem d8_0 : decode jdk_42_method_54_code 0 = .ok (.aload_n 0, 1) := by decide +kernel
theorem d8_1 : decode jdk_42_method_54_code 1 = .ok (.getfield 9, 3) := by decide +kernel
theorem d8_4 : decode jdk_42_method_54_code 4 = .ok (.arraylength, 1) := by decide +kernel
theorem d8_5 : decode jdk_42_method_54_code 5 = .ok (.aload_n 0, 1) := by decide +kernel
theorem d8_6 : decode jdk_42_method_54_code 6 = .ok (.invokevirtual 335, 3) := by decide +kernel
theorem d8_9 : decode jdk_42_method_54_code 9 = .ok (.ishr, 1) := by decide +kernel
theorem d8_10 : decode jdk_42_method_54_code 10 = .ok (.ireturn, 1) := by decide +kernel
theorem ef_ctLEN16 (m : MethodId) (x0 : Addr) : entryFrame m #[(.ref x0)] 1 = mkF m 0 #[.val (.ref x0)] [] := by first | (simp [entryFrame, mkF, argsToLocals, Value.category]; done) | rfl
theorem pd___B : parseMethodDescriptor "()B" = some ⟨[], some .byte⟩ := by decide +kernel
set_option maxRecDepth 65536 in
set_option maxHeartbeats 40000000 in
theorem ctLEN16 (l : Launch) (Z : State) (a0 : Array Value) (hw : ∀ d ∈ tables_1, d.before a0 Z = true) (hE : EW Z a0 [("java/lang/String", 7)]) (s : Addr) (cs : List Int32) (cz : Int32) (h0 : Heap) (hO : Ext Z.heap h0) (S_s : ST Z h0 s cs) (hn : cs.length < 1073741823) (hco : Sta Z Z.heap "java/lang/String" "COMPACT_STRINGS" "Z" (.int cz)) (hcz : ¬ cz = 0) :
    Ct true l Z [("java/lang/String", 7)] [] (⟨"java/lang/String", "length", "()I"⟩ : MethodName) jdk_42_method_54_code 1 (some .int) ({ frames := 1, cells := 0, slots := 0, locals := 13 } : Room) #[(.ref s)] h0 [] [] (fun v h => v = some (.int (Int32.ofNat cs.length))) := by
  refine Ct.of_wp (a0 := a0) (Ls := #[.val (.ref s)]) (plainFor_of_name pn_java_lang_String) hE hO nofun (fun m => ef_ctLEN16 m s) ?_
  obtain ⟨b, kb, w, zz, vs, E_s, C_s, D_s, V_b, hEn⟩ := S_s
  refine Wp.aloadN d8_0 (pc' := 1) rfl rfl rfl ?_
  refine Wp.getF rfl (host := "") (Or.inl (hw _ (List.mem_of_getElem? (i := 32) rfl))) Via.refl D_s d8_1 (pc' := 4) rfl ?_
  refine Wp.alen V_b d8_4 (pc' := 5) rfl ?_
  refine Wp.aloadN d8_5 (pc' := 6) rfl rfl rfl ?_
  refine Wp.old fun hOc => ?_
  refine Wp.callV (a := s) (x' := (⟨"java/lang/String", "coder", "()B"⟩ : MethodName)) (W := 1) (argsL := []) (rest := [(.int zz)]) rfl (ctCOD l Z a0 hw hE s w cz h0 hOc C_s hEn.w01 hco hcz) (hw _ (List.mem_of_getElem? (i := 44) rfl)) (hw _ (List.mem_of_getElem? (i := 45) rfl)) (hw _ (List.mem_of_getElem? (i := 47) rfl)) (hw _ (List.mem_of_getElem? (i := 46) rfl)) (hw _ (List.mem_of_getElem? (i := 48) rfl)) (hw _ (List.mem_of_getElem? (i := 15) rfl)) (fun s hZ => nf_sel rfl (hw _ (List.mem_of_getElem? (i := 47) rfl)) s hZ rfl) E_s (by decide) (lenOf pd___B rfl) d8_6 rfl rfl rfl (Nat.le_of_eq rfl) (pc' := 9) rfl nofun nofun (by decide) (by decide) (k' := 0) (n' := 0) rfl rfl (by decide) (by decide) (fun vh1 h1 zh1 Kh1 qh1 => ?_)
  obtain rfl := qh1
  replace E_s := E_s.keep Kh1
  replace C_s := C_s.keep Kh1 nin0
  replace D_s := D_s.keep Kh1 nin0
  replace V_b := V_b.keep Kh1 nin0
  refine Wp.eqS (S' := [(.int w), (.int zz)]) rfl ?_
  refine Wp.ishr d8_9 (pc' := 10) rfl ?_
  refine Wp.retI rfl d8_10 (by decide) (by decide) ?_
  rw [hEn.len (by omega)]
theorem d13_0 : decode jdk_42_method_154_code 0 = .ok (.getstatic 38, 3) := by decide +kernel
theorem d13_3 : decode jdk_42_method_154_code 3 = .ok (.ifCond .eq 14, 3) := by decide +kernel
theorem d13_6 : decode jdk_42_method_154_code 6 = .ok (.aload_n 0, 1) := by decide +kernel
theorem d13_7 : decode jdk_42_method_154_code 7 = .ok (.getfield 15, 3) := by decide +kernel
theorem d13_10 : decode jdk_42_method_154_code 10 = .ok (.ifCond .ne 7, 3) := by decide +kernel
theorem d13_13 : decode jdk_42_method_154_code 13 = .ok (.iconst 1, 1) := by decide +kernel
theorem d13_14 : decode jdk_42_method_154_code 14 = .ok (.goto 4, 3) := by decide +kernel
theorem d13_17 : decode jdk_42_method_154_code 17 = .ok (.iconst 0, 1) := by decide +kernel
theorem d13_18 : decode jdk_42_method_154_code 18 = .ok (.ireturn, 1) := by decide +kernel
theorem ef_ctISL (m : MethodId) (x0 : Addr) : entryFrame m #[(.ref x0)] 1 = mkF m 0 #[.val (.ref x0)] [] := by first | (simp [entryFrame, mkF, argsToLocals, Value.category]; done) | rfl
set_option maxRecDepth 65536 in
set_option maxHeartbeats 40000000 in
theorem ctISL (l : Launch) (Z : State) (a0 : Array Value) (hw : ∀ d ∈ tables_1, d.before a0 Z = true) (hE : EW Z a0 [("java/lang/String", 7)]) (s : Addr) (w cz : Int32) (h0 : Heap) (hO : Ext Z.heap h0) (C_s : Fld Z h0 s "java/lang/String" "coder" "B" (.int w)) (hco : Sta Z Z.heap "java/lang/String" "COMPACT_STRINGS" "Z" (.int cz)) (hcz : ¬ cz = 0) :
    Ct true l Z [("java/lang/String", 7)] [] (⟨"java/lang/String", "isLatin1", "()Z"⟩ : MethodName) jdk_42_method_154_code 1 (some .boolean) ({ frames := 0, cells := 0, slots := 0, locals := 0 } : Room) #[(.ref s)] h0 [] [] (fun v h => v = some (.int (if w = 0 then 1 else 0))) := by
  refine Ct.of_wp (a0 := a0) (Ls := #[.val (.ref s)]) (plainFor_of_name pn_java_lang_String) hE hO nofun (fun m => ef_ctISL m s) ?_
  refine Wp.getS rfl (host := "") (Or.inl (hw _ (List.mem_of_getElem? (i := 49) rfl))) Via.refl hco d13_0 (pc' := 3) rfl ?_
  refine Wp.if_eq (pc1 := 17) (pc' := 6) d13_3 (by decide) (by decide) rfl (fun hc1 => by exact absurd hc1 hcz) (fun hc1 => ?_)
  refine Wp.aloadN d13_6 (pc' := 7) rfl rfl rfl ?_
  refine Wp.getF rfl (host := "") (Or.inl (hw _ (List.mem_of_getElem? (i := 33) rfl))) Via.refl C_s d13_7 (pc' := 10) rfl ?_
  refine Wp.if_ne (pc1 := 17) (pc' := 13) d13_10 (by decide) (by decide) rfl (fun hc2 => ?_) (fun hc2 => ?_)
  · have hc2 : ¬ (w = (0 : Int32)) := hc2
    refine Wp.iconst (x := (0 : Int32)) d13_17 (pc' := 18) rfl rfl ?_
    refine Wp.retN (x' := (0 : Int32)) (t := .boolean) rfl (by simp) rfl d13_18 (by decide) (by decide) ?_
    rw [if_neg hc2]
  · have hc2 : w = (0 : Int32) := hc2
    refine Wp.iconst (x := (1 : Int32)) d13_13 (pc' := 14) rfl rfl ?_
    refine Wp.goto (pc' := 18) d13_14 (by decide) (by decide) ?_
    refine Wp.retN (x' := (1 : Int32)) (t := .boolean) rfl (by simp) rfl d13_18 (by decide) (by decide) ?_
    rw [if_pos hc2]
theorem d3_0 : decode jdk_29_method_65_code 0 = .ok (.iload_n 0, 1) := by decide +kernel
theorem d3_1 : decode jdk_29_method_65_code 1 = .ok (.iload_n 1, 1) := by decide +kernel
theorem d3_2 : decode jdk_29_method_65_code 2 = .ok (.if_icmp .lt 7, 3) := by decide +kernel
theorem d3_5 : decode jdk_29_method_65_code 5 = .ok (.iload_n 0, 1) := by decide +kernel
theorem d3_6 : decode jdk_29_method_65_code 6 = .ok (.goto 4, 3) := by decide +kernel
theorem d3_9 : decode jdk_29_method_65_code 9 = .ok (.iload_n 1, 1) := by decide +kernel
theorem d3_10 : decode jdk_29_method_65_code 10 = .ok (.ireturn, 1) := by decide +kernel
theorem ef_ctMAX (m : MethodId) (x0 : Int32) (x1 : Int32) : entryFrame m #[(.int x0), (.int x1)] 2 = mkF m 0 #[.val (.int x0), .val (.int x1)] [] := by first | (simp [entryFrame, mkF, argsToLocals, Value.category]; done) | rfl
set_option maxRecDepth 65536 in
set_option maxHeartbeats 40000000 in
theorem ctMAX (l : Launch) (Z : State) (a0 : Array Value) (hw : ∀ d ∈ tables_1, d.before a0 Z = true) (hE : EW Z a0 [("java/lang/String", 7)]) (x z : Int32) (h0 : Heap) (hO : Ext Z.heap h0) :
    Ct true l Z [("java/lang/String", 7)] [] (⟨"java/lang/Math", "max", "(II)I"⟩ : MethodName) jdk_29_method_65_code 2 (some .int) ({ frames := 0, cells := 0, slots := 0, locals := 0 } : Room) #[(.int x), (.int z)] h0 [] [] (fun v h => v = some (.int (if x < z then z else x))) := by
  refine Ct.of_wp (a0 := a0) (Ls := #[.val (.int x), .val (.int z)]) (Jvm.Free.JP.mathPlain rfl (by decide +kernel)) hE hO nofun (fun m => ef_ctMAX m x z) ?_
  refine Wp.iloadN d3_0 (pc' := 1) rfl rfl ?_
  refine Wp.iloadN d3_1 (pc' := 2) rfl rfl ?_
  refine Wp.icmp_lt (pc1 := 9) (pc' := 5) d3_2 (by decide) (by decide) rfl (fun hc1 => ?_) (fun hc1 => ?_)
  · have hc1 : x < z := hc1
    refine Wp.iloadN d3_9 (pc' := 10) rfl rfl ?_
    refine Wp.retI rfl d3_10 (by decide) (by decide) ?_
    rw [if_pos hc1]
  · have hc1 : ¬ (x < z) := hc1
    refine Wp.iloadN d3_5 (pc' := 6) rfl rfl ?_
    refine Wp.goto (pc' := 10) d3_6 (by decide) (by decide) ?_
    refine Wp.retI rfl d3_10 (by decide) (by decide) ?_
    rw [if_neg hc1]
theorem d2_0 : decode jdk_29_method_69_code 0 = .ok (.iload_n 0, 1) := by decide +kernel
theorem d2_1 : decode jdk_29_method_69_code 1 = .ok (.iload_n 1, 1) := by decide +kernel
theorem d2_2 : decode jdk_29_method_69_code 2 = .ok (.if_icmp .gt 7, 3) := by decide +kernel
theorem d2_5 : decode jdk_29_method_69_code 5 = .ok (.iload_n 0, 1) := by decide +kernel
theorem d2_6 : decode jdk_29_method_69_code 6 = .ok (.goto 4, 3) := by decide +kernel
theorem d2_9 : decode jdk_29_method_69_code 9 = .ok (.iload_n 1, 1) := by decide +kernel
theorem d2_10 : decode jdk_29_method_69_code 10 = .ok (.ireturn, 1) := by decide +kernel
theorem ef_ctMIN (m : MethodId) (x0 : Int32) (x1 : Int32) : entryFrame m #[(.int x0), (.int x1)] 2 = mkF m 0 #[.val (.int x0), .val (.int x1)] [] := by first | (simp [entryFrame, mkF, argsToLocals, Value.category]; done) | rfl
set_option maxRecDepth 65536 in
set_option maxHeartbeats 40000000 in
theorem ctMIN (l : Launch) (Z : State) (a0 : Array Value) (hw : ∀ d ∈ tables_1, d.before a0 Z = true) (hE : EW Z a0 [("java/lang/String", 7)]) (x z : Int32) (h0 : Heap) (hO : Ext Z.heap h0) :
    Ct true l Z [("java/lang/String", 7)] [] (⟨"java/lang/Math", "min", "(II)I"⟩ : MethodName) jdk_29_method_69_code 2 (some .int) ({ frames := 0, cells := 0, slots := 0, locals := 0 } : Room) #[(.int x), (.int z)] h0 [] [] (fun v h => v = some (.int (if z < x then z else x))) := by
  refine Ct.of_wp (a0 := a0) (Ls := #[.val (.int x), .val (.int z)]) (Jvm.Free.JP.mathPlain rfl (by decide +kernel)) hE hO nofun (fun m => ef_ctMIN m x z) ?_
  refine Wp.iloadN d2_0 (pc' := 1) rfl rfl ?_
  refine Wp.iloadN d2_1 (pc' := 2) rfl rfl ?_
  refine Wp.icmp_gt (pc1 := 9) (pc' := 5) d2_2 (by decide) (by decide) rfl (fun hc1 => ?_) (fun hc1 => ?_)
  · have hc1 : z < x := hc1
    refine Wp.iloadN d2_9 (pc' := 10) rfl rfl ?_
    refine Wp.retI rfl d2_10 (by decide) (by decide) ?_
    rw [if_pos hc1]
  · have hc1 : ¬ (z < x) := hc1
    refine Wp.iloadN d2_5 (pc' := 6) rfl rfl ?_
    refine Wp.goto (pc' := 10) d2_6 (by decide) (by decide) ?_
    refine Wp.retI rfl d2_10 (by decide) (by decide) ?_
    rw [if_neg hc1]
theorem d1_0 : decode method_4_code 0 = .ok (.iload_n 0, 1) := by decide +kernel
theorem d1_1 : decode method_4_code 1 = .ok (.iconst 3, 1) := by decide +kernel
theorem d1_2 : decode method_4_code 2 = .ok (.iand, 1) := by decide +kernel
theorem d1_3 : decode method_4_code 3 = .ok (.istore_n 2, 1) := by decide +kernel
theorem d1_4 : decode method_4_code 4 = .ok (.iload_n 2, 1) := by decide +kernel
theorem d1_5 : decode method_4_code 5 = .ok (.ifCond .ne 10, 3) := by decide +kernel
theorem d1_8 : decode method_4_code 8 = .ok (.iload_n 1, 1) := by decide +kernel
theorem d1_9 : decode method_4_code 9 = .ok (.sipush 255, 3) := by decide +kernel
theorem d1_12 : decode method_4_code 12 = .ok (.iand, 1) := by decide +kernel
theorem d1_13 : decode method_4_code 13 = .ok (.i2c, 1) := by decide +kernel
theorem d1_14 : decode method_4_code 14 = .ok (.ireturn, 1) := by decide +kernel
theorem d1_15 : decode method_4_code 15 = .ok (.iload_n 2, 1) := by decide +kernel
theorem d1_16 : decode method_4_code 16 = .ok (.iconst 1, 1) := by decide +kernel
theorem d1_17 : decode method_4_code 17 = .ok (.if_icmp .ne 13, 3) := by decide +kernel
theorem d1_20 : decode method_4_code 20 = .ok (.ldc 7, 2) := by decide +kernel
theorem d1_22 : decode method_4_code 22 = .ok (.iload_n 1, 1) := by decide +kernel
theorem d1_23 : decode method_4_code 23 = .ok (.sipush 1023, 3) := by decide +kernel
theorem d1_26 : decode method_4_code 26 = .ok (.iand, 1) := by decide +kernel
theorem d1_27 : decode method_4_code 27 = .ok (.ior, 1) := by decide +kernel
theorem d1_28 : decode method_4_code 28 = .ok (.i2c, 1) := by decide +kernel
theorem d1_29 : decode method_4_code 29 = .ok (.ireturn, 1) := by decide +kernel
theorem d1_30 : decode method_4_code 30 = .ok (.iload_n 2, 1) := by decide +kernel
theorem d1_31 : decode method_4_code 31 = .ok (.iconst 2, 1) := by decide +kernel
theorem d1_32 : decode method_4_code 32 = .ok (.if_icmp .ne 13, 3) := by decide +kernel
theorem d1_35 : decode method_4_code 35 = .ok (.ldc 9, 2) := by decide +kernel
theorem d1_37 : decode method_4_code 37 = .ok (.iload_n 1, 1) := by decide +kernel
theorem d1_38 : decode method_4_code 38 = .ok (.sipush 1023, 3) := by decide +kernel
theorem d1_41 : decode method_4_code 41 = .ok (.iand, 1) := by decide +kernel
theorem d1_42 : decode method_4_code 42 = .ok (.ior, 1) := by decide +kernel
theorem d1_43 : decode method_4_code 43 = .ok (.i2c, 1) := by decide +kernel
theorem d1_44 : decode method_4_code 44 = .ok (.ireturn, 1) := by decide +kernel
theorem d1_45 : decode method_4_code 45 = .ok (.iload_n 1, 1) := by decide +kernel
theorem d1_46 : decode method_4_code 46 = .ok (.ldc 11, 2) := by decide +kernel
theorem d1_48 : decode method_4_code 48 = .ok (.iand, 1) := by decide +kernel
theorem d1_49 : decode method_4_code 49 = .ok (.i2c, 1) := by decide +kernel
theorem d1_50 : decode method_4_code 50 = .ok (.ireturn, 1) := by decide +kernel
theorem pn_com_example_package_pricing_packagepricing_catalog_TextCheckLengthPinLaw : plainName "com/example/package_pricing/packagepricing/catalog/TextCheckLengthPinLaw" = true := by first | (simp [plainName, overriddenIn]; done) | decide +kernel
theorem ef_ctDR (m : MethodId) (x0 : Int32) (x1 : Int32) : entryFrame m #[(.int x0), (.int x1)] 3 = mkF m 0 #[.val (.int x0), .val (.int x1), .unset] [] := by first | (simp [entryFrame, mkF, argsToLocals, Value.category]; done) | rfl
set_option maxRecDepth 65536 in
set_option maxHeartbeats 40000000 in
theorem ctDR (l : Launch) (Z : State) (a0 : Array Value) (hw : ∀ d ∈ tables_1, d.before a0 Z = true) (hE : EW Z a0 [("java/lang/String", 7)]) (k p : Int32) (h0 : Heap) (hO : Ext Z.heap h0) :
    Ct true l Z [("java/lang/String", 7)] [] (⟨"com/example/package_pricing/packagepricing/catalog/TextCheckLengthPinLaw", "draw", "(II)C"⟩ : MethodName) method_4_code 3 (some .char) ({ frames := 0, cells := 0, slots := 0, locals := 0 } : Room) #[(.int k), (.int p)] h0 [] [] (fun v h => ∃ c : Int32, v = some (.int c) ∧ nar .char c = c) := by
  refine Ct.of_wp (a0 := a0) (Ls := #[.val (.int k), .val (.int p), .unset]) (plainFor_of_name pn_com_example_package_pricing_packagepricing_catalog_TextCheckLengthPinLaw) hE hO nofun (fun m => ef_ctDR m k p) ?_
  refine Wp.iloadN d1_0 (pc' := 1) rfl rfl ?_
  refine Wp.iconst (x := (3 : Int32)) d1_1 (pc' := 2) rfl rfl ?_
  refine Wp.iand d1_2 (pc' := 3) rfl ?_
  refine Wp.istoreN (l' := #[.val (.int k), .val (.int p), .val (.int (k &&& (3 : Int32)))]) d1_3 (pc' := 4) rfl rfl ?_
  refine Wp.iloadN d1_4 (pc' := 5) rfl rfl ?_
  refine Wp.if_ne (pc1 := 15) (pc' := 8) d1_5 (by decide) (by decide) rfl (fun hc1 => ?_) (fun hc1 => ?_)
  · have hc1 : ¬ ((k &&& (3 : Int32)) = (0 : Int32)) := hc1
    refine Wp.iloadN d1_15 (pc' := 16) rfl rfl ?_
    refine Wp.iconst (x := (1 : Int32)) d1_16 (pc' := 17) rfl rfl ?_
    refine Wp.icmp_ne (pc1 := 30) (pc' := 20) d1_17 (by decide) (by decide) rfl (fun hc2 => ?_) (fun hc2 => ?_)
    · have hc2 : ¬ ((k &&& (3 : Int32)) = (1 : Int32)) := hc2
      refine Wp.iloadN d1_30 (pc' := 31) rfl rfl ?_
      refine Wp.iconst (x := (2 : Int32)) d1_31 (pc' := 32) rfl rfl ?_
      refine Wp.icmp_ne (pc1 := 45) (pc' := 35) d1_32 (by decide) (by decide) rfl (fun hc3 => ?_) (fun hc3 => ?_)
      · have hc3 : ¬ ((k &&& (3 : Int32)) = (2 : Int32)) := hc3
        refine Wp.iloadN d1_45 (pc' := 46) rfl rfl ?_
        refine Wp.ldcI rfl (hw _ (List.mem_of_getElem? (i := 70) rfl)) d1_46 (pc' := 48) rfl ?_
        refine Wp.iand d1_48 (pc' := 49) rfl ?_
        refine Wp.i2c d1_49 (pc' := 50) rfl ?_
        refine Wp.retN (t := .char) rfl (by simp) rfl d1_50 (by decide) (by decide) ?_
        exact ⟨_, rfl, ch_nar _⟩
      · have hc3 : (k &&& (3 : Int32)) = (2 : Int32) := hc3
        refine Wp.ldcI rfl (hw _ (List.mem_of_getElem? (i := 4) rfl)) d1_35 (pc' := 37) rfl ?_
        refine Wp.iloadN d1_37 (pc' := 38) rfl rfl ?_
        refine Wp.sipush (x := (1023 : Int32)) d1_38 (pc' := 41) rfl rfl ?_
        refine Wp.iand d1_41 (pc' := 42) rfl ?_
        refine Wp.ior d1_42 (pc' := 43) rfl ?_
        refine Wp.i2c d1_43 (pc' := 44) rfl ?_
        refine Wp.retN (t := .char) rfl (by simp) rfl d1_44 (by decide) (by decide) ?_
        exact ⟨_, rfl, ch_nar _⟩
    · have hc2 : (k &&& (3 : Int32)) = (1 : Int32) := hc2
      refine Wp.ldcI rfl (hw _ (List.mem_of_getElem? (i := 69) rfl)) d1_20 (pc' := 22) rfl ?_
      refine Wp.iloadN d1_22 (pc' := 23) rfl rfl ?_
      refine Wp.sipush (x := (1023 : Int32)) d1_23 (pc' := 26) rfl rfl ?_
      refine Wp.iand d1_26 (pc' := 27) rfl ?_
      refine Wp.ior d1_27 (pc' := 28) rfl ?_
      refine Wp.i2c d1_28 (pc' := 29) rfl ?_
      refine Wp.retN (t := .char) rfl (by simp) rfl d1_29 (by decide) (by decide) ?_
      exact ⟨_, rfl, ch_nar _⟩
  · have hc1 : (k &&& (3 : Int32)) = (0 : Int32) := hc1
    refine Wp.iloadN d1_8 (pc' := 9) rfl rfl ?_
    refine Wp.sipush (x := (255 : Int32)) d1_9 (pc' := 12) rfl rfl ?_
    refine Wp.iand d1_12 (pc' := 13) rfl ?_
    refine Wp.i2c d1_13 (pc' := 14) rfl ?_
    refine Wp.retN (t := .char) rfl (by simp) rfl d1_14 (by decide) (by decide) ?_
    exact ⟨_, rfl, ch_nar _⟩
theorem d24_0 : decode method_2_code 0 = .ok (.iload_n 0, 1) := by decide +kernel
theorem d24_1 : decode method_2_code 1 = .ok (.ldc 7, 2) := by decide +kernel
theorem d24_3 : decode method_2_code 3 = .ok (.if_icmp .lt 13, 3) := by decide +kernel
theorem d24_6 : decode method_2_code 6 = .ok (.iload_n 0, 1) := by decide +kernel
theorem d24_7 : decode method_2_code 7 = .ok (.ldc 8, 2) := by decide +kernel
theorem d24_9 : decode method_2_code 9 = .ok (.if_icmp .gt 7, 3) := by decide +kernel
theorem d24_12 : decode method_2_code 12 = .ok (.iconst 1, 1) := by decide +kernel
theorem d24_13 : decode method_2_code 13 = .ok (.goto 4, 3) := by decide +kernel
theorem d24_16 : decode method_2_code 16 = .ok (.iconst 0, 1) := by decide +kernel
theorem d24_17 : decode method_2_code 17 = .ok (.ireturn, 1) := by decide +kernel
theorem ef_ct_hi (m : MethodId) (x0 : Int32) : entryFrame m #[(.int x0)] 1 = mkF m 0 #[.val (.int x0)] [] := by first | (simp [entryFrame, mkF, argsToLocals, Value.category]; done) | rfl
set_option maxRecDepth 65536 in
set_option maxHeartbeats 40000000 in
theorem ct_hi (l : Launch) (Z : State) (a0 : Array Value) (hw : ∀ d ∈ tables_1, d.before a0 Z = true) (hE : EW Z a0 [("java/lang/String", 7)]) (c : Int32) (h0 : Heap) (hO : Ext Z.heap h0) :
    Ct true l Z [("java/lang/String", 7)] [] (⟨"com/example/package_pricing/packagepricing/catalog/TextCheckLengthPinLaw", "hi", "(C)Z"⟩ : MethodName) method_2_code 1 (some .boolean) ({ frames := 0, cells := 0, slots := 0, locals := 0 } : Room) #[(.int c)] h0 [] [] (fun v h => v = some (.int (if own_hi c then 1 else 0))) := by
  refine Ct.of_wp (a0 := a0) (Ls := #[.val (.int c)]) (plainFor_of_name pn_com_example_package_pricing_packagepricing_catalog_TextCheckLengthPinLaw) hE hO nofun (fun m => ef_ct_hi m c) ?_
  refine Wp.iloadN d24_0 (pc' := 1) rfl rfl ?_
  refine Wp.ldcI rfl (hw _ (List.mem_of_getElem? (i := 69) rfl)) d24_1 (pc' := 3) rfl ?_
  refine Wp.icmp_lt (pc1 := 16) (pc' := 6) d24_3 (by decide) (by decide) rfl (fun hc1 => ?_) (fun hc1 => ?_)
  · have hc1 : c < (55296 : Int32) := hc1
    refine Wp.iconst (x := (0 : Int32)) d24_16 (pc' := 17) rfl rfl ?_
    refine Wp.retN (x' := (0 : Int32)) (t := .boolean) rfl (by simp) rfl d24_17 (by decide) (by decide) ?_
    have z : own_hi c = false := by simp [own_hi, hc1]
    rw [z]; rfl
  · have hc1 : ¬ (c < (55296 : Int32)) := hc1
    refine Wp.iloadN d24_6 (pc' := 7) rfl rfl ?_
    refine Wp.ldcI rfl (hw _ (List.mem_of_getElem? (i := 109) rfl)) d24_7 (pc' := 9) rfl ?_
    refine Wp.icmp_gt (pc1 := 16) (pc' := 12) d24_9 (by decide) (by decide) rfl (fun hc2 => ?_) (fun hc2 => ?_)
    · have hc2 : (56319 : Int32) < c := hc2
      refine Wp.iconst (x := (0 : Int32)) d24_16 (pc' := 17) rfl rfl ?_
      refine Wp.retN (x' := (0 : Int32)) (t := .boolean) rfl (by simp) rfl d24_17 (by decide) (by decide) ?_
      have z : own_hi c = false := by simp [own_hi, hc1, hc2]
      rw [z]; rfl
    · have hc2 : ¬ ((56319 : Int32) < c) := hc2
      refine Wp.iconst (x := (1 : Int32)) d24_12 (pc' := 13) rfl rfl ?_
      refine Wp.goto (pc' := 17) d24_13 (by decide) (by decide) ?_
      refine Wp.retN (x' := (1 : Int32)) (t := .boolean) rfl (by simp) rfl d24_17 (by decide) (by decide) ?_
      have z : own_hi c = true := by simp [own_hi, hc1, hc2]
      rw [z]; rfl
theorem d26_0 : decode method_3_code 0 = .ok (.iload_n 0, 1) := by decide +kernel
theorem d26_1 : decode method_3_code 1 = .ok (.ldc 9, 2) := by decide +kernel
theorem d26_3 : decode method_3_code 3 = .ok (.if_icmp .lt 13, 3) := by decide +kernel
theorem d26_6 : decode method_3_code 6 = .ok (.iload_n 0, 1) := by decide +kernel
theorem d26_7 : decode method_3_code 7 = .ok (.ldc 10, 2) := by decide +kernel
theorem d26_9 : decode method_3_code 9 = .ok (.if_icmp .gt 7, 3) := by decide +kernel
theorem d26_12 : decode method_3_code 12 = .ok (.iconst 1, 1) := by decide +kernel
theorem d26_13 : decode method_3_code 13 = .ok (.goto 4, 3) := by decide +kernel
theorem d26_16 : decode method_3_code 16 = .ok (.iconst 0, 1) := by decide +kernel
theorem d26_17 : decode method_3_code 17 = .ok (.ireturn, 1) := by decide +kernel
theorem ef_ct_lo (m : MethodId) (x0 : Int32) : entryFrame m #[(.int x0)] 1 = mkF m 0 #[.val (.int x0)] [] := by first | (simp [entryFrame, mkF, argsToLocals, Value.category]; done) | rfl
set_option maxRecDepth 65536 in
set_option maxHeartbeats 40000000 in
theorem ct_lo (l : Launch) (Z : State) (a0 : Array Value) (hw : ∀ d ∈ tables_1, d.before a0 Z = true) (hE : EW Z a0 [("java/lang/String", 7)]) (c : Int32) (h0 : Heap) (hO : Ext Z.heap h0) :
    Ct true l Z [("java/lang/String", 7)] [] (⟨"com/example/package_pricing/packagepricing/catalog/TextCheckLengthPinLaw", "lo", "(C)Z"⟩ : MethodName) method_3_code 1 (some .boolean) ({ frames := 0, cells := 0, slots := 0, locals := 0 } : Room) #[(.int c)] h0 [] [] (fun v h => v = some (.int (if own_lo c then 1 else 0))) := by
  refine Ct.of_wp (a0 := a0) (Ls := #[.val (.int c)]) (plainFor_of_name pn_com_example_package_pricing_packagepricing_catalog_TextCheckLengthPinLaw) hE hO nofun (fun m => ef_ct_lo m c) ?_
  refine Wp.iloadN d26_0 (pc' := 1) rfl rfl ?_
  refine Wp.ldcI rfl (hw _ (List.mem_of_getElem? (i := 4) rfl)) d26_1 (pc' := 3) rfl ?_
  refine Wp.icmp_lt (pc1 := 16) (pc' := 6) d26_3 (by decide) (by decide) rfl (fun hc1 => ?_) (fun hc1 => ?_)
  · have hc1 : c < (56320 : Int32) := hc1
    refine Wp.iconst (x := (0 : Int32)) d26_16 (pc' := 17) rfl rfl ?_
    refine Wp.retN (x' := (0 : Int32)) (t := .boolean) rfl (by simp) rfl d26_17 (by decide) (by decide) ?_
    have z : own_lo c = false := by simp [own_lo, hc1]
    rw [z]; rfl
  · have hc1 : ¬ (c < (56320 : Int32)) := hc1
    refine Wp.iloadN d26_6 (pc' := 7) rfl rfl ?_
    refine Wp.ldcI rfl (hw _ (List.mem_of_getElem? (i := 122) rfl)) d26_7 (pc' := 9) rfl ?_
    refine Wp.icmp_gt (pc1 := 16) (pc' := 12) d26_9 (by decide) (by decide) rfl (fun hc2 => ?_) (fun hc2 => ?_)
    · have hc2 : (57343 : Int32) < c := hc2
      refine Wp.iconst (x := (0 : Int32)) d26_16 (pc' := 17) rfl rfl ?_
      refine Wp.retN (x' := (0 : Int32)) (t := .boolean) rfl (by simp) rfl d26_17 (by decide) (by decide) ?_
      have z : own_lo c = false := by simp [own_lo, hc1, hc2]
      rw [z]; rfl
    · have hc2 : ¬ ((57343 : Int32) < c) := hc2
      refine Wp.iconst (x := (1 : Int32)) d26_12 (pc' := 13) rfl rfl ?_
      refine Wp.goto (pc' := 17) d26_13 (by decide) (by decide) ?_
      refine Wp.retN (x' := (1 : Int32)) (t := .boolean) rfl (by simp) rfl d26_17 (by decide) (by decide) ?_
      have z : own_lo c = true := by simp [own_lo, hc1, hc2]
      rw [z]; rfl
theorem d25_0 : decode jdk_89_method_14_code 0 = .ok (.iload_n 0, 1) := by decide +kernel
theorem d25_1 : decode jdk_89_method_14_code 1 = .ok (.ldc 75, 2) := by decide +kernel
theorem d25_3 : decode jdk_89_method_14_code 3 = .ok (.if_icmp .lt 13, 3) := by decide +kernel
theorem d25_6 : decode jdk_89_method_14_code 6 = .ok (.iload_n 0, 1) := by decide +kernel
theorem d25_7 : decode jdk_89_method_14_code 7 = .ok (.ldc 76, 2) := by decide +kernel
theorem d25_9 : decode jdk_89_method_14_code 9 = .ok (.if_icmp .ge 7, 3) := by decide +kernel
theorem d25_12 : decode jdk_89_method_14_code 12 = .ok (.iconst 1, 1) := by decide +kernel
theorem d25_13 : decode jdk_89_method_14_code 13 = .ok (.goto 4, 3) := by decide +kernel
theorem d25_16 : decode jdk_89_method_14_code 16 = .ok (.iconst 0, 1) := by decide +kernel
theorem d25_17 : decode jdk_89_method_14_code 17 = .ok (.ireturn, 1) := by decide +kernel
theorem pn_java_lang_Character : plainName "java/lang/Character" = true := by first | (simp [plainName, overriddenIn]; done) | decide +kernel
theorem ef_ct_isHighSurrogate (m : MethodId) (x0 : Int32) : entryFrame m #[(.int x0)] 1 = mkF m 0 #[.val (.int x0)] [] := by first | (simp [entryFrame, mkF, argsToLocals, Value.category]; done) | rfl
set_option maxRecDepth 65536 in
set_option maxHeartbeats 40000000 in
theorem ct_isHighSurrogate (l : Launch) (Z : State) (a0 : Array Value) (hw : ∀ d ∈ tables_1, d.before a0 Z = true) (hE : EW Z a0 [("java/lang/String", 7)]) (c : Int32) (h0 : Heap) (hO : Ext Z.heap h0) :
    Ct true l Z [("java/lang/String", 7)] [] (⟨"java/lang/Character", "isHighSurrogate", "(C)Z"⟩ : MethodName) jdk_89_method_14_code 1 (some .boolean) ({ frames := 0, cells := 0, slots := 0, locals := 0 } : Room) #[(.int c)] h0 [] [] (fun v h => v = some (.int (if own_hi c then 1 else 0))) := by
  refine Ct.of_wp (a0 := a0) (Ls := #[.val (.int c)]) (plainFor_of_name pn_java_lang_Character) hE hO nofun (fun m => ef_ct_isHighSurrogate m c) ?_
  refine Wp.iloadN d25_0 (pc' := 1) rfl rfl ?_
  refine Wp.ldcI rfl (hw _ (List.mem_of_getElem? (i := 114) rfl)) d25_1 (pc' := 3) rfl ?_
  refine Wp.icmp_lt (pc1 := 16) (pc' := 6) d25_3 (by decide) (by decide) rfl (fun hc1 => ?_) (fun hc1 => ?_)
  · have hc1 : c < (55296 : Int32) := hc1
    refine Wp.iconst (x := (0 : Int32)) d25_16 (pc' := 17) rfl rfl ?_
    refine Wp.retN (x' := (0 : Int32)) (t := .boolean) rfl (by simp) rfl d25_17 (by decide) (by decide) ?_
    have z : own_hi c = false := by simp [own_hi, hc1]
    rw [z]; rfl
  · have hc1 : ¬ (c < (55296 : Int32)) := hc1
    refine Wp.iloadN d25_6 (pc' := 7) rfl rfl ?_
    refine Wp.ldcI rfl (hw _ (List.mem_of_getElem? (i := 115) rfl)) d25_7 (pc' := 9) rfl ?_
    refine Wp.icmp_ge (pc1 := 16) (pc' := 12) d25_9 (by decide) (by decide) rfl (fun hc2 => ?_) (fun hc2 => ?_)
    · have hc2 : ¬ (c < (56320 : Int32)) := hc2
      refine Wp.iconst (x := (0 : Int32)) d25_16 (pc' := 17) rfl rfl ?_
      refine Wp.retN (x' := (0 : Int32)) (t := .boolean) rfl (by simp) rfl d25_17 (by decide) (by decide) ?_
      rw [own_hi2] at hc2
      have z : own_hi c = false := by simp [own_hi, hc1, Classical.not_not.mp hc2]
      rw [z]; rfl
    · have hc2 : c < (56320 : Int32) := hc2
      refine Wp.iconst (x := (1 : Int32)) d25_12 (pc' := 13) rfl rfl ?_
      refine Wp.goto (pc' := 17) d25_13 (by decide) (by decide) ?_
      refine Wp.retN (x' := (1 : Int32)) (t := .boolean) rfl (by simp) rfl d25_17 (by decide) (by decide) ?_
      rw [own_hi2] at hc2
      have z : own_hi c = true := by simp [own_hi, hc1, hc2]
      rw [z]; rfl
theorem d27_0 : decode jdk_89_method_15_code 0 = .ok (.iload_n 0, 1) := by decide +kernel
theorem d27_1 : decode jdk_89_method_15_code 1 = .ok (.ldc 76, 2) := by decide +kernel
theorem d27_3 : decode jdk_89_method_15_code 3 = .ok (.if_icmp .lt 13, 3) := by decide +kernel
theorem d27_6 : decode jdk_89_method_15_code 6 = .ok (.iload_n 0, 1) := by decide +kernel
theorem d27_7 : decode jdk_89_method_15_code 7 = .ok (.ldc 77, 2) := by decide +kernel
theorem d27_9 : decode jdk_89_method_15_code 9 = .ok (.if_icmp .ge 7, 3) := by decide +kernel
theorem d27_12 : decode jdk_89_method_15_code 12 = .ok (.iconst 1, 1) := by decide +kernel
theorem d27_13 : decode jdk_89_method_15_code 13 = .ok (.goto 4, 3) := by decide +kernel
theorem d27_16 : decode jdk_89_method_15_code 16 = .ok (.iconst 0, 1) := by decide +kernel
theorem d27_17 : decode jdk_89_method_15_code 17 = .ok (.ireturn, 1) := by decide +kernel
theorem ef_ct_isLowSurrogate (m : MethodId) (x0 : Int32) : entryFrame m #[(.int x0)] 1 = mkF m 0 #[.val (.int x0)] [] := by first | (simp [entryFrame, mkF, argsToLocals, Value.category]; done) | rfl
set_option maxRecDepth 65536 in
set_option maxHeartbeats 40000000 in
theorem ct_isLowSurrogate (l : Launch) (Z : State) (a0 : Array Value) (hw : ∀ d ∈ tables_1, d.before a0 Z = true) (hE : EW Z a0 [("java/lang/String", 7)]) (c : Int32) (h0 : Heap) (hO : Ext Z.heap h0) :
    Ct true l Z [("java/lang/String", 7)] [] (⟨"java/lang/Character", "isLowSurrogate", "(C)Z"⟩ : MethodName) jdk_89_method_15_code 1 (some .boolean) ({ frames := 0, cells := 0, slots := 0, locals := 0 } : Room) #[(.int c)] h0 [] [] (fun v h => v = some (.int (if own_lo c then 1 else 0))) := by
  refine Ct.of_wp (a0 := a0) (Ls := #[.val (.int c)]) (plainFor_of_name pn_java_lang_Character) hE hO nofun (fun m => ef_ct_isLowSurrogate m c) ?_
  refine Wp.iloadN d27_0 (pc' := 1) rfl rfl ?_
  refine Wp.ldcI rfl (hw _ (List.mem_of_getElem? (i := 115) rfl)) d27_1 (pc' := 3) rfl ?_
  refine Wp.icmp_lt (pc1 := 16) (pc' := 6) d27_3 (by decide) (by decide) rfl (fun hc1 => ?_) (fun hc1 => ?_)
  · have hc1 : c < (56320 : Int32) := hc1
    refine Wp.iconst (x := (0 : Int32)) d27_16 (pc' := 17) rfl rfl ?_
    refine Wp.retN (x' := (0 : Int32)) (t := .boolean) rfl (by simp) rfl d27_17 (by decide) (by decide) ?_
    have z : own_lo c = false := by simp [own_lo, hc1]
    rw [z]; rfl
  · have hc1 : ¬ (c < (56320 : Int32)) := hc1
    refine Wp.iloadN d27_6 (pc' := 7) rfl rfl ?_
    refine Wp.ldcI rfl (hw _ (List.mem_of_getElem? (i := 123) rfl)) d27_7 (pc' := 9) rfl ?_
    refine Wp.icmp_ge (pc1 := 16) (pc' := 12) d27_9 (by decide) (by decide) rfl (fun hc2 => ?_) (fun hc2 => ?_)
    · have hc2 : ¬ (c < (57344 : Int32)) := hc2
      refine Wp.iconst (x := (0 : Int32)) d27_16 (pc' := 17) rfl rfl ?_
      refine Wp.retN (x' := (0 : Int32)) (t := .boolean) rfl (by simp) rfl d27_17 (by decide) (by decide) ?_
      rw [own_lo2] at hc2
      have z : own_lo c = false := by simp [own_lo, hc1, Classical.not_not.mp hc2]
      rw [z]; rfl
    · have hc2 : c < (57344 : Int32) := hc2
      refine Wp.iconst (x := (1 : Int32)) d27_12 (pc' := 13) rfl rfl ?_
      refine Wp.goto (pc' := 17) d27_13 (by decide) (by decide) ?_
      refine Wp.retN (x' := (1 : Int32)) (t := .boolean) rfl (by simp) rfl d27_17 (by decide) (by decide) ?_
      rw [own_lo2] at hc2
      have z : own_lo c = true := by simp [own_lo, hc1, hc2]
      rw [z]; rfl
theorem d23_0 : decode jdk_52_method_11_code 0 = .ok (.getstatic 44, 3) := by decide +kernel
theorem d23_3 : decode jdk_52_method_11_code 3 = .ok (.ifCond .ne 16, 3) := by decide +kernel
theorem d23_6 : decode jdk_52_method_11_code 6 = .ok (.iload_n 1, 1) := by decide +kernel
theorem d23_7 : decode jdk_52_method_11_code 7 = .ok (.iload_n 2, 1) := by decide +kernel
theorem d23_8 : decode jdk_52_method_11_code 8 = .ok (.if_icmp .le 11, 3) := by decide +kernel
theorem d23_11 : decode jdk_52_method_11_code 11 = .ok (.new 52, 3) := by decide +kernel
theorem d23_14 : decode jdk_52_method_11_code 14 = .ok (.dup, 1) := by decide +kernel
theorem d23_15 : decode jdk_52_method_11_code 15 = .ok (.invokespecial 66, 3) := by decide +kernel
theorem d23_18 : decode jdk_52_method_11_code 18 = .ok (.athrow, 1) := by decide +kernel
theorem d23_19 : decode jdk_52_method_11_code 19 = .ok (.iload_n 2, 1) := by decide +kernel
theorem d23_20 : decode jdk_52_method_11_code 20 = .ok (.iload_n 1, 1) := by decide +kernel
theorem d23_21 : decode jdk_52_method_11_code 21 = .ok (.isub, 1) := by decide +kernel
theorem d23_22 : decode jdk_52_method_11_code 22 = .ok (.istore 4, 2) := by decide +kernel
theorem d23_24 : decode jdk_52_method_11_code 24 = .ok (.iload_n 1, 1) := by decide +kernel
theorem d23_25 : decode jdk_52_method_11_code 25 = .ok (.istore 5, 2) := by decide +kernel
theorem d23_27 : decode jdk_52_method_11_code 27 = .ok (.iload_n 3, 1) := by decide +kernel
theorem d23_28 : decode jdk_52_method_11_code 28 = .ok (.ifCond .eq 16, 3) := by decide +kernel
theorem d23_31 : decode jdk_52_method_11_code 31 = .ok (.iload 5, 2) := by decide +kernel
theorem d23_33 : decode jdk_52_method_11_code 33 = .ok (.iload_n 2, 1) := by decide +kernel
theorem d23_34 : decode jdk_52_method_11_code 34 = .ok (.if_icmp .ge 10, 3) := by decide +kernel
theorem d23_37 : decode jdk_52_method_11_code 37 = .ok (.iload 5, 2) := by decide +kernel
theorem d23_39 : decode jdk_52_method_11_code 39 = .ok (.iload_n 2, 1) := by decide +kernel
theorem d23_40 : decode jdk_52_method_11_code 40 = .ok (.aload_n 0, 1) := by decide +kernel
theorem d23_41 : decode jdk_52_method_11_code 41 = .ok (.invokestatic 96, 3) := by decide +kernel
theorem d23_44 : decode jdk_52_method_11_code 44 = .ok (.iload 5, 2) := by decide +kernel
theorem d23_46 : decode jdk_52_method_11_code 46 = .ok (.iload_n 2, 1) := by decide +kernel
theorem d23_47 : decode jdk_52_method_11_code 47 = .ok (.iconst 1, 1) := by decide +kernel
theorem d23_48 : decode jdk_52_method_11_code 48 = .ok (.isub, 1) := by decide +kernel
theorem d23_49 : decode jdk_52_method_11_code 49 = .ok (.if_icmp .ge 39, 3) := by decide +kernel
theorem d23_52 : decode jdk_52_method_11_code 52 = .ok (.aload_n 0, 1) := by decide +kernel
theorem d23_53 : decode jdk_52_method_11_code 53 = .ok (.iload 5, 2) := by decide +kernel
theorem d23_55 : decode jdk_52_method_11_code 55 = .ok (.iinc 5 1, 3) := by decide +kernel
theorem d23_58 : decode jdk_52_method_11_code 58 = .ok (.invokestatic 71, 3) := by decide +kernel
theorem d23_61 : decode jdk_52_method_11_code 61 = .ok (.invokestatic 75, 3) := by decide +kernel
theorem d23_64 : decode jdk_52_method_11_code 64 = .ok (.ifCond .eq (-20), 3) := by decide +kernel
theorem d23_67 : decode jdk_52_method_11_code 67 = .ok (.aload_n 0, 1) := by decide +kernel
theorem d23_68 : decode jdk_52_method_11_code 68 = .ok (.iload 5, 2) := by decide +kernel
theorem d23_70 : decode jdk_52_method_11_code 70 = .ok (.invokestatic 71, 3) := by decide +kernel
theorem d23_73 : decode jdk_52_method_11_code 73 = .ok (.invokestatic 81, 3) := by decide +kernel
theorem d23_76 : decode jdk_52_method_11_code 76 = .ok (.ifCond .eq (-32), 3) := by decide +kernel
theorem d23_79 : decode jdk_52_method_11_code 79 = .ok (.iinc 4 (-1), 3) := by decide +kernel
theorem d23_82 : decode jdk_52_method_11_code 82 = .ok (.iinc 5 1, 3) := by decide +kernel
theorem d23_85 : decode jdk_52_method_11_code 85 = .ok (.goto (-41), 3) := by decide +kernel
theorem d23_88 : decode jdk_52_method_11_code 88 = .ok (.iload 4, 2) := by decide +kernel
theorem d23_90 : decode jdk_52_method_11_code 90 = .ok (.ireturn, 1) := by decide +kernel
theorem pd__C_Z : parseMethodDescriptor "(C)Z" = some ⟨[.char], some .boolean⟩ := by decide +kernel
theorem own_on1 {n : Nat} (h : 0 < n) (hn : n < 2147483648) : Int32.ofNat n - (1 : Int32) = Int32.ofNat (n - 1) := by
  obtain ⟨k, rfl⟩ : ∃ k, n = k + 1 := ⟨n - 1, by omega⟩
  rw [← on_succ, Int32.add_sub_cancel, Nat.add_sub_cancel]
theorem own_m1s (m : Int32) (p : Nat) : (m + (-1 : Int32)) - Int32.ofNat p = m - Int32.ofNat (p + 1) := by
  rw [← on_succ]
  generalize Int32.ofNat p = q
  have e : m + (-1 : Int32) = m - 1 := by rw [Int32.sub_eq_add_neg]
  rw [e, Int32.sub_eq_add_neg, Int32.sub_eq_add_neg, Int32.sub_eq_add_neg, Int32.neg_add, Int32.sub_eq_add_neg, Int32.add_assoc, Int32.add_comm (-1) (-q)]
set_option maxRecDepth 65536 in
set_option maxHeartbeats 40000000 in
theorem own_lpK (l : Launch) (Z : State) (a0 : Array Value) (hw : ∀ d ∈ tables_1, d.before a0 Z = true) (hE : EW Z a0 [("java/lang/String", 7)]) (hU : own_U Z) (b : Addr) (kb : ClassId) (cs : List Int32) (h16 : ∀ c ∈ cs, nar .char c = c) (hn : cs.length < 1073741823) (hpos : 0 < cs.length) (hs : Heap) :
    ∀ (k i : Nat) (m_ : Int32) (h : Heap), cs.length ≤ i + k → i ≤ cs.length → Arv Z h b kb .byte (Int32.ofNat (2 * cs.length)) (utf cs) (.int 0) →
      Wp true l Z a0 [("java/lang/String", 7)] ({ frames := 1, cells := 0, slots := 0, locals := 13 } : Room) (⟨"java/lang/StringUTF16", "codePointCount", "([BIIZ)I"⟩ : MethodName) jdk_52_method_11_code 6 (some .int) hs [] (fun v h => v = some (.int (m_ - Int32.ofNat (own_pairs (cs.drop i))))) h [] 0 0 44 #[.val (.ref b), .val (.int (0 : Int32)), .val (.int (Int32.ofNat cs.length)), .val (.int (0 : Int32)), .val (.int m_), .val (.int (Int32.ofNat i))] [] := by
  intro k
  induction k using Nat.strongRecOn with
  | ind k ih =>
    intro i m_ h hk hle V_b
    by_cases hi : i + 1 < cs.length
    rotate_left
    · have e0 := own_p1 (cs := cs) (i := i) (by omega)
      refine Wp.iload d23_44 (pc' := 46) rfl rfl ?_
      refine Wp.iloadN d23_46 (pc' := 47) rfl rfl ?_
      refine Wp.iconst (x := (1 : Int32)) d23_47 (pc' := 48) rfl rfl ?_
      refine Wp.isub d23_48 (pc' := 49) rfl ?_
      rw [own_on1 hpos (by omega)]
      refine Wp.icmp_ge (pc1 := 88) (pc' := 52) d23_49 (by decide) (by decide) rfl (fun hc101 => ?_) (fun hc101 => by exact absurd hc101 (on_nlt (by omega) (by omega)))
      refine Wp.iload d23_88 (pc' := 90) rfl rfl ?_
      refine Wp.retI rfl d23_90 (by decide) (by decide) ?_
      rw [e0]
      show some (Value.int m_) = some (Value.int (m_ - 0))
      rw [Int32.sub_zero]
    · obtain ⟨c, hc⟩ : ∃ c, cs[i]? = some c := ⟨_, List.getElem?_eq_getElem (by omega)⟩
      obtain ⟨d, hd⟩ : ∃ d, cs[i + 1]? = some d := ⟨_, List.getElem?_eq_getElem hi⟩
      have e0 := own_p2 hc hd
      refine Wp.iload d23_44 (pc' := 46) rfl rfl ?_
      refine Wp.iloadN d23_46 (pc' := 47) rfl rfl ?_
      refine Wp.iconst (x := (1 : Int32)) d23_47 (pc' := 48) rfl rfl ?_
      refine Wp.isub d23_48 (pc' := 49) rfl ?_
      rw [own_on1 hpos (by omega)]
      refine Wp.icmp_ge (pc1 := 88) (pc' := 52) d23_49 (by decide) (by decide) rfl (fun hc101 => by exact absurd (on_lt (by omega) (by omega : i < cs.length - 1)) hc101) (fun hc101 => ?_)
      refine Wp.aloadN d23_52 (pc' := 53) rfl rfl rfl ?_
      refine Wp.iload d23_53 (pc' := 55) rfl rfl ?_
      refine Wp.iinc (l' := #[.val (.ref b), .val (.int (0 : Int32)), .val (.int (Int32.ofNat cs.length)), .val (.int (0 : Int32)), .val (.int m_), .val (.int ((Int32.ofNat i) + (1 : Int32)))]) d23_55 (pc' := 58) rfl rfl rfl ?_
      rw [on_succ]
      refine Wp.old fun hOc => ?_
      refine Wp.callS (W := 0) (argsL := [(.ref b), (.int (Int32.ofNat i))]) (rest := []) rfl (ctGET l Z a0 hw hE b kb i c cs h hOc hU V_b hc hn (h16 c (List.mem_of_getElem? hc))) (hw _ (List.mem_of_getElem? (i := 94) rfl)) (hw _ (List.mem_of_getElem? (i := 95) rfl)) (hw _ (List.mem_of_getElem? (i := 96) rfl)) (hw _ (List.mem_of_getElem? (i := 73) rfl)) (by decide) (lenOf pd___BI_C rfl) d23_58 rfl rfl rfl (Nat.le_of_eq rfl) (pc' := 61) rfl nofun nofun (by decide) (by decide) (k' := 0) (n' := 0) rfl rfl (by decide) (by decide) (fun vh102 h102 zh102 Kh102 qh102 => ?_)
      obtain rfl := qh102
      replace V_b := V_b.keep Kh102 nin0
      refine Wp.eqS (S' := [(.int c)]) rfl ?_
      refine Wp.old fun hOc => ?_
      refine Wp.callS (W := 0) (argsL := [(.int c)]) (rest := []) rfl (ct_isHighSurrogate l Z a0 hw hE c h102 hOc) (hw _ (List.mem_of_getElem? (i := 110) rfl)) (hw _ (List.mem_of_getElem? (i := 111) rfl)) (hw _ (List.mem_of_getElem? (i := 113) rfl)) (hw _ (List.mem_of_getElem? (i := 112) rfl)) (by decide) (lenOf pd__C_Z rfl) d23_61 rfl rfl rfl (Nat.le_of_eq rfl) (pc' := 64) rfl nofun nofun (by decide) (by decide) (k' := 0) (n' := 0) rfl rfl (by decide) (by decide) (fun vh103 h103 zh103 Kh103 qh103 => ?_)
      obtain rfl := qh103
      replace V_b := V_b.keep Kh103 nin0
      refine Wp.eqS (S' := [(.int (if own_hi c then (1 : Int32) else 0))]) rfl ?_
      refine Wp.if_eq (pc1 := 44) (pc' := 67) d23_64 (by decide) (by decide) rfl (fun hc104 => ?_) (fun hc104 => ?_)
      · have hc104 : (if own_hi c then (1 : Int32) else 0) = (0 : Int32) := hc104
        have z0 := hc104
        simp at z0
        simp only [z0, Bool.and_true, Bool.and_false, Bool.false_and, if_true, reduceIte, Bool.true_and, Bool.false_eq_true] at e0
        rw [e0]
        exact ih (k - 1) (by omega) (i + 1) _ _ (by omega) (by omega) V_b
      · have hc104 : ¬ ((if own_hi c then (1 : Int32) else 0) = (0 : Int32)) := hc104
        refine Wp.aloadN d23_67 (pc' := 68) rfl rfl rfl ?_
        refine Wp.iload d23_68 (pc' := 70) rfl rfl ?_
        refine Wp.old fun hOc => ?_
        refine Wp.callS (W := 0) (argsL := [(.ref b), (.int (Int32.ofNat (i + 1)))]) (rest := []) rfl (ctGET l Z a0 hw hE b kb (i + 1) d cs h103 hOc hU V_b hd hn (h16 d (List.mem_of_getElem? hd))) (hw _ (List.mem_of_getElem? (i := 94) rfl)) (hw _ (List.mem_of_getElem? (i := 95) rfl)) (hw _ (List.mem_of_getElem? (i := 96) rfl)) (hw _ (List.mem_of_getElem? (i := 73) rfl)) (by decide) (lenOf pd___BI_C rfl) d23_70 rfl rfl rfl (Nat.le_of_eq rfl) (pc' := 73) rfl nofun nofun (by decide) (by decide) (k' := 0) (n' := 0) rfl rfl (by decide) (by decide) (fun vh105 h105 zh105 Kh105 qh105 => ?_)
        obtain rfl := qh105
        replace V_b := V_b.keep Kh105 nin0
        refine Wp.eqS (S' := [(.int d)]) rfl ?_
        refine Wp.old fun hOc => ?_
        refine Wp.callS (W := 0) (argsL := [(.int d)]) (rest := []) rfl (ct_isLowSurrogate l Z a0 hw hE d h105 hOc) (hw _ (List.mem_of_getElem? (i := 119) rfl)) (hw _ (List.mem_of_getElem? (i := 120) rfl)) (hw _ (List.mem_of_getElem? (i := 121) rfl)) (hw _ (List.mem_of_getElem? (i := 112) rfl)) (by decide) (lenOf pd__C_Z rfl) d23_73 rfl rfl rfl (Nat.le_of_eq rfl) (pc' := 76) rfl nofun nofun (by decide) (by decide) (k' := 0) (n' := 0) rfl rfl (by decide) (by decide) (fun vh106 h106 zh106 Kh106 qh106 => ?_)
        obtain rfl := qh106
        replace V_b := V_b.keep Kh106 nin0
        refine Wp.eqS (S' := [(.int (if own_lo d then (1 : Int32) else 0))]) rfl ?_
        refine Wp.if_eq (pc1 := 44) (pc' := 79) d23_76 (by decide) (by decide) rfl (fun hc107 => ?_) (fun hc107 => ?_)
        · have hc107 : (if own_lo d then (1 : Int32) else 0) = (0 : Int32) := hc107
          have z0 := hc104
          simp at z0
          have z1 := hc107
          simp at z1
          simp only [z0, z1, Bool.and_true, Bool.and_false, Bool.false_and, if_true, reduceIte, Bool.true_and, Bool.false_eq_true] at e0
          rw [e0]
          exact ih (k - 1) (by omega) (i + 1) _ _ (by omega) (by omega) V_b
        · have hc107 : ¬ ((if own_lo d then (1 : Int32) else 0) = (0 : Int32)) := hc107
          refine Wp.iinc (l' := #[.val (.ref b), .val (.int (0 : Int32)), .val (.int (Int32.ofNat cs.length)), .val (.int (0 : Int32)), .val (.int (m_ + (-1 : Int32))), .val (.int (Int32.ofNat (i + 1)))]) d23_79 (pc' := 82) rfl rfl rfl ?_
          refine Wp.iinc (l' := #[.val (.ref b), .val (.int (0 : Int32)), .val (.int (Int32.ofNat cs.length)), .val (.int (0 : Int32)), .val (.int (m_ + (-1 : Int32))), .val (.int ((Int32.ofNat (i + 1)) + (1 : Int32)))]) d23_82 (pc' := 85) rfl rfl rfl ?_
          refine Wp.goto (pc' := 44) d23_85 (by decide) (by decide) ?_
          have z0 := hc104
          simp at z0
          have z1 := hc107
          simp at z1
          simp only [z0, z1, Bool.and_true, Bool.and_false, Bool.false_and, if_true, reduceIte, Bool.true_and, Bool.false_eq_true] at e0
          rw [e0]
          rw [on_succ, ← own_m1s]
          exact ih (k - 2) (by omega) (i + 2) _ _ (by omega) (by omega) V_b
theorem ef_ctCP4 (m : MethodId) (x0 : Addr) (x1 : Int32) (x2 : Int32) (x3 : Int32) : entryFrame m #[(.ref x0), (.int x1), (.int x2), (.int x3)] 6 = mkF m 0 #[.val (.ref x0), .val (.int x1), .val (.int x2), .val (.int x3), .unset, .unset] [] := by first | (simp [entryFrame, mkF, argsToLocals, Value.category]; done) | rfl
set_option maxRecDepth 65536 in
set_option maxHeartbeats 40000000 in
theorem ctCP4 (l : Launch) (Z : State) (a0 : Array Value) (hw : ∀ d ∈ tables_1, d.before a0 Z = true) (hE : EW Z a0 [("java/lang/String", 7)]) (b : Addr) (kb : ClassId) (cs : List Int32) (h0 : Heap) (hO : Ext Z.heap h0) (hU : own_U Z) (h16 : ∀ c ∈ cs, nar .char c = c) (hn : cs.length < 1073741823) (hpos : 0 < cs.length) (V_b : Arv Z h0 b kb .byte (Int32.ofNat (2 * cs.length)) (utf cs) (.int 0)) :
    Ct true l Z [("java/lang/String", 7)] [] (⟨"java/lang/StringUTF16", "codePointCount", "([BIIZ)I"⟩ : MethodName) jdk_52_method_11_code 6 (some .int) ({ frames := 1, cells := 0, slots := 0, locals := 13 } : Room) #[(.ref b), (.int (0 : Int32)), (.int (Int32.ofNat cs.length)), (.int (0 : Int32))] h0 [] [] (fun v h => v = some (.int ((Int32.ofNat cs.length) - Int32.ofNat (own_pairs cs)))) := by
  refine Ct.of_wp (a0 := a0) (Ls := #[.val (.ref b), .val (.int (0 : Int32)), .val (.int (Int32.ofNat cs.length)), .val (.int (0 : Int32)), .unset, .unset]) (plainFor_of_name pn_java_lang_StringUTF16) hE hO nofun (fun m => ef_ctCP4 m b (0 : Int32) (Int32.ofNat cs.length) (0 : Int32)) ?_
  refine Wp.getS rfl (host := "") (Or.inl (hw _ (List.mem_of_getElem? (i := 91) rfl))) Via.refl hU.1 d23_0 (pc' := 3) rfl ?_
  refine Wp.if_ne (pc1 := 19) (pc' := 6) d23_3 (by decide) (by decide) rfl (fun hc1 => ?_) (fun hc1 => by exact absurd hc1 (by decide))
  refine Wp.iloadN d23_19 (pc' := 20) rfl rfl ?_
  refine Wp.iloadN d23_20 (pc' := 21) rfl rfl ?_
  refine Wp.isub d23_21 (pc' := 22) rfl ?_
  refine Wp.istore (l' := #[.val (.ref b), .val (.int (0 : Int32)), .val (.int (Int32.ofNat cs.length)), .val (.int (0 : Int32)), .val (.int ((Int32.ofNat cs.length) - (0 : Int32))), .unset]) d23_22 (pc' := 24) rfl rfl ?_
  refine Wp.iloadN d23_24 (pc' := 25) rfl rfl ?_
  refine Wp.istore (l' := #[.val (.ref b), .val (.int (0 : Int32)), .val (.int (Int32.ofNat cs.length)), .val (.int (0 : Int32)), .val (.int ((Int32.ofNat cs.length) - (0 : Int32))), .val (.int (0 : Int32))]) d23_25 (pc' := 27) rfl rfl ?_
  refine Wp.iloadN d23_27 (pc' := 28) rfl rfl ?_
  refine Wp.if_eq (pc1 := 44) (pc' := 31) d23_28 (by decide) (by decide) rfl (fun hc2 => ?_) (fun hc2 => by exact absurd hc2 (by decide))
  rw [Int32.sub_zero]
  exact own_lpK l Z a0 hw hE hU b kb cs h16 hn hpos h0 cs.length 0 _ h0 (by omega) (by omega) V_b
theorem d22_0 : decode jdk_52_method_12_code 0 = .ok (.aload_n 0, 1) := by decide +kernel
theorem d22_1 : decode jdk_52_method_12_code 1 = .ok (.iload_n 1, 1) := by decide +kernel
theorem d22_2 : decode jdk_52_method_12_code 2 = .ok (.iload_n 2, 1) := by decide +kernel
theorem d22_3 : decode jdk_52_method_12_code 3 = .ok (.iconst 0, 1) := by decide +kernel
theorem d22_4 : decode jdk_52_method_12_code 4 = .ok (.invokestatic 100, 3) := by decide +kernel
theorem d22_7 : decode jdk_52_method_12_code 7 = .ok (.ireturn, 1) := by decide +kernel
theorem ef_ctCP3 (m : MethodId) (x0 : Addr) (x1 : Int32) (x2 : Int32) : entryFrame m #[(.ref x0), (.int x1), (.int x2)] 3 = mkF m 0 #[.val (.ref x0), .val (.int x1), .val (.int x2)] [] := by first | (simp [entryFrame, mkF, argsToLocals, Value.category]; done) | rfl
theorem pd___BIIZ_I : parseMethodDescriptor "([BIIZ)I" = some ⟨[(.array .byte), .int, .int, .boolean], some .int⟩ := by decide +kernel
set_option maxRecDepth 65536 in
set_option maxHeartbeats 40000000 in
theorem ctCP3 (l : Launch) (Z : State) (a0 : Array Value) (hw : ∀ d ∈ tables_1, d.before a0 Z = true) (hE : EW Z a0 [("java/lang/String", 7)]) (b : Addr) (kb : ClassId) (cs : List Int32) (h0 : Heap) (hO : Ext Z.heap h0) (hU : own_U Z) (h16 : ∀ c ∈ cs, nar .char c = c) (hn : cs.length < 1073741823) (hpos : 0 < cs.length) (V_b : Arv Z h0 b kb .byte (Int32.ofNat (2 * cs.length)) (utf cs) (.int 0)) :
    Ct true l Z [("java/lang/String", 7)] [] (⟨"java/lang/StringUTF16", "codePointCount", "([BII)I"⟩ : MethodName) jdk_52_method_12_code 3 (some .int) ({ frames := 2, cells := 0, slots := 0, locals := 30 } : Room) #[(.ref b), (.int (0 : Int32)), (.int (Int32.ofNat cs.length))] h0 [] [] (fun v h => v = some (.int ((Int32.ofNat cs.length) - Int32.ofNat (own_pairs cs)))) := by
  refine Ct.of_wp (a0 := a0) (Ls := #[.val (.ref b), .val (.int (0 : Int32)), .val (.int (Int32.ofNat cs.length))]) (plainFor_of_name pn_java_lang_StringUTF16) hE hO nofun (fun m => ef_ctCP3 m b (0 : Int32) (Int32.ofNat cs.length)) ?_
  refine Wp.aloadN d22_0 (pc' := 1) rfl rfl rfl ?_
  refine Wp.iloadN d22_1 (pc' := 2) rfl rfl ?_
  refine Wp.iloadN d22_2 (pc' := 3) rfl rfl ?_
  refine Wp.iconst (x := (0 : Int32)) d22_3 (pc' := 4) rfl rfl ?_
  refine Wp.old fun hOc => ?_
  refine Wp.callS (W := 0) (argsL := [(.ref b), (.int (0 : Int32)), (.int (Int32.ofNat cs.length)), (.int (0 : Int32))]) (rest := []) rfl (ctCP4 l Z a0 hw hE b kb cs h0 hOc hU h16 hn hpos V_b) (hw _ (List.mem_of_getElem? (i := 103) rfl)) (hw _ (List.mem_of_getElem? (i := 104) rfl)) (hw _ (List.mem_of_getElem? (i := 105) rfl)) (hw _ (List.mem_of_getElem? (i := 73) rfl)) (by decide) (lenOf pd___BIIZ_I rfl) d22_4 rfl rfl rfl (Nat.le_of_eq rfl) (pc' := 7) rfl nofun nofun (by decide) (by decide) (k' := 0) (n' := 0) rfl rfl (by decide) (by decide) (fun vh1 h1 zh1 Kh1 qh1 => ?_)
  obtain rfl := qh1
  refine Wp.eqS (S' := [(.int ((Int32.ofNat cs.length) - Int32.ofNat (own_pairs cs)))]) rfl ?_
  refine Wp.retI rfl d22_7 (by decide) (by decide) ?_
  rfl
theorem d12_0 : decode jdk_41_method_12_code 0 = .ok (.iload_n 0, 1) := by decide +kernel
theorem d12_1 : decode jdk_41_method_12_code 1 = .ok (.ifCond .lt 13, 3) := by decide +kernel
theorem d12_4 : decode jdk_41_method_12_code 4 = .ok (.iload_n 0, 1) := by decide +kernel
theorem d12_5 : decode jdk_41_method_12_code 5 = .ok (.iload_n 1, 1) := by decide +kernel
theorem d12_6 : decode jdk_41_method_12_code 6 = .ok (.if_icmp .gt 8, 3) := by decide +kernel
theorem d12_9 : decode jdk_41_method_12_code 9 = .ok (.iload_n 1, 1) := by decide +kernel
theorem d12_10 : decode jdk_41_method_12_code 10 = .ok (.iload_n 2, 1) := by decide +kernel
theorem d12_11 : decode jdk_41_method_12_code 11 = .ok (.if_icmp .le 11, 3) := by decide +kernel
theorem d12_14 : decode jdk_41_method_12_code 14 = .ok (.aload_n 3, 1) := by decide +kernel
theorem d12_15 : decode jdk_41_method_12_code 15 = .ok (.iload_n 0, 1) := by decide +kernel
theorem d12_16 : decode jdk_41_method_12_code 16 = .ok (.iload_n 1, 1) := by decide +kernel
theorem d12_17 : decode jdk_41_method_12_code 17 = .ok (.iload_n 2, 1) := by decide +kernel
theorem d12_18 : decode jdk_41_method_12_code 18 = .ok (.invokestatic 99, 3) := by decide +kernel
theorem d12_21 : decode jdk_41_method_12_code 21 = .ok (.athrow, 1) := by decide +kernel
theorem d12_22 : decode jdk_41_method_12_code 22 = .ok (.iload_n 0, 1) := by decide +kernel
theorem d12_23 : decode jdk_41_method_12_code 23 = .ok (.ireturn, 1) := by decide +kernel
theorem pn_jdk_internal_util_Preconditions : plainName "jdk/internal/util/Preconditions" = true := by first | (simp [plainName, overriddenIn]; done) | decide +kernel
theorem ef_ctCFTn (m : MethodId) (x0 : Int32) (x1 : Int32) (x2 : Int32) : entryFrame m #[(.int x0), (.int x1), (.int x2), .null] 4 = mkF m 0 #[.val (.int x0), .val (.int x1), .val (.int x2), .val .null] [] := by first | (simp [entryFrame, mkF, argsToLocals, Value.category]; done) | rfl
set_option maxRecDepth 65536 in
set_option maxHeartbeats 40000000 in
theorem ctCFTn (l : Launch) (Z : State) (a0 : Array Value) (hw : ∀ d ∈ tables_1, d.before a0 Z = true) (hE : EW Z a0 [("java/lang/String", 7)]) (n : Nat) (h0 : Heap) (hO : Ext Z.heap h0) (hm : n < 2147483648) :
    Ct true l Z [("java/lang/String", 7)] [] (⟨"jdk/internal/util/Preconditions", "checkFromToIndex", "(IIILjava/util/function/BiFunction;)I"⟩ : MethodName) jdk_41_method_12_code 4 (some .int) ({ frames := 0, cells := 0, slots := 0, locals := 0 } : Room) #[(.int (0 : Int32)), (.int (Int32.ofNat n)), (.int (Int32.ofNat n)), .null] h0 [] [] (fun v h => ∃ z : Int32, v = some (.int z)) := by
  refine Ct.of_wp (a0 := a0) (Ls := #[.val (.int (0 : Int32)), .val (.int (Int32.ofNat n)), .val (.int (Int32.ofNat n)), .val .null]) (plainFor_of_name pn_jdk_internal_util_Preconditions) hE hO nofun (fun m => ef_ctCFTn m (0 : Int32) (Int32.ofNat n) (Int32.ofNat n)) ?_
  refine Wp.iloadN d12_0 (pc' := 1) rfl rfl ?_
  refine Wp.if_lt (pc1 := 14) (pc' := 4) d12_1 (by decide) (by decide) rfl (fun hc1 => by exact absurd hc1 (by decide)) (fun hc1 => ?_)
  refine Wp.iloadN d12_4 (pc' := 5) rfl rfl ?_
  refine Wp.iloadN d12_5 (pc' := 6) rfl rfl ?_
  refine Wp.icmp_gt (pc1 := 14) (pc' := 9) d12_6 (by decide) (by decide) rfl (fun hc2 => by exact absurd hc2 (on_nneg (by omega))) (fun hc2 => ?_)
  refine Wp.iloadN d12_9 (pc' := 10) rfl rfl ?_
  refine Wp.iloadN d12_10 (pc' := 11) rfl rfl ?_
  refine Wp.icmp_le (pc1 := 22) (pc' := 14) d12_11 (by decide) (by decide) rfl (fun hc3 => ?_) (fun hc3 => by exact absurd hc3 Int32.lt_irrefl)
  refine Wp.iloadN d12_22 (pc' := 23) rfl rfl ?_
  refine Wp.retI rfl d12_23 (by decide) (by decide) ?_
  exact ⟨_, rfl⟩
theorem d11_0 : decode jdk_31_method_18_code 0 = .ok (.iload_n 0, 1) := by decide +kernel
theorem d11_1 : decode jdk_31_method_18_code 1 = .ok (.iload_n 1, 1) := by decide +kernel
theorem d11_2 : decode jdk_31_method_18_code 2 = .ok (.iload_n 2, 1) := by decide +kernel
theorem d11_3 : decode jdk_31_method_18_code 3 = .ok (.aconst_null, 1) := by decide +kernel
theorem d11_4 : decode jdk_31_method_18_code 4 = .ok (.invokestatic 111, 3) := by decide +kernel
theorem d11_7 : decode jdk_31_method_18_code 7 = .ok (.ireturn, 1) := by decide +kernel
theorem pn_java_util_Objects : plainName "java/util/Objects" = true := by first | (simp [plainName, overriddenIn]; done) | decide +kernel
theorem ef_ctOCF (m : MethodId) (x0 : Int32) (x1 : Int32) (x2 : Int32) : entryFrame m #[(.int x0), (.int x1), (.int x2)] 3 = mkF m 0 #[.val (.int x0), .val (.int x1), .val (.int x2)] [] := by first | (simp [entryFrame, mkF, argsToLocals, Value.category]; done) | rfl
theorem pd__IIILjava_util_function_BiFunction__I : parseMethodDescriptor "(IIILjava/util/function/BiFunction;)I" = some ⟨[.int, .int, .int, (.object "java/util/function/BiFunction")], some .int⟩ := by decide +kernel
set_option maxRecDepth 65536 in
set_option maxHeartbeats 40000000 in
theorem ctOCF (l : Launch) (Z : State) (a0 : Array Value) (hw : ∀ d ∈ tables_1, d.before a0 Z = true) (hE : EW Z a0 [("java/lang/String", 7)]) (n : Nat) (h0 : Heap) (hO : Ext Z.heap h0) (hm : n < 2147483648) :
    Ct true l Z [("java/lang/String", 7)] [] (⟨"java/util/Objects", "checkFromToIndex", "(III)I"⟩ : MethodName) jdk_31_method_18_code 3 (some .int) ({ frames := 1, cells := 0, slots := 0, locals := 15 } : Room) #[(.int (0 : Int32)), (.int (Int32.ofNat n)), (.int (Int32.ofNat n))] h0 [] [] (fun v h => ∃ z : Int32, v = some (.int z)) := by
  refine Ct.of_wp (a0 := a0) (Ls := #[.val (.int (0 : Int32)), .val (.int (Int32.ofNat n)), .val (.int (Int32.ofNat n))]) (plainFor_of_name pn_java_util_Objects) hE hO nofun (fun m => ef_ctOCF m (0 : Int32) (Int32.ofNat n) (Int32.ofNat n)) ?_
  refine Wp.iloadN d11_0 (pc' := 1) rfl rfl ?_
  refine Wp.iloadN d11_1 (pc' := 2) rfl rfl ?_
  refine Wp.iloadN d11_2 (pc' := 3) rfl rfl ?_
  refine Wp.aconstNull d11_3 (pc' := 4) rfl ?_
  refine Wp.old fun hOc => ?_
  refine Wp.callS (W := 0) (argsL := [(.int (0 : Int32)), (.int (Int32.ofNat n)), (.int (Int32.ofNat n)), .null]) (rest := []) rfl (ctCFTn l Z a0 hw hE n h0 hOc hm) (hw _ (List.mem_of_getElem? (i := 60) rfl)) (hw _ (List.mem_of_getElem? (i := 61) rfl)) (hw _ (List.mem_of_getElem? (i := 63) rfl)) (hw _ (List.mem_of_getElem? (i := 62) rfl)) (by decide) (lenOf pd__IIILjava_util_function_BiFunction__I rfl) d11_4 rfl rfl rfl (Nat.le_of_eq rfl) (pc' := 7) rfl nofun nofun (by decide) (by decide) (k' := 0) (n' := 0) rfl rfl (by decide) (by decide) (fun vh1 h1 zh1 Kh1 qh1 => ?_)
  obtain ⟨z, rfl⟩ := qh1
  refine Wp.eqS (S' := [(.int z)]) rfl ?_
  refine Wp.retI rfl d11_7 (by decide) (by decide) ?_
  exact ⟨_, rfl⟩
theorem d10_0 : decode jdk_42_method_59_code 0 = .ok (.iload_n 1, 1) := by decide +kernel
theorem d10_1 : decode jdk_42_method_59_code 1 = .ok (.iload_n 2, 1) := by decide +kernel
theorem d10_2 : decode jdk_42_method_59_code 2 = .ok (.aload_n 0, 1) := by decide +kernel
theorem d10_3 : decode jdk_42_method_59_code 3 = .ok (.invokevirtual 505, 3) := by decide +kernel
theorem d10_6 : decode jdk_42_method_59_code 6 = .ok (.invokestatic 511, 3) := by decide +kernel
theorem d10_9 : decode jdk_42_method_59_code 9 = .ok (.pop, 1) := by decide +kernel
theorem d10_10 : decode jdk_42_method_59_code 10 = .ok (.aload_n 0, 1) := by decide +kernel
theorem d10_11 : decode jdk_42_method_59_code 11 = .ok (.invokevirtual 492, 3) := by decide +kernel
theorem d10_14 : decode jdk_42_method_59_code 14 = .ok (.ifCond .eq 7, 3) := by decide +kernel
theorem d10_17 : decode jdk_42_method_59_code 17 = .ok (.iload_n 2, 1) := by decide +kernel
theorem d10_18 : decode jdk_42_method_59_code 18 = .ok (.iload_n 1, 1) := by decide +kernel
theorem d10_19 : decode jdk_42_method_59_code 19 = .ok (.isub, 1) := by decide +kernel
theorem d10_20 : decode jdk_42_method_59_code 20 = .ok (.ireturn, 1) := by decide +kernel
theorem d10_21 : decode jdk_42_method_59_code 21 = .ok (.aload_n 0, 1) := by decide +kernel
theorem d10_22 : decode jdk_42_method_59_code 22 = .ok (.getfield 9, 3) := by decide +kernel
theorem d10_25 : decode jdk_42_method_59_code 25 = .ok (.iload_n 1, 1) := by decide +kernel
theorem d10_26 : decode jdk_42_method_59_code 26 = .ok (.iload_n 2, 1) := by decide +kernel
theorem d10_27 : decode jdk_42_method_59_code 27 = .ok (.invokestatic 514, 3) := by decide +kernel
theorem d10_30 : decode jdk_42_method_59_code 30 = .ok (.ireturn, 1) := by decide +kernel
theorem ef_ctCPC (m : MethodId) (x0 : Addr) (x1 : Int32) (x2 : Int32) : entryFrame m #[(.ref x0), (.int x1), (.int x2)] 3 = mkF m 0 #[.val (.ref x0), .val (.int x1), .val (.int x2)] [] := by first | (simp [entryFrame, mkF, argsToLocals, Value.category]; done) | rfl
theorem pd___I : parseMethodDescriptor "()I" = some ⟨[], some .int⟩ := by decide +kernel
theorem pd__III_I : parseMethodDescriptor "(III)I" = some ⟨[.int, .int, .int], some .int⟩ := by decide +kernel
theorem pd___Z : parseMethodDescriptor "()Z" = some ⟨[], some .boolean⟩ := by decide +kernel
theorem pd___BII_I : parseMethodDescriptor "([BII)I" = some ⟨[(.array .byte), .int, .int], some .int⟩ := by decide +kernel
set_option maxRecDepth 65536 in
set_option maxHeartbeats 40000000 in
theorem ctCPC (l : Launch) (Z : State) (a0 : Array Value) (hw : ∀ d ∈ tables_1, d.before a0 Z = true) (hE : EW Z a0 [("java/lang/String", 7)]) (s : Addr) (cs : List Int32) (cz : Int32) (h0 : Heap) (hO : Ext Z.heap h0) (S_s : ST Z h0 s cs) (hU : own_U Z) (h16 : ∀ c ∈ cs, nar .char c = c) (hn : cs.length < 1073741823) (hco : Sta Z Z.heap "java/lang/String" "COMPACT_STRINGS" "Z" (.int cz)) (hcz : ¬ cz = 0) :
    Ct true l Z [("java/lang/String", 7)] [] (⟨"java/lang/String", "codePointCount", "(II)I"⟩ : MethodName) jdk_42_method_59_code 3 (some .int) ({ frames := 3, cells := 0, slots := 0, locals := 44 } : Room) #[(.ref s), (.int (0 : Int32)), (.int (Int32.ofNat cs.length))] h0 [] [] (fun v h => v = some (.int ((Int32.ofNat cs.length) - Int32.ofNat (own_pairs cs)))) := by
  refine Ct.of_wp (a0 := a0) (Ls := #[.val (.ref s), .val (.int (0 : Int32)), .val (.int (Int32.ofNat cs.length))]) (plainFor_of_name pn_java_lang_String) hE hO nofun (fun m => ef_ctCPC m s (0 : Int32) (Int32.ofNat cs.length)) ?_
  have S_t := S_s
  obtain ⟨b, kb, w, zz, vs, E_s, C_s, D_s, V_b, hEn⟩ := S_t
  rcases hEn with ⟨rfl, rfl, rfl, hl⟩ | ⟨rfl, rfl, rfl, hu⟩
  · have V_b := V_b
    refine Wp.iloadN d10_0 (pc' := 1) rfl rfl ?_
    refine Wp.iloadN d10_1 (pc' := 2) rfl rfl ?_
    refine Wp.aloadN d10_2 (pc' := 3) rfl rfl rfl ?_
    refine Wp.old fun hOc => ?_
    refine Wp.callV (a := s) (x' := (⟨"java/lang/String", "length", "()I"⟩ : MethodName)) (W := 2) (argsL := []) (rest := [(.int (Int32.ofNat cs.length)), (.int (0 : Int32))]) rfl (ctLEN16 l Z a0 hw hE s cs cz h0 hOc S_s hn hco hcz) (hw _ (List.mem_of_getElem? (i := 55) rfl)) (hw _ (List.mem_of_getElem? (i := 40) rfl)) (hw _ (List.mem_of_getElem? (i := 42) rfl)) (hw _ (List.mem_of_getElem? (i := 41) rfl)) (hw _ (List.mem_of_getElem? (i := 43) rfl)) (hw _ (List.mem_of_getElem? (i := 15) rfl)) (fun s hZ => nf_sel rfl (hw _ (List.mem_of_getElem? (i := 42) rfl)) s hZ rfl) E_s (by decide) (lenOf pd___I rfl) d10_3 rfl rfl rfl (Nat.le_of_eq rfl) (pc' := 6) rfl nofun nofun (by decide) (by decide) (k' := 0) (n' := 0) rfl rfl (by decide) (by decide) (fun vh1 h1 zh1 Kh1 qh1 => ?_)
    obtain rfl := qh1
    replace S_s := S_s.keep0 Kh1
    replace E_s := E_s.keep Kh1
    replace C_s := C_s.keep Kh1 nin0
    replace D_s := D_s.keep Kh1 nin0
    replace V_b := V_b.keep Kh1 nin0
    refine Wp.eqS (S' := [(.int (Int32.ofNat cs.length)), (.int (Int32.ofNat cs.length)), (.int (0 : Int32))]) rfl ?_
    refine Wp.old fun hOc => ?_
    refine Wp.callS (W := 0) (argsL := [(.int (0 : Int32)), (.int (Int32.ofNat cs.length)), (.int (Int32.ofNat cs.length))]) (rest := []) rfl (ctOCF l Z a0 hw hE cs.length h1 hOc (by omega)) (hw _ (List.mem_of_getElem? (i := 56) rfl)) (hw _ (List.mem_of_getElem? (i := 57) rfl)) (hw _ (List.mem_of_getElem? (i := 59) rfl)) (hw _ (List.mem_of_getElem? (i := 58) rfl)) (by decide) (lenOf pd__III_I rfl) d10_6 rfl rfl rfl (Nat.le_of_eq rfl) (pc' := 9) rfl nofun nofun (by decide) (by decide) (k' := 0) (n' := 0) rfl rfl (by decide) (by decide) (fun vh2 h2 zh2 Kh2 qh2 => ?_)
    obtain ⟨z, rfl⟩ := qh2
    replace S_s := S_s.keep0 Kh2
    replace E_s := E_s.keep Kh2
    replace C_s := C_s.keep Kh2 nin0
    replace D_s := D_s.keep Kh2 nin0
    replace V_b := V_b.keep Kh2 nin0
    refine Wp.eqS (S' := [(.int z)]) rfl ?_
    refine Wp.pop d10_9 (pc' := 10) rfl rfl ?_
    refine Wp.aloadN d10_10 (pc' := 11) rfl rfl rfl ?_
    refine Wp.old fun hOc => ?_
    refine Wp.callV (a := s) (x' := (⟨"java/lang/String", "isLatin1", "()Z"⟩ : MethodName)) (W := 0) (argsL := []) (rest := []) rfl (ctISL l Z a0 hw hE s (0 : Int32) cz h2 hOc C_s hco hcz) (hw _ (List.mem_of_getElem? (i := 64) rfl)) (hw _ (List.mem_of_getElem? (i := 65) rfl)) (hw _ (List.mem_of_getElem? (i := 67) rfl)) (hw _ (List.mem_of_getElem? (i := 66) rfl)) (hw _ (List.mem_of_getElem? (i := 68) rfl)) (hw _ (List.mem_of_getElem? (i := 15) rfl)) (fun s hZ => nf_sel rfl (hw _ (List.mem_of_getElem? (i := 67) rfl)) s hZ rfl) E_s (by decide) (lenOf pd___Z rfl) d10_11 rfl rfl rfl (Nat.le_of_eq rfl) (pc' := 14) rfl nofun nofun (by decide) (by decide) (k' := 0) (n' := 0) rfl rfl (by decide) (by decide) (fun vh3 h3 zh3 Kh3 qh3 => ?_)
    obtain rfl : vh3 = some (.int 1) := qh3.trans rfl
    replace S_s := S_s.keep0 Kh3
    replace E_s := E_s.keep Kh3
    replace C_s := C_s.keep Kh3 nin0
    replace D_s := D_s.keep Kh3 nin0
    replace V_b := V_b.keep Kh3 nin0
    refine Wp.eqS (S' := [(.int (1 : Int32))]) rfl ?_
    refine Wp.if_eq (pc1 := 21) (pc' := 17) d10_14 (by decide) (by decide) rfl (fun hc4 => by exact absurd hc4 (by decide)) (fun hc4 => ?_)
    refine Wp.iloadN d10_17 (pc' := 18) rfl rfl ?_
    refine Wp.iloadN d10_18 (pc' := 19) rfl rfl ?_
    refine Wp.isub d10_19 (pc' := 20) rfl ?_
    refine Wp.retI rfl d10_20 (by decide) (by decide) ?_
    rw [own_pl cs hl]; rfl
  · have V_b := V_b
    refine Wp.iloadN d10_0 (pc' := 1) rfl rfl ?_
    refine Wp.iloadN d10_1 (pc' := 2) rfl rfl ?_
    refine Wp.aloadN d10_2 (pc' := 3) rfl rfl rfl ?_
    refine Wp.old fun hOc => ?_
    refine Wp.callV (a := s) (x' := (⟨"java/lang/String", "length", "()I"⟩ : MethodName)) (W := 2) (argsL := []) (rest := [(.int (Int32.ofNat cs.length)), (.int (0 : Int32))]) rfl (ctLEN16 l Z a0 hw hE s cs cz h0 hOc S_s hn hco hcz) (hw _ (List.mem_of_getElem? (i := 55) rfl)) (hw _ (List.mem_of_getElem? (i := 40) rfl)) (hw _ (List.mem_of_getElem? (i := 42) rfl)) (hw _ (List.mem_of_getElem? (i := 41) rfl)) (hw _ (List.mem_of_getElem? (i := 43) rfl)) (hw _ (List.mem_of_getElem? (i := 15) rfl)) (fun s hZ => nf_sel rfl (hw _ (List.mem_of_getElem? (i := 42) rfl)) s hZ rfl) E_s (by decide) (lenOf pd___I rfl) d10_3 rfl rfl rfl (Nat.le_of_eq rfl) (pc' := 6) rfl nofun nofun (by decide) (by decide) (k' := 0) (n' := 0) rfl rfl (by decide) (by decide) (fun vh5 h5 zh5 Kh5 qh5 => ?_)
    obtain rfl := qh5
    replace S_s := S_s.keep0 Kh5
    replace E_s := E_s.keep Kh5
    replace C_s := C_s.keep Kh5 nin0
    replace D_s := D_s.keep Kh5 nin0
    replace V_b := V_b.keep Kh5 nin0
    refine Wp.eqS (S' := [(.int (Int32.ofNat cs.length)), (.int (Int32.ofNat cs.length)), (.int (0 : Int32))]) rfl ?_
    refine Wp.old fun hOc => ?_
    refine Wp.callS (W := 0) (argsL := [(.int (0 : Int32)), (.int (Int32.ofNat cs.length)), (.int (Int32.ofNat cs.length))]) (rest := []) rfl (ctOCF l Z a0 hw hE cs.length h5 hOc (by omega)) (hw _ (List.mem_of_getElem? (i := 56) rfl)) (hw _ (List.mem_of_getElem? (i := 57) rfl)) (hw _ (List.mem_of_getElem? (i := 59) rfl)) (hw _ (List.mem_of_getElem? (i := 58) rfl)) (by decide) (lenOf pd__III_I rfl) d10_6 rfl rfl rfl (Nat.le_of_eq rfl) (pc' := 9) rfl nofun nofun (by decide) (by decide) (k' := 0) (n' := 0) rfl rfl (by decide) (by decide) (fun vh6 h6 zh6 Kh6 qh6 => ?_)
    obtain ⟨z, rfl⟩ := qh6
    replace S_s := S_s.keep0 Kh6
    replace E_s := E_s.keep Kh6
    replace C_s := C_s.keep Kh6 nin0
    replace D_s := D_s.keep Kh6 nin0
    replace V_b := V_b.keep Kh6 nin0
    refine Wp.eqS (S' := [(.int z)]) rfl ?_
    refine Wp.pop d10_9 (pc' := 10) rfl rfl ?_
    refine Wp.aloadN d10_10 (pc' := 11) rfl rfl rfl ?_
    refine Wp.old fun hOc => ?_
    refine Wp.callV (a := s) (x' := (⟨"java/lang/String", "isLatin1", "()Z"⟩ : MethodName)) (W := 0) (argsL := []) (rest := []) rfl (ctISL l Z a0 hw hE s (1 : Int32) cz h6 hOc C_s hco hcz) (hw _ (List.mem_of_getElem? (i := 64) rfl)) (hw _ (List.mem_of_getElem? (i := 65) rfl)) (hw _ (List.mem_of_getElem? (i := 67) rfl)) (hw _ (List.mem_of_getElem? (i := 66) rfl)) (hw _ (List.mem_of_getElem? (i := 68) rfl)) (hw _ (List.mem_of_getElem? (i := 15) rfl)) (fun s hZ => nf_sel rfl (hw _ (List.mem_of_getElem? (i := 67) rfl)) s hZ rfl) E_s (by decide) (lenOf pd___Z rfl) d10_11 rfl rfl rfl (Nat.le_of_eq rfl) (pc' := 14) rfl nofun nofun (by decide) (by decide) (k' := 0) (n' := 0) rfl rfl (by decide) (by decide) (fun vh7 h7 zh7 Kh7 qh7 => ?_)
    obtain rfl : vh7 = some (.int 0) := qh7.trans rfl
    replace S_s := S_s.keep0 Kh7
    replace E_s := E_s.keep Kh7
    replace C_s := C_s.keep Kh7 nin0
    replace D_s := D_s.keep Kh7 nin0
    replace V_b := V_b.keep Kh7 nin0
    refine Wp.eqS (S' := [(.int (0 : Int32))]) rfl ?_
    refine Wp.if_eq (pc1 := 21) (pc' := 17) d10_14 (by decide) (by decide) rfl (fun hc8 => ?_) (fun hc8 => by exact absurd hc8 (by decide))
    refine Wp.aloadN d10_21 (pc' := 22) rfl rfl rfl ?_
    refine Wp.getF rfl (host := "") (Or.inl (hw _ (List.mem_of_getElem? (i := 32) rfl))) Via.refl D_s d10_22 (pc' := 25) rfl ?_
    refine Wp.iloadN d10_25 (pc' := 26) rfl rfl ?_
    refine Wp.iloadN d10_26 (pc' := 27) rfl rfl ?_
    refine Wp.old fun hOc => ?_
    refine Wp.callS (W := 0) (argsL := [(.ref b), (.int (0 : Int32)), (.int (Int32.ofNat cs.length))]) (rest := []) rfl (ctCP3 l Z a0 hw hE b kb cs h7 hOc hU h16 hn (by obtain ⟨c, hc, -⟩ := hu; exact List.length_pos_of_mem hc) V_b) (hw _ (List.mem_of_getElem? (i := 100) rfl)) (hw _ (List.mem_of_getElem? (i := 101) rfl)) (hw _ (List.mem_of_getElem? (i := 102) rfl)) (hw _ (List.mem_of_getElem? (i := 73) rfl)) (by decide) (lenOf pd___BII_I rfl) d10_27 rfl rfl rfl (Nat.le_of_eq rfl) (pc' := 30) rfl nofun nofun (by decide) (by decide) (k' := 0) (n' := 0) rfl rfl (by decide) (by decide) (fun vh9 h9 zh9 Kh9 qh9 => ?_)
    obtain rfl := qh9
    replace S_s := S_s.keep0 Kh9
    replace E_s := E_s.keep Kh9
    replace C_s := C_s.keep Kh9 nin0
    replace D_s := D_s.keep Kh9 nin0
    replace V_b := V_b.keep Kh9 nin0
    refine Wp.eqS (S' := [(.int ((Int32.ofNat cs.length) - Int32.ofNat (own_pairs cs)))]) rfl ?_
    refine Wp.retI rfl d10_30 (by decide) (by decide) ?_
    rfl
theorem d7_0 : decode prog_25_method_3_code 0 = .ok (.aload_n 1, 1) := by decide +kernel
theorem d7_1 : decode prog_25_method_3_code 1 = .ok (.iconst 0, 1) := by decide +kernel
theorem d7_2 : decode prog_25_method_3_code 2 = .ok (.aload_n 1, 1) := by decide +kernel
theorem d7_3 : decode prog_25_method_3_code 3 = .ok (.invokevirtual 9, 3) := by decide +kernel
theorem d7_6 : decode prog_25_method_3_code 6 = .ok (.invokevirtual 15, 3) := by decide +kernel
theorem d7_9 : decode prog_25_method_3_code 9 = .ok (.istore 4, 2) := by decide +kernel
theorem d7_11 : decode prog_25_method_3_code 11 = .ok (.iload 4, 2) := by decide +kernel
theorem d7_13 : decode prog_25_method_3_code 13 = .ok (.iload_n 2, 1) := by decide +kernel
theorem d7_14 : decode prog_25_method_3_code 14 = .ok (.if_icmp .lt 9, 3) := by decide +kernel
theorem d7_17 : decode prog_25_method_3_code 17 = .ok (.iload 4, 2) := by decide +kernel
theorem d7_19 : decode prog_25_method_3_code 19 = .ok (.iload_n 3, 1) := by decide +kernel
theorem d7_20 : decode prog_25_method_3_code 20 = .ok (.if_icmp .le 41, 3) := by decide +kernel
theorem d7_23 : decode prog_25_method_3_code 23 = .ok (.iload_n 2, 1) := by decide +kernel
theorem d7_24 : decode prog_25_method_3_code 24 = .ok (.ifCond .ne 12, 3) := by decide +kernel
theorem d7_27 : decode prog_25_method_3_code 27 = .ok (.iload_n 3, 1) := by decide +kernel
theorem d7_33 : decode prog_25_method_3_code 33 = .ok (.goto 10, 3) := by decide +kernel
theorem d7_36 : decode prog_25_method_3_code 36 = .ok (.iload_n 2, 1) := by decide +kernel
theorem d7_37 : decode prog_25_method_3_code 37 = .ok (.iload_n 3, 1) := by decide +kernel
theorem d7_43 : decode prog_25_method_3_code 43 = .ok (.astore 5, 2) := by decide +kernel
theorem d7_45 : decode prog_25_method_3_code 45 = .ok (.new 37, 3) := by decide +kernel
theorem d7_48 : decode prog_25_method_3_code 48 = .ok (.dup, 1) := by decide +kernel
theorem d7_49 : decode prog_25_method_3_code 49 = .ok (.aload_n 0, 1) := by decide +kernel
theorem d7_50 : decode prog_25_method_3_code 50 = .ok (.aload 5, 2) := by decide +kernel
theorem d7_57 : decode prog_25_method_3_code 57 = .ok (.invokespecial 42, 3) := by decide +kernel
theorem d7_60 : decode prog_25_method_3_code 60 = .ok (.athrow, 1) := by decide +kernel
theorem d7_61 : decode prog_25_method_3_code 61 = .ok (.aload_n 1, 1) := by decide +kernel
theorem d7_62 : decode prog_25_method_3_code 62 = .ok (.areturn, 1) := by decide +kernel
theorem pn_com_example_package_pricing_packagepricing_catalog_Text : plainName "com/example/package_pricing/packagepricing/catalog/Text" = true := by first | (simp [plainName, overriddenIn]; done) | decide +kernel
theorem ef_ctCHK (m : MethodId) (x0 : Addr) (x1 : Addr) (x2 : Int32) (x3 : Int32) : entryFrame m #[(.ref x0), (.ref x1), (.int x2), (.int x3)] 6 = mkF m 0 #[.val (.ref x0), .val (.ref x1), .val (.int x2), .val (.int x3), .unset, .unset] [] := by first | (simp [entryFrame, mkF, argsToLocals, Value.category]; done) | rfl
theorem pd__II_I : parseMethodDescriptor "(II)I" = some ⟨[.int, .int], some .int⟩ := by decide +kernel
set_option maxRecDepth 65536 in
set_option maxHeartbeats 40000000 in
theorem ctCHK (l : Launch) (Z : State) (a0 : Array Value) (hw : ∀ d ∈ tables_1, d.before a0 Z = true) (hE : EW Z a0 [("java/lang/String", 7)]) (f s : Addr) (a b : Int32) (cs : List Int32) (cz : Int32) (h0 : Heap) (hO : Ext Z.heap h0) (S_s : ST Z h0 s cs) (hU : own_U Z) (h16 : ∀ c ∈ cs, nar .char c = c) (hn : cs.length < 1073741823) (hco : Sta Z Z.heap "java/lang/String" "COMPACT_STRINGS" "Z" (.int cz)) (hcz : ¬ cz = 0) (ha : ¬ ((Int32.ofNat cs.length) - Int32.ofNat (own_pairs cs)) < a) (hb : ¬ b < ((Int32.ofNat cs.length) - Int32.ofNat (own_pairs cs))) :
    Ct true l Z [("java/lang/String", 7)] [] (⟨"com/example/package_pricing/packagepricing/catalog/Text", "checkLength", "(Ljava/lang/String;Ljava/lang/String;II)Ljava/lang/String;"⟩ : MethodName) prog_25_method_3_code 6 (some (.object "java/lang/String")) ({ frames := 4, cells := 0, slots := 0, locals := 58 } : Room) #[(.ref f), (.ref s), (.int a), (.int b)] h0 [] [] (fun v h => v = some (.ref s)) := by
  refine Ct.of_wp (a0 := a0) (Ls := #[.val (.ref f), .val (.ref s), .val (.int a), .val (.int b), .unset, .unset]) (plainFor_of_name pn_com_example_package_pricing_packagepricing_catalog_Text) hE hO nofun (fun m => ef_ctCHK m f s a b) ?_
  refine Wp.aloadN d7_0 (pc' := 1) rfl rfl rfl ?_
  refine Wp.iconst (x := (0 : Int32)) d7_1 (pc' := 2) rfl rfl ?_
  refine Wp.aloadN d7_2 (pc' := 3) rfl rfl rfl ?_
  refine Wp.old fun hOc => ?_
  have E_s := S_s.exa
  refine Wp.callV (a := s) (x' := (⟨"java/lang/String", "length", "()I"⟩ : MethodName)) (W := 2) (argsL := []) (rest := [(.int (0 : Int32)), (.ref s)]) rfl (ctLEN16 l Z a0 hw hE s cs cz h0 hOc S_s hn hco hcz) (hw _ (List.mem_of_getElem? (i := 39) rfl)) (hw _ (List.mem_of_getElem? (i := 40) rfl)) (hw _ (List.mem_of_getElem? (i := 42) rfl)) (hw _ (List.mem_of_getElem? (i := 41) rfl)) (hw _ (List.mem_of_getElem? (i := 43) rfl)) (hw _ (List.mem_of_getElem? (i := 15) rfl)) (fun s hZ => nf_sel rfl (hw _ (List.mem_of_getElem? (i := 42) rfl)) s hZ rfl) E_s (by decide) (lenOf pd___I rfl) d7_3 rfl rfl rfl (Nat.le_of_eq rfl) (pc' := 6) rfl nofun nofun (by decide) (by decide) (k' := 0) (n' := 0) rfl rfl (by decide) (by decide) (fun vh1 h1 zh1 Kh1 qh1 => ?_)
  obtain rfl := qh1
  replace S_s := S_s.keep0 Kh1
  refine Wp.eqS (S' := [(.int (Int32.ofNat cs.length)), (.int (0 : Int32)), (.ref s)]) rfl ?_
  refine Wp.old fun hOc => ?_
  have E_s := S_s.exa
  refine Wp.callV (a := s) (x' := (⟨"java/lang/String", "codePointCount", "(II)I"⟩ : MethodName)) (W := 0) (argsL := [(.int (0 : Int32)), (.int (Int32.ofNat cs.length))]) (rest := []) rfl (ctCPC l Z a0 hw hE s cs cz h1 hOc S_s hU h16 hn hco hcz) (hw _ (List.mem_of_getElem? (i := 50) rfl)) (hw _ (List.mem_of_getElem? (i := 51) rfl)) (hw _ (List.mem_of_getElem? (i := 53) rfl)) (hw _ (List.mem_of_getElem? (i := 52) rfl)) (hw _ (List.mem_of_getElem? (i := 54) rfl)) (hw _ (List.mem_of_getElem? (i := 15) rfl)) (fun s hZ => nf_sel rfl (hw _ (List.mem_of_getElem? (i := 53) rfl)) s hZ rfl) E_s (by decide) (lenOf pd__II_I rfl) d7_6 rfl rfl rfl (Nat.le_of_eq rfl) (pc' := 9) rfl nofun nofun (by decide) (by decide) (k' := 0) (n' := 0) rfl rfl (by decide) (by decide) (fun vh2 h2 zh2 Kh2 qh2 => ?_)
  obtain rfl := qh2
  replace S_s := S_s.keep0 Kh2
  refine Wp.eqS (S' := [(.int ((Int32.ofNat cs.length) - Int32.ofNat (own_pairs cs)))]) rfl ?_
  refine Wp.istore (l' := #[.val (.ref f), .val (.ref s), .val (.int a), .val (.int b), .val (.int ((Int32.ofNat cs.length) - Int32.ofNat (own_pairs cs))), .unset]) d7_9 (pc' := 11) rfl rfl ?_
  refine Wp.iload d7_11 (pc' := 13) rfl rfl ?_
  refine Wp.iloadN d7_13 (pc' := 14) rfl rfl ?_
  refine Wp.icmp_lt (pc1 := 23) (pc' := 17) d7_14 (by decide) (by decide) rfl (fun hc3 => by exact absurd hc3 ha) (fun hc3 => ?_)
  refine Wp.iload d7_17 (pc' := 19) rfl rfl ?_
  refine Wp.iloadN d7_19 (pc' := 20) rfl rfl ?_
  refine Wp.icmp_le (pc1 := 61) (pc' := 23) d7_20 (by decide) (by decide) rfl (fun hc4 => ?_) (fun hc4 => by exact absurd hc4 hb)
  refine Wp.aloadN d7_61 (pc' := 62) rfl rfl rfl ?_
  refine Wp.retA rfl rfl rfl d7_62 (by decide) (by decide) ?_
  rfl
theorem ef_ct0 (m : MethodId) (x0 : Int32) (x1 : Int32) (x2 : Int32) (x3 : Int32) (x4 : Int32) : entryFrame m #[(.int x0), (.int x1), (.int x2), (.int x3), (.int x4)] maxLocals = mkF m 0 #[.val (.int x0), .val (.int x1), .val (.int x2), .val (.int x3), .val (.int x4), .unset, .unset, .unset, .unset, .unset, .unset, .unset, .unset, .unset, .unset, .unset, .unset] [] := by first | (simp [entryFrame, mkF, argsToLocals, Value.category, maxLocals]; done) | rfl
theorem pd__II_C : parseMethodDescriptor "(II)C" = some ⟨[.int, .int], some .char⟩ := by decide +kernel
theorem pd___C_V : parseMethodDescriptor "([C)V" = some ⟨[(.array .char)], none⟩ := by decide +kernel
theorem pd__Ljava_lang_String_Ljava_lang_String_II_Ljava_lang_String_ : parseMethodDescriptor "(Ljava/lang/String;Ljava/lang/String;II)Ljava/lang/String;" = some ⟨[(.object "java/lang/String"), (.object "java/lang/String"), .int, .int], some (.object "java/lang/String")⟩ := by decide +kernel
set_option maxRecDepth 65536 in
set_option maxHeartbeats 40000000 in
theorem ct0 (l : Launch) (Z : State) (a0 : Array Value) (hw : ∀ d ∈ tables_1, d.before a0 Z = true) (hE : EW Z a0 [("java/lang/String", 7)]) (p0 p1 p2 p3 p4 cz : Int32) (h0 : Heap) (hO : Ext Z.heap h0) (hco : Sta Z Z.heap "java/lang/String" "COMPACT_STRINGS" "Z" (.int cz)) (hcz : ¬ cz = 0) (hU : own_U Z) :
    Ct true l Z [("java/lang/String", 7)] tables_1 x code maxLocals ret room_1 #[(.int p0), (.int p1), (.int p2), (.int p3), (.int p4)] h0 [] [] (fun v h => v = some (.int 1)) := by
  refine Ct.of_wp (a0 := a0) (Ls := #[.val (.int p0), .val (.int p1), .val (.int p2), .val (.int p3), .val (.int p4), .unset, .unset, .unset, .unset, .unset, .unset, .unset, .unset, .unset, .unset, .unset, .unset]) (plainFor_of_name pn_com_example_package_pricing_packagepricing_catalog_TextCheckLengthPinLaw) hE hO nofun (fun m => ef_ct0 m p0 p1 p2 p3 p4) ?_
  refine Wp.iloadN at_0 (pc' := 1) rfl rfl ?_
  refine Wp.bipush (x := (8 : Int32)) at_1 (pc' := 3) rfl rfl ?_
  refine Wp.iushr at_3 (pc' := 4) rfl ?_
  refine Wp.iconst (x := (5 : Int32)) at_4 (pc' := 5) rfl rfl ?_
  refine Wp.irem at_5 (pc' := 6) rfl (by decide) ?_
  rcases own_n5 p2 with hl | hl | hl | hl | hl
  · rw [hl]
    refine Wp.istore (l' := #[.val (.int p0), .val (.int p1), .val (.int p2), .val (.int p3), .val (.int p4), .val (.int (0 : Int32)), .unset, .unset, .unset, .unset, .unset, .unset, .unset, .unset, .unset, .unset, .unset]) at_6 (pc' := 8) rfl rfl ?_
    refine Wp.iloadN at_8 (pc' := 9) rfl rfl ?_
    refine Wp.iloadN at_9 (pc' := 10) rfl rfl ?_
    refine Wp.old fun hOc => ?_
    refine Wp.callS (W := 0) (argsL := [(.int p2), (.int p0)]) (rest := []) rfl (ctDR l Z a0 hw hE p2 p0 h0 hOc) (hw _ (List.mem_of_getElem? (i := 0) rfl)) (hw _ (List.mem_of_getElem? (i := 1) rfl)) (hw _ (List.mem_of_getElem? (i := 3) rfl)) (hw _ (List.mem_of_getElem? (i := 2) rfl)) (by decide) (lenOf pd__II_C rfl) at_10 rfl rfl rfl (Nat.le_of_eq rfl) (pc' := 13) rfl nofun nofun (by decide) (by decide) (k' := 0) (n' := 0) rfl rfl (by decide) (by decide) (fun vh1 h1 zh1 Kh1 qh1 => ?_)
    obtain ⟨c10, rfl, n_c10⟩ := qh1
    refine Wp.eqS (S' := [(.int c10)]) rfl ?_
    refine Wp.istore (l' := #[.val (.int p0), .val (.int p1), .val (.int p2), .val (.int p3), .val (.int p4), .val (.int (0 : Int32)), .val (.int c10), .unset, .unset, .unset, .unset, .unset, .unset, .unset, .unset, .unset, .unset]) at_13 (pc' := 15) rfl rfl ?_
    refine Wp.iloadN at_15 (pc' := 16) rfl rfl ?_
    refine Wp.iconst (x := (2 : Int32)) at_16 (pc' := 17) rfl rfl ?_
    refine Wp.iushr at_17 (pc' := 18) rfl ?_
    refine Wp.iloadN at_18 (pc' := 19) rfl rfl ?_
    refine Wp.bipush (x := (16 : Int32)) at_19 (pc' := 21) rfl rfl ?_
    refine Wp.iushr at_21 (pc' := 22) rfl ?_
    refine Wp.old fun hOc => ?_
    refine Wp.callS (W := 0) (argsL := [(.int ((p2.toUInt32 >>> ((2 : Int32) &&& 31).toUInt32).toInt32)), (.int ((p0.toUInt32 >>> ((16 : Int32) &&& 31).toUInt32).toInt32))]) (rest := []) rfl (ctDR l Z a0 hw hE ((p2.toUInt32 >>> ((2 : Int32) &&& 31).toUInt32).toInt32) ((p0.toUInt32 >>> ((16 : Int32) &&& 31).toUInt32).toInt32) h1 hOc) (hw _ (List.mem_of_getElem? (i := 0) rfl)) (hw _ (List.mem_of_getElem? (i := 1) rfl)) (hw _ (List.mem_of_getElem? (i := 3) rfl)) (hw _ (List.mem_of_getElem? (i := 2) rfl)) (by decide) (lenOf pd__II_C rfl) at_22 rfl rfl rfl (Nat.le_of_eq rfl) (pc' := 25) rfl nofun nofun (by decide) (by decide) (k' := 0) (n' := 0) rfl rfl (by decide) (by decide) (fun vh2 h2 zh2 Kh2 qh2 => ?_)
    obtain ⟨c22, rfl, n_c22⟩ := qh2
    refine Wp.eqS (S' := [(.int c22)]) rfl ?_
    refine Wp.istore (l' := #[.val (.int p0), .val (.int p1), .val (.int p2), .val (.int p3), .val (.int p4), .val (.int (0 : Int32)), .val (.int c10), .val (.int c22), .unset, .unset, .unset, .unset, .unset, .unset, .unset, .unset, .unset]) at_25 (pc' := 27) rfl rfl ?_
    refine Wp.iloadN at_27 (pc' := 28) rfl rfl ?_
    refine Wp.iconst (x := (4 : Int32)) at_28 (pc' := 29) rfl rfl ?_
    refine Wp.iushr at_29 (pc' := 30) rfl ?_
    refine Wp.iloadN at_30 (pc' := 31) rfl rfl ?_
    refine Wp.old fun hOc => ?_
    refine Wp.callS (W := 0) (argsL := [(.int ((p2.toUInt32 >>> ((4 : Int32) &&& 31).toUInt32).toInt32)), (.int p1)]) (rest := []) rfl (ctDR l Z a0 hw hE ((p2.toUInt32 >>> ((4 : Int32) &&& 31).toUInt32).toInt32) p1 h2 hOc) (hw _ (List.mem_of_getElem? (i := 0) rfl)) (hw _ (List.mem_of_getElem? (i := 1) rfl)) (hw _ (List.mem_of_getElem? (i := 3) rfl)) (hw _ (List.mem_of_getElem? (i := 2) rfl)) (by decide) (lenOf pd__II_C rfl) at_31 rfl rfl rfl (Nat.le_of_eq rfl) (pc' := 34) rfl nofun nofun (by decide) (by decide) (k' := 0) (n' := 0) rfl rfl (by decide) (by decide) (fun vh3 h3 zh3 Kh3 qh3 => ?_)
    obtain ⟨c31, rfl, n_c31⟩ := qh3
    refine Wp.eqS (S' := [(.int c31)]) rfl ?_
    refine Wp.istore (l' := #[.val (.int p0), .val (.int p1), .val (.int p2), .val (.int p3), .val (.int p4), .val (.int (0 : Int32)), .val (.int c10), .val (.int c22), .val (.int c31), .unset, .unset, .unset, .unset, .unset, .unset, .unset, .unset]) at_34 (pc' := 36) rfl rfl ?_
    refine Wp.iloadN at_36 (pc' := 37) rfl rfl ?_
    refine Wp.bipush (x := (6 : Int32)) at_37 (pc' := 39) rfl rfl ?_
    refine Wp.iushr at_39 (pc' := 40) rfl ?_
    refine Wp.iloadN at_40 (pc' := 41) rfl rfl ?_
    refine Wp.bipush (x := (16 : Int32)) at_41 (pc' := 43) rfl rfl ?_
    refine Wp.iushr at_43 (pc' := 44) rfl ?_
    refine Wp.old fun hOc => ?_
    refine Wp.callS (W := 0) (argsL := [(.int ((p2.toUInt32 >>> ((6 : Int32) &&& 31).toUInt32).toInt32)), (.int ((p1.toUInt32 >>> ((16 : Int32) &&& 31).toUInt32).toInt32))]) (rest := []) rfl (ctDR l Z a0 hw hE ((p2.toUInt32 >>> ((6 : Int32) &&& 31).toUInt32).toInt32) ((p1.toUInt32 >>> ((16 : Int32) &&& 31).toUInt32).toInt32) h3 hOc) (hw _ (List.mem_of_getElem? (i := 0) rfl)) (hw _ (List.mem_of_getElem? (i := 1) rfl)) (hw _ (List.mem_of_getElem? (i := 3) rfl)) (hw _ (List.mem_of_getElem? (i := 2) rfl)) (by decide) (lenOf pd__II_C rfl) at_44 rfl rfl rfl (Nat.le_of_eq rfl) (pc' := 47) rfl nofun nofun (by decide) (by decide) (k' := 0) (n' := 0) rfl rfl (by decide) (by decide) (fun vh4 h4 zh4 Kh4 qh4 => ?_)
    obtain ⟨c44, rfl, n_c44⟩ := qh4
    refine Wp.eqS (S' := [(.int c44)]) rfl ?_
    refine Wp.istore (l' := #[.val (.int p0), .val (.int p1), .val (.int p2), .val (.int p3), .val (.int p4), .val (.int (0 : Int32)), .val (.int c10), .val (.int c22), .val (.int c31), .val (.int c44), .unset, .unset, .unset, .unset, .unset, .unset, .unset]) at_47 (pc' := 49) rfl rfl ?_
    refine Wp.iload at_49 (pc' := 51) rfl rfl ?_
    refine Wp.if_ne (pc1 := 62) (pc' := 54) at_51 (by decide) (by decide) rfl (fun hc5 => by exact absurd hc5 (by decide)) (fun hc5 => ?_)
    refine Wp.iconst (x := (0 : Int32)) at_54 (pc' := 55) rfl rfl ?_
    refine Wp.newP (cap := 0) (hw _ (List.mem_of_getElem? (i := 5) rfl)) (by decide) (by decide) (by decide) at_55 (pc' := 57) rfl (k' := 1) (n' := 0) rfl rfl (by decide) (by decide) (fun h6 b6 k_b6 g_b6 sz_b6 Xh6 V_b6 => ?_)
    replace V_b6 : Arv Z h6 b6 k_b6 .char (0 : Int32) [] (.int (0 : Int32)) := V_b6.pad (pad_rep [] (.int (0 : Int32)) 0)
    refine Wp.astore (l' := #[.val (.int p0), .val (.int p1), .val (.int p2), .val (.int p3), .val (.int p4), .val (.int (0 : Int32)), .val (.int c10), .val (.int c22), .val (.int c31), .val (.int c44), .val (.ref b6), .unset, .unset, .unset, .unset, .unset, .unset]) at_57 (pc' := 59) rfl rfl rfl ?_
    refine Wp.goto (pc' := 159) at_59 (by decide) (by decide) ?_
    refine Wp.iconst (x := (0 : Int32)) at_159 (pc' := 160) rfl rfl ?_
    refine Wp.istore (l' := #[.val (.int p0), .val (.int p1), .val (.int p2), .val (.int p3), .val (.int p4), .val (.int (0 : Int32)), .val (.int c10), .val (.int c22), .val (.int c31), .val (.int c44), .val (.ref b6), .val (.int (0 : Int32)), .unset, .unset, .unset, .unset, .unset]) at_160 (pc' := 162) rfl rfl ?_
    refine Wp.iload at_162 (pc' := 164) rfl rfl ?_
    refine Wp.iconst (x := (2 : Int32)) at_164 (pc' := 165) rfl rfl ?_
    refine Wp.icmp_lt (pc1 := 187) (pc' := 168) at_165 (by decide) (by decide) rfl (fun hc7 => ?_) (fun hc7 => by exact absurd hc7 (by decide))
    refine Wp.iload at_187 (pc' := 189) rfl rfl ?_
    refine Wp.iconst (x := (3 : Int32)) at_189 (pc' := 190) rfl rfl ?_
    refine Wp.icmp_lt (pc1 := 212) (pc' := 193) at_190 (by decide) (by decide) rfl (fun hc8 => ?_) (fun hc8 => by exact absurd hc8 (by decide))
    refine Wp.iload at_212 (pc' := 214) rfl rfl ?_
    refine Wp.iconst (x := (4 : Int32)) at_214 (pc' := 215) rfl rfl ?_
    refine Wp.icmp_lt (pc1 := 237) (pc' := 218) at_215 (by decide) (by decide) rfl (fun hc9 => ?_) (fun hc9 => by exact absurd hc9 (by decide))
    refine Wp.iload at_237 (pc' := 239) rfl rfl ?_
    refine Wp.iload at_239 (pc' := 241) rfl rfl ?_
    refine Wp.isub at_241 (pc' := 242) rfl ?_
    refine Wp.istore (l' := #[.val (.int p0), .val (.int p1), .val (.int p2), .val (.int p3), .val (.int p4), .val (.int (0 : Int32)), .val (.int c10), .val (.int c22), .val (.int c31), .val (.int c44), .val (.ref b6), .val (.int (0 : Int32)), .val (.int ((0 : Int32) - (0 : Int32))), .unset, .unset, .unset, .unset]) at_242 (pc' := 244) rfl rfl ?_
    refine Wp.iload at_244 (pc' := 246) rfl rfl ?_
    refine Wp.iloadN at_246 (pc' := 247) rfl rfl ?_
    refine Wp.old fun hOc => ?_
    refine Wp.callS (W := 0) (argsL := [(.int ((0 : Int32) - (0 : Int32))), (.int p3)]) (rest := []) rfl (ctMIN l Z a0 hw hE ((0 : Int32) - (0 : Int32)) p3 h6 hOc) (hw _ (List.mem_of_getElem? (i := 6) rfl)) (hw _ (List.mem_of_getElem? (i := 7) rfl)) (hw _ (List.mem_of_getElem? (i := 9) rfl)) (hw _ (List.mem_of_getElem? (i := 8) rfl)) (by decide) (lenOf pd__II_I rfl) at_247 rfl rfl rfl (Nat.le_of_eq rfl) (pc' := 250) rfl nofun nofun (by decide) (by decide) (k' := 1) (n' := 0) rfl rfl (by decide) (by decide) (fun vh10 h10 zh10 Kh10 qh10 => ?_)
    obtain rfl := qh10
    replace V_b6 := V_b6.keep Kh10 nin0
    refine Wp.eqS (S' := [(.int (if p3 < ((0 : Int32) - (0 : Int32)) then p3 else ((0 : Int32) - (0 : Int32))))]) rfl ?_
    refine Wp.istore (l' := #[.val (.int p0), .val (.int p1), .val (.int p2), .val (.int p3), .val (.int p4), .val (.int (0 : Int32)), .val (.int c10), .val (.int c22), .val (.int c31), .val (.int c44), .val (.ref b6), .val (.int (0 : Int32)), .val (.int ((0 : Int32) - (0 : Int32))), .val (.int (if p3 < ((0 : Int32) - (0 : Int32)) then p3 else ((0 : Int32) - (0 : Int32)))), .unset, .unset, .unset]) at_250 (pc' := 252) rfl rfl ?_
    refine Wp.iload at_252 (pc' := 254) rfl rfl ?_
    refine Wp.iload at_254 (pc' := 256) rfl rfl ?_
    refine Wp.old fun hOc => ?_
    refine Wp.callS (W := 0) (argsL := [(.int ((0 : Int32) - (0 : Int32))), (.int p4)]) (rest := []) rfl (ctMAX l Z a0 hw hE ((0 : Int32) - (0 : Int32)) p4 h10 hOc) (hw _ (List.mem_of_getElem? (i := 10) rfl)) (hw _ (List.mem_of_getElem? (i := 11) rfl)) (hw _ (List.mem_of_getElem? (i := 12) rfl)) (hw _ (List.mem_of_getElem? (i := 8) rfl)) (by decide) (lenOf pd__II_I rfl) at_256 rfl rfl rfl (Nat.le_of_eq rfl) (pc' := 259) rfl nofun nofun (by decide) (by decide) (k' := 1) (n' := 0) rfl rfl (by decide) (by decide) (fun vh11 h11 zh11 Kh11 qh11 => ?_)
    obtain rfl := qh11
    replace V_b6 := V_b6.keep Kh11 nin0
    refine Wp.eqS (S' := [(.int (if ((0 : Int32) - (0 : Int32)) < p4 then p4 else ((0 : Int32) - (0 : Int32))))]) rfl ?_
    refine Wp.istore (l' := #[.val (.int p0), .val (.int p1), .val (.int p2), .val (.int p3), .val (.int p4), .val (.int (0 : Int32)), .val (.int c10), .val (.int c22), .val (.int c31), .val (.int c44), .val (.ref b6), .val (.int (0 : Int32)), .val (.int ((0 : Int32) - (0 : Int32))), .val (.int (if p3 < ((0 : Int32) - (0 : Int32)) then p3 else ((0 : Int32) - (0 : Int32)))), .val (.int (if ((0 : Int32) - (0 : Int32)) < p4 then p4 else ((0 : Int32) - (0 : Int32)))), .unset, .unset]) at_259 (pc' := 261) rfl rfl ?_
    refine Wp.new rfl (hw _ (List.mem_of_getElem? (i := 13) rfl)) (hw _ (List.mem_of_getElem? (i := 14) rfl)) (hw _ (List.mem_of_getElem? (i := 15) rfl)) at_261 (pc' := 264) rfl (k' := 2) (n' := 4) rfl rfl (by decide) (by decide) (fun h12 b12 g_b12 sz_b12 Xh12 E_b12 D_b12 => ?_)
    have ne_b6_b12 : b6 ≠ b12 := Nat.ne_of_lt (Nat.lt_of_lt_of_eq V_b6.lt g_b12.symm)
    replace V_b6 := V_b6.ext Xh12
    have F_value_b12 : Fld Z h12 b12 "java/lang/String" "value" "[B" .null := D_b12 (Or.inr (hw _ (List.mem_of_getElem? (i := 28) rfl))) (ty := (.array .byte)) (by decide)
    have F_coder_b12 : Fld Z h12 b12 "java/lang/String" "coder" "B" (.int (0 : Int32)) := D_b12 (Or.inr (hw _ (List.mem_of_getElem? (i := 29) rfl))) (ty := .byte) (by decide)
    clear D_b12
    refine Wp.dup at_264 (pc' := 265) rfl rfl ?_
    refine Wp.aload at_265 (pc' := 267) rfl rfl rfl ?_
    refine Wp.old fun hOc => ?_
    have V_cs : Arv Z h12 b6 k_b6 .char (Int32.ofNat ([] : List Int32).length) (([] : List Int32).map Value.int) (.int 0) := by simpa [] using V_b6
    have h16_ : ∀ c ∈ ([] : List Int32), nar .char c = c := fun c hc => nomatch hc
    refine Wp.callI (a := b12) (W := 1) (argsL := [(.ref b6)]) (rest := [(.ref b12)]) rfl (ctSI l Z a0 hw hE b12 b6 k_b6 [] cz h12 hOc hU (Nat.le_of_ble_eq_true rfl) (Nat.le_of_ble_eq_true rfl) h16_ V_cs E_b12 F_value_b12 F_coder_b12 (Nat.le_trans hO.1 sz_b12) ne_b6_b12 hco hcz) rfl rfl (hw _ (List.mem_of_getElem? (i := 16) rfl)) (hw _ (List.mem_of_getElem? (i := 17) rfl)) (hw _ (List.mem_of_getElem? (i := 18) rfl)) (hw _ (List.mem_of_getElem? (i := 15) rfl)) (by decide) (lenOf pd___C_V rfl) at_267 rfl rfl rfl (Nat.le_of_eq rfl) (pc' := 270) rfl (by simp) (by intro x hx; simp only [List.mem_cons, List.not_mem_nil, or_false] at hx; rcases hx with rfl; exact (Or.inr sz_b12)) (by decide) (by decide) (k' := 6) (n' := 16) rfl rfl (by decide) (by decide) (fun vh13 h13 zh13 Kh13 qh13 => ?_)
    obtain ⟨rfl, S_s⟩ := qh13
    replace V_b6 := V_b6.keep Kh13 (ninS ne_b6_b12 nin0)
    replace E_b12 := E_b12.keep Kh13
    refine Wp.eqS (S' := [(.ref b12)]) rfl ?_
    refine Wp.astore (l' := #[.val (.int p0), .val (.int p1), .val (.int p2), .val (.int p3), .val (.int p4), .val (.int (0 : Int32)), .val (.int c10), .val (.int c22), .val (.int c31), .val (.int c44), .val (.ref b6), .val (.int (0 : Int32)), .val (.int ((0 : Int32) - (0 : Int32))), .val (.int (if p3 < ((0 : Int32) - (0 : Int32)) then p3 else ((0 : Int32) - (0 : Int32)))), .val (.int (if ((0 : Int32) - (0 : Int32)) < p4 then p4 else ((0 : Int32) - (0 : Int32)))), .val (.ref b12), .unset]) at_270 (pc' := 272) rfl rfl rfl ?_
    refine Wp.ldcO (nn := 16) rfl rfl (hw _ (List.mem_of_getElem? (i := 34) rfl)) (own_wS hw) at_272 (pc' := 274) rfl (by decide) (by decide) (k' := 8) (n' := 36) rfl rfl (by decide) (by decide) (fun h14 c14 Xh14 => ?_)
    replace V_b6 := V_b6.ext Xh14
    replace E_b12 := E_b12.ext Xh14
    replace S_s := S_s.ext Xh14
    refine Wp.aload at_274 (pc' := 276) rfl rfl rfl ?_
    refine Wp.iload at_276 (pc' := 278) rfl rfl ?_
    refine Wp.iload at_278 (pc' := 280) rfl rfl ?_
    refine Wp.old fun hOc => ?_
    have hk : ((0 : Int32) - (0 : Int32)) = Int32.ofNat ([] : List Int32).length - Int32.ofNat (own_pairs []) := rfl
    refine Wp.callS (W := 0) (argsL := [(.ref c14), (.ref b12), (.int (if p3 < ((0 : Int32) - (0 : Int32)) then p3 else ((0 : Int32) - (0 : Int32)))), (.int (if ((0 : Int32) - (0 : Int32)) < p4 then p4 else ((0 : Int32) - (0 : Int32))))]) (rest := []) rfl (ctCHK l Z a0 hw hE c14 b12 (if p3 < ((0 : Int32) - (0 : Int32)) then p3 else ((0 : Int32) - (0 : Int32))) (if ((0 : Int32) - (0 : Int32)) < p4 then p4 else ((0 : Int32) - (0 : Int32))) [] cz h14 hOc S_s hU h16_ (Nat.le_of_ble_eq_true rfl) hco hcz (hk ▸ own_mn _ _) (hk ▸ own_mx _ _)) (hw _ (List.mem_of_getElem? (i := 35) rfl)) (hw _ (List.mem_of_getElem? (i := 36) rfl)) (hw _ (List.mem_of_getElem? (i := 38) rfl)) (hw _ (List.mem_of_getElem? (i := 37) rfl)) (by decide) (lenOf pd__Ljava_lang_String_Ljava_lang_String_II_Ljava_lang_String_ rfl) at_280 rfl rfl rfl (Nat.le_of_eq rfl) (pc' := 283) rfl nofun nofun (by decide) (by decide) (k' := 8) (n' := 36) rfl rfl (by decide) (by decide) (fun vh15 h15 zh15 Kh15 qh15 => ?_)
    obtain rfl := qh15
    replace S_s := S_s.keep0 Kh15
    replace V_b6 := V_b6.keep Kh15 nin0
    replace E_b12 := E_b12.keep Kh15
    refine Wp.eqS (S' := [(.ref b12)]) rfl ?_
    refine Wp.astore (l' := #[.val (.int p0), .val (.int p1), .val (.int p2), .val (.int p3), .val (.int p4), .val (.int (0 : Int32)), .val (.int c10), .val (.int c22), .val (.int c31), .val (.int c44), .val (.ref b6), .val (.int (0 : Int32)), .val (.int ((0 : Int32) - (0 : Int32))), .val (.int (if p3 < ((0 : Int32) - (0 : Int32)) then p3 else ((0 : Int32) - (0 : Int32)))), .val (.int (if ((0 : Int32) - (0 : Int32)) < p4 then p4 else ((0 : Int32) - (0 : Int32)))), .val (.ref b12), .val (.ref b12)]) at_283 (pc' := 285) rfl rfl rfl ?_
    refine Wp.aload at_285 (pc' := 287) rfl rfl rfl ?_
    refine Wp.aload at_287 (pc' := 289) rfl rfl rfl ?_
    refine Wp.acmp_ne (pc1 := 296) (pc' := 292) rfl rfl at_289 (by decide) (by decide) rfl (fun hc16 => by exact absurd rfl hc16) (fun hc16 => ?_)
    refine Wp.iconst (x := (1 : Int32)) at_292 (pc' := 293) rfl rfl ?_
    refine Wp.goto (pc' := 297) at_293 (by decide) (by decide) ?_
    refine Wp.retN (x' := (1 : Int32)) (t := .boolean) rfl (by simp) rfl at_297 (by decide) (by decide) ?_
    rfl
  · rw [hl]
    refine Wp.istore (l' := #[.val (.int p0), .val (.int p1), .val (.int p2), .val (.int p3), .val (.int p4), .val (.int (1 : Int32)), .unset, .unset, .unset, .unset, .unset, .unset, .unset, .unset, .unset, .unset, .unset]) at_6 (pc' := 8) rfl rfl ?_
    refine Wp.iloadN at_8 (pc' := 9) rfl rfl ?_
    refine Wp.iloadN at_9 (pc' := 10) rfl rfl ?_
    refine Wp.old fun hOc => ?_
    refine Wp.callS (W := 0) (argsL := [(.int p2), (.int p0)]) (rest := []) rfl (ctDR l Z a0 hw hE p2 p0 h0 hOc) (hw _ (List.mem_of_getElem? (i := 0) rfl)) (hw _ (List.mem_of_getElem? (i := 1) rfl)) (hw _ (List.mem_of_getElem? (i := 3) rfl)) (hw _ (List.mem_of_getElem? (i := 2) rfl)) (by decide) (lenOf pd__II_C rfl) at_10 rfl rfl rfl (Nat.le_of_eq rfl) (pc' := 13) rfl nofun nofun (by decide) (by decide) (k' := 0) (n' := 0) rfl rfl (by decide) (by decide) (fun vh17 h17 zh17 Kh17 qh17 => ?_)
    obtain ⟨c10, rfl, n_c10⟩ := qh17
    refine Wp.eqS (S' := [(.int c10)]) rfl ?_
    refine Wp.istore (l' := #[.val (.int p0), .val (.int p1), .val (.int p2), .val (.int p3), .val (.int p4), .val (.int (1 : Int32)), .val (.int c10), .unset, .unset, .unset, .unset, .unset, .unset, .unset, .unset, .unset, .unset]) at_13 (pc' := 15) rfl rfl ?_
    refine Wp.iloadN at_15 (pc' := 16) rfl rfl ?_
    refine Wp.iconst (x := (2 : Int32)) at_16 (pc' := 17) rfl rfl ?_
    refine Wp.iushr at_17 (pc' := 18) rfl ?_
    refine Wp.iloadN at_18 (pc' := 19) rfl rfl ?_
    refine Wp.bipush (x := (16 : Int32)) at_19 (pc' := 21) rfl rfl ?_
    refine Wp.iushr at_21 (pc' := 22) rfl ?_
    refine Wp.old fun hOc => ?_
    refine Wp.callS (W := 0) (argsL := [(.int ((p2.toUInt32 >>> ((2 : Int32) &&& 31).toUInt32).toInt32)), (.int ((p0.toUInt32 >>> ((16 : Int32) &&& 31).toUInt32).toInt32))]) (rest := []) rfl (ctDR l Z a0 hw hE ((p2.toUInt32 >>> ((2 : Int32) &&& 31).toUInt32).toInt32) ((p0.toUInt32 >>> ((16 : Int32) &&& 31).toUInt32).toInt32) h17 hOc) (hw _ (List.mem_of_getElem? (i := 0) rfl)) (hw _ (List.mem_of_getElem? (i := 1) rfl)) (hw _ (List.mem_of_getElem? (i := 3) rfl)) (hw _ (List.mem_of_getElem? (i := 2) rfl)) (by decide) (lenOf pd__II_C rfl) at_22 rfl rfl rfl (Nat.le_of_eq rfl) (pc' := 25) rfl nofun nofun (by decide) (by decide) (k' := 0) (n' := 0) rfl rfl (by decide) (by decide) (fun vh18 h18 zh18 Kh18 qh18 => ?_)
    obtain ⟨c22, rfl, n_c22⟩ := qh18
    refine Wp.eqS (S' := [(.int c22)]) rfl ?_
    refine Wp.istore (l' := #[.val (.int p0), .val (.int p1), .val (.int p2), .val (.int p3), .val (.int p4), .val (.int (1 : Int32)), .val (.int c10), .val (.int c22), .unset, .unset, .unset, .unset, .unset, .unset, .unset, .unset, .unset]) at_25 (pc' := 27) rfl rfl ?_
    refine Wp.iloadN at_27 (pc' := 28) rfl rfl ?_
    refine Wp.iconst (x := (4 : Int32)) at_28 (pc' := 29) rfl rfl ?_
    refine Wp.iushr at_29 (pc' := 30) rfl ?_
    refine Wp.iloadN at_30 (pc' := 31) rfl rfl ?_
    refine Wp.old fun hOc => ?_
    refine Wp.callS (W := 0) (argsL := [(.int ((p2.toUInt32 >>> ((4 : Int32) &&& 31).toUInt32).toInt32)), (.int p1)]) (rest := []) rfl (ctDR l Z a0 hw hE ((p2.toUInt32 >>> ((4 : Int32) &&& 31).toUInt32).toInt32) p1 h18 hOc) (hw _ (List.mem_of_getElem? (i := 0) rfl)) (hw _ (List.mem_of_getElem? (i := 1) rfl)) (hw _ (List.mem_of_getElem? (i := 3) rfl)) (hw _ (List.mem_of_getElem? (i := 2) rfl)) (by decide) (lenOf pd__II_C rfl) at_31 rfl rfl rfl (Nat.le_of_eq rfl) (pc' := 34) rfl nofun nofun (by decide) (by decide) (k' := 0) (n' := 0) rfl rfl (by decide) (by decide) (fun vh19 h19 zh19 Kh19 qh19 => ?_)
    obtain ⟨c31, rfl, n_c31⟩ := qh19
    refine Wp.eqS (S' := [(.int c31)]) rfl ?_
    refine Wp.istore (l' := #[.val (.int p0), .val (.int p1), .val (.int p2), .val (.int p3), .val (.int p4), .val (.int (1 : Int32)), .val (.int c10), .val (.int c22), .val (.int c31), .unset, .unset, .unset, .unset, .unset, .unset, .unset, .unset]) at_34 (pc' := 36) rfl rfl ?_
    refine Wp.iloadN at_36 (pc' := 37) rfl rfl ?_
    refine Wp.bipush (x := (6 : Int32)) at_37 (pc' := 39) rfl rfl ?_
    refine Wp.iushr at_39 (pc' := 40) rfl ?_
    refine Wp.iloadN at_40 (pc' := 41) rfl rfl ?_
    refine Wp.bipush (x := (16 : Int32)) at_41 (pc' := 43) rfl rfl ?_
    refine Wp.iushr at_43 (pc' := 44) rfl ?_
    refine Wp.old fun hOc => ?_
    refine Wp.callS (W := 0) (argsL := [(.int ((p2.toUInt32 >>> ((6 : Int32) &&& 31).toUInt32).toInt32)), (.int ((p1.toUInt32 >>> ((16 : Int32) &&& 31).toUInt32).toInt32))]) (rest := []) rfl (ctDR l Z a0 hw hE ((p2.toUInt32 >>> ((6 : Int32) &&& 31).toUInt32).toInt32) ((p1.toUInt32 >>> ((16 : Int32) &&& 31).toUInt32).toInt32) h19 hOc) (hw _ (List.mem_of_getElem? (i := 0) rfl)) (hw _ (List.mem_of_getElem? (i := 1) rfl)) (hw _ (List.mem_of_getElem? (i := 3) rfl)) (hw _ (List.mem_of_getElem? (i := 2) rfl)) (by decide) (lenOf pd__II_C rfl) at_44 rfl rfl rfl (Nat.le_of_eq rfl) (pc' := 47) rfl nofun nofun (by decide) (by decide) (k' := 0) (n' := 0) rfl rfl (by decide) (by decide) (fun vh20 h20 zh20 Kh20 qh20 => ?_)
    obtain ⟨c44, rfl, n_c44⟩ := qh20
    refine Wp.eqS (S' := [(.int c44)]) rfl ?_
    refine Wp.istore (l' := #[.val (.int p0), .val (.int p1), .val (.int p2), .val (.int p3), .val (.int p4), .val (.int (1 : Int32)), .val (.int c10), .val (.int c22), .val (.int c31), .val (.int c44), .unset, .unset, .unset, .unset, .unset, .unset, .unset]) at_47 (pc' := 49) rfl rfl ?_
    refine Wp.iload at_49 (pc' := 51) rfl rfl ?_
    refine Wp.if_ne (pc1 := 62) (pc' := 54) at_51 (by decide) (by decide) rfl (fun hc21 => ?_) (fun hc21 => by exact absurd hc21 (by decide))
    refine Wp.iload at_62 (pc' := 64) rfl rfl ?_
    refine Wp.iconst (x := (1 : Int32)) at_64 (pc' := 65) rfl rfl ?_
    refine Wp.icmp_ne (pc1 := 81) (pc' := 68) at_65 (by decide) (by decide) rfl (fun hc22 => by exact absurd hc22 (by decide)) (fun hc22 => ?_)
    refine Wp.iconst (x := (1 : Int32)) at_68 (pc' := 69) rfl rfl ?_
    refine Wp.newP (cap := 1) (hw _ (List.mem_of_getElem? (i := 5) rfl)) (by decide) (by decide) (by decide) at_69 (pc' := 71) rfl (k' := 1) (n' := 1) rfl rfl (by decide) (by decide) (fun h23 b23 k_b23 g_b23 sz_b23 Xh23 V_b23 => ?_)
    replace V_b23 : Arv Z h23 b23 k_b23 .char (1 : Int32) [(.int (0 : Int32))] (.int (0 : Int32)) := V_b23.pad (pad_rep [] (.int (0 : Int32)) 1)
    refine Wp.dup at_71 (pc' := 72) rfl rfl ?_
    refine Wp.iconst (x := (0 : Int32)) at_72 (pc' := 73) rfl rfl ?_
    refine Wp.iload at_73 (pc' := 75) rfl rfl ?_
    refine Wp.castore V_b23 (by decide) (by decide) (i := 0) rfl (Nat.le_of_ble_eq_true rfl) at_75 (pc' := 76) rfl (Or.inr sz_b23) (fun h24 W24 Vh24 => ?_)
    replace V_b23 : Arv Z h24 b23 k_b23 .char (1 : Int32) [(.int (nar .char c10))] (.int (0 : Int32)) := Vh24
    refine Wp.astore (l' := #[.val (.int p0), .val (.int p1), .val (.int p2), .val (.int p3), .val (.int p4), .val (.int (1 : Int32)), .val (.int c10), .val (.int c22), .val (.int c31), .val (.int c44), .val (.ref b23), .unset, .unset, .unset, .unset, .unset, .unset]) at_76 (pc' := 78) rfl rfl rfl ?_
    refine Wp.goto (pc' := 159) at_78 (by decide) (by decide) ?_
    refine Wp.iconst (x := (0 : Int32)) at_159 (pc' := 160) rfl rfl ?_
    refine Wp.istore (l' := #[.val (.int p0), .val (.int p1), .val (.int p2), .val (.int p3), .val (.int p4), .val (.int (1 : Int32)), .val (.int c10), .val (.int c22), .val (.int c31), .val (.int c44), .val (.ref b23), .val (.int (0 : Int32)), .unset, .unset, .unset, .unset, .unset]) at_160 (pc' := 162) rfl rfl ?_
    refine Wp.iload at_162 (pc' := 164) rfl rfl ?_
    refine Wp.iconst (x := (2 : Int32)) at_164 (pc' := 165) rfl rfl ?_
    refine Wp.icmp_lt (pc1 := 187) (pc' := 168) at_165 (by decide) (by decide) rfl (fun hc25 => ?_) (fun hc25 => by exact absurd hc25 (by decide))
    refine Wp.iload at_187 (pc' := 189) rfl rfl ?_
    refine Wp.iconst (x := (3 : Int32)) at_189 (pc' := 190) rfl rfl ?_
    refine Wp.icmp_lt (pc1 := 212) (pc' := 193) at_190 (by decide) (by decide) rfl (fun hc26 => ?_) (fun hc26 => by exact absurd hc26 (by decide))
    refine Wp.iload at_212 (pc' := 214) rfl rfl ?_
    refine Wp.iconst (x := (4 : Int32)) at_214 (pc' := 215) rfl rfl ?_
    refine Wp.icmp_lt (pc1 := 237) (pc' := 218) at_215 (by decide) (by decide) rfl (fun hc27 => ?_) (fun hc27 => by exact absurd hc27 (by decide))
    refine Wp.iload at_237 (pc' := 239) rfl rfl ?_
    refine Wp.iload at_239 (pc' := 241) rfl rfl ?_
    refine Wp.isub at_241 (pc' := 242) rfl ?_
    refine Wp.istore (l' := #[.val (.int p0), .val (.int p1), .val (.int p2), .val (.int p3), .val (.int p4), .val (.int (1 : Int32)), .val (.int c10), .val (.int c22), .val (.int c31), .val (.int c44), .val (.ref b23), .val (.int (0 : Int32)), .val (.int ((1 : Int32) - (0 : Int32))), .unset, .unset, .unset, .unset]) at_242 (pc' := 244) rfl rfl ?_
    refine Wp.iload at_244 (pc' := 246) rfl rfl ?_
    refine Wp.iloadN at_246 (pc' := 247) rfl rfl ?_
    refine Wp.old fun hOc => ?_
    refine Wp.callS (W := 0) (argsL := [(.int ((1 : Int32) - (0 : Int32))), (.int p3)]) (rest := []) rfl (ctMIN l Z a0 hw hE ((1 : Int32) - (0 : Int32)) p3 h24 hOc) (hw _ (List.mem_of_getElem? (i := 6) rfl)) (hw _ (List.mem_of_getElem? (i := 7) rfl)) (hw _ (List.mem_of_getElem? (i := 9) rfl)) (hw _ (List.mem_of_getElem? (i := 8) rfl)) (by decide) (lenOf pd__II_I rfl) at_247 rfl rfl rfl (Nat.le_of_eq rfl) (pc' := 250) rfl nofun nofun (by decide) (by decide) (k' := 1) (n' := 1) rfl rfl (by decide) (by decide) (fun vh28 h28 zh28 Kh28 qh28 => ?_)
    obtain rfl := qh28
    replace V_b23 := V_b23.keep Kh28 nin0
    refine Wp.eqS (S' := [(.int (if p3 < ((1 : Int32) - (0 : Int32)) then p3 else ((1 : Int32) - (0 : Int32))))]) rfl ?_
    refine Wp.istore (l' := #[.val (.int p0), .val (.int p1), .val (.int p2), .val (.int p3), .val (.int p4), .val (.int (1 : Int32)), .val (.int c10), .val (.int c22), .val (.int c31), .val (.int c44), .val (.ref b23), .val (.int (0 : Int32)), .val (.int ((1 : Int32) - (0 : Int32))), .val (.int (if p3 < ((1 : Int32) - (0 : Int32)) then p3 else ((1 : Int32) - (0 : Int32)))), .unset, .unset, .unset]) at_250 (pc' := 252) rfl rfl ?_
    refine Wp.iload at_252 (pc' := 254) rfl rfl ?_
    refine Wp.iload at_254 (pc' := 256) rfl rfl ?_
    refine Wp.old fun hOc => ?_
    refine Wp.callS (W := 0) (argsL := [(.int ((1 : Int32) - (0 : Int32))), (.int p4)]) (rest := []) rfl (ctMAX l Z a0 hw hE ((1 : Int32) - (0 : Int32)) p4 h28 hOc) (hw _ (List.mem_of_getElem? (i := 10) rfl)) (hw _ (List.mem_of_getElem? (i := 11) rfl)) (hw _ (List.mem_of_getElem? (i := 12) rfl)) (hw _ (List.mem_of_getElem? (i := 8) rfl)) (by decide) (lenOf pd__II_I rfl) at_256 rfl rfl rfl (Nat.le_of_eq rfl) (pc' := 259) rfl nofun nofun (by decide) (by decide) (k' := 1) (n' := 1) rfl rfl (by decide) (by decide) (fun vh29 h29 zh29 Kh29 qh29 => ?_)
    obtain rfl := qh29
    replace V_b23 := V_b23.keep Kh29 nin0
    refine Wp.eqS (S' := [(.int (if ((1 : Int32) - (0 : Int32)) < p4 then p4 else ((1 : Int32) - (0 : Int32))))]) rfl ?_
    refine Wp.istore (l' := #[.val (.int p0), .val (.int p1), .val (.int p2), .val (.int p3), .val (.int p4), .val (.int (1 : Int32)), .val (.int c10), .val (.int c22), .val (.int c31), .val (.int c44), .val (.ref b23), .val (.int (0 : Int32)), .val (.int ((1 : Int32) - (0 : Int32))), .val (.int (if p3 < ((1 : Int32) - (0 : Int32)) then p3 else ((1 : Int32) - (0 : Int32)))), .val (.int (if ((1 : Int32) - (0 : Int32)) < p4 then p4 else ((1 : Int32) - (0 : Int32)))), .unset, .unset]) at_259 (pc' := 261) rfl rfl ?_
    refine Wp.new rfl (hw _ (List.mem_of_getElem? (i := 13) rfl)) (hw _ (List.mem_of_getElem? (i := 14) rfl)) (hw _ (List.mem_of_getElem? (i := 15) rfl)) at_261 (pc' := 264) rfl (k' := 2) (n' := 5) rfl rfl (by decide) (by decide) (fun h30 b30 g_b30 sz_b30 Xh30 E_b30 D_b30 => ?_)
    have ne_b23_b30 : b23 ≠ b30 := Nat.ne_of_lt (Nat.lt_of_lt_of_eq V_b23.lt g_b30.symm)
    replace V_b23 := V_b23.ext Xh30
    have F_value_b30 : Fld Z h30 b30 "java/lang/String" "value" "[B" .null := D_b30 (Or.inr (hw _ (List.mem_of_getElem? (i := 28) rfl))) (ty := (.array .byte)) (by decide)
    have F_coder_b30 : Fld Z h30 b30 "java/lang/String" "coder" "B" (.int (0 : Int32)) := D_b30 (Or.inr (hw _ (List.mem_of_getElem? (i := 29) rfl))) (ty := .byte) (by decide)
    clear D_b30
    refine Wp.dup at_264 (pc' := 265) rfl rfl ?_
    refine Wp.aload at_265 (pc' := 267) rfl rfl rfl ?_
    refine Wp.old fun hOc => ?_
    have V_cs : Arv Z h30 b23 k_b23 .char (Int32.ofNat ([c10] : List Int32).length) (([c10] : List Int32).map Value.int) (.int 0) := by simpa [n_c10] using V_b23
    have h16_ : ∀ c ∈ ([c10] : List Int32), nar .char c = c := by intro c hc; simp only [List.mem_cons, List.not_mem_nil, or_false] at hc; rcases hc with rfl <;> assumption
    refine Wp.callI (a := b30) (W := 1) (argsL := [(.ref b23)]) (rest := [(.ref b30)]) rfl (ctSI l Z a0 hw hE b30 b23 k_b23 [c10] cz h30 hOc hU (Nat.le_of_ble_eq_true rfl) (Nat.le_of_ble_eq_true rfl) h16_ V_cs E_b30 F_value_b30 F_coder_b30 (Nat.le_trans hO.1 sz_b30) ne_b23_b30 hco hcz) rfl rfl (hw _ (List.mem_of_getElem? (i := 16) rfl)) (hw _ (List.mem_of_getElem? (i := 17) rfl)) (hw _ (List.mem_of_getElem? (i := 18) rfl)) (hw _ (List.mem_of_getElem? (i := 15) rfl)) (by decide) (lenOf pd___C_V rfl) at_267 rfl rfl rfl (Nat.le_of_eq rfl) (pc' := 270) rfl (by simp) (by intro x hx; simp only [List.mem_cons, List.not_mem_nil, or_false] at hx; rcases hx with rfl; exact (Or.inr sz_b30)) (by decide) (by decide) (k' := 6) (n' := 17) rfl rfl (by decide) (by decide) (fun vh31 h31 zh31 Kh31 qh31 => ?_)
    obtain ⟨rfl, S_s⟩ := qh31
    replace V_b23 := V_b23.keep Kh31 (ninS ne_b23_b30 nin0)
    replace E_b30 := E_b30.keep Kh31
    refine Wp.eqS (S' := [(.ref b30)]) rfl ?_
    refine Wp.astore (l' := #[.val (.int p0), .val (.int p1), .val (.int p2), .val (.int p3), .val (.int p4), .val (.int (1 : Int32)), .val (.int c10), .val (.int c22), .val (.int c31), .val (.int c44), .val (.ref b23), .val (.int (0 : Int32)), .val (.int ((1 : Int32) - (0 : Int32))), .val (.int (if p3 < ((1 : Int32) - (0 : Int32)) then p3 else ((1 : Int32) - (0 : Int32)))), .val (.int (if ((1 : Int32) - (0 : Int32)) < p4 then p4 else ((1 : Int32) - (0 : Int32)))), .val (.ref b30), .unset]) at_270 (pc' := 272) rfl rfl rfl ?_
    refine Wp.ldcO (nn := 16) rfl rfl (hw _ (List.mem_of_getElem? (i := 34) rfl)) (own_wS hw) at_272 (pc' := 274) rfl (by decide) (by decide) (k' := 8) (n' := 37) rfl rfl (by decide) (by decide) (fun h32 c32 Xh32 => ?_)
    replace V_b23 := V_b23.ext Xh32
    replace E_b30 := E_b30.ext Xh32
    replace S_s := S_s.ext Xh32
    refine Wp.aload at_274 (pc' := 276) rfl rfl rfl ?_
    refine Wp.iload at_276 (pc' := 278) rfl rfl ?_
    refine Wp.iload at_278 (pc' := 280) rfl rfl ?_
    refine Wp.old fun hOc => ?_
    have hk : ((1 : Int32) - (0 : Int32)) = Int32.ofNat ([c10] : List Int32).length - Int32.ofNat (own_pairs [c10]) := rfl
    refine Wp.callS (W := 0) (argsL := [(.ref c32), (.ref b30), (.int (if p3 < ((1 : Int32) - (0 : Int32)) then p3 else ((1 : Int32) - (0 : Int32)))), (.int (if ((1 : Int32) - (0 : Int32)) < p4 then p4 else ((1 : Int32) - (0 : Int32))))]) (rest := []) rfl (ctCHK l Z a0 hw hE c32 b30 (if p3 < ((1 : Int32) - (0 : Int32)) then p3 else ((1 : Int32) - (0 : Int32))) (if ((1 : Int32) - (0 : Int32)) < p4 then p4 else ((1 : Int32) - (0 : Int32))) [c10] cz h32 hOc S_s hU h16_ (Nat.le_of_ble_eq_true rfl) hco hcz (hk ▸ own_mn _ _) (hk ▸ own_mx _ _)) (hw _ (List.mem_of_getElem? (i := 35) rfl)) (hw _ (List.mem_of_getElem? (i := 36) rfl)) (hw _ (List.mem_of_getElem? (i := 38) rfl)) (hw _ (List.mem_of_getElem? (i := 37) rfl)) (by decide) (lenOf pd__Ljava_lang_String_Ljava_lang_String_II_Ljava_lang_String_ rfl) at_280 rfl rfl rfl (Nat.le_of_eq rfl) (pc' := 283) rfl nofun nofun (by decide) (by decide) (k' := 8) (n' := 37) rfl rfl (by decide) (by decide) (fun vh33 h33 zh33 Kh33 qh33 => ?_)
    obtain rfl := qh33
    replace S_s := S_s.keep0 Kh33
    replace V_b23 := V_b23.keep Kh33 nin0
    replace E_b30 := E_b30.keep Kh33
    refine Wp.eqS (S' := [(.ref b30)]) rfl ?_
    refine Wp.astore (l' := #[.val (.int p0), .val (.int p1), .val (.int p2), .val (.int p3), .val (.int p4), .val (.int (1 : Int32)), .val (.int c10), .val (.int c22), .val (.int c31), .val (.int c44), .val (.ref b23), .val (.int (0 : Int32)), .val (.int ((1 : Int32) - (0 : Int32))), .val (.int (if p3 < ((1 : Int32) - (0 : Int32)) then p3 else ((1 : Int32) - (0 : Int32)))), .val (.int (if ((1 : Int32) - (0 : Int32)) < p4 then p4 else ((1 : Int32) - (0 : Int32)))), .val (.ref b30), .val (.ref b30)]) at_283 (pc' := 285) rfl rfl rfl ?_
    refine Wp.aload at_285 (pc' := 287) rfl rfl rfl ?_
    refine Wp.aload at_287 (pc' := 289) rfl rfl rfl ?_
    refine Wp.acmp_ne (pc1 := 296) (pc' := 292) rfl rfl at_289 (by decide) (by decide) rfl (fun hc34 => by exact absurd rfl hc34) (fun hc34 => ?_)
    refine Wp.iconst (x := (1 : Int32)) at_292 (pc' := 293) rfl rfl ?_
    refine Wp.goto (pc' := 297) at_293 (by decide) (by decide) ?_
    refine Wp.retN (x' := (1 : Int32)) (t := .boolean) rfl (by simp) rfl at_297 (by decide) (by decide) ?_
    rfl
  · rw [hl]
    refine Wp.istore (l' := #[.val (.int p0), .val (.int p1), .val (.int p2), .val (.int p3), .val (.int p4), .val (.int (2 : Int32)), .unset, .unset, .unset, .unset, .unset, .unset, .unset, .unset, .unset, .unset, .unset]) at_6 (pc' := 8) rfl rfl ?_
    refine Wp.iloadN at_8 (pc' := 9) rfl rfl ?_
    refine Wp.iloadN at_9 (pc' := 10) rfl rfl ?_
    refine Wp.old fun hOc => ?_
    refine Wp.callS (W := 0) (argsL := [(.int p2), (.int p0)]) (rest := []) rfl (ctDR l Z a0 hw hE p2 p0 h0 hOc) (hw _ (List.mem_of_getElem? (i := 0) rfl)) (hw _ (List.mem_of_getElem? (i := 1) rfl)) (hw _ (List.mem_of_getElem? (i := 3) rfl)) (hw _ (List.mem_of_getElem? (i := 2) rfl)) (by decide) (lenOf pd__II_C rfl) at_10 rfl rfl rfl (Nat.le_of_eq rfl) (pc' := 13) rfl nofun nofun (by decide) (by decide) (k' := 0) (n' := 0) rfl rfl (by decide) (by decide) (fun vh35 h35 zh35 Kh35 qh35 => ?_)
    obtain ⟨c10, rfl, n_c10⟩ := qh35
    refine Wp.eqS (S' := [(.int c10)]) rfl ?_
    refine Wp.istore (l' := #[.val (.int p0), .val (.int p1), .val (.int p2), .val (.int p3), .val (.int p4), .val (.int (2 : Int32)), .val (.int c10), .unset, .unset, .unset, .unset, .unset, .unset, .unset, .unset, .unset, .unset]) at_13 (pc' := 15) rfl rfl ?_
    refine Wp.iloadN at_15 (pc' := 16) rfl rfl ?_
    refine Wp.iconst (x := (2 : Int32)) at_16 (pc' := 17) rfl rfl ?_
    refine Wp.iushr at_17 (pc' := 18) rfl ?_
    refine Wp.iloadN at_18 (pc' := 19) rfl rfl ?_
    refine Wp.bipush (x := (16 : Int32)) at_19 (pc' := 21) rfl rfl ?_
    refine Wp.iushr at_21 (pc' := 22) rfl ?_
    refine Wp.old fun hOc => ?_
    refine Wp.callS (W := 0) (argsL := [(.int ((p2.toUInt32 >>> ((2 : Int32) &&& 31).toUInt32).toInt32)), (.int ((p0.toUInt32 >>> ((16 : Int32) &&& 31).toUInt32).toInt32))]) (rest := []) rfl (ctDR l Z a0 hw hE ((p2.toUInt32 >>> ((2 : Int32) &&& 31).toUInt32).toInt32) ((p0.toUInt32 >>> ((16 : Int32) &&& 31).toUInt32).toInt32) h35 hOc) (hw _ (List.mem_of_getElem? (i := 0) rfl)) (hw _ (List.mem_of_getElem? (i := 1) rfl)) (hw _ (List.mem_of_getElem? (i := 3) rfl)) (hw _ (List.mem_of_getElem? (i := 2) rfl)) (by decide) (lenOf pd__II_C rfl) at_22 rfl rfl rfl (Nat.le_of_eq rfl) (pc' := 25) rfl nofun nofun (by decide) (by decide) (k' := 0) (n' := 0) rfl rfl (by decide) (by decide) (fun vh36 h36 zh36 Kh36 qh36 => ?_)
    obtain ⟨c22, rfl, n_c22⟩ := qh36
    refine Wp.eqS (S' := [(.int c22)]) rfl ?_
    refine Wp.istore (l' := #[.val (.int p0), .val (.int p1), .val (.int p2), .val (.int p3), .val (.int p4), .val (.int (2 : Int32)), .val (.int c10), .val (.int c22), .unset, .unset, .unset, .unset, .unset, .unset, .unset, .unset, .unset]) at_25 (pc' := 27) rfl rfl ?_
    refine Wp.iloadN at_27 (pc' := 28) rfl rfl ?_
    refine Wp.iconst (x := (4 : Int32)) at_28 (pc' := 29) rfl rfl ?_
    refine Wp.iushr at_29 (pc' := 30) rfl ?_
    refine Wp.iloadN at_30 (pc' := 31) rfl rfl ?_
    refine Wp.old fun hOc => ?_
    refine Wp.callS (W := 0) (argsL := [(.int ((p2.toUInt32 >>> ((4 : Int32) &&& 31).toUInt32).toInt32)), (.int p1)]) (rest := []) rfl (ctDR l Z a0 hw hE ((p2.toUInt32 >>> ((4 : Int32) &&& 31).toUInt32).toInt32) p1 h36 hOc) (hw _ (List.mem_of_getElem? (i := 0) rfl)) (hw _ (List.mem_of_getElem? (i := 1) rfl)) (hw _ (List.mem_of_getElem? (i := 3) rfl)) (hw _ (List.mem_of_getElem? (i := 2) rfl)) (by decide) (lenOf pd__II_C rfl) at_31 rfl rfl rfl (Nat.le_of_eq rfl) (pc' := 34) rfl nofun nofun (by decide) (by decide) (k' := 0) (n' := 0) rfl rfl (by decide) (by decide) (fun vh37 h37 zh37 Kh37 qh37 => ?_)
    obtain ⟨c31, rfl, n_c31⟩ := qh37
    refine Wp.eqS (S' := [(.int c31)]) rfl ?_
    refine Wp.istore (l' := #[.val (.int p0), .val (.int p1), .val (.int p2), .val (.int p3), .val (.int p4), .val (.int (2 : Int32)), .val (.int c10), .val (.int c22), .val (.int c31), .unset, .unset, .unset, .unset, .unset, .unset, .unset, .unset]) at_34 (pc' := 36) rfl rfl ?_
    refine Wp.iloadN at_36 (pc' := 37) rfl rfl ?_
    refine Wp.bipush (x := (6 : Int32)) at_37 (pc' := 39) rfl rfl ?_
    refine Wp.iushr at_39 (pc' := 40) rfl ?_
    refine Wp.iloadN at_40 (pc' := 41) rfl rfl ?_
    refine Wp.bipush (x := (16 : Int32)) at_41 (pc' := 43) rfl rfl ?_
    refine Wp.iushr at_43 (pc' := 44) rfl ?_
    refine Wp.old fun hOc => ?_
    refine Wp.callS (W := 0) (argsL := [(.int ((p2.toUInt32 >>> ((6 : Int32) &&& 31).toUInt32).toInt32)), (.int ((p1.toUInt32 >>> ((16 : Int32) &&& 31).toUInt32).toInt32))]) (rest := []) rfl (ctDR l Z a0 hw hE ((p2.toUInt32 >>> ((6 : Int32) &&& 31).toUInt32).toInt32) ((p1.toUInt32 >>> ((16 : Int32) &&& 31).toUInt32).toInt32) h37 hOc) (hw _ (List.mem_of_getElem? (i := 0) rfl)) (hw _ (List.mem_of_getElem? (i := 1) rfl)) (hw _ (List.mem_of_getElem? (i := 3) rfl)) (hw _ (List.mem_of_getElem? (i := 2) rfl)) (by decide) (lenOf pd__II_C rfl) at_44 rfl rfl rfl (Nat.le_of_eq rfl) (pc' := 47) rfl nofun nofun (by decide) (by decide) (k' := 0) (n' := 0) rfl rfl (by decide) (by decide) (fun vh38 h38 zh38 Kh38 qh38 => ?_)
    obtain ⟨c44, rfl, n_c44⟩ := qh38
    refine Wp.eqS (S' := [(.int c44)]) rfl ?_
    refine Wp.istore (l' := #[.val (.int p0), .val (.int p1), .val (.int p2), .val (.int p3), .val (.int p4), .val (.int (2 : Int32)), .val (.int c10), .val (.int c22), .val (.int c31), .val (.int c44), .unset, .unset, .unset, .unset, .unset, .unset, .unset]) at_47 (pc' := 49) rfl rfl ?_
    refine Wp.iload at_49 (pc' := 51) rfl rfl ?_
    refine Wp.if_ne (pc1 := 62) (pc' := 54) at_51 (by decide) (by decide) rfl (fun hc39 => ?_) (fun hc39 => by exact absurd hc39 (by decide))
    refine Wp.iload at_62 (pc' := 64) rfl rfl ?_
    refine Wp.iconst (x := (1 : Int32)) at_64 (pc' := 65) rfl rfl ?_
    refine Wp.icmp_ne (pc1 := 81) (pc' := 68) at_65 (by decide) (by decide) rfl (fun hc40 => ?_) (fun hc40 => by exact absurd hc40 (by decide))
    refine Wp.iload at_81 (pc' := 83) rfl rfl ?_
    refine Wp.iconst (x := (2 : Int32)) at_83 (pc' := 84) rfl rfl ?_
    refine Wp.icmp_ne (pc1 := 105) (pc' := 87) at_84 (by decide) (by decide) rfl (fun hc41 => by exact absurd hc41 (by decide)) (fun hc41 => ?_)
    refine Wp.iconst (x := (2 : Int32)) at_87 (pc' := 88) rfl rfl ?_
    refine Wp.newP (cap := 2) (hw _ (List.mem_of_getElem? (i := 5) rfl)) (by decide) (by decide) (by decide) at_88 (pc' := 90) rfl (k' := 1) (n' := 2) rfl rfl (by decide) (by decide) (fun h42 b42 k_b42 g_b42 sz_b42 Xh42 V_b42 => ?_)
    replace V_b42 : Arv Z h42 b42 k_b42 .char (2 : Int32) [(.int (0 : Int32)), (.int (0 : Int32))] (.int (0 : Int32)) := V_b42.pad (pad_rep [] (.int (0 : Int32)) 2)
    refine Wp.dup at_90 (pc' := 91) rfl rfl ?_
    refine Wp.iconst (x := (0 : Int32)) at_91 (pc' := 92) rfl rfl ?_
    refine Wp.iload at_92 (pc' := 94) rfl rfl ?_
    refine Wp.castore V_b42 (by decide) (by decide) (i := 0) rfl (Nat.le_of_ble_eq_true rfl) at_94 (pc' := 95) rfl (Or.inr sz_b42) (fun h43 W43 Vh43 => ?_)
    replace V_b42 : Arv Z h43 b42 k_b42 .char (2 : Int32) [(.int (nar .char c10)), (.int (0 : Int32))] (.int (0 : Int32)) := Vh43
    refine Wp.dup at_95 (pc' := 96) rfl rfl ?_
    refine Wp.iconst (x := (1 : Int32)) at_96 (pc' := 97) rfl rfl ?_
    refine Wp.iload at_97 (pc' := 99) rfl rfl ?_
    refine Wp.castore V_b42 (by decide) (by decide) (i := 1) rfl (Nat.le_of_ble_eq_true rfl) at_99 (pc' := 100) rfl (Or.inr sz_b42) (fun h44 W44 Vh44 => ?_)
    replace V_b42 : Arv Z h44 b42 k_b42 .char (2 : Int32) [(.int (nar .char c10)), (.int (nar .char c22))] (.int (0 : Int32)) := Vh44
    refine Wp.astore (l' := #[.val (.int p0), .val (.int p1), .val (.int p2), .val (.int p3), .val (.int p4), .val (.int (2 : Int32)), .val (.int c10), .val (.int c22), .val (.int c31), .val (.int c44), .val (.ref b42), .unset, .unset, .unset, .unset, .unset, .unset]) at_100 (pc' := 102) rfl rfl rfl ?_
    refine Wp.goto (pc' := 159) at_102 (by decide) (by decide) ?_
    refine Wp.iconst (x := (0 : Int32)) at_159 (pc' := 160) rfl rfl ?_
    refine Wp.istore (l' := #[.val (.int p0), .val (.int p1), .val (.int p2), .val (.int p3), .val (.int p4), .val (.int (2 : Int32)), .val (.int c10), .val (.int c22), .val (.int c31), .val (.int c44), .val (.ref b42), .val (.int (0 : Int32)), .unset, .unset, .unset, .unset, .unset]) at_160 (pc' := 162) rfl rfl ?_
    refine Wp.iload at_162 (pc' := 164) rfl rfl ?_
    refine Wp.iconst (x := (2 : Int32)) at_164 (pc' := 165) rfl rfl ?_
    refine Wp.icmp_lt (pc1 := 187) (pc' := 168) at_165 (by decide) (by decide) rfl (fun hc45 => by exact absurd hc45 (by decide)) (fun hc45 => ?_)
    suffices hj187 : ∀ hh, Keep h44 hh [] → Ext Z.heap hh → Wp true l Z a0 [("java/lang/String", 7)] room_1 x code maxLocals ret h0 [] (fun v h => v = some (.int 1)) hh [b42] 1 2 187 #[.val (.int p0), .val (.int p1), .val (.int p2), .val (.int p3), .val (.int p4), .val (.int (2 : Int32)), .val (.int c10), .val (.int c22), .val (.int c31), .val (.int c44), .val (.ref b42), .val (.int (if own_hi c10 && own_lo c22 then (1 : Int32) else 0)), .unset, .unset, .unset, .unset, .unset] [] by
      have KK := Keep.refl h44 []
      refine Wp.iload at_168 (pc' := 170) rfl rfl ?_
      refine Wp.old fun hOc => ?_
      refine Wp.callS (W := 0) (argsL := [(.int c10)]) (rest := []) rfl (ct_hi l Z a0 hw hE c10 h44 hOc) (hw _ (List.mem_of_getElem? (i := 106) rfl)) (hw _ (List.mem_of_getElem? (i := 107) rfl)) (hw _ (List.mem_of_getElem? (i := 108) rfl)) (hw _ (List.mem_of_getElem? (i := 2) rfl)) (by decide) (lenOf pd__C_Z rfl) at_170 rfl rfl rfl (Nat.le_of_eq rfl) (pc' := 173) rfl nofun nofun (by decide) (by decide) (k' := 1) (n' := 2) rfl rfl (by decide) (by decide) (fun vh46 h46 zh46 Kh46 qh46 => ?_)
      obtain rfl := qh46
      replace V_b42 := V_b42.keep Kh46 nin0
      replace KK := KK.trans Kh46 (fun _ q => nomatch q)
      refine Wp.eqS (S' := [(.int (if own_hi c10 then (1 : Int32) else 0))]) rfl ?_
      refine Wp.if_eq (pc1 := 187) (pc' := 176) at_173 (by decide) (by decide) rfl (fun hc47 => ?_) (fun hc47 => ?_)
      · have hc47 : (if own_hi c10 then (1 : Int32) else 0) = (0 : Int32) := hc47
        have z0 := hc47
        simp at z0
        have e : (if own_hi c10 && own_lo c22 then (1 : Int32) else 0) = 0 := by simp [z0]
        rw [e] at hj187
        refine Wp.old fun hOc => ?_
        exact hj187 _ KK hOc
      · have hc47 : ¬ ((if own_hi c10 then (1 : Int32) else 0) = (0 : Int32)) := hc47
        refine Wp.iload at_176 (pc' := 178) rfl rfl ?_
        refine Wp.old fun hOc => ?_
        refine Wp.callS (W := 0) (argsL := [(.int c22)]) (rest := []) rfl (ct_lo l Z a0 hw hE c22 h46 hOc) (hw _ (List.mem_of_getElem? (i := 116) rfl)) (hw _ (List.mem_of_getElem? (i := 117) rfl)) (hw _ (List.mem_of_getElem? (i := 118) rfl)) (hw _ (List.mem_of_getElem? (i := 2) rfl)) (by decide) (lenOf pd__C_Z rfl) at_178 rfl rfl rfl (Nat.le_of_eq rfl) (pc' := 181) rfl nofun nofun (by decide) (by decide) (k' := 1) (n' := 2) rfl rfl (by decide) (by decide) (fun vh48 h48 zh48 Kh48 qh48 => ?_)
        obtain rfl := qh48
        replace V_b42 := V_b42.keep Kh48 nin0
        replace KK := KK.trans Kh48 (fun _ q => nomatch q)
        refine Wp.eqS (S' := [(.int (if own_lo c22 then (1 : Int32) else 0))]) rfl ?_
        refine Wp.if_eq (pc1 := 187) (pc' := 184) at_181 (by decide) (by decide) rfl (fun hc49 => ?_) (fun hc49 => ?_)
        · have hc49 : (if own_lo c22 then (1 : Int32) else 0) = (0 : Int32) := hc49
          have z0 := hc47
          simp at z0
          have z1 := hc49
          simp at z1
          have e : (if own_hi c10 && own_lo c22 then (1 : Int32) else 0) = 0 := by simp [z0, z1]
          rw [e] at hj187
          refine Wp.old fun hOc => ?_
          exact hj187 _ KK hOc
        · have hc49 : ¬ ((if own_lo c22 then (1 : Int32) else 0) = (0 : Int32)) := hc49
          refine Wp.iinc (l' := #[.val (.int p0), .val (.int p1), .val (.int p2), .val (.int p3), .val (.int p4), .val (.int (2 : Int32)), .val (.int c10), .val (.int c22), .val (.int c31), .val (.int c44), .val (.ref b42), .val (.int (1 : Int32)), .unset, .unset, .unset, .unset, .unset]) at_184 (pc' := 187) rfl rfl rfl ?_
          have z0 := hc47
          simp at z0
          have z1 := hc49
          simp at z1
          have e : (if own_hi c10 && own_lo c22 then (1 : Int32) else 0) = 1 := by simp [z0, z1]
          rw [e] at hj187
          refine Wp.old fun hOc => ?_
          exact hj187 _ KK hOc
    intro h50 KJh50 hOc
    replace V_b42 := V_b42.keep KJh50 nin0
    refine Wp.iload at_187 (pc' := 189) rfl rfl ?_
    refine Wp.iconst (x := (3 : Int32)) at_189 (pc' := 190) rfl rfl ?_
    refine Wp.icmp_lt (pc1 := 212) (pc' := 193) at_190 (by decide) (by decide) rfl (fun hc51 => ?_) (fun hc51 => by exact absurd hc51 (by decide))
    refine Wp.iload at_212 (pc' := 214) rfl rfl ?_
    refine Wp.iconst (x := (4 : Int32)) at_214 (pc' := 215) rfl rfl ?_
    refine Wp.icmp_lt (pc1 := 237) (pc' := 218) at_215 (by decide) (by decide) rfl (fun hc52 => ?_) (fun hc52 => by exact absurd hc52 (by decide))
    refine Wp.iload at_237 (pc' := 239) rfl rfl ?_
    refine Wp.iload at_239 (pc' := 241) rfl rfl ?_
    refine Wp.isub at_241 (pc' := 242) rfl ?_
    refine Wp.istore (l' := #[.val (.int p0), .val (.int p1), .val (.int p2), .val (.int p3), .val (.int p4), .val (.int (2 : Int32)), .val (.int c10), .val (.int c22), .val (.int c31), .val (.int c44), .val (.ref b42), .val (.int (if own_hi c10 && own_lo c22 then (1 : Int32) else 0)), .val (.int ((2 : Int32) - (if own_hi c10 && own_lo c22 then (1 : Int32) else 0))), .unset, .unset, .unset, .unset]) at_242 (pc' := 244) rfl rfl ?_
    refine Wp.iload at_244 (pc' := 246) rfl rfl ?_
    refine Wp.iloadN at_246 (pc' := 247) rfl rfl ?_
    refine Wp.old fun hOc => ?_
    refine Wp.callS (W := 0) (argsL := [(.int ((2 : Int32) - (if own_hi c10 && own_lo c22 then (1 : Int32) else 0))), (.int p3)]) (rest := []) rfl (ctMIN l Z a0 hw hE ((2 : Int32) - (if own_hi c10 && own_lo c22 then (1 : Int32) else 0)) p3 h50 hOc) (hw _ (List.mem_of_getElem? (i := 6) rfl)) (hw _ (List.mem_of_getElem? (i := 7) rfl)) (hw _ (List.mem_of_getElem? (i := 9) rfl)) (hw _ (List.mem_of_getElem? (i := 8) rfl)) (by decide) (lenOf pd__II_I rfl) at_247 rfl rfl rfl (Nat.le_of_eq rfl) (pc' := 250) rfl nofun nofun (by decide) (by decide) (k' := 1) (n' := 2) rfl rfl (by decide) (by decide) (fun vh53 h53 zh53 Kh53 qh53 => ?_)
    obtain rfl := qh53
    replace V_b42 := V_b42.keep Kh53 nin0
    refine Wp.eqS (S' := [(.int (if p3 < ((2 : Int32) - (if own_hi c10 && own_lo c22 then (1 : Int32) else 0)) then p3 else ((2 : Int32) - (if own_hi c10 && own_lo c22 then (1 : Int32) else 0))))]) rfl ?_
    refine Wp.istore (l' := #[.val (.int p0), .val (.int p1), .val (.int p2), .val (.int p3), .val (.int p4), .val (.int (2 : Int32)), .val (.int c10), .val (.int c22), .val (.int c31), .val (.int c44), .val (.ref b42), .val (.int (if own_hi c10 && own_lo c22 then (1 : Int32) else 0)), .val (.int ((2 : Int32) - (if own_hi c10 && own_lo c22 then (1 : Int32) else 0))), .val (.int (if p3 < ((2 : Int32) - (if own_hi c10 && own_lo c22 then (1 : Int32) else 0)) then p3 else ((2 : Int32) - (if own_hi c10 && own_lo c22 then (1 : Int32) else 0)))), .unset, .unset, .unset]) at_250 (pc' := 252) rfl rfl ?_
    refine Wp.iload at_252 (pc' := 254) rfl rfl ?_
    refine Wp.iload at_254 (pc' := 256) rfl rfl ?_
    refine Wp.old fun hOc => ?_
    refine Wp.callS (W := 0) (argsL := [(.int ((2 : Int32) - (if own_hi c10 && own_lo c22 then (1 : Int32) else 0))), (.int p4)]) (rest := []) rfl (ctMAX l Z a0 hw hE ((2 : Int32) - (if own_hi c10 && own_lo c22 then (1 : Int32) else 0)) p4 h53 hOc) (hw _ (List.mem_of_getElem? (i := 10) rfl)) (hw _ (List.mem_of_getElem? (i := 11) rfl)) (hw _ (List.mem_of_getElem? (i := 12) rfl)) (hw _ (List.mem_of_getElem? (i := 8) rfl)) (by decide) (lenOf pd__II_I rfl) at_256 rfl rfl rfl (Nat.le_of_eq rfl) (pc' := 259) rfl nofun nofun (by decide) (by decide) (k' := 1) (n' := 2) rfl rfl (by decide) (by decide) (fun vh54 h54 zh54 Kh54 qh54 => ?_)
    obtain rfl := qh54
    replace V_b42 := V_b42.keep Kh54 nin0
    refine Wp.eqS (S' := [(.int (if ((2 : Int32) - (if own_hi c10 && own_lo c22 then (1 : Int32) else 0)) < p4 then p4 else ((2 : Int32) - (if own_hi c10 && own_lo c22 then (1 : Int32) else 0))))]) rfl ?_
    refine Wp.istore (l' := #[.val (.int p0), .val (.int p1), .val (.int p2), .val (.int p3), .val (.int p4), .val (.int (2 : Int32)), .val (.int c10), .val (.int c22), .val (.int c31), .val (.int c44), .val (.ref b42), .val (.int (if own_hi c10 && own_lo c22 then (1 : Int32) else 0)), .val (.int ((2 : Int32) - (if own_hi c10 && own_lo c22 then (1 : Int32) else 0))), .val (.int (if p3 < ((2 : Int32) - (if own_hi c10 && own_lo c22 then (1 : Int32) else 0)) then p3 else ((2 : Int32) - (if own_hi c10 && own_lo c22 then (1 : Int32) else 0)))), .val (.int (if ((2 : Int32) - (if own_hi c10 && own_lo c22 then (1 : Int32) else 0)) < p4 then p4 else ((2 : Int32) - (if own_hi c10 && own_lo c22 then (1 : Int32) else 0)))), .unset, .unset]) at_259 (pc' := 261) rfl rfl ?_
    refine Wp.new rfl (hw _ (List.mem_of_getElem? (i := 13) rfl)) (hw _ (List.mem_of_getElem? (i := 14) rfl)) (hw _ (List.mem_of_getElem? (i := 15) rfl)) at_261 (pc' := 264) rfl (k' := 2) (n' := 6) rfl rfl (by decide) (by decide) (fun h55 b55 g_b55 sz_b55 Xh55 E_b55 D_b55 => ?_)
    have ne_b42_b55 : b42 ≠ b55 := Nat.ne_of_lt (Nat.lt_of_lt_of_eq V_b42.lt g_b55.symm)
    replace V_b42 := V_b42.ext Xh55
    have F_value_b55 : Fld Z h55 b55 "java/lang/String" "value" "[B" .null := D_b55 (Or.inr (hw _ (List.mem_of_getElem? (i := 28) rfl))) (ty := (.array .byte)) (by decide)
    have F_coder_b55 : Fld Z h55 b55 "java/lang/String" "coder" "B" (.int (0 : Int32)) := D_b55 (Or.inr (hw _ (List.mem_of_getElem? (i := 29) rfl))) (ty := .byte) (by decide)
    clear D_b55
    refine Wp.dup at_264 (pc' := 265) rfl rfl ?_
    refine Wp.aload at_265 (pc' := 267) rfl rfl rfl ?_
    refine Wp.old fun hOc => ?_
    have V_cs : Arv Z h55 b42 k_b42 .char (Int32.ofNat ([c10, c22] : List Int32).length) (([c10, c22] : List Int32).map Value.int) (.int 0) := by simpa [n_c10, n_c22] using V_b42
    have h16_ : ∀ c ∈ ([c10, c22] : List Int32), nar .char c = c := by intro c hc; simp only [List.mem_cons, List.not_mem_nil, or_false] at hc; rcases hc with rfl | rfl <;> assumption
    refine Wp.callI (a := b55) (W := 1) (argsL := [(.ref b42)]) (rest := [(.ref b55)]) rfl (ctSI l Z a0 hw hE b55 b42 k_b42 [c10, c22] cz h55 hOc hU (Nat.le_of_ble_eq_true rfl) (Nat.le_of_ble_eq_true rfl) h16_ V_cs E_b55 F_value_b55 F_coder_b55 (Nat.le_trans hO.1 sz_b55) ne_b42_b55 hco hcz) rfl rfl (hw _ (List.mem_of_getElem? (i := 16) rfl)) (hw _ (List.mem_of_getElem? (i := 17) rfl)) (hw _ (List.mem_of_getElem? (i := 18) rfl)) (hw _ (List.mem_of_getElem? (i := 15) rfl)) (by decide) (lenOf pd___C_V rfl) at_267 rfl rfl rfl (Nat.le_of_eq rfl) (pc' := 270) rfl (by simp) (by intro x hx; simp only [List.mem_cons, List.not_mem_nil, or_false] at hx; rcases hx with rfl; exact (Or.inr sz_b55)) (by decide) (by decide) (k' := 6) (n' := 18) rfl rfl (by decide) (by decide) (fun vh56 h56 zh56 Kh56 qh56 => ?_)
    obtain ⟨rfl, S_s⟩ := qh56
    replace V_b42 := V_b42.keep Kh56 (ninS ne_b42_b55 nin0)
    replace E_b55 := E_b55.keep Kh56
    refine Wp.eqS (S' := [(.ref b55)]) rfl ?_
    refine Wp.astore (l' := #[.val (.int p0), .val (.int p1), .val (.int p2), .val (.int p3), .val (.int p4), .val (.int (2 : Int32)), .val (.int c10), .val (.int c22), .val (.int c31), .val (.int c44), .val (.ref b42), .val (.int (if own_hi c10 && own_lo c22 then (1 : Int32) else 0)), .val (.int ((2 : Int32) - (if own_hi c10 && own_lo c22 then (1 : Int32) else 0))), .val (.int (if p3 < ((2 : Int32) - (if own_hi c10 && own_lo c22 then (1 : Int32) else 0)) then p3 else ((2 : Int32) - (if own_hi c10 && own_lo c22 then (1 : Int32) else 0)))), .val (.int (if ((2 : Int32) - (if own_hi c10 && own_lo c22 then (1 : Int32) else 0)) < p4 then p4 else ((2 : Int32) - (if own_hi c10 && own_lo c22 then (1 : Int32) else 0)))), .val (.ref b55), .unset]) at_270 (pc' := 272) rfl rfl rfl ?_
    refine Wp.ldcO (nn := 16) rfl rfl (hw _ (List.mem_of_getElem? (i := 34) rfl)) (own_wS hw) at_272 (pc' := 274) rfl (by decide) (by decide) (k' := 8) (n' := 38) rfl rfl (by decide) (by decide) (fun h57 c57 Xh57 => ?_)
    replace V_b42 := V_b42.ext Xh57
    replace E_b55 := E_b55.ext Xh57
    replace S_s := S_s.ext Xh57
    refine Wp.aload at_274 (pc' := 276) rfl rfl rfl ?_
    refine Wp.iload at_276 (pc' := 278) rfl rfl ?_
    refine Wp.iload at_278 (pc' := 280) rfl rfl ?_
    refine Wp.old fun hOc => ?_
    have hk : ((2 : Int32) - (if own_hi c10 && own_lo c22 then (1 : Int32) else 0)) = Int32.ofNat ([c10, c22] : List Int32).length - Int32.ofNat (own_pairs [c10, c22]) := own_k2 _ _
    refine Wp.callS (W := 0) (argsL := [(.ref c57), (.ref b55), (.int (if p3 < ((2 : Int32) - (if own_hi c10 && own_lo c22 then (1 : Int32) else 0)) then p3 else ((2 : Int32) - (if own_hi c10 && own_lo c22 then (1 : Int32) else 0)))), (.int (if ((2 : Int32) - (if own_hi c10 && own_lo c22 then (1 : Int32) else 0)) < p4 then p4 else ((2 : Int32) - (if own_hi c10 && own_lo c22 then (1 : Int32) else 0))))]) (rest := []) rfl (ctCHK l Z a0 hw hE c57 b55 (if p3 < ((2 : Int32) - (if own_hi c10 && own_lo c22 then (1 : Int32) else 0)) then p3 else ((2 : Int32) - (if own_hi c10 && own_lo c22 then (1 : Int32) else 0))) (if ((2 : Int32) - (if own_hi c10 && own_lo c22 then (1 : Int32) else 0)) < p4 then p4 else ((2 : Int32) - (if own_hi c10 && own_lo c22 then (1 : Int32) else 0))) [c10, c22] cz h57 hOc S_s hU h16_ (Nat.le_of_ble_eq_true rfl) hco hcz (hk ▸ own_mn _ _) (hk ▸ own_mx _ _)) (hw _ (List.mem_of_getElem? (i := 35) rfl)) (hw _ (List.mem_of_getElem? (i := 36) rfl)) (hw _ (List.mem_of_getElem? (i := 38) rfl)) (hw _ (List.mem_of_getElem? (i := 37) rfl)) (by decide) (lenOf pd__Ljava_lang_String_Ljava_lang_String_II_Ljava_lang_String_ rfl) at_280 rfl rfl rfl (Nat.le_of_eq rfl) (pc' := 283) rfl nofun nofun (by decide) (by decide) (k' := 8) (n' := 38) rfl rfl (by decide) (by decide) (fun vh58 h58 zh58 Kh58 qh58 => ?_)
    obtain rfl := qh58
    replace S_s := S_s.keep0 Kh58
    replace V_b42 := V_b42.keep Kh58 nin0
    replace E_b55 := E_b55.keep Kh58
    refine Wp.eqS (S' := [(.ref b55)]) rfl ?_
    refine Wp.astore (l' := #[.val (.int p0), .val (.int p1), .val (.int p2), .val (.int p3), .val (.int p4), .val (.int (2 : Int32)), .val (.int c10), .val (.int c22), .val (.int c31), .val (.int c44), .val (.ref b42), .val (.int (if own_hi c10 && own_lo c22 then (1 : Int32) else 0)), .val (.int ((2 : Int32) - (if own_hi c10 && own_lo c22 then (1 : Int32) else 0))), .val (.int (if p3 < ((2 : Int32) - (if own_hi c10 && own_lo c22 then (1 : Int32) else 0)) then p3 else ((2 : Int32) - (if own_hi c10 && own_lo c22 then (1 : Int32) else 0)))), .val (.int (if ((2 : Int32) - (if own_hi c10 && own_lo c22 then (1 : Int32) else 0)) < p4 then p4 else ((2 : Int32) - (if own_hi c10 && own_lo c22 then (1 : Int32) else 0)))), .val (.ref b55), .val (.ref b55)]) at_283 (pc' := 285) rfl rfl rfl ?_
    refine Wp.aload at_285 (pc' := 287) rfl rfl rfl ?_
    refine Wp.aload at_287 (pc' := 289) rfl rfl rfl ?_
    refine Wp.acmp_ne (pc1 := 296) (pc' := 292) rfl rfl at_289 (by decide) (by decide) rfl (fun hc59 => by exact absurd rfl hc59) (fun hc59 => ?_)
    refine Wp.iconst (x := (1 : Int32)) at_292 (pc' := 293) rfl rfl ?_
    refine Wp.goto (pc' := 297) at_293 (by decide) (by decide) ?_
    refine Wp.retN (x' := (1 : Int32)) (t := .boolean) rfl (by simp) rfl at_297 (by decide) (by decide) ?_
    rfl
  · rw [hl]
    refine Wp.istore (l' := #[.val (.int p0), .val (.int p1), .val (.int p2), .val (.int p3), .val (.int p4), .val (.int (3 : Int32)), .unset, .unset, .unset, .unset, .unset, .unset, .unset, .unset, .unset, .unset, .unset]) at_6 (pc' := 8) rfl rfl ?_
    refine Wp.iloadN at_8 (pc' := 9) rfl rfl ?_
    refine Wp.iloadN at_9 (pc' := 10) rfl rfl ?_
    refine Wp.old fun hOc => ?_
    refine Wp.callS (W := 0) (argsL := [(.int p2), (.int p0)]) (rest := []) rfl (ctDR l Z a0 hw hE p2 p0 h0 hOc) (hw _ (List.mem_of_getElem? (i := 0) rfl)) (hw _ (List.mem_of_getElem? (i := 1) rfl)) (hw _ (List.mem_of_getElem? (i := 3) rfl)) (hw _ (List.mem_of_getElem? (i := 2) rfl)) (by decide) (lenOf pd__II_C rfl) at_10 rfl rfl rfl (Nat.le_of_eq rfl) (pc' := 13) rfl nofun nofun (by decide) (by decide) (k' := 0) (n' := 0) rfl rfl (by decide) (by decide) (fun vh60 h60 zh60 Kh60 qh60 => ?_)
    obtain ⟨c10, rfl, n_c10⟩ := qh60
    refine Wp.eqS (S' := [(.int c10)]) rfl ?_
    refine Wp.istore (l' := #[.val (.int p0), .val (.int p1), .val (.int p2), .val (.int p3), .val (.int p4), .val (.int (3 : Int32)), .val (.int c10), .unset, .unset, .unset, .unset, .unset, .unset, .unset, .unset, .unset, .unset]) at_13 (pc' := 15) rfl rfl ?_
    refine Wp.iloadN at_15 (pc' := 16) rfl rfl ?_
    refine Wp.iconst (x := (2 : Int32)) at_16 (pc' := 17) rfl rfl ?_
    refine Wp.iushr at_17 (pc' := 18) rfl ?_
    refine Wp.iloadN at_18 (pc' := 19) rfl rfl ?_
    refine Wp.bipush (x := (16 : Int32)) at_19 (pc' := 21) rfl rfl ?_
    refine Wp.iushr at_21 (pc' := 22) rfl ?_
    refine Wp.old fun hOc => ?_
    refine Wp.callS (W := 0) (argsL := [(.int ((p2.toUInt32 >>> ((2 : Int32) &&& 31).toUInt32).toInt32)), (.int ((p0.toUInt32 >>> ((16 : Int32) &&& 31).toUInt32).toInt32))]) (rest := []) rfl (ctDR l Z a0 hw hE ((p2.toUInt32 >>> ((2 : Int32) &&& 31).toUInt32).toInt32) ((p0.toUInt32 >>> ((16 : Int32) &&& 31).toUInt32).toInt32) h60 hOc) (hw _ (List.mem_of_getElem? (i := 0) rfl)) (hw _ (List.mem_of_getElem? (i := 1) rfl)) (hw _ (List.mem_of_getElem? (i := 3) rfl)) (hw _ (List.mem_of_getElem? (i := 2) rfl)) (by decide) (lenOf pd__II_C rfl) at_22 rfl rfl rfl (Nat.le_of_eq rfl) (pc' := 25) rfl nofun nofun (by decide) (by decide) (k' := 0) (n' := 0) rfl rfl (by decide) (by decide) (fun vh61 h61 zh61 Kh61 qh61 => ?_)
    obtain ⟨c22, rfl, n_c22⟩ := qh61
    refine Wp.eqS (S' := [(.int c22)]) rfl ?_
    refine Wp.istore (l' := #[.val (.int p0), .val (.int p1), .val (.int p2), .val (.int p3), .val (.int p4), .val (.int (3 : Int32)), .val (.int c10), .val (.int c22), .unset, .unset, .unset, .unset, .unset, .unset, .unset, .unset, .unset]) at_25 (pc' := 27) rfl rfl ?_
    refine Wp.iloadN at_27 (pc' := 28) rfl rfl ?_
    refine Wp.iconst (x := (4 : Int32)) at_28 (pc' := 29) rfl rfl ?_
    refine Wp.iushr at_29 (pc' := 30) rfl ?_
    refine Wp.iloadN at_30 (pc' := 31) rfl rfl ?_
    refine Wp.old fun hOc => ?_
    refine Wp.callS (W := 0) (argsL := [(.int ((p2.toUInt32 >>> ((4 : Int32) &&& 31).toUInt32).toInt32)), (.int p1)]) (rest := []) rfl (ctDR l Z a0 hw hE ((p2.toUInt32 >>> ((4 : Int32) &&& 31).toUInt32).toInt32) p1 h61 hOc) (hw _ (List.mem_of_getElem? (i := 0) rfl)) (hw _ (List.mem_of_getElem? (i := 1) rfl)) (hw _ (List.mem_of_getElem? (i := 3) rfl)) (hw _ (List.mem_of_getElem? (i := 2) rfl)) (by decide) (lenOf pd__II_C rfl) at_31 rfl rfl rfl (Nat.le_of_eq rfl) (pc' := 34) rfl nofun nofun (by decide) (by decide) (k' := 0) (n' := 0) rfl rfl (by decide) (by decide) (fun vh62 h62 zh62 Kh62 qh62 => ?_)
    obtain ⟨c31, rfl, n_c31⟩ := qh62
    refine Wp.eqS (S' := [(.int c31)]) rfl ?_
    refine Wp.istore (l' := #[.val (.int p0), .val (.int p1), .val (.int p2), .val (.int p3), .val (.int p4), .val (.int (3 : Int32)), .val (.int c10), .val (.int c22), .val (.int c31), .unset, .unset, .unset, .unset, .unset, .unset, .unset, .unset]) at_34 (pc' := 36) rfl rfl ?_
    refine Wp.iloadN at_36 (pc' := 37) rfl rfl ?_
    refine Wp.bipush (x := (6 : Int32)) at_37 (pc' := 39) rfl rfl ?_
    refine Wp.iushr at_39 (pc' := 40) rfl ?_
    refine Wp.iloadN at_40 (pc' := 41) rfl rfl ?_
    refine Wp.bipush (x := (16 : Int32)) at_41 (pc' := 43) rfl rfl ?_
    refine Wp.iushr at_43 (pc' := 44) rfl ?_
    refine Wp.old fun hOc => ?_
    refine Wp.callS (W := 0) (argsL := [(.int ((p2.toUInt32 >>> ((6 : Int32) &&& 31).toUInt32).toInt32)), (.int ((p1.toUInt32 >>> ((16 : Int32) &&& 31).toUInt32).toInt32))]) (rest := []) rfl (ctDR l Z a0 hw hE ((p2.toUInt32 >>> ((6 : Int32) &&& 31).toUInt32).toInt32) ((p1.toUInt32 >>> ((16 : Int32) &&& 31).toUInt32).toInt32) h62 hOc) (hw _ (List.mem_of_getElem? (i := 0) rfl)) (hw _ (List.mem_of_getElem? (i := 1) rfl)) (hw _ (List.mem_of_getElem? (i := 3) rfl)) (hw _ (List.mem_of_getElem? (i := 2) rfl)) (by decide) (lenOf pd__II_C rfl) at_44 rfl rfl rfl (Nat.le_of_eq rfl) (pc' := 47) rfl nofun nofun (by decide) (by decide) (k' := 0) (n' := 0) rfl rfl (by decide) (by decide) (fun vh63 h63 zh63 Kh63 qh63 => ?_)
    obtain ⟨c44, rfl, n_c44⟩ := qh63
    refine Wp.eqS (S' := [(.int c44)]) rfl ?_
    refine Wp.istore (l' := #[.val (.int p0), .val (.int p1), .val (.int p2), .val (.int p3), .val (.int p4), .val (.int (3 : Int32)), .val (.int c10), .val (.int c22), .val (.int c31), .val (.int c44), .unset, .unset, .unset, .unset, .unset, .unset, .unset]) at_47 (pc' := 49) rfl rfl ?_
    refine Wp.iload at_49 (pc' := 51) rfl rfl ?_
    refine Wp.if_ne (pc1 := 62) (pc' := 54) at_51 (by decide) (by decide) rfl (fun hc64 => ?_) (fun hc64 => by exact absurd hc64 (by decide))
    refine Wp.iload at_62 (pc' := 64) rfl rfl ?_
    refine Wp.iconst (x := (1 : Int32)) at_64 (pc' := 65) rfl rfl ?_
    refine Wp.icmp_ne (pc1 := 81) (pc' := 68) at_65 (by decide) (by decide) rfl (fun hc65 => ?_) (fun hc65 => by exact absurd hc65 (by decide))
    refine Wp.iload at_81 (pc' := 83) rfl rfl ?_
    refine Wp.iconst (x := (2 : Int32)) at_83 (pc' := 84) rfl rfl ?_
    refine Wp.icmp_ne (pc1 := 105) (pc' := 87) at_84 (by decide) (by decide) rfl (fun hc66 => ?_) (fun hc66 => by exact absurd hc66 (by decide))
    refine Wp.iload at_105 (pc' := 107) rfl rfl ?_
    refine Wp.iconst (x := (3 : Int32)) at_107 (pc' := 108) rfl rfl ?_
    refine Wp.icmp_ne (pc1 := 134) (pc' := 111) at_108 (by decide) (by decide) rfl (fun hc67 => by exact absurd hc67 (by decide)) (fun hc67 => ?_)
    refine Wp.iconst (x := (3 : Int32)) at_111 (pc' := 112) rfl rfl ?_
    refine Wp.newP (cap := 3) (hw _ (List.mem_of_getElem? (i := 5) rfl)) (by decide) (by decide) (by decide) at_112 (pc' := 114) rfl (k' := 1) (n' := 3) rfl rfl (by decide) (by decide) (fun h68 b68 k_b68 g_b68 sz_b68 Xh68 V_b68 => ?_)
    replace V_b68 : Arv Z h68 b68 k_b68 .char (3 : Int32) [(.int (0 : Int32)), (.int (0 : Int32)), (.int (0 : Int32))] (.int (0 : Int32)) := V_b68.pad (pad_rep [] (.int (0 : Int32)) 3)
    refine Wp.dup at_114 (pc' := 115) rfl rfl ?_
    refine Wp.iconst (x := (0 : Int32)) at_115 (pc' := 116) rfl rfl ?_
    refine Wp.iload at_116 (pc' := 118) rfl rfl ?_
    refine Wp.castore V_b68 (by decide) (by decide) (i := 0) rfl (Nat.le_of_ble_eq_true rfl) at_118 (pc' := 119) rfl (Or.inr sz_b68) (fun h69 W69 Vh69 => ?_)
    replace V_b68 : Arv Z h69 b68 k_b68 .char (3 : Int32) [(.int (nar .char c10)), (.int (0 : Int32)), (.int (0 : Int32))] (.int (0 : Int32)) := Vh69
    refine Wp.dup at_119 (pc' := 120) rfl rfl ?_
    refine Wp.iconst (x := (1 : Int32)) at_120 (pc' := 121) rfl rfl ?_
    refine Wp.iload at_121 (pc' := 123) rfl rfl ?_
    refine Wp.castore V_b68 (by decide) (by decide) (i := 1) rfl (Nat.le_of_ble_eq_true rfl) at_123 (pc' := 124) rfl (Or.inr sz_b68) (fun h70 W70 Vh70 => ?_)
    replace V_b68 : Arv Z h70 b68 k_b68 .char (3 : Int32) [(.int (nar .char c10)), (.int (nar .char c22)), (.int (0 : Int32))] (.int (0 : Int32)) := Vh70
    refine Wp.dup at_124 (pc' := 125) rfl rfl ?_
    refine Wp.iconst (x := (2 : Int32)) at_125 (pc' := 126) rfl rfl ?_
    refine Wp.iload at_126 (pc' := 128) rfl rfl ?_
    refine Wp.castore V_b68 (by decide) (by decide) (i := 2) rfl (Nat.le_of_ble_eq_true rfl) at_128 (pc' := 129) rfl (Or.inr sz_b68) (fun h71 W71 Vh71 => ?_)
    replace V_b68 : Arv Z h71 b68 k_b68 .char (3 : Int32) [(.int (nar .char c10)), (.int (nar .char c22)), (.int (nar .char c31))] (.int (0 : Int32)) := Vh71
    refine Wp.astore (l' := #[.val (.int p0), .val (.int p1), .val (.int p2), .val (.int p3), .val (.int p4), .val (.int (3 : Int32)), .val (.int c10), .val (.int c22), .val (.int c31), .val (.int c44), .val (.ref b68), .unset, .unset, .unset, .unset, .unset, .unset]) at_129 (pc' := 131) rfl rfl rfl ?_
    refine Wp.goto (pc' := 159) at_131 (by decide) (by decide) ?_
    refine Wp.iconst (x := (0 : Int32)) at_159 (pc' := 160) rfl rfl ?_
    refine Wp.istore (l' := #[.val (.int p0), .val (.int p1), .val (.int p2), .val (.int p3), .val (.int p4), .val (.int (3 : Int32)), .val (.int c10), .val (.int c22), .val (.int c31), .val (.int c44), .val (.ref b68), .val (.int (0 : Int32)), .unset, .unset, .unset, .unset, .unset]) at_160 (pc' := 162) rfl rfl ?_
    refine Wp.iload at_162 (pc' := 164) rfl rfl ?_
    refine Wp.iconst (x := (2 : Int32)) at_164 (pc' := 165) rfl rfl ?_
    refine Wp.icmp_lt (pc1 := 187) (pc' := 168) at_165 (by decide) (by decide) rfl (fun hc72 => by exact absurd hc72 (by decide)) (fun hc72 => ?_)
    suffices hj187 : ∀ hh, Keep h71 hh [] → Ext Z.heap hh → Wp true l Z a0 [("java/lang/String", 7)] room_1 x code maxLocals ret h0 [] (fun v h => v = some (.int 1)) hh [b68] 1 3 187 #[.val (.int p0), .val (.int p1), .val (.int p2), .val (.int p3), .val (.int p4), .val (.int (3 : Int32)), .val (.int c10), .val (.int c22), .val (.int c31), .val (.int c44), .val (.ref b68), .val (.int (if own_hi c10 && own_lo c22 then (1 : Int32) else 0)), .unset, .unset, .unset, .unset, .unset] [] by
      have KK := Keep.refl h71 []
      refine Wp.iload at_168 (pc' := 170) rfl rfl ?_
      refine Wp.old fun hOc => ?_
      refine Wp.callS (W := 0) (argsL := [(.int c10)]) (rest := []) rfl (ct_hi l Z a0 hw hE c10 h71 hOc) (hw _ (List.mem_of_getElem? (i := 106) rfl)) (hw _ (List.mem_of_getElem? (i := 107) rfl)) (hw _ (List.mem_of_getElem? (i := 108) rfl)) (hw _ (List.mem_of_getElem? (i := 2) rfl)) (by decide) (lenOf pd__C_Z rfl) at_170 rfl rfl rfl (Nat.le_of_eq rfl) (pc' := 173) rfl nofun nofun (by decide) (by decide) (k' := 1) (n' := 3) rfl rfl (by decide) (by decide) (fun vh73 h73 zh73 Kh73 qh73 => ?_)
      obtain rfl := qh73
      replace V_b68 := V_b68.keep Kh73 nin0
      replace KK := KK.trans Kh73 (fun _ q => nomatch q)
      refine Wp.eqS (S' := [(.int (if own_hi c10 then (1 : Int32) else 0))]) rfl ?_
      refine Wp.if_eq (pc1 := 187) (pc' := 176) at_173 (by decide) (by decide) rfl (fun hc74 => ?_) (fun hc74 => ?_)
      · have hc74 : (if own_hi c10 then (1 : Int32) else 0) = (0 : Int32) := hc74
        have z0 := hc74
        simp at z0
        have e : (if own_hi c10 && own_lo c22 then (1 : Int32) else 0) = 0 := by simp [z0]
        rw [e] at hj187
        refine Wp.old fun hOc => ?_
        exact hj187 _ KK hOc
      · have hc74 : ¬ ((if own_hi c10 then (1 : Int32) else 0) = (0 : Int32)) := hc74
        refine Wp.iload at_176 (pc' := 178) rfl rfl ?_
        refine Wp.old fun hOc => ?_
        refine Wp.callS (W := 0) (argsL := [(.int c22)]) (rest := []) rfl (ct_lo l Z a0 hw hE c22 h73 hOc) (hw _ (List.mem_of_getElem? (i := 116) rfl)) (hw _ (List.mem_of_getElem? (i := 117) rfl)) (hw _ (List.mem_of_getElem? (i := 118) rfl)) (hw _ (List.mem_of_getElem? (i := 2) rfl)) (by decide) (lenOf pd__C_Z rfl) at_178 rfl rfl rfl (Nat.le_of_eq rfl) (pc' := 181) rfl nofun nofun (by decide) (by decide) (k' := 1) (n' := 3) rfl rfl (by decide) (by decide) (fun vh75 h75 zh75 Kh75 qh75 => ?_)
        obtain rfl := qh75
        replace V_b68 := V_b68.keep Kh75 nin0
        replace KK := KK.trans Kh75 (fun _ q => nomatch q)
        refine Wp.eqS (S' := [(.int (if own_lo c22 then (1 : Int32) else 0))]) rfl ?_
        refine Wp.if_eq (pc1 := 187) (pc' := 184) at_181 (by decide) (by decide) rfl (fun hc76 => ?_) (fun hc76 => ?_)
        · have hc76 : (if own_lo c22 then (1 : Int32) else 0) = (0 : Int32) := hc76
          have z0 := hc74
          simp at z0
          have z1 := hc76
          simp at z1
          have e : (if own_hi c10 && own_lo c22 then (1 : Int32) else 0) = 0 := by simp [z0, z1]
          rw [e] at hj187
          refine Wp.old fun hOc => ?_
          exact hj187 _ KK hOc
        · have hc76 : ¬ ((if own_lo c22 then (1 : Int32) else 0) = (0 : Int32)) := hc76
          refine Wp.iinc (l' := #[.val (.int p0), .val (.int p1), .val (.int p2), .val (.int p3), .val (.int p4), .val (.int (3 : Int32)), .val (.int c10), .val (.int c22), .val (.int c31), .val (.int c44), .val (.ref b68), .val (.int (1 : Int32)), .unset, .unset, .unset, .unset, .unset]) at_184 (pc' := 187) rfl rfl rfl ?_
          have z0 := hc74
          simp at z0
          have z1 := hc76
          simp at z1
          have e : (if own_hi c10 && own_lo c22 then (1 : Int32) else 0) = 1 := by simp [z0, z1]
          rw [e] at hj187
          refine Wp.old fun hOc => ?_
          exact hj187 _ KK hOc
    intro h77 KJh77 hOc
    replace V_b68 := V_b68.keep KJh77 nin0
    refine Wp.iload at_187 (pc' := 189) rfl rfl ?_
    refine Wp.iconst (x := (3 : Int32)) at_189 (pc' := 190) rfl rfl ?_
    refine Wp.icmp_lt (pc1 := 212) (pc' := 193) at_190 (by decide) (by decide) rfl (fun hc78 => by exact absurd hc78 (by decide)) (fun hc78 => ?_)
    suffices hj212 : ∀ hh, Keep h77 hh [] → Ext Z.heap hh → Wp true l Z a0 [("java/lang/String", 7)] room_1 x code maxLocals ret h0 [] (fun v h => v = some (.int 1)) hh [b68] 1 3 212 #[.val (.int p0), .val (.int p1), .val (.int p2), .val (.int p3), .val (.int p4), .val (.int (3 : Int32)), .val (.int c10), .val (.int c22), .val (.int c31), .val (.int c44), .val (.ref b68), .val (.int ((if own_hi c10 && own_lo c22 then (1 : Int32) else 0) + (if own_hi c22 && own_lo c31 then (1 : Int32) else 0))), .unset, .unset, .unset, .unset, .unset] [] by
      have KK := Keep.refl h77 []
      refine Wp.iload at_193 (pc' := 195) rfl rfl ?_
      refine Wp.old fun hOc => ?_
      refine Wp.callS (W := 0) (argsL := [(.int c22)]) (rest := []) rfl (ct_hi l Z a0 hw hE c22 h77 hOc) (hw _ (List.mem_of_getElem? (i := 106) rfl)) (hw _ (List.mem_of_getElem? (i := 107) rfl)) (hw _ (List.mem_of_getElem? (i := 108) rfl)) (hw _ (List.mem_of_getElem? (i := 2) rfl)) (by decide) (lenOf pd__C_Z rfl) at_195 rfl rfl rfl (Nat.le_of_eq rfl) (pc' := 198) rfl nofun nofun (by decide) (by decide) (k' := 1) (n' := 3) rfl rfl (by decide) (by decide) (fun vh79 h79 zh79 Kh79 qh79 => ?_)
      obtain rfl := qh79
      replace V_b68 := V_b68.keep Kh79 nin0
      replace KK := KK.trans Kh79 (fun _ q => nomatch q)
      refine Wp.eqS (S' := [(.int (if own_hi c22 then (1 : Int32) else 0))]) rfl ?_
      refine Wp.if_eq (pc1 := 212) (pc' := 201) at_198 (by decide) (by decide) rfl (fun hc80 => ?_) (fun hc80 => ?_)
      · have hc80 : (if own_hi c22 then (1 : Int32) else 0) = (0 : Int32) := hc80
        have z0 := hc80
        simp at z0
        have e : (if own_hi c22 && own_lo c31 then (1 : Int32) else 0) = 0 := by simp [z0]
        rw [e, Int32.add_zero] at hj212
        refine Wp.old fun hOc => ?_
        exact hj212 _ KK hOc
      · have hc80 : ¬ ((if own_hi c22 then (1 : Int32) else 0) = (0 : Int32)) := hc80
        refine Wp.iload at_201 (pc' := 203) rfl rfl ?_
        refine Wp.old fun hOc => ?_
        refine Wp.callS (W := 0) (argsL := [(.int c31)]) (rest := []) rfl (ct_lo l Z a0 hw hE c31 h79 hOc) (hw _ (List.mem_of_getElem? (i := 116) rfl)) (hw _ (List.mem_of_getElem? (i := 117) rfl)) (hw _ (List.mem_of_getElem? (i := 118) rfl)) (hw _ (List.mem_of_getElem? (i := 2) rfl)) (by decide) (lenOf pd__C_Z rfl) at_203 rfl rfl rfl (Nat.le_of_eq rfl) (pc' := 206) rfl nofun nofun (by decide) (by decide) (k' := 1) (n' := 3) rfl rfl (by decide) (by decide) (fun vh81 h81 zh81 Kh81 qh81 => ?_)
        obtain rfl := qh81
        replace V_b68 := V_b68.keep Kh81 nin0
        replace KK := KK.trans Kh81 (fun _ q => nomatch q)
        refine Wp.eqS (S' := [(.int (if own_lo c31 then (1 : Int32) else 0))]) rfl ?_
        refine Wp.if_eq (pc1 := 212) (pc' := 209) at_206 (by decide) (by decide) rfl (fun hc82 => ?_) (fun hc82 => ?_)
        · have hc82 : (if own_lo c31 then (1 : Int32) else 0) = (0 : Int32) := hc82
          have z0 := hc80
          simp at z0
          have z1 := hc82
          simp at z1
          have e : (if own_hi c22 && own_lo c31 then (1 : Int32) else 0) = 0 := by simp [z0, z1]
          rw [e, Int32.add_zero] at hj212
          refine Wp.old fun hOc => ?_
          exact hj212 _ KK hOc
        · have hc82 : ¬ ((if own_lo c31 then (1 : Int32) else 0) = (0 : Int32)) := hc82
          refine Wp.iinc (l' := #[.val (.int p0), .val (.int p1), .val (.int p2), .val (.int p3), .val (.int p4), .val (.int (3 : Int32)), .val (.int c10), .val (.int c22), .val (.int c31), .val (.int c44), .val (.ref b68), .val (.int ((if own_hi c10 && own_lo c22 then (1 : Int32) else 0) + (1 : Int32))), .unset, .unset, .unset, .unset, .unset]) at_209 (pc' := 212) rfl rfl rfl ?_
          have z0 := hc80
          simp at z0
          have z1 := hc82
          simp at z1
          have e : (if own_hi c22 && own_lo c31 then (1 : Int32) else 0) = 1 := by simp [z0, z1]
          rw [e] at hj212
          refine Wp.old fun hOc => ?_
          exact hj212 _ KK hOc
    intro h83 KJh83 hOc
    replace V_b68 := V_b68.keep KJh83 nin0
    refine Wp.iload at_212 (pc' := 214) rfl rfl ?_
    refine Wp.iconst (x := (4 : Int32)) at_214 (pc' := 215) rfl rfl ?_
    refine Wp.icmp_lt (pc1 := 237) (pc' := 218) at_215 (by decide) (by decide) rfl (fun hc84 => ?_) (fun hc84 => by exact absurd hc84 (by decide))
    refine Wp.iload at_237 (pc' := 239) rfl rfl ?_
    refine Wp.iload at_239 (pc' := 241) rfl rfl ?_
    refine Wp.isub at_241 (pc' := 242) rfl ?_
    refine Wp.istore (l' := #[.val (.int p0), .val (.int p1), .val (.int p2), .val (.int p3), .val (.int p4), .val (.int (3 : Int32)), .val (.int c10), .val (.int c22), .val (.int c31), .val (.int c44), .val (.ref b68), .val (.int ((if own_hi c10 && own_lo c22 then (1 : Int32) else 0) + (if own_hi c22 && own_lo c31 then (1 : Int32) else 0))), .val (.int ((3 : Int32) - ((if own_hi c10 && own_lo c22 then (1 : Int32) else 0) + (if own_hi c22 && own_lo c31 then (1 : Int32) else 0)))), .unset, .unset, .unset, .unset]) at_242 (pc' := 244) rfl rfl ?_
    refine Wp.iload at_244 (pc' := 246) rfl rfl ?_
    refine Wp.iloadN at_246 (pc' := 247) rfl rfl ?_
    refine Wp.old fun hOc => ?_
    refine Wp.callS (W := 0) (argsL := [(.int ((3 : Int32) - ((if own_hi c10 && own_lo c22 then (1 : Int32) else 0) + (if own_hi c22 && own_lo c31 then (1 : Int32) else 0)))), (.int p3)]) (rest := []) rfl (ctMIN l Z a0 hw hE ((3 : Int32) - ((if own_hi c10 && own_lo c22 then (1 : Int32) else 0) + (if own_hi c22 && own_lo c31 then (1 : Int32) else 0))) p3 h83 hOc) (hw _ (List.mem_of_getElem? (i := 6) rfl)) (hw _ (List.mem_of_getElem? (i := 7) rfl)) (hw _ (List.mem_of_getElem? (i := 9) rfl)) (hw _ (List.mem_of_getElem? (i := 8) rfl)) (by decide) (lenOf pd__II_I rfl) at_247 rfl rfl rfl (Nat.le_of_eq rfl) (pc' := 250) rfl nofun nofun (by decide) (by decide) (k' := 1) (n' := 3) rfl rfl (by decide) (by decide) (fun vh85 h85 zh85 Kh85 qh85 => ?_)
    obtain rfl := qh85
    replace V_b68 := V_b68.keep Kh85 nin0
    refine Wp.eqS (S' := [(.int (if p3 < ((3 : Int32) - ((if own_hi c10 && own_lo c22 then (1 : Int32) else 0) + (if own_hi c22 && own_lo c31 then (1 : Int32) else 0))) then p3 else ((3 : Int32) - ((if own_hi c10 && own_lo c22 then (1 : Int32) else 0) + (if own_hi c22 && own_lo c31 then (1 : Int32) else 0)))))]) rfl ?_
    refine Wp.istore (l' := #[.val (.int p0), .val (.int p1), .val (.int p2), .val (.int p3), .val (.int p4), .val (.int (3 : Int32)), .val (.int c10), .val (.int c22), .val (.int c31), .val (.int c44), .val (.ref b68), .val (.int ((if own_hi c10 && own_lo c22 then (1 : Int32) else 0) + (if own_hi c22 && own_lo c31 then (1 : Int32) else 0))), .val (.int ((3 : Int32) - ((if own_hi c10 && own_lo c22 then (1 : Int32) else 0) + (if own_hi c22 && own_lo c31 then (1 : Int32) else 0)))), .val (.int (if p3 < ((3 : Int32) - ((if own_hi c10 && own_lo c22 then (1 : Int32) else 0) + (if own_hi c22 && own_lo c31 then (1 : Int32) else 0))) then p3 else ((3 : Int32) - ((if own_hi c10 && own_lo c22 then (1 : Int32) else 0) + (if own_hi c22 && own_lo c31 then (1 : Int32) else 0))))), .unset, .unset, .unset]) at_250 (pc' := 252) rfl rfl ?_
    refine Wp.iload at_252 (pc' := 254) rfl rfl ?_
    refine Wp.iload at_254 (pc' := 256) rfl rfl ?_
    refine Wp.old fun hOc => ?_
    refine Wp.callS (W := 0) (argsL := [(.int ((3 : Int32) - ((if own_hi c10 && own_lo c22 then (1 : Int32) else 0) + (if own_hi c22 && own_lo c31 then (1 : Int32) else 0)))), (.int p4)]) (rest := []) rfl (ctMAX l Z a0 hw hE ((3 : Int32) - ((if own_hi c10 && own_lo c22 then (1 : Int32) else 0) + (if own_hi c22 && own_lo c31 then (1 : Int32) else 0))) p4 h85 hOc) (hw _ (List.mem_of_getElem? (i := 10) rfl)) (hw _ (List.mem_of_getElem? (i := 11) rfl)) (hw _ (List.mem_of_getElem? (i := 12) rfl)) (hw _ (List.mem_of_getElem? (i := 8) rfl)) (by decide) (lenOf pd__II_I rfl) at_256 rfl rfl rfl (Nat.le_of_eq rfl) (pc' := 259) rfl nofun nofun (by decide) (by decide) (k' := 1) (n' := 3) rfl rfl (by decide) (by decide) (fun vh86 h86 zh86 Kh86 qh86 => ?_)
    obtain rfl := qh86
    replace V_b68 := V_b68.keep Kh86 nin0
    refine Wp.eqS (S' := [(.int (if ((3 : Int32) - ((if own_hi c10 && own_lo c22 then (1 : Int32) else 0) + (if own_hi c22 && own_lo c31 then (1 : Int32) else 0))) < p4 then p4 else ((3 : Int32) - ((if own_hi c10 && own_lo c22 then (1 : Int32) else 0) + (if own_hi c22 && own_lo c31 then (1 : Int32) else 0)))))]) rfl ?_
    refine Wp.istore (l' := #[.val (.int p0), .val (.int p1), .val (.int p2), .val (.int p3), .val (.int p4), .val (.int (3 : Int32)), .val (.int c10), .val (.int c22), .val (.int c31), .val (.int c44), .val (.ref b68), .val (.int ((if own_hi c10 && own_lo c22 then (1 : Int32) else 0) + (if own_hi c22 && own_lo c31 then (1 : Int32) else 0))), .val (.int ((3 : Int32) - ((if own_hi c10 && own_lo c22 then (1 : Int32) else 0) + (if own_hi c22 && own_lo c31 then (1 : Int32) else 0)))), .val (.int (if p3 < ((3 : Int32) - ((if own_hi c10 && own_lo c22 then (1 : Int32) else 0) + (if own_hi c22 && own_lo c31 then (1 : Int32) else 0))) then p3 else ((3 : Int32) - ((if own_hi c10 && own_lo c22 then (1 : Int32) else 0) + (if own_hi c22 && own_lo c31 then (1 : Int32) else 0))))), .val (.int (if ((3 : Int32) - ((if own_hi c10 && own_lo c22 then (1 : Int32) else 0) + (if own_hi c22 && own_lo c31 then (1 : Int32) else 0))) < p4 then p4 else ((3 : Int32) - ((if own_hi c10 && own_lo c22 then (1 : Int32) else 0) + (if own_hi c22 && own_lo c31 then (1 : Int32) else 0))))), .unset, .unset]) at_259 (pc' := 261) rfl rfl ?_
    refine Wp.new rfl (hw _ (List.mem_of_getElem? (i := 13) rfl)) (hw _ (List.mem_of_getElem? (i := 14) rfl)) (hw _ (List.mem_of_getElem? (i := 15) rfl)) at_261 (pc' := 264) rfl (k' := 2) (n' := 7) rfl rfl (by decide) (by decide) (fun h87 b87 g_b87 sz_b87 Xh87 E_b87 D_b87 => ?_)
    have ne_b68_b87 : b68 ≠ b87 := Nat.ne_of_lt (Nat.lt_of_lt_of_eq V_b68.lt g_b87.symm)
    replace V_b68 := V_b68.ext Xh87
    have F_value_b87 : Fld Z h87 b87 "java/lang/String" "value" "[B" .null := D_b87 (Or.inr (hw _ (List.mem_of_getElem? (i := 28) rfl))) (ty := (.array .byte)) (by decide)
    have F_coder_b87 : Fld Z h87 b87 "java/lang/String" "coder" "B" (.int (0 : Int32)) := D_b87 (Or.inr (hw _ (List.mem_of_getElem? (i := 29) rfl))) (ty := .byte) (by decide)
    clear D_b87
    refine Wp.dup at_264 (pc' := 265) rfl rfl ?_
    refine Wp.aload at_265 (pc' := 267) rfl rfl rfl ?_
    refine Wp.old fun hOc => ?_
    have V_cs : Arv Z h87 b68 k_b68 .char (Int32.ofNat ([c10, c22, c31] : List Int32).length) (([c10, c22, c31] : List Int32).map Value.int) (.int 0) := by simpa [n_c10, n_c22, n_c31] using V_b68
    have h16_ : ∀ c ∈ ([c10, c22, c31] : List Int32), nar .char c = c := by intro c hc; simp only [List.mem_cons, List.not_mem_nil, or_false] at hc; rcases hc with rfl | rfl | rfl <;> assumption
    refine Wp.callI (a := b87) (W := 1) (argsL := [(.ref b68)]) (rest := [(.ref b87)]) rfl (ctSI l Z a0 hw hE b87 b68 k_b68 [c10, c22, c31] cz h87 hOc hU (Nat.le_of_ble_eq_true rfl) (Nat.le_of_ble_eq_true rfl) h16_ V_cs E_b87 F_value_b87 F_coder_b87 (Nat.le_trans hO.1 sz_b87) ne_b68_b87 hco hcz) rfl rfl (hw _ (List.mem_of_getElem? (i := 16) rfl)) (hw _ (List.mem_of_getElem? (i := 17) rfl)) (hw _ (List.mem_of_getElem? (i := 18) rfl)) (hw _ (List.mem_of_getElem? (i := 15) rfl)) (by decide) (lenOf pd___C_V rfl) at_267 rfl rfl rfl (Nat.le_of_eq rfl) (pc' := 270) rfl (by simp) (by intro x hx; simp only [List.mem_cons, List.not_mem_nil, or_false] at hx; rcases hx with rfl; exact (Or.inr sz_b87)) (by decide) (by decide) (k' := 6) (n' := 19) rfl rfl (by decide) (by decide) (fun vh88 h88 zh88 Kh88 qh88 => ?_)
    obtain ⟨rfl, S_s⟩ := qh88
    replace V_b68 := V_b68.keep Kh88 (ninS ne_b68_b87 nin0)
    replace E_b87 := E_b87.keep Kh88
    refine Wp.eqS (S' := [(.ref b87)]) rfl ?_
    refine Wp.astore (l' := #[.val (.int p0), .val (.int p1), .val (.int p2), .val (.int p3), .val (.int p4), .val (.int (3 : Int32)), .val (.int c10), .val (.int c22), .val (.int c31), .val (.int c44), .val (.ref b68), .val (.int ((if own_hi c10 && own_lo c22 then (1 : Int32) else 0) + (if own_hi c22 && own_lo c31 then (1 : Int32) else 0))), .val (.int ((3 : Int32) - ((if own_hi c10 && own_lo c22 then (1 : Int32) else 0) + (if own_hi c22 && own_lo c31 then (1 : Int32) else 0)))), .val (.int (if p3 < ((3 : Int32) - ((if own_hi c10 && own_lo c22 then (1 : Int32) else 0) + (if own_hi c22 && own_lo c31 then (1 : Int32) else 0))) then p3 else ((3 : Int32) - ((if own_hi c10 && own_lo c22 then (1 : Int32) else 0) + (if own_hi c22 && own_lo c31 then (1 : Int32) else 0))))), .val (.int (if ((3 : Int32) - ((if own_hi c10 && own_lo c22 then (1 : Int32) else 0) + (if own_hi c22 && own_lo c31 then (1 : Int32) else 0))) < p4 then p4 else ((3 : Int32) - ((if own_hi c10 && own_lo c22 then (1 : Int32) else 0) + (if own_hi c22 && own_lo c31 then (1 : Int32) else 0))))), .val (.ref b87), .unset]) at_270 (pc' := 272) rfl rfl rfl ?_
    refine Wp.ldcO (nn := 16) rfl rfl (hw _ (List.mem_of_getElem? (i := 34) rfl)) (own_wS hw) at_272 (pc' := 274) rfl (by decide) (by decide) (k' := 8) (n' := 39) rfl rfl (by decide) (by decide) (fun h89 c89 Xh89 => ?_)
    replace V_b68 := V_b68.ext Xh89
    replace E_b87 := E_b87.ext Xh89
    replace S_s := S_s.ext Xh89
    refine Wp.aload at_274 (pc' := 276) rfl rfl rfl ?_
    refine Wp.iload at_276 (pc' := 278) rfl rfl ?_
    refine Wp.iload at_278 (pc' := 280) rfl rfl ?_
    refine Wp.old fun hOc => ?_
    have hk : ((3 : Int32) - ((if own_hi c10 && own_lo c22 then (1 : Int32) else 0) + (if own_hi c22 && own_lo c31 then (1 : Int32) else 0))) = Int32.ofNat ([c10, c22, c31] : List Int32).length - Int32.ofNat (own_pairs [c10, c22, c31]) := own_k3 _ _ _ _ (own_ex c22)
    refine Wp.callS (W := 0) (argsL := [(.ref c89), (.ref b87), (.int (if p3 < ((3 : Int32) - ((if own_hi c10 && own_lo c22 then (1 : Int32) else 0) + (if own_hi c22 && own_lo c31 then (1 : Int32) else 0))) then p3 else ((3 : Int32) - ((if own_hi c10 && own_lo c22 then (1 : Int32) else 0) + (if own_hi c22 && own_lo c31 then (1 : Int32) else 0))))), (.int (if ((3 : Int32) - ((if own_hi c10 && own_lo c22 then (1 : Int32) else 0) + (if own_hi c22 && own_lo c31 then (1 : Int32) else 0))) < p4 then p4 else ((3 : Int32) - ((if own_hi c10 && own_lo c22 then (1 : Int32) else 0) + (if own_hi c22 && own_lo c31 then (1 : Int32) else 0)))))]) (rest := []) rfl (ctCHK l Z a0 hw hE c89 b87 (if p3 < ((3 : Int32) - ((if own_hi c10 && own_lo c22 then (1 : Int32) else 0) + (if own_hi c22 && own_lo c31 then (1 : Int32) else 0))) then p3 else ((3 : Int32) - ((if own_hi c10 && own_lo c22 then (1 : Int32) else 0) + (if own_hi c22 && own_lo c31 then (1 : Int32) else 0)))) (if ((3 : Int32) - ((if own_hi c10 && own_lo c22 then (1 : Int32) else 0) + (if own_hi c22 && own_lo c31 then (1 : Int32) else 0))) < p4 then p4 else ((3 : Int32) - ((if own_hi c10 && own_lo c22 then (1 : Int32) else 0) + (if own_hi c22 && own_lo c31 then (1 : Int32) else 0)))) [c10, c22, c31] cz h89 hOc S_s hU h16_ (Nat.le_of_ble_eq_true rfl) hco hcz (hk ▸ own_mn _ _) (hk ▸ own_mx _ _)) (hw _ (List.mem_of_getElem? (i := 35) rfl)) (hw _ (List.mem_of_getElem? (i := 36) rfl)) (hw _ (List.mem_of_getElem? (i := 38) rfl)) (hw _ (List.mem_of_getElem? (i := 37) rfl)) (by decide) (lenOf pd__Ljava_lang_String_Ljava_lang_String_II_Ljava_lang_String_ rfl) at_280 rfl rfl rfl (Nat.le_of_eq rfl) (pc' := 283) rfl nofun nofun (by decide) (by decide) (k' := 8) (n' := 39) rfl rfl (by decide) (by decide) (fun vh90 h90 zh90 Kh90 qh90 => ?_)
    obtain rfl := qh90
    replace S_s := S_s.keep0 Kh90
    replace V_b68 := V_b68.keep Kh90 nin0
    replace E_b87 := E_b87.keep Kh90
    refine Wp.eqS (S' := [(.ref b87)]) rfl ?_
    refine Wp.astore (l' := #[.val (.int p0), .val (.int p1), .val (.int p2), .val (.int p3), .val (.int p4), .val (.int (3 : Int32)), .val (.int c10), .val (.int c22), .val (.int c31), .val (.int c44), .val (.ref b68), .val (.int ((if own_hi c10 && own_lo c22 then (1 : Int32) else 0) + (if own_hi c22 && own_lo c31 then (1 : Int32) else 0))), .val (.int ((3 : Int32) - ((if own_hi c10 && own_lo c22 then (1 : Int32) else 0) + (if own_hi c22 && own_lo c31 then (1 : Int32) else 0)))), .val (.int (if p3 < ((3 : Int32) - ((if own_hi c10 && own_lo c22 then (1 : Int32) else 0) + (if own_hi c22 && own_lo c31 then (1 : Int32) else 0))) then p3 else ((3 : Int32) - ((if own_hi c10 && own_lo c22 then (1 : Int32) else 0) + (if own_hi c22 && own_lo c31 then (1 : Int32) else 0))))), .val (.int (if ((3 : Int32) - ((if own_hi c10 && own_lo c22 then (1 : Int32) else 0) + (if own_hi c22 && own_lo c31 then (1 : Int32) else 0))) < p4 then p4 else ((3 : Int32) - ((if own_hi c10 && own_lo c22 then (1 : Int32) else 0) + (if own_hi c22 && own_lo c31 then (1 : Int32) else 0))))), .val (.ref b87), .val (.ref b87)]) at_283 (pc' := 285) rfl rfl rfl ?_
    refine Wp.aload at_285 (pc' := 287) rfl rfl rfl ?_
    refine Wp.aload at_287 (pc' := 289) rfl rfl rfl ?_
    refine Wp.acmp_ne (pc1 := 296) (pc' := 292) rfl rfl at_289 (by decide) (by decide) rfl (fun hc91 => by exact absurd rfl hc91) (fun hc91 => ?_)
    refine Wp.iconst (x := (1 : Int32)) at_292 (pc' := 293) rfl rfl ?_
    refine Wp.goto (pc' := 297) at_293 (by decide) (by decide) ?_
    refine Wp.retN (x' := (1 : Int32)) (t := .boolean) rfl (by simp) rfl at_297 (by decide) (by decide) ?_
    rfl
  · rw [hl]
    refine Wp.istore (l' := #[.val (.int p0), .val (.int p1), .val (.int p2), .val (.int p3), .val (.int p4), .val (.int (4 : Int32)), .unset, .unset, .unset, .unset, .unset, .unset, .unset, .unset, .unset, .unset, .unset]) at_6 (pc' := 8) rfl rfl ?_
    refine Wp.iloadN at_8 (pc' := 9) rfl rfl ?_
    refine Wp.iloadN at_9 (pc' := 10) rfl rfl ?_
    refine Wp.old fun hOc => ?_
    refine Wp.callS (W := 0) (argsL := [(.int p2), (.int p0)]) (rest := []) rfl (ctDR l Z a0 hw hE p2 p0 h0 hOc) (hw _ (List.mem_of_getElem? (i := 0) rfl)) (hw _ (List.mem_of_getElem? (i := 1) rfl)) (hw _ (List.mem_of_getElem? (i := 3) rfl)) (hw _ (List.mem_of_getElem? (i := 2) rfl)) (by decide) (lenOf pd__II_C rfl) at_10 rfl rfl rfl (Nat.le_of_eq rfl) (pc' := 13) rfl nofun nofun (by decide) (by decide) (k' := 0) (n' := 0) rfl rfl (by decide) (by decide) (fun vh92 h92 zh92 Kh92 qh92 => ?_)
    obtain ⟨c10, rfl, n_c10⟩ := qh92
    refine Wp.eqS (S' := [(.int c10)]) rfl ?_
    refine Wp.istore (l' := #[.val (.int p0), .val (.int p1), .val (.int p2), .val (.int p3), .val (.int p4), .val (.int (4 : Int32)), .val (.int c10), .unset, .unset, .unset, .unset, .unset, .unset, .unset, .unset, .unset, .unset]) at_13 (pc' := 15) rfl rfl ?_
    refine Wp.iloadN at_15 (pc' := 16) rfl rfl ?_
    refine Wp.iconst (x := (2 : Int32)) at_16 (pc' := 17) rfl rfl ?_
    refine Wp.iushr at_17 (pc' := 18) rfl ?_
    refine Wp.iloadN at_18 (pc' := 19) rfl rfl ?_
    refine Wp.bipush (x := (16 : Int32)) at_19 (pc' := 21) rfl rfl ?_
    refine Wp.iushr at_21 (pc' := 22) rfl ?_
    refine Wp.old fun hOc => ?_
    refine Wp.callS (W := 0) (argsL := [(.int ((p2.toUInt32 >>> ((2 : Int32) &&& 31).toUInt32).toInt32)), (.int ((p0.toUInt32 >>> ((16 : Int32) &&& 31).toUInt32).toInt32))]) (rest := []) rfl (ctDR l Z a0 hw hE ((p2.toUInt32 >>> ((2 : Int32) &&& 31).toUInt32).toInt32) ((p0.toUInt32 >>> ((16 : Int32) &&& 31).toUInt32).toInt32) h92 hOc) (hw _ (List.mem_of_getElem? (i := 0) rfl)) (hw _ (List.mem_of_getElem? (i := 1) rfl)) (hw _ (List.mem_of_getElem? (i := 3) rfl)) (hw _ (List.mem_of_getElem? (i := 2) rfl)) (by decide) (lenOf pd__II_C rfl) at_22 rfl rfl rfl (Nat.le_of_eq rfl) (pc' := 25) rfl nofun nofun (by decide) (by decide) (k' := 0) (n' := 0) rfl rfl (by decide) (by decide) (fun vh93 h93 zh93 Kh93 qh93 => ?_)
    obtain ⟨c22, rfl, n_c22⟩ := qh93
    refine Wp.eqS (S' := [(.int c22)]) rfl ?_
    refine Wp.istore (l' := #[.val (.int p0), .val (.int p1), .val (.int p2), .val (.int p3), .val (.int p4), .val (.int (4 : Int32)), .val (.int c10), .val (.int c22), .unset, .unset, .unset, .unset, .unset, .unset, .unset, .unset, .unset]) at_25 (pc' := 27) rfl rfl ?_
    refine Wp.iloadN at_27 (pc' := 28) rfl rfl ?_
    refine Wp.iconst (x := (4 : Int32)) at_28 (pc' := 29) rfl rfl ?_
    refine Wp.iushr at_29 (pc' := 30) rfl ?_
    refine Wp.iloadN at_30 (pc' := 31) rfl rfl ?_
    refine Wp.old fun hOc => ?_
    refine Wp.callS (W := 0) (argsL := [(.int ((p2.toUInt32 >>> ((4 : Int32) &&& 31).toUInt32).toInt32)), (.int p1)]) (rest := []) rfl (ctDR l Z a0 hw hE ((p2.toUInt32 >>> ((4 : Int32) &&& 31).toUInt32).toInt32) p1 h93 hOc) (hw _ (List.mem_of_getElem? (i := 0) rfl)) (hw _ (List.mem_of_getElem? (i := 1) rfl)) (hw _ (List.mem_of_getElem? (i := 3) rfl)) (hw _ (List.mem_of_getElem? (i := 2) rfl)) (by decide) (lenOf pd__II_C rfl) at_31 rfl rfl rfl (Nat.le_of_eq rfl) (pc' := 34) rfl nofun nofun (by decide) (by decide) (k' := 0) (n' := 0) rfl rfl (by decide) (by decide) (fun vh94 h94 zh94 Kh94 qh94 => ?_)
    obtain ⟨c31, rfl, n_c31⟩ := qh94
    refine Wp.eqS (S' := [(.int c31)]) rfl ?_
    refine Wp.istore (l' := #[.val (.int p0), .val (.int p1), .val (.int p2), .val (.int p3), .val (.int p4), .val (.int (4 : Int32)), .val (.int c10), .val (.int c22), .val (.int c31), .unset, .unset, .unset, .unset, .unset, .unset, .unset, .unset]) at_34 (pc' := 36) rfl rfl ?_
    refine Wp.iloadN at_36 (pc' := 37) rfl rfl ?_
    refine Wp.bipush (x := (6 : Int32)) at_37 (pc' := 39) rfl rfl ?_
    refine Wp.iushr at_39 (pc' := 40) rfl ?_
    refine Wp.iloadN at_40 (pc' := 41) rfl rfl ?_
    refine Wp.bipush (x := (16 : Int32)) at_41 (pc' := 43) rfl rfl ?_
    refine Wp.iushr at_43 (pc' := 44) rfl ?_
    refine Wp.old fun hOc => ?_
    refine Wp.callS (W := 0) (argsL := [(.int ((p2.toUInt32 >>> ((6 : Int32) &&& 31).toUInt32).toInt32)), (.int ((p1.toUInt32 >>> ((16 : Int32) &&& 31).toUInt32).toInt32))]) (rest := []) rfl (ctDR l Z a0 hw hE ((p2.toUInt32 >>> ((6 : Int32) &&& 31).toUInt32).toInt32) ((p1.toUInt32 >>> ((16 : Int32) &&& 31).toUInt32).toInt32) h94 hOc) (hw _ (List.mem_of_getElem? (i := 0) rfl)) (hw _ (List.mem_of_getElem? (i := 1) rfl)) (hw _ (List.mem_of_getElem? (i := 3) rfl)) (hw _ (List.mem_of_getElem? (i := 2) rfl)) (by decide) (lenOf pd__II_C rfl) at_44 rfl rfl rfl (Nat.le_of_eq rfl) (pc' := 47) rfl nofun nofun (by decide) (by decide) (k' := 0) (n' := 0) rfl rfl (by decide) (by decide) (fun vh95 h95 zh95 Kh95 qh95 => ?_)
    obtain ⟨c44, rfl, n_c44⟩ := qh95
    refine Wp.eqS (S' := [(.int c44)]) rfl ?_
    refine Wp.istore (l' := #[.val (.int p0), .val (.int p1), .val (.int p2), .val (.int p3), .val (.int p4), .val (.int (4 : Int32)), .val (.int c10), .val (.int c22), .val (.int c31), .val (.int c44), .unset, .unset, .unset, .unset, .unset, .unset, .unset]) at_47 (pc' := 49) rfl rfl ?_
    refine Wp.iload at_49 (pc' := 51) rfl rfl ?_
    refine Wp.if_ne (pc1 := 62) (pc' := 54) at_51 (by decide) (by decide) rfl (fun hc96 => ?_) (fun hc96 => by exact absurd hc96 (by decide))
    refine Wp.iload at_62 (pc' := 64) rfl rfl ?_
    refine Wp.iconst (x := (1 : Int32)) at_64 (pc' := 65) rfl rfl ?_
    refine Wp.icmp_ne (pc1 := 81) (pc' := 68) at_65 (by decide) (by decide) rfl (fun hc97 => ?_) (fun hc97 => by exact absurd hc97 (by decide))
    refine Wp.iload at_81 (pc' := 83) rfl rfl ?_
    refine Wp.iconst (x := (2 : Int32)) at_83 (pc' := 84) rfl rfl ?_
    refine Wp.icmp_ne (pc1 := 105) (pc' := 87) at_84 (by decide) (by decide) rfl (fun hc98 => ?_) (fun hc98 => by exact absurd hc98 (by decide))
    refine Wp.iload at_105 (pc' := 107) rfl rfl ?_
    refine Wp.iconst (x := (3 : Int32)) at_107 (pc' := 108) rfl rfl ?_
    refine Wp.icmp_ne (pc1 := 134) (pc' := 111) at_108 (by decide) (by decide) rfl (fun hc99 => ?_) (fun hc99 => by exact absurd hc99 (by decide))
    refine Wp.iconst (x := (4 : Int32)) at_134 (pc' := 135) rfl rfl ?_
    refine Wp.newP (cap := 4) (hw _ (List.mem_of_getElem? (i := 5) rfl)) (by decide) (by decide) (by decide) at_135 (pc' := 137) rfl (k' := 1) (n' := 4) rfl rfl (by decide) (by decide) (fun h100 b100 k_b100 g_b100 sz_b100 Xh100 V_b100 => ?_)
    replace V_b100 : Arv Z h100 b100 k_b100 .char (4 : Int32) [(.int (0 : Int32)), (.int (0 : Int32)), (.int (0 : Int32)), (.int (0 : Int32))] (.int (0 : Int32)) := V_b100.pad (pad_rep [] (.int (0 : Int32)) 4)
    refine Wp.dup at_137 (pc' := 138) rfl rfl ?_
    refine Wp.iconst (x := (0 : Int32)) at_138 (pc' := 139) rfl rfl ?_
    refine Wp.iload at_139 (pc' := 141) rfl rfl ?_
    refine Wp.castore V_b100 (by decide) (by decide) (i := 0) rfl (Nat.le_of_ble_eq_true rfl) at_141 (pc' := 142) rfl (Or.inr sz_b100) (fun h101 W101 Vh101 => ?_)
    replace V_b100 : Arv Z h101 b100 k_b100 .char (4 : Int32) [(.int (nar .char c10)), (.int (0 : Int32)), (.int (0 : Int32)), (.int (0 : Int32))] (.int (0 : Int32)) := Vh101
    refine Wp.dup at_142 (pc' := 143) rfl rfl ?_
    refine Wp.iconst (x := (1 : Int32)) at_143 (pc' := 144) rfl rfl ?_
    refine Wp.iload at_144 (pc' := 146) rfl rfl ?_
    refine Wp.castore V_b100 (by decide) (by decide) (i := 1) rfl (Nat.le_of_ble_eq_true rfl) at_146 (pc' := 147) rfl (Or.inr sz_b100) (fun h102 W102 Vh102 => ?_)
    replace V_b100 : Arv Z h102 b100 k_b100 .char (4 : Int32) [(.int (nar .char c10)), (.int (nar .char c22)), (.int (0 : Int32)), (.int (0 : Int32))] (.int (0 : Int32)) := Vh102
    refine Wp.dup at_147 (pc' := 148) rfl rfl ?_
    refine Wp.iconst (x := (2 : Int32)) at_148 (pc' := 149) rfl rfl ?_
    refine Wp.iload at_149 (pc' := 151) rfl rfl ?_
    refine Wp.castore V_b100 (by decide) (by decide) (i := 2) rfl (Nat.le_of_ble_eq_true rfl) at_151 (pc' := 152) rfl (Or.inr sz_b100) (fun h103 W103 Vh103 => ?_)
    replace V_b100 : Arv Z h103 b100 k_b100 .char (4 : Int32) [(.int (nar .char c10)), (.int (nar .char c22)), (.int (nar .char c31)), (.int (0 : Int32))] (.int (0 : Int32)) := Vh103
    refine Wp.dup at_152 (pc' := 153) rfl rfl ?_
    refine Wp.iconst (x := (3 : Int32)) at_153 (pc' := 154) rfl rfl ?_
    refine Wp.iload at_154 (pc' := 156) rfl rfl ?_
    refine Wp.castore V_b100 (by decide) (by decide) (i := 3) rfl (Nat.le_of_ble_eq_true rfl) at_156 (pc' := 157) rfl (Or.inr sz_b100) (fun h104 W104 Vh104 => ?_)
    replace V_b100 : Arv Z h104 b100 k_b100 .char (4 : Int32) [(.int (nar .char c10)), (.int (nar .char c22)), (.int (nar .char c31)), (.int (nar .char c44))] (.int (0 : Int32)) := Vh104
    refine Wp.astore (l' := #[.val (.int p0), .val (.int p1), .val (.int p2), .val (.int p3), .val (.int p4), .val (.int (4 : Int32)), .val (.int c10), .val (.int c22), .val (.int c31), .val (.int c44), .val (.ref b100), .unset, .unset, .unset, .unset, .unset, .unset]) at_157 (pc' := 159) rfl rfl rfl ?_
    refine Wp.iconst (x := (0 : Int32)) at_159 (pc' := 160) rfl rfl ?_
    refine Wp.istore (l' := #[.val (.int p0), .val (.int p1), .val (.int p2), .val (.int p3), .val (.int p4), .val (.int (4 : Int32)), .val (.int c10), .val (.int c22), .val (.int c31), .val (.int c44), .val (.ref b100), .val (.int (0 : Int32)), .unset, .unset, .unset, .unset, .unset]) at_160 (pc' := 162) rfl rfl ?_
    refine Wp.iload at_162 (pc' := 164) rfl rfl ?_
    refine Wp.iconst (x := (2 : Int32)) at_164 (pc' := 165) rfl rfl ?_
    refine Wp.icmp_lt (pc1 := 187) (pc' := 168) at_165 (by decide) (by decide) rfl (fun hc105 => by exact absurd hc105 (by decide)) (fun hc105 => ?_)
    suffices hj187 : ∀ hh, Keep h104 hh [] → Ext Z.heap hh → Wp true l Z a0 [("java/lang/String", 7)] room_1 x code maxLocals ret h0 [] (fun v h => v = some (.int 1)) hh [b100] 1 4 187 #[.val (.int p0), .val (.int p1), .val (.int p2), .val (.int p3), .val (.int p4), .val (.int (4 : Int32)), .val (.int c10), .val (.int c22), .val (.int c31), .val (.int c44), .val (.ref b100), .val (.int (if own_hi c10 && own_lo c22 then (1 : Int32) else 0)), .unset, .unset, .unset, .unset, .unset] [] by
      have KK := Keep.refl h104 []
      refine Wp.iload at_168 (pc' := 170) rfl rfl ?_
      refine Wp.old fun hOc => ?_
      refine Wp.callS (W := 0) (argsL := [(.int c10)]) (rest := []) rfl (ct_hi l Z a0 hw hE c10 h104 hOc) (hw _ (List.mem_of_getElem? (i := 106) rfl)) (hw _ (List.mem_of_getElem? (i := 107) rfl)) (hw _ (List.mem_of_getElem? (i := 108) rfl)) (hw _ (List.mem_of_getElem? (i := 2) rfl)) (by decide) (lenOf pd__C_Z rfl) at_170 rfl rfl rfl (Nat.le_of_eq rfl) (pc' := 173) rfl nofun nofun (by decide) (by decide) (k' := 1) (n' := 4) rfl rfl (by decide) (by decide) (fun vh106 h106 zh106 Kh106 qh106 => ?_)
      obtain rfl := qh106
      replace V_b100 := V_b100.keep Kh106 nin0
      replace KK := KK.trans Kh106 (fun _ q => nomatch q)
      refine Wp.eqS (S' := [(.int (if own_hi c10 then (1 : Int32) else 0))]) rfl ?_
      refine Wp.if_eq (pc1 := 187) (pc' := 176) at_173 (by decide) (by decide) rfl (fun hc107 => ?_) (fun hc107 => ?_)
      · have hc107 : (if own_hi c10 then (1 : Int32) else 0) = (0 : Int32) := hc107
        have z0 := hc107
        simp at z0
        have e : (if own_hi c10 && own_lo c22 then (1 : Int32) else 0) = 0 := by simp [z0]
        rw [e] at hj187
        refine Wp.old fun hOc => ?_
        exact hj187 _ KK hOc
      · have hc107 : ¬ ((if own_hi c10 then (1 : Int32) else 0) = (0 : Int32)) := hc107
        refine Wp.iload at_176 (pc' := 178) rfl rfl ?_
        refine Wp.old fun hOc => ?_
        refine Wp.callS (W := 0) (argsL := [(.int c22)]) (rest := []) rfl (ct_lo l Z a0 hw hE c22 h106 hOc) (hw _ (List.mem_of_getElem? (i := 116) rfl)) (hw _ (List.mem_of_getElem? (i := 117) rfl)) (hw _ (List.mem_of_getElem? (i := 118) rfl)) (hw _ (List.mem_of_getElem? (i := 2) rfl)) (by decide) (lenOf pd__C_Z rfl) at_178 rfl rfl rfl (Nat.le_of_eq rfl) (pc' := 181) rfl nofun nofun (by decide) (by decide) (k' := 1) (n' := 4) rfl rfl (by decide) (by decide) (fun vh108 h108 zh108 Kh108 qh108 => ?_)
        obtain rfl := qh108
        replace V_b100 := V_b100.keep Kh108 nin0
        replace KK := KK.trans Kh108 (fun _ q => nomatch q)
        refine Wp.eqS (S' := [(.int (if own_lo c22 then (1 : Int32) else 0))]) rfl ?_
        refine Wp.if_eq (pc1 := 187) (pc' := 184) at_181 (by decide) (by decide) rfl (fun hc109 => ?_) (fun hc109 => ?_)
        · have hc109 : (if own_lo c22 then (1 : Int32) else 0) = (0 : Int32) := hc109
          have z0 := hc107
          simp at z0
          have z1 := hc109
          simp at z1
          have e : (if own_hi c10 && own_lo c22 then (1 : Int32) else 0) = 0 := by simp [z0, z1]
          rw [e] at hj187
          refine Wp.old fun hOc => ?_
          exact hj187 _ KK hOc
        · have hc109 : ¬ ((if own_lo c22 then (1 : Int32) else 0) = (0 : Int32)) := hc109
          refine Wp.iinc (l' := #[.val (.int p0), .val (.int p1), .val (.int p2), .val (.int p3), .val (.int p4), .val (.int (4 : Int32)), .val (.int c10), .val (.int c22), .val (.int c31), .val (.int c44), .val (.ref b100), .val (.int (1 : Int32)), .unset, .unset, .unset, .unset, .unset]) at_184 (pc' := 187) rfl rfl rfl ?_
          have z0 := hc107
          simp at z0
          have z1 := hc109
          simp at z1
          have e : (if own_hi c10 && own_lo c22 then (1 : Int32) else 0) = 1 := by simp [z0, z1]
          rw [e] at hj187
          refine Wp.old fun hOc => ?_
          exact hj187 _ KK hOc
    intro h110 KJh110 hOc
    replace V_b100 := V_b100.keep KJh110 nin0
    refine Wp.iload at_187 (pc' := 189) rfl rfl ?_
    refine Wp.iconst (x := (3 : Int32)) at_189 (pc' := 190) rfl rfl ?_
    refine Wp.icmp_lt (pc1 := 212) (pc' := 193) at_190 (by decide) (by decide) rfl (fun hc111 => by exact absurd hc111 (by decide)) (fun hc111 => ?_)
    suffices hj212 : ∀ hh, Keep h110 hh [] → Ext Z.heap hh → Wp true l Z a0 [("java/lang/String", 7)] room_1 x code maxLocals ret h0 [] (fun v h => v = some (.int 1)) hh [b100] 1 4 212 #[.val (.int p0), .val (.int p1), .val (.int p2), .val (.int p3), .val (.int p4), .val (.int (4 : Int32)), .val (.int c10), .val (.int c22), .val (.int c31), .val (.int c44), .val (.ref b100), .val (.int ((if own_hi c10 && own_lo c22 then (1 : Int32) else 0) + (if own_hi c22 && own_lo c31 then (1 : Int32) else 0))), .unset, .unset, .unset, .unset, .unset] [] by
      have KK := Keep.refl h110 []
      refine Wp.iload at_193 (pc' := 195) rfl rfl ?_
      refine Wp.old fun hOc => ?_
      refine Wp.callS (W := 0) (argsL := [(.int c22)]) (rest := []) rfl (ct_hi l Z a0 hw hE c22 h110 hOc) (hw _ (List.mem_of_getElem? (i := 106) rfl)) (hw _ (List.mem_of_getElem? (i := 107) rfl)) (hw _ (List.mem_of_getElem? (i := 108) rfl)) (hw _ (List.mem_of_getElem? (i := 2) rfl)) (by decide) (lenOf pd__C_Z rfl) at_195 rfl rfl rfl (Nat.le_of_eq rfl) (pc' := 198) rfl nofun nofun (by decide) (by decide) (k' := 1) (n' := 4) rfl rfl (by decide) (by decide) (fun vh112 h112 zh112 Kh112 qh112 => ?_)
      obtain rfl := qh112
      replace V_b100 := V_b100.keep Kh112 nin0
      replace KK := KK.trans Kh112 (fun _ q => nomatch q)
      refine Wp.eqS (S' := [(.int (if own_hi c22 then (1 : Int32) else 0))]) rfl ?_
      refine Wp.if_eq (pc1 := 212) (pc' := 201) at_198 (by decide) (by decide) rfl (fun hc113 => ?_) (fun hc113 => ?_)
      · have hc113 : (if own_hi c22 then (1 : Int32) else 0) = (0 : Int32) := hc113
        have z0 := hc113
        simp at z0
        have e : (if own_hi c22 && own_lo c31 then (1 : Int32) else 0) = 0 := by simp [z0]
        rw [e, Int32.add_zero] at hj212
        refine Wp.old fun hOc => ?_
        exact hj212 _ KK hOc
      · have hc113 : ¬ ((if own_hi c22 then (1 : Int32) else 0) = (0 : Int32)) := hc113
        refine Wp.iload at_201 (pc' := 203) rfl rfl ?_
        refine Wp.old fun hOc => ?_
        refine Wp.callS (W := 0) (argsL := [(.int c31)]) (rest := []) rfl (ct_lo l Z a0 hw hE c31 h112 hOc) (hw _ (List.mem_of_getElem? (i := 116) rfl)) (hw _ (List.mem_of_getElem? (i := 117) rfl)) (hw _ (List.mem_of_getElem? (i := 118) rfl)) (hw _ (List.mem_of_getElem? (i := 2) rfl)) (by decide) (lenOf pd__C_Z rfl) at_203 rfl rfl rfl (Nat.le_of_eq rfl) (pc' := 206) rfl nofun nofun (by decide) (by decide) (k' := 1) (n' := 4) rfl rfl (by decide) (by decide) (fun vh114 h114 zh114 Kh114 qh114 => ?_)
        obtain rfl := qh114
        replace V_b100 := V_b100.keep Kh114 nin0
        replace KK := KK.trans Kh114 (fun _ q => nomatch q)
        refine Wp.eqS (S' := [(.int (if own_lo c31 then (1 : Int32) else 0))]) rfl ?_
        refine Wp.if_eq (pc1 := 212) (pc' := 209) at_206 (by decide) (by decide) rfl (fun hc115 => ?_) (fun hc115 => ?_)
        · have hc115 : (if own_lo c31 then (1 : Int32) else 0) = (0 : Int32) := hc115
          have z0 := hc113
          simp at z0
          have z1 := hc115
          simp at z1
          have e : (if own_hi c22 && own_lo c31 then (1 : Int32) else 0) = 0 := by simp [z0, z1]
          rw [e, Int32.add_zero] at hj212
          refine Wp.old fun hOc => ?_
          exact hj212 _ KK hOc
        · have hc115 : ¬ ((if own_lo c31 then (1 : Int32) else 0) = (0 : Int32)) := hc115
          refine Wp.iinc (l' := #[.val (.int p0), .val (.int p1), .val (.int p2), .val (.int p3), .val (.int p4), .val (.int (4 : Int32)), .val (.int c10), .val (.int c22), .val (.int c31), .val (.int c44), .val (.ref b100), .val (.int ((if own_hi c10 && own_lo c22 then (1 : Int32) else 0) + (1 : Int32))), .unset, .unset, .unset, .unset, .unset]) at_209 (pc' := 212) rfl rfl rfl ?_
          have z0 := hc113
          simp at z0
          have z1 := hc115
          simp at z1
          have e : (if own_hi c22 && own_lo c31 then (1 : Int32) else 0) = 1 := by simp [z0, z1]
          rw [e] at hj212
          refine Wp.old fun hOc => ?_
          exact hj212 _ KK hOc
    intro h116 KJh116 hOc
    replace V_b100 := V_b100.keep KJh116 nin0
    refine Wp.iload at_212 (pc' := 214) rfl rfl ?_
    refine Wp.iconst (x := (4 : Int32)) at_214 (pc' := 215) rfl rfl ?_
    refine Wp.icmp_lt (pc1 := 237) (pc' := 218) at_215 (by decide) (by decide) rfl (fun hc117 => by exact absurd hc117 (by decide)) (fun hc117 => ?_)
    suffices hj237 : ∀ hh, Keep h116 hh [] → Ext Z.heap hh → Wp true l Z a0 [("java/lang/String", 7)] room_1 x code maxLocals ret h0 [] (fun v h => v = some (.int 1)) hh [b100] 1 4 237 #[.val (.int p0), .val (.int p1), .val (.int p2), .val (.int p3), .val (.int p4), .val (.int (4 : Int32)), .val (.int c10), .val (.int c22), .val (.int c31), .val (.int c44), .val (.ref b100), .val (.int (((if own_hi c10 && own_lo c22 then (1 : Int32) else 0) + (if own_hi c22 && own_lo c31 then (1 : Int32) else 0)) + (if own_hi c31 && own_lo c44 then (1 : Int32) else 0))), .unset, .unset, .unset, .unset, .unset] [] by
      have KK := Keep.refl h116 []
      refine Wp.iload at_218 (pc' := 220) rfl rfl ?_
      refine Wp.old fun hOc => ?_
      refine Wp.callS (W := 0) (argsL := [(.int c31)]) (rest := []) rfl (ct_hi l Z a0 hw hE c31 h116 hOc) (hw _ (List.mem_of_getElem? (i := 106) rfl)) (hw _ (List.mem_of_getElem? (i := 107) rfl)) (hw _ (List.mem_of_getElem? (i := 108) rfl)) (hw _ (List.mem_of_getElem? (i := 2) rfl)) (by decide) (lenOf pd__C_Z rfl) at_220 rfl rfl rfl (Nat.le_of_eq rfl) (pc' := 223) rfl nofun nofun (by decide) (by decide) (k' := 1) (n' := 4) rfl rfl (by decide) (by decide) (fun vh118 h118 zh118 Kh118 qh118 => ?_)
      obtain rfl := qh118
      replace V_b100 := V_b100.keep Kh118 nin0
      replace KK := KK.trans Kh118 (fun _ q => nomatch q)
      refine Wp.eqS (S' := [(.int (if own_hi c31 then (1 : Int32) else 0))]) rfl ?_
      refine Wp.if_eq (pc1 := 237) (pc' := 226) at_223 (by decide) (by decide) rfl (fun hc119 => ?_) (fun hc119 => ?_)
      · have hc119 : (if own_hi c31 then (1 : Int32) else 0) = (0 : Int32) := hc119
        have z0 := hc119
        simp at z0
        have e : (if own_hi c31 && own_lo c44 then (1 : Int32) else 0) = 0 := by simp [z0]
        rw [e, Int32.add_zero] at hj237
        refine Wp.old fun hOc => ?_
        exact hj237 _ KK hOc
      · have hc119 : ¬ ((if own_hi c31 then (1 : Int32) else 0) = (0 : Int32)) := hc119
        refine Wp.iload at_226 (pc' := 228) rfl rfl ?_
        refine Wp.old fun hOc => ?_
        refine Wp.callS (W := 0) (argsL := [(.int c44)]) (rest := []) rfl (ct_lo l Z a0 hw hE c44 h118 hOc) (hw _ (List.mem_of_getElem? (i := 116) rfl)) (hw _ (List.mem_of_getElem? (i := 117) rfl)) (hw _ (List.mem_of_getElem? (i := 118) rfl)) (hw _ (List.mem_of_getElem? (i := 2) rfl)) (by decide) (lenOf pd__C_Z rfl) at_228 rfl rfl rfl (Nat.le_of_eq rfl) (pc' := 231) rfl nofun nofun (by decide) (by decide) (k' := 1) (n' := 4) rfl rfl (by decide) (by decide) (fun vh120 h120 zh120 Kh120 qh120 => ?_)
        obtain rfl := qh120
        replace V_b100 := V_b100.keep Kh120 nin0
        replace KK := KK.trans Kh120 (fun _ q => nomatch q)
        refine Wp.eqS (S' := [(.int (if own_lo c44 then (1 : Int32) else 0))]) rfl ?_
        refine Wp.if_eq (pc1 := 237) (pc' := 234) at_231 (by decide) (by decide) rfl (fun hc121 => ?_) (fun hc121 => ?_)
        · have hc121 : (if own_lo c44 then (1 : Int32) else 0) = (0 : Int32) := hc121
          have z0 := hc119
          simp at z0
          have z1 := hc121
          simp at z1
          have e : (if own_hi c31 && own_lo c44 then (1 : Int32) else 0) = 0 := by simp [z0, z1]
          rw [e, Int32.add_zero] at hj237
          refine Wp.old fun hOc => ?_
          exact hj237 _ KK hOc
        · have hc121 : ¬ ((if own_lo c44 then (1 : Int32) else 0) = (0 : Int32)) := hc121
          refine Wp.iinc (l' := #[.val (.int p0), .val (.int p1), .val (.int p2), .val (.int p3), .val (.int p4), .val (.int (4 : Int32)), .val (.int c10), .val (.int c22), .val (.int c31), .val (.int c44), .val (.ref b100), .val (.int (((if own_hi c10 && own_lo c22 then (1 : Int32) else 0) + (if own_hi c22 && own_lo c31 then (1 : Int32) else 0)) + (1 : Int32))), .unset, .unset, .unset, .unset, .unset]) at_234 (pc' := 237) rfl rfl rfl ?_
          have z0 := hc119
          simp at z0
          have z1 := hc121
          simp at z1
          have e : (if own_hi c31 && own_lo c44 then (1 : Int32) else 0) = 1 := by simp [z0, z1]
          rw [e] at hj237
          refine Wp.old fun hOc => ?_
          exact hj237 _ KK hOc
    intro h122 KJh122 hOc
    replace V_b100 := V_b100.keep KJh122 nin0
    refine Wp.iload at_237 (pc' := 239) rfl rfl ?_
    refine Wp.iload at_239 (pc' := 241) rfl rfl ?_
    refine Wp.isub at_241 (pc' := 242) rfl ?_
    refine Wp.istore (l' := #[.val (.int p0), .val (.int p1), .val (.int p2), .val (.int p3), .val (.int p4), .val (.int (4 : Int32)), .val (.int c10), .val (.int c22), .val (.int c31), .val (.int c44), .val (.ref b100), .val (.int (((if own_hi c10 && own_lo c22 then (1 : Int32) else 0) + (if own_hi c22 && own_lo c31 then (1 : Int32) else 0)) + (if own_hi c31 && own_lo c44 then (1 : Int32) else 0))), .val (.int ((4 : Int32) - (((if own_hi c10 && own_lo c22 then (1 : Int32) else 0) + (if own_hi c22 && own_lo c31 then (1 : Int32) else 0)) + (if own_hi c31 && own_lo c44 then (1 : Int32) else 0)))), .unset, .unset, .unset, .unset]) at_242 (pc' := 244) rfl rfl ?_
    refine Wp.iload at_244 (pc' := 246) rfl rfl ?_
    refine Wp.iloadN at_246 (pc' := 247) rfl rfl ?_
    refine Wp.old fun hOc => ?_
    refine Wp.callS (W := 0) (argsL := [(.int ((4 : Int32) - (((if own_hi c10 && own_lo c22 then (1 : Int32) else 0) + (if own_hi c22 && own_lo c31 then (1 : Int32) else 0)) + (if own_hi c31 && own_lo c44 then (1 : Int32) else 0)))), (.int p3)]) (rest := []) rfl (ctMIN l Z a0 hw hE ((4 : Int32) - (((if own_hi c10 && own_lo c22 then (1 : Int32) else 0) + (if own_hi c22 && own_lo c31 then (1 : Int32) else 0)) + (if own_hi c31 && own_lo c44 then (1 : Int32) else 0))) p3 h122 hOc) (hw _ (List.mem_of_getElem? (i := 6) rfl)) (hw _ (List.mem_of_getElem? (i := 7) rfl)) (hw _ (List.mem_of_getElem? (i := 9) rfl)) (hw _ (List.mem_of_getElem? (i := 8) rfl)) (by decide) (lenOf pd__II_I rfl) at_247 rfl rfl rfl (Nat.le_of_eq rfl) (pc' := 250) rfl nofun nofun (by decide) (by decide) (k' := 1) (n' := 4) rfl rfl (by decide) (by decide) (fun vh123 h123 zh123 Kh123 qh123 => ?_)
    obtain rfl := qh123
    replace V_b100 := V_b100.keep Kh123 nin0
    refine Wp.eqS (S' := [(.int (if p3 < ((4 : Int32) - (((if own_hi c10 && own_lo c22 then (1 : Int32) else 0) + (if own_hi c22 && own_lo c31 then (1 : Int32) else 0)) + (if own_hi c31 && own_lo c44 then (1 : Int32) else 0))) then p3 else ((4 : Int32) - (((if own_hi c10 && own_lo c22 then (1 : Int32) else 0) + (if own_hi c22 && own_lo c31 then (1 : Int32) else 0)) + (if own_hi c31 && own_lo c44 then (1 : Int32) else 0)))))]) rfl ?_
    refine Wp.istore (l' := #[.val (.int p0), .val (.int p1), .val (.int p2), .val (.int p3), .val (.int p4), .val (.int (4 : Int32)), .val (.int c10), .val (.int c22), .val (.int c31), .val (.int c44), .val (.ref b100), .val (.int (((if own_hi c10 && own_lo c22 then (1 : Int32) else 0) + (if own_hi c22 && own_lo c31 then (1 : Int32) else 0)) + (if own_hi c31 && own_lo c44 then (1 : Int32) else 0))), .val (.int ((4 : Int32) - (((if own_hi c10 && own_lo c22 then (1 : Int32) else 0) + (if own_hi c22 && own_lo c31 then (1 : Int32) else 0)) + (if own_hi c31 && own_lo c44 then (1 : Int32) else 0)))), .val (.int (if p3 < ((4 : Int32) - (((if own_hi c10 && own_lo c22 then (1 : Int32) else 0) + (if own_hi c22 && own_lo c31 then (1 : Int32) else 0)) + (if own_hi c31 && own_lo c44 then (1 : Int32) else 0))) then p3 else ((4 : Int32) - (((if own_hi c10 && own_lo c22 then (1 : Int32) else 0) + (if own_hi c22 && own_lo c31 then (1 : Int32) else 0)) + (if own_hi c31 && own_lo c44 then (1 : Int32) else 0))))), .unset, .unset, .unset]) at_250 (pc' := 252) rfl rfl ?_
    refine Wp.iload at_252 (pc' := 254) rfl rfl ?_
    refine Wp.iload at_254 (pc' := 256) rfl rfl ?_
    refine Wp.old fun hOc => ?_
    refine Wp.callS (W := 0) (argsL := [(.int ((4 : Int32) - (((if own_hi c10 && own_lo c22 then (1 : Int32) else 0) + (if own_hi c22 && own_lo c31 then (1 : Int32) else 0)) + (if own_hi c31 && own_lo c44 then (1 : Int32) else 0)))), (.int p4)]) (rest := []) rfl (ctMAX l Z a0 hw hE ((4 : Int32) - (((if own_hi c10 && own_lo c22 then (1 : Int32) else 0) + (if own_hi c22 && own_lo c31 then (1 : Int32) else 0)) + (if own_hi c31 && own_lo c44 then (1 : Int32) else 0))) p4 h123 hOc) (hw _ (List.mem_of_getElem? (i := 10) rfl)) (hw _ (List.mem_of_getElem? (i := 11) rfl)) (hw _ (List.mem_of_getElem? (i := 12) rfl)) (hw _ (List.mem_of_getElem? (i := 8) rfl)) (by decide) (lenOf pd__II_I rfl) at_256 rfl rfl rfl (Nat.le_of_eq rfl) (pc' := 259) rfl nofun nofun (by decide) (by decide) (k' := 1) (n' := 4) rfl rfl (by decide) (by decide) (fun vh124 h124 zh124 Kh124 qh124 => ?_)
    obtain rfl := qh124
    replace V_b100 := V_b100.keep Kh124 nin0
    refine Wp.eqS (S' := [(.int (if ((4 : Int32) - (((if own_hi c10 && own_lo c22 then (1 : Int32) else 0) + (if own_hi c22 && own_lo c31 then (1 : Int32) else 0)) + (if own_hi c31 && own_lo c44 then (1 : Int32) else 0))) < p4 then p4 else ((4 : Int32) - (((if own_hi c10 && own_lo c22 then (1 : Int32) else 0) + (if own_hi c22 && own_lo c31 then (1 : Int32) else 0)) + (if own_hi c31 && own_lo c44 then (1 : Int32) else 0)))))]) rfl ?_
    refine Wp.istore (l' := #[.val (.int p0), .val (.int p1), .val (.int p2), .val (.int p3), .val (.int p4), .val (.int (4 : Int32)), .val (.int c10), .val (.int c22), .val (.int c31), .val (.int c44), .val (.ref b100), .val (.int (((if own_hi c10 && own_lo c22 then (1 : Int32) else 0) + (if own_hi c22 && own_lo c31 then (1 : Int32) else 0)) + (if own_hi c31 && own_lo c44 then (1 : Int32) else 0))), .val (.int ((4 : Int32) - (((if own_hi c10 && own_lo c22 then (1 : Int32) else 0) + (if own_hi c22 && own_lo c31 then (1 : Int32) else 0)) + (if own_hi c31 && own_lo c44 then (1 : Int32) else 0)))), .val (.int (if p3 < ((4 : Int32) - (((if own_hi c10 && own_lo c22 then (1 : Int32) else 0) + (if own_hi c22 && own_lo c31 then (1 : Int32) else 0)) + (if own_hi c31 && own_lo c44 then (1 : Int32) else 0))) then p3 else ((4 : Int32) - (((if own_hi c10 && own_lo c22 then (1 : Int32) else 0) + (if own_hi c22 && own_lo c31 then (1 : Int32) else 0)) + (if own_hi c31 && own_lo c44 then (1 : Int32) else 0))))), .val (.int (if ((4 : Int32) - (((if own_hi c10 && own_lo c22 then (1 : Int32) else 0) + (if own_hi c22 && own_lo c31 then (1 : Int32) else 0)) + (if own_hi c31 && own_lo c44 then (1 : Int32) else 0))) < p4 then p4 else ((4 : Int32) - (((if own_hi c10 && own_lo c22 then (1 : Int32) else 0) + (if own_hi c22 && own_lo c31 then (1 : Int32) else 0)) + (if own_hi c31 && own_lo c44 then (1 : Int32) else 0))))), .unset, .unset]) at_259 (pc' := 261) rfl rfl ?_
    refine Wp.new rfl (hw _ (List.mem_of_getElem? (i := 13) rfl)) (hw _ (List.mem_of_getElem? (i := 14) rfl)) (hw _ (List.mem_of_getElem? (i := 15) rfl)) at_261 (pc' := 264) rfl (k' := 2) (n' := 8) rfl rfl (by decide) (by decide) (fun h125 b125 g_b125 sz_b125 Xh125 E_b125 D_b125 => ?_)
    have ne_b100_b125 : b100 ≠ b125 := Nat.ne_of_lt (Nat.lt_of_lt_of_eq V_b100.lt g_b125.symm)
    replace V_b100 := V_b100.ext Xh125
    have F_value_b125 : Fld Z h125 b125 "java/lang/String" "value" "[B" .null := D_b125 (Or.inr (hw _ (List.mem_of_getElem? (i := 28) rfl))) (ty := (.array .byte)) (by decide)
    have F_coder_b125 : Fld Z h125 b125 "java/lang/String" "coder" "B" (.int (0 : Int32)) := D_b125 (Or.inr (hw _ (List.mem_of_getElem? (i := 29) rfl))) (ty := .byte) (by decide)
    clear D_b125
    refine Wp.dup at_264 (pc' := 265) rfl rfl ?_
    refine Wp.aload at_265 (pc' := 267) rfl rfl rfl ?_
    refine Wp.old fun hOc => ?_
    have V_cs : Arv Z h125 b100 k_b100 .char (Int32.ofNat ([c10, c22, c31, c44] : List Int32).length) (([c10, c22, c31, c44] : List Int32).map Value.int) (.int 0) := by simpa [n_c10, n_c22, n_c31, n_c44] using V_b100
    have h16_ : ∀ c ∈ ([c10, c22, c31, c44] : List Int32), nar .char c = c := by intro c hc; simp only [List.mem_cons, List.not_mem_nil, or_false] at hc; rcases hc with rfl | rfl | rfl | rfl <;> assumption
    refine Wp.callI (a := b125) (W := 1) (argsL := [(.ref b100)]) (rest := [(.ref b125)]) rfl (ctSI l Z a0 hw hE b125 b100 k_b100 [c10, c22, c31, c44] cz h125 hOc hU (Nat.le_of_ble_eq_true rfl) (Nat.le_of_ble_eq_true rfl) h16_ V_cs E_b125 F_value_b125 F_coder_b125 (Nat.le_trans hO.1 sz_b125) ne_b100_b125 hco hcz) rfl rfl (hw _ (List.mem_of_getElem? (i := 16) rfl)) (hw _ (List.mem_of_getElem? (i := 17) rfl)) (hw _ (List.mem_of_getElem? (i := 18) rfl)) (hw _ (List.mem_of_getElem? (i := 15) rfl)) (by decide) (lenOf pd___C_V rfl) at_267 rfl rfl rfl (Nat.le_of_eq rfl) (pc' := 270) rfl (by simp) (by intro x hx; simp only [List.mem_cons, List.not_mem_nil, or_false] at hx; rcases hx with rfl; exact (Or.inr sz_b125)) (by decide) (by decide) (k' := 6) (n' := 20) rfl rfl (by decide) (by decide) (fun vh126 h126 zh126 Kh126 qh126 => ?_)
    obtain ⟨rfl, S_s⟩ := qh126
    replace V_b100 := V_b100.keep Kh126 (ninS ne_b100_b125 nin0)
    replace E_b125 := E_b125.keep Kh126
    refine Wp.eqS (S' := [(.ref b125)]) rfl ?_
    refine Wp.astore (l' := #[.val (.int p0), .val (.int p1), .val (.int p2), .val (.int p3), .val (.int p4), .val (.int (4 : Int32)), .val (.int c10), .val (.int c22), .val (.int c31), .val (.int c44), .val (.ref b100), .val (.int (((if own_hi c10 && own_lo c22 then (1 : Int32) else 0) + (if own_hi c22 && own_lo c31 then (1 : Int32) else 0)) + (if own_hi c31 && own_lo c44 then (1 : Int32) else 0))), .val (.int ((4 : Int32) - (((if own_hi c10 && own_lo c22 then (1 : Int32) else 0) + (if own_hi c22 && own_lo c31 then (1 : Int32) else 0)) + (if own_hi c31 && own_lo c44 then (1 : Int32) else 0)))), .val (.int (if p3 < ((4 : Int32) - (((if own_hi c10 && own_lo c22 then (1 : Int32) else 0) + (if own_hi c22 && own_lo c31 then (1 : Int32) else 0)) + (if own_hi c31 && own_lo c44 then (1 : Int32) else 0))) then p3 else ((4 : Int32) - (((if own_hi c10 && own_lo c22 then (1 : Int32) else 0) + (if own_hi c22 && own_lo c31 then (1 : Int32) else 0)) + (if own_hi c31 && own_lo c44 then (1 : Int32) else 0))))), .val (.int (if ((4 : Int32) - (((if own_hi c10 && own_lo c22 then (1 : Int32) else 0) + (if own_hi c22 && own_lo c31 then (1 : Int32) else 0)) + (if own_hi c31 && own_lo c44 then (1 : Int32) else 0))) < p4 then p4 else ((4 : Int32) - (((if own_hi c10 && own_lo c22 then (1 : Int32) else 0) + (if own_hi c22 && own_lo c31 then (1 : Int32) else 0)) + (if own_hi c31 && own_lo c44 then (1 : Int32) else 0))))), .val (.ref b125), .unset]) at_270 (pc' := 272) rfl rfl rfl ?_
    refine Wp.ldcO (nn := 16) rfl rfl (hw _ (List.mem_of_getElem? (i := 34) rfl)) (own_wS hw) at_272 (pc' := 274) rfl (by decide) (by decide) (k' := 8) (n' := 40) rfl rfl (by decide) (by decide) (fun h127 c127 Xh127 => ?_)
    replace V_b100 := V_b100.ext Xh127
    replace E_b125 := E_b125.ext Xh127
    replace S_s := S_s.ext Xh127
    refine Wp.aload at_274 (pc' := 276) rfl rfl rfl ?_
    refine Wp.iload at_276 (pc' := 278) rfl rfl ?_
    refine Wp.iload at_278 (pc' := 280) rfl rfl ?_
    refine Wp.old fun hOc => ?_
    have hk : ((4 : Int32) - (((if own_hi c10 && own_lo c22 then (1 : Int32) else 0) + (if own_hi c22 && own_lo c31 then (1 : Int32) else 0)) + (if own_hi c31 && own_lo c44 then (1 : Int32) else 0))) = Int32.ofNat ([c10, c22, c31, c44] : List Int32).length - Int32.ofNat (own_pairs [c10, c22, c31, c44]) := own_k4 _ _ _ _ _ _ (own_ex c22) (own_ex c31)
    refine Wp.callS (W := 0) (argsL := [(.ref c127), (.ref b125), (.int (if p3 < ((4 : Int32) - (((if own_hi c10 && own_lo c22 then (1 : Int32) else 0) + (if own_hi c22 && own_lo c31 then (1 : Int32) else 0)) + (if own_hi c31 && own_lo c44 then (1 : Int32) else 0))) then p3 else ((4 : Int32) - (((if own_hi c10 && own_lo c22 then (1 : Int32) else 0) + (if own_hi c22 && own_lo c31 then (1 : Int32) else 0)) + (if own_hi c31 && own_lo c44 then (1 : Int32) else 0))))), (.int (if ((4 : Int32) - (((if own_hi c10 && own_lo c22 then (1 : Int32) else 0) + (if own_hi c22 && own_lo c31 then (1 : Int32) else 0)) + (if own_hi c31 && own_lo c44 then (1 : Int32) else 0))) < p4 then p4 else ((4 : Int32) - (((if own_hi c10 && own_lo c22 then (1 : Int32) else 0) + (if own_hi c22 && own_lo c31 then (1 : Int32) else 0)) + (if own_hi c31 && own_lo c44 then (1 : Int32) else 0)))))]) (rest := []) rfl (ctCHK l Z a0 hw hE c127 b125 (if p3 < ((4 : Int32) - (((if own_hi c10 && own_lo c22 then (1 : Int32) else 0) + (if own_hi c22 && own_lo c31 then (1 : Int32) else 0)) + (if own_hi c31 && own_lo c44 then (1 : Int32) else 0))) then p3 else ((4 : Int32) - (((if own_hi c10 && own_lo c22 then (1 : Int32) else 0) + (if own_hi c22 && own_lo c31 then (1 : Int32) else 0)) + (if own_hi c31 && own_lo c44 then (1 : Int32) else 0)))) (if ((4 : Int32) - (((if own_hi c10 && own_lo c22 then (1 : Int32) else 0) + (if own_hi c22 && own_lo c31 then (1 : Int32) else 0)) + (if own_hi c31 && own_lo c44 then (1 : Int32) else 0))) < p4 then p4 else ((4 : Int32) - (((if own_hi c10 && own_lo c22 then (1 : Int32) else 0) + (if own_hi c22 && own_lo c31 then (1 : Int32) else 0)) + (if own_hi c31 && own_lo c44 then (1 : Int32) else 0)))) [c10, c22, c31, c44] cz h127 hOc S_s hU h16_ (Nat.le_of_ble_eq_true rfl) hco hcz (hk ▸ own_mn _ _) (hk ▸ own_mx _ _)) (hw _ (List.mem_of_getElem? (i := 35) rfl)) (hw _ (List.mem_of_getElem? (i := 36) rfl)) (hw _ (List.mem_of_getElem? (i := 38) rfl)) (hw _ (List.mem_of_getElem? (i := 37) rfl)) (by decide) (lenOf pd__Ljava_lang_String_Ljava_lang_String_II_Ljava_lang_String_ rfl) at_280 rfl rfl rfl (Nat.le_of_eq rfl) (pc' := 283) rfl nofun nofun (by decide) (by decide) (k' := 8) (n' := 40) rfl rfl (by decide) (by decide) (fun vh128 h128 zh128 Kh128 qh128 => ?_)
    obtain rfl := qh128
    replace S_s := S_s.keep0 Kh128
    replace V_b100 := V_b100.keep Kh128 nin0
    replace E_b125 := E_b125.keep Kh128
    refine Wp.eqS (S' := [(.ref b125)]) rfl ?_
    refine Wp.astore (l' := #[.val (.int p0), .val (.int p1), .val (.int p2), .val (.int p3), .val (.int p4), .val (.int (4 : Int32)), .val (.int c10), .val (.int c22), .val (.int c31), .val (.int c44), .val (.ref b100), .val (.int (((if own_hi c10 && own_lo c22 then (1 : Int32) else 0) + (if own_hi c22 && own_lo c31 then (1 : Int32) else 0)) + (if own_hi c31 && own_lo c44 then (1 : Int32) else 0))), .val (.int ((4 : Int32) - (((if own_hi c10 && own_lo c22 then (1 : Int32) else 0) + (if own_hi c22 && own_lo c31 then (1 : Int32) else 0)) + (if own_hi c31 && own_lo c44 then (1 : Int32) else 0)))), .val (.int (if p3 < ((4 : Int32) - (((if own_hi c10 && own_lo c22 then (1 : Int32) else 0) + (if own_hi c22 && own_lo c31 then (1 : Int32) else 0)) + (if own_hi c31 && own_lo c44 then (1 : Int32) else 0))) then p3 else ((4 : Int32) - (((if own_hi c10 && own_lo c22 then (1 : Int32) else 0) + (if own_hi c22 && own_lo c31 then (1 : Int32) else 0)) + (if own_hi c31 && own_lo c44 then (1 : Int32) else 0))))), .val (.int (if ((4 : Int32) - (((if own_hi c10 && own_lo c22 then (1 : Int32) else 0) + (if own_hi c22 && own_lo c31 then (1 : Int32) else 0)) + (if own_hi c31 && own_lo c44 then (1 : Int32) else 0))) < p4 then p4 else ((4 : Int32) - (((if own_hi c10 && own_lo c22 then (1 : Int32) else 0) + (if own_hi c22 && own_lo c31 then (1 : Int32) else 0)) + (if own_hi c31 && own_lo c44 then (1 : Int32) else 0))))), .val (.ref b125), .val (.ref b125)]) at_283 (pc' := 285) rfl rfl rfl ?_
    refine Wp.aload at_285 (pc' := 287) rfl rfl rfl ?_
    refine Wp.aload at_287 (pc' := 289) rfl rfl rfl ?_
    refine Wp.acmp_ne (pc1 := 296) (pc' := 292) rfl rfl at_289 (by decide) (by decide) rfl (fun hc129 => by exact absurd rfl hc129) (fun hc129 => ?_)
    refine Wp.iconst (x := (1 : Int32)) at_292 (pc' := 293) rfl rfl ?_
    refine Wp.goto (pc' := 297) at_293 (by decide) (by decide) ?_
    refine Wp.retN (x' := (1 : Int32)) (t := .boolean) rfl (by simp) rfl at_297 (by decide) (by decide) ?_
    rfl
set_option maxRecDepth 65536 in
set_option maxHeartbeats 40000000 in
theorem comes_1 {Post : Tables → Env → Array Value → State → Outcome → State → Prop} (hpost : ∀ tb e args s v u, (limb_1_1.after args s (.returned v) u = true ∧ limb_1_2.after args s (.returned v) u = true ∧ True) → ReturnedEndW s (.returned v) u (Jvm.fieldLocs frame_1_writes args s ++ Jvm.arrayLocs frame_1_arrays args s ++ Jvm.staticLocs frame_1_statics s) 24 2176 → Post tb e args s (.returned v) u) :
    ArmFor flags0 classFile x code maxLocals ret World_1 tables_1 room_1 Calls_1 rest_1 Pre_1 Post := by
  intro l hfl _ _ p e ha hc hk s m args below hf hA hF happ hP
  obtain ⟨hcalls, hrest, hpre⟩ := hP
  obtain ⟨-, -, -, hnamed, -, -, -, hat⟩ := (Spec.applies_iff hf).mp happ
  obtain ⟨hg, hn⟩ := and_e (Cond.before_iff.mp (show (Jvm.Cond.and given_1 narrow_1).before args s = true from hpre))
  obtain ⟨gc, ga0⟩ := and_e hg
  obtain ⟨ga0, ga1⟩ := and_e ga0
  obtain ⟨ga1, ga2⟩ := and_e ga1
  obtain ⟨ga2, ga3⟩ := and_e ga2
  obtain ⟨ga3, ga4⟩ := and_e ga3
  obtain ⟨w0, w1, w2, w3, w4, rfl⟩ : ∃ w0 w1 w2 w3 w4 : Value, args = #[w0, w1, w2, w3, w4] := by
    have hs : args.size = 5 := by simpa [Cond.value, given_1] using gc
    obtain ⟨L⟩ := args
    match L, hs with
    | [w0, w1, w2, w3, w4], _ => exact ⟨w0, w1, w2, w3, w4, rfl⟩
  have hw := fun d (hd : d ∈ tables_1) => atoms_spec (ws := Jvm.Cond.code x code maxLocals ret :: tables_1) hat d (List.mem_cons_of_mem _ hd)
  obtain ⟨hsets, hown0⟩ := atoms_of _ (rest_1_c_eq ▸ (show rest_1_c.before _ s = true from hrest))
  obtain ⟨i0, ei0⟩ := is_v ga0
  obtain rfl : w0 = (.int i0) := Option.some.inj ei0
  obtain ⟨i1, ei1⟩ := is_v ga1
  obtain rfl : w1 = (.int i1) := Option.some.inj ei1
  obtain ⟨i2, ei2⟩ := is_v ga2
  obtain rfl : w2 = (.int i2) := Option.some.inj ei2
  obtain ⟨i3, ei3⟩ := is_v ga3
  obtain rfl : w3 = (.int i3) := Option.some.inj ei3
  obtain ⟨i4, ei4⟩ := is_v ga4
  obtain rfl : w4 = (.int i4) := Option.some.inj ei4
  have hn3 := not_v (Cond.before_iff.mp (hsets _ (List.mem_of_getElem? (i := 2) rfl)))
  obtain ⟨cz, ecz⟩ := is_v (Cond.before_iff.mp (hsets _ (List.mem_of_getElem? (i := 1) rfl)))
  have hco := Sta.start ecz (Or.inl (hsets _ (List.mem_of_getElem? (i := 0) rfl)))
  have hcz : ¬ cz = 0 := gotF (Cond.eq_ints ecz (Term.int_eval (0))) hn3
  have hE : EW s _ [("java/lang/String", 7)] := (EW.cons (hw _ (List.mem_of_getElem? (i := 26) rfl)) (by decide) EW.nil)
  have hCH : CHv s [("java/lang/String", 7)] s.vm s.heap := CHv.start hE (fun p hp => by simp only [List.mem_cons, List.not_mem_nil, or_false] at hp; rcases hp with rfl <;> exact hcalls.1 _ (by simp [consts_1])) (hsets _ (List.mem_of_getElem? (i := 2) rfl)) (hw _ (List.mem_of_getElem? (i := 27) rfl)) (hw _ (List.mem_of_getElem? (i := 14) rfl))
  have hU : own_U s := ⟨Sta.start (eqv_i (Term.int_eval (1)) (Cond.before_iff.mp (hsets _ (List.mem_of_getElem? (i := 12) rfl)))) (Or.inl (hsets _ (List.mem_of_getElem? (i := 11) rfl))), Sta.start (eqv_i (Term.int_eval (0)) (Cond.before_iff.mp (hsets _ (List.mem_of_getElem? (i := 15) rfl)))) (Or.inl (hsets _ (List.mem_of_getElem? (i := 14) rfl))), Sta.start (eqv_i (Term.int_eval (8)) (Cond.before_iff.mp (hsets _ (List.mem_of_getElem? (i := 18) rfl)))) (Or.inl (hsets _ (List.mem_of_getElem? (i := 17) rfl)))⟩
  obtain ⟨n, o, h1, h2, h3, _, L, rfl, ⟨N, rfl⟩, -, hq⟩ := (ct0 l s _ hw hE i0 i1 i2 i3 i4 cz s.heap ⟨Nat.le_refl _, fun _ _ q => q⟩ hco hcz hU) p e ha hc hk s m _ below hf ((Spec.applies_iff_loose hf).mp happ).1 ⟨rfl, State.Warmed39.refl s, rfl, hCH, fun x hx => nomatch hx⟩ trivial
  refine ⟨n, _, h1, h2, h3, hpost _ _ _ _ _ _ ⟨Cond.after_iff.mpr rfl, Cond.after_iff.mpr (eq_i res_at (Term.int_eval (1)) rfl), trivial⟩ ⟨hq.1.1, hq.1.2.1, hq.1.2.2.1, (hq.1.2.2.2.sift fun y hy => Or.inr ((N y hy).resolve_left (fun q => nomatch q))).mono (by decide) (by decide)⟩⟩
theorem main_1_1 : Claimed_1_1 := comes_1 fun _ _ _ _ _ _ h hF => ⟨h.1, hF⟩
theorem main_1_2 : Claimed_1_2 := comes_1 fun _ _ _ _ _ _ h hF => ⟨h.2.1, hF⟩
end Jvm.Pilot.@@N@@
namespace Jvm.Pilot.@@N@@
open Jvm Jvm.ClassFile Sem Op Lib Jvm.Free Jvm.Stand Jvm.Pilot.@@N@@.Jvm.D
/-! MADE BY PROGRAM (witnessworld.py) out of the Statement's table words and the real class files: 23 classes; the members and pool entries that the words name. The judged class is class 1, her method 4. -/
namespace start1
open Jvm.ClassFile
def u (s : String) : CpInfo := .utf8 (stringToUtf16 s)
/-- a pool by its gaps: so many unusable entries, then the entry; so many at the end -/
def gap : Nat → List CpInfo → List CpInfo
  | 0, r => r
  | n + 1, r => .unusable :: gap n r
def poolList (es : List (Nat × CpInfo)) (last : Nat) : List CpInfo := es.foldr (fun e r => gap e.1 (e.2 :: r)) (gap last [])
def pool (es : List (Nat × CpInfo)) (last : Nat) : Array CpInfo := ⟨poolList es last⟩
def fileOf (pool : Array CpInfo) (this : Nat) (attrs : Array Attribute := #[]) (ms : Array MethodInfo := #[]) (fl : Nat := 33) (sup : Nat := 0) (ifs : Array Nat := #[]) (fds : Array FieldInfo := #[]) : ClassFile where
  minorVersion := 0
  majorVersion := 65
  constantPool := pool
  accessFlags := fl
  thisClass := this
  superClass := sup
  interfaces := ifs
  fields := fds
  methods := ms
  attributes := attrs
def plain (name : String) (sup : Option ClassId) : Class where
  name := name
  kind := .ordinary
  loader := none
  accessFlags := 33
  super := sup
  interfaces := #[]
  cf := none
  fields := #[]
  methods := #[]
  instanceTypes := #[]
  staticTypes := #[]
  resolved := #[]
  callSites := []
  init := .initialized
  statics := none
  mirror := none

def pool0 : Array CpInfo := pool [(5, u "<init>"), (0, u "()V"), (1, .class_ 10), (1, u "java/lang/Object")] 113

def k0c0 : Code := { maxStack := 0, maxLocals := 1, code := object_method_1_code, exceptionTable := #[], attributes := #[] }
def k0m0 : Method := { name := "<init>", desc := "()V", sig := { parameters := [], returnType := none }, accessFlags := 1, code := some k0c0 }
/-- java/lang/Object -/
def k0 : Class := { plain "java/lang/Object" none with
  accessFlags := 33
  interfaces := #[]
  cf := some (fileOf pool0 8 #[] #[{ accessFlags := 1, nameIndex := 5, descriptorIndex := 6, attributes := #[] }] 33 0 #[] #[])
  fields := #[]
  methods := #[k0m0]
  instanceTypes := #[]
  staticTypes := #[]
  resolved := Array.replicate 124 none
  statics := none }

def pool1 : Array CpInfo := pool [(2, .class_ 4), (1, u "java/lang/Object"), (0, u "<init>"), (0, u "()V"), (0, .integer 55296), (0, .integer 56319), (0, .integer 56320), (0, .integer 57343), (0, .integer 65535), (0, .methodref 13 14), (0, .class_ 15), (0, .nameAndType 16 17), (0, u "com/example/package_pricing/packagepricing/catalog/TextCheckLengthPinLaw"), (0, u "draw"), (0, u "(II)C"), (0, .methodref 13 19), (0, .nameAndType 20 21), (0, u "hi"), (0, u "(C)Z"), (0, .methodref 13 23), (0, .nameAndType 24 21), (0, u "lo"), (0, .methodref 26 27), (0, .class_ 28), (0, .nameAndType 29 30), (0, u "java/lang/Math"), (0, u "min"), (0, u "(II)I"), (0, .methodref 26 32), (0, .nameAndType 33 30), (0, u "max"), (0, .class_ 35), (0, u "java/lang/String"), (0, .methodref 34 37), (0, .nameAndType 5 38), (0, u "([C)V"), (0, .string 40), (0, u "text"), (0, .methodref 42 43), (0, .class_ 44), (0, .nameAndType 45 46), (0, u "com/example/package_pricing/packagepricing/catalog/Text"), (0, u "checkLength"), (0, u "(Ljava/lang/String;Ljava/lang/String;II)Ljava/lang/String;"), (3, u "law"), (0, u "(IIIII)Z")] 4

def k1m0 : Method := { name := "<init>", desc := "()V", sig := { parameters := [], returnType := none }, accessFlags := 1, code := none }
def k1c1 : Code := { maxStack := 2, maxLocals := 1, code := method_2_code, exceptionTable := #[], attributes := #[] }
def k1m1 : Method := { name := "hi", desc := "(C)Z", sig := { parameters := [.char], returnType := some .boolean }, accessFlags := 10, code := some k1c1 }
def k1c2 : Code := { maxStack := 2, maxLocals := 1, code := method_3_code, exceptionTable := #[], attributes := #[] }
def k1m2 : Method := { name := "lo", desc := "(C)Z", sig := { parameters := [.char], returnType := some .boolean }, accessFlags := 10, code := some k1c2 }
def k1c3 : Code := { maxStack := 3, maxLocals := 3, code := method_4_code, exceptionTable := #[], attributes := #[] }
def k1m3 : Method := { name := "draw", desc := "(II)C", sig := { parameters := [.int, .int], returnType := some .char }, accessFlags := 10, code := some k1c3 }
def k1c4 : Code := { maxStack := 4, maxLocals := 17, code := code, exceptionTable := #[], attributes := #[] }
def k1m4 : Method := { name := "law", desc := "(IIIII)Z", sig := { parameters := [.int, .int, .int, .int, .int], returnType := some .boolean }, accessFlags := 9, code := some k1c4 }
/-- com/example/package_pricing/packagepricing/catalog/TextCheckLengthPinLaw -/
def k1 : Class := { plain "com/example/package_pricing/packagepricing/catalog/TextCheckLengthPinLaw" (some 0) with
  accessFlags := 49
  interfaces := #[]
  cf := some (fileOf pool1 13 #[] #[{ accessFlags := 1, nameIndex := 5, descriptorIndex := 6, attributes := #[] }, { accessFlags := 10, nameIndex := 20, descriptorIndex := 21, attributes := #[] }, { accessFlags := 10, nameIndex := 24, descriptorIndex := 21, attributes := #[] }, { accessFlags := 10, nameIndex := 16, descriptorIndex := 17, attributes := #[] }, { accessFlags := 9, nameIndex := 50, descriptorIndex := 51, attributes := #[] }] 49 2 #[] #[])
  fields := #[]
  methods := #[k1m0, k1m1, k1m2, k1m3, k1m4]
  instanceTypes := #[]
  staticTypes := #[]
  resolved := Array.replicate 56 none
  statics := none }

def pool2 : Array CpInfo := pool [(1, .class_ 2), (0, u "java/lang/Math"), (1, .class_ 6), (1, u "java/lang/Object"), (0, u "<init>"), (0, u "()V"), (89, .class_ 100), (1, u "java/lang/Math$RandomNumberGeneratorHolder"), (71, u "negativeZeroFloatBits"), (0, u "J"), (2, u "negativeZeroDoubleBits"), (21, u "max"), (2, u "min"), (43, u "$assertionsDisabled"), (0, u "Z"), (88, u "(II)I"), (2, u "twoToTheDoubleScaleDown"), (0, u "D"), (4, u "twoToTheDoubleScaleUp"), (9, u "E"), (3, u "PI"), (2, u "TAU"), (2, u "DEGREES_TO_RADIANS"), (0, u "RADIANS_TO_DEGREES")] 94

def k2m0 : Method := { name := "<init>", desc := "()V", sig := { parameters := [], returnType := none }, accessFlags := 2, code := none }
def k2c1 : Code := { maxStack := 2, maxLocals := 2, code := jdk_29_method_65_code, exceptionTable := #[], attributes := #[] }
def k2m1 : Method := { name := "max", desc := "(II)I", sig := { parameters := [.int, .int], returnType := some .int }, accessFlags := 9, code := some k2c1 }
def k2c2 : Code := { maxStack := 2, maxLocals := 2, code := jdk_29_method_69_code, exceptionTable := #[], attributes := #[] }
def k2m2 : Method := { name := "min", desc := "(II)I", sig := { parameters := [.int, .int], returnType := some .int }, accessFlags := 9, code := some k2c2 }
/-- java/lang/Math -/
def k2 : Class := { plain "java/lang/Math" (some 0) with
  accessFlags := 49
  interfaces := #[]
  cf := some (fileOf pool2 1 #[.nestMembers #[98]] #[{ accessFlags := 2, nameIndex := 7, descriptorIndex := 8, attributes := #[] }, { accessFlags := 9, nameIndex := 198, descriptorIndex := 335, attributes := #[] }, { accessFlags := 9, nameIndex := 201, descriptorIndex := 335, attributes := #[] }] 49 4 #[] #[{ accessFlags := 25, nameIndex := 354, descriptorIndex := 339, attributes := #[] }, { accessFlags := 25, nameIndex := 358, descriptorIndex := 339, attributes := #[] }, { accessFlags := 25, nameIndex := 361, descriptorIndex := 339, attributes := #[] }, { accessFlags := 26, nameIndex := 364, descriptorIndex := 339, attributes := #[] }, { accessFlags := 26, nameIndex := 365, descriptorIndex := 339, attributes := #[] }, { accessFlags := 26, nameIndex := 172, descriptorIndex := 173, attributes := #[] }, { accessFlags := 26, nameIndex := 176, descriptorIndex := 173, attributes := #[] }, { accessFlags := 8, nameIndex := 344, descriptorIndex := 339, attributes := #[] }, { accessFlags := 8, nameIndex := 338, descriptorIndex := 339, attributes := #[] }, { accessFlags := 4120, nameIndex := 245, descriptorIndex := 246, attributes := #[] }])
  fields := #[{ name := "E", type := .double, accessFlags := 25, slot := 0, constantValue := 0 }, { name := "PI", type := .double, accessFlags := 25, slot := 1, constantValue := 0 }, { name := "TAU", type := .double, accessFlags := 25, slot := 2, constantValue := 0 }, { name := "DEGREES_TO_RADIANS", type := .double, accessFlags := 26, slot := 3, constantValue := 0 }, { name := "RADIANS_TO_DEGREES", type := .double, accessFlags := 26, slot := 4, constantValue := 0 }, { name := "negativeZeroFloatBits", type := .long, accessFlags := 26, slot := 5, constantValue := 0 }, { name := "negativeZeroDoubleBits", type := .long, accessFlags := 26, slot := 6, constantValue := 0 }, { name := "twoToTheDoubleScaleUp", type := .double, accessFlags := 8, slot := 7, constantValue := 0 }, { name := "twoToTheDoubleScaleDown", type := .double, accessFlags := 8, slot := 8, constantValue := 0 }, { name := "$assertionsDisabled", type := .boolean, accessFlags := 4120, slot := 9, constantValue := 0 }]
  methods := #[k2m0, k2m1, k2m2]
  instanceTypes := #[]
  staticTypes := #[.double, .double, .double, .double, .double, .long, .long, .double, .double, .boolean]
  resolved := Array.replicate 460 none
  statics := none }

def pool3 : Array CpInfo := pool [(1, .class_ 2), (0, u "java/io/Serializable"), (0, .class_ 4), (0, u "java/lang/Object")] 2

/-- java/io/Serializable -/
def k3 : Class := { plain "java/io/Serializable" (some 0) with
  accessFlags := 1537
  interfaces := #[]
  cf := some (fileOf pool3 1 #[] #[] 1537 3 #[] #[])
  fields := #[]
  methods := #[]
  instanceTypes := #[]
  staticTypes := #[]
  resolved := Array.replicate 7 none
  statics := none }

def pool4 : Array CpInfo := pool [(1, .class_ 2), (0, u "java/lang/Comparable"), (0, .class_ 4), (0, u "java/lang/Object")] 7

/-- java/lang/Comparable -/
def k4 : Class := { plain "java/lang/Comparable" (some 0) with
  accessFlags := 1537
  interfaces := #[]
  cf := some (fileOf pool4 1 #[] #[] 1537 3 #[] #[])
  fields := #[]
  methods := #[]
  instanceTypes := #[]
  staticTypes := #[]
  resolved := Array.replicate 12 none
  statics := none }

def pool5 : Array CpInfo := pool [(2, .class_ 4), (1, u "java/lang/CharSequence"), (42, .class_ 48), (0, u "java/lang/CharSequence$1CodePointIterator"), (10, .class_ 60), (0, u "java/lang/CharSequence$1CharIterator"), (5, .class_ 67), (0, u "java/lang/Object")] 63

/-- java/lang/CharSequence -/
def k5 : Class := { plain "java/lang/CharSequence" (some 0) with
  accessFlags := 1537
  interfaces := #[]
  cf := some (fileOf pool5 2 #[.nestMembers #[47, 59]] #[] 1537 66 #[] #[])
  fields := #[]
  methods := #[]
  instanceTypes := #[]
  staticTypes := #[]
  resolved := Array.replicate 131 none
  statics := none }

def pool6 : Array CpInfo := pool [(1, .class_ 2), (0, u "java/lang/constant/Constable"), (0, .class_ 4), (0, u "java/lang/Object")] 6

/-- java/lang/constant/Constable -/
def k6 : Class := { plain "java/lang/constant/Constable" (some 0) with
  accessFlags := 1537
  interfaces := #[]
  cf := some (fileOf pool6 1 #[] #[] 1537 3 #[] #[])
  fields := #[]
  methods := #[]
  instanceTypes := #[]
  staticTypes := #[]
  resolved := Array.replicate 11 none
  statics := none }

def pool7 : Array CpInfo := pool [(1, .class_ 2), (0, u "java/lang/constant/ConstantDesc"), (0, .class_ 4), (0, u "java/lang/Object")] 32

/-- java/lang/constant/ConstantDesc -/
def k7 : Class := { plain "java/lang/constant/ConstantDesc" (some 0) with
  accessFlags := 1537
  interfaces := #[]
  cf := some (fileOf pool7 1 #[] #[] 1537 3 #[] #[])
  fields := #[]
  methods := #[]
  instanceTypes := #[]
  staticTypes := #[]
  resolved := Array.replicate 37 none
  statics := none }

def pool8 : Array CpInfo := pool [(1, .methodref 2 3), (0, .class_ 4), (0, .nameAndType 5 6), (0, u "java/lang/Object"), (0, u "<init>"), (0, u "()V"), (0, .string 8), (0, u ""), (0, .fieldref 10 11), (0, .class_ 12), (0, .nameAndType 13 14), (0, u "java/lang/String"), (0, u "value"), (0, u "[B"), (0, .fieldref 10 16), (0, .nameAndType 17 18), (0, u "coder"), (0, u "B"), (2, u "hash"), (0, u "I"), (2, u "hashIsZero"), (0, u "Z"), (0, .methodref 10 28), (0, .nameAndType 5 29), (0, u "([CIILjava/lang/Void;)V"), (7, u "(III)I"), (0, .fieldref 10 39), (0, .nameAndType 40 26), (0, u "COMPACT_STRINGS"), (1, .class_ 44), (1, u "java/lang/StringUTF16"), (0, u "compress"), (1, .methodref 42 48), (0, .nameAndType 49 50), (0, u "coderFromArrayLen"), (0, u "([BI)B"), (28, .class_ 81), (1, u "java/util/Objects"), (15, u "([BII)I"), (44, u "()Z"), (34, .methodref 42 178), (0, .nameAndType 45 179), (0, u "([CII)[B"), (154, u "()I"), (0, .methodref 10 336), (0, .nameAndType 17 337), (0, u "()B"), (154, .methodref 10 493), (0, .nameAndType 494 142), (0, u "isLatin1"), (10, .methodref 10 506), (0, .nameAndType 507 334), (0, u "length"), (3, .methodref 79 512), (0, .nameAndType 513 37), (0, u "checkFromToIndex"), (0, .methodref 42 515), (0, .nameAndType 516 97), (0, u "codePointCount"), (58, .class_ 576), (0, u "java/lang/CharSequence"), (22, u "CASE_INSENSITIVE_ORDER"), (0, u "Ljava/util/Comparator;"), (35, u "(II)I"), (373, u "([C)V"), (90, u "serialPersistentFields"), (0, u "[Ljava/io/ObjectStreamField;"), (0, .class_ 1104), (0, u "java/lang/String$CaseInsensitiveComparator"), (1, .class_ 1107), (0, u "java/io/Serializable"), (0, .class_ 1109), (0, u "java/lang/Comparable"), (0, .class_ 1111), (0, u "java/lang/constant/Constable"), (0, .class_ 1113), (0, u "java/lang/constant/ConstantDesc"), (2, u "serialVersionUID"), (0, u "J"), (3, u "REPL"), (0, u "C"), (2, u "LATIN1"), (1, u "UTF16")] 323

def k8m0 : Method := { name := "<init>", desc := "()V", sig := { parameters := [], returnType := none }, accessFlags := 1, code := none }
def k8c1 : Code := { maxStack := 5, maxLocals := 2, code := jdk_42_method_3_code, exceptionTable := #[], attributes := #[] }
def k8m1 : Method := { name := "<init>", desc := "([C)V", sig := { parameters := [(.array .char)], returnType := none }, accessFlags := 1, code := some k8c1 }
def k8c2 : Code := { maxStack := 2, maxLocals := 1, code := jdk_42_method_54_code, exceptionTable := #[], attributes := #[] }
def k8m2 : Method := { name := "length", desc := "()I", sig := { parameters := [], returnType := some .int }, accessFlags := 1, code := some k8c2 }
def k8c3 : Code := { maxStack := 3, maxLocals := 3, code := jdk_42_method_59_code, exceptionTable := #[], attributes := #[] }
def k8m3 : Method := { name := "codePointCount", desc := "(II)I", sig := { parameters := [.int, .int], returnType := some .int }, accessFlags := 1, code := some k8c3 }
def k8c4 : Code := { maxStack := 4, maxLocals := 6, code := jdk_42_method_149_code, exceptionTable := #[], attributes := #[] }
def k8m4 : Method := { name := "<init>", desc := "([CIILjava/lang/Void;)V", sig := { parameters := [(.array .char), .int, .int, (.object "java/lang/Void")], returnType := none }, accessFlags := 2, code := some k8c4 }
def k8c5 : Code := { maxStack := 1, maxLocals := 1, code := jdk_42_method_152_code, exceptionTable := #[], attributes := #[] }
def k8m5 : Method := { name := "coder", desc := "()B", sig := { parameters := [], returnType := some .byte }, accessFlags := 0, code := some k8c5 }
def k8c6 : Code := { maxStack := 1, maxLocals := 1, code := jdk_42_method_154_code, exceptionTable := #[], attributes := #[] }
def k8m6 : Method := { name := "isLatin1", desc := "()Z", sig := { parameters := [], returnType := some .boolean }, accessFlags := 0, code := some k8c6 }
/-- java/lang/String -/
def k8 : Class := { plain "java/lang/String" (some 0) with
  accessFlags := 49
  interfaces := #[3, 4, 5, 6, 7]
  cf := some (fileOf pool8 10 #[.nestMembers #[1103]] #[{ accessFlags := 1, nameIndex := 5, descriptorIndex := 6, attributes := #[] }, { accessFlags := 1, nameIndex := 5, descriptorIndex := 1010, attributes := #[] }, { accessFlags := 1, nameIndex := 507, descriptorIndex := 334, attributes := #[] }, { accessFlags := 1, nameIndex := 516, descriptorIndex := 636, attributes := #[] }, { accessFlags := 2, nameIndex := 5, descriptorIndex := 29, attributes := #[] }, { accessFlags := 0, nameIndex := 17, descriptorIndex := 337, attributes := #[] }, { accessFlags := 0, nameIndex := 494, descriptorIndex := 142, attributes := #[] }] 49 2 #[1106, 1108, 575, 1110, 1112] #[{ accessFlags := 18, nameIndex := 13, descriptorIndex := 14, attributes := #[] }, { accessFlags := 18, nameIndex := 17, descriptorIndex := 18, attributes := #[] }, { accessFlags := 2, nameIndex := 21, descriptorIndex := 22, attributes := #[] }, { accessFlags := 2, nameIndex := 25, descriptorIndex := 26, attributes := #[] }, { accessFlags := 26, nameIndex := 1116, descriptorIndex := 1117, attributes := #[] }, { accessFlags := 24, nameIndex := 40, descriptorIndex := 26, attributes := #[] }, { accessFlags := 26, nameIndex := 1101, descriptorIndex := 1102, attributes := #[] }, { accessFlags := 26, nameIndex := 1121, descriptorIndex := 1122, attributes := #[] }, { accessFlags := 25, nameIndex := 599, descriptorIndex := 600, attributes := #[] }, { accessFlags := 24, nameIndex := 1125, descriptorIndex := 18, attributes := #[] }, { accessFlags := 24, nameIndex := 1127, descriptorIndex := 18, attributes := #[] }])
  fields := #[{ name := "value", type := (.array .byte), accessFlags := 18, slot := 0, constantValue := 0 }, { name := "coder", type := .byte, accessFlags := 18, slot := 1, constantValue := 0 }, { name := "hash", type := .int, accessFlags := 2, slot := 2, constantValue := 0 }, { name := "hashIsZero", type := .boolean, accessFlags := 2, slot := 3, constantValue := 0 }, { name := "serialVersionUID", type := .long, accessFlags := 26, slot := 0, constantValue := 0 }, { name := "COMPACT_STRINGS", type := .boolean, accessFlags := 24, slot := 1, constantValue := 0 }, { name := "serialPersistentFields", type := (.array (.object "java/io/ObjectStreamField")), accessFlags := 26, slot := 2, constantValue := 0 }, { name := "REPL", type := .char, accessFlags := 26, slot := 3, constantValue := 0 }, { name := "CASE_INSENSITIVE_ORDER", type := (.object "java/util/Comparator"), accessFlags := 25, slot := 4, constantValue := 0 }, { name := "LATIN1", type := .byte, accessFlags := 24, slot := 5, constantValue := 0 }, { name := "UTF16", type := .byte, accessFlags := 24, slot := 6, constantValue := 0 }]
  methods := #[k8m0, k8m1, k8m2, k8m3, k8m4, k8m5, k8m6]
  instanceTypes := #[(.array .byte), .byte, .int, .boolean]
  staticTypes := #[.long, .boolean, (.array (.object "java/io/ObjectStreamField")), .char, (.object "java/util/Comparator"), .byte, .byte]
  resolved := Array.replicate 1451 none
  statics := some 0 }

def pool9 : Array CpInfo := pool [(4, .class_ 6), (1, u "java/lang/Object"), (0, u "<init>"), (0, u "()V"), (0, .methodref 10 11), (0, .class_ 12), (0, .nameAndType 13 14), (0, u "java/lang/String"), (0, u "length"), (0, u "()I"), (0, .methodref 10 16), (0, .nameAndType 17 18), (0, u "codePointCount"), (0, u "(II)I"), (0, .class_ 20), (0, u "com/example/package_pricing/packagepricing/catalog/Text"), (24, u "MAX_QUOTED"), (0, u "I"), (7, u "checkLength"), (0, u "(Ljava/lang/String;Ljava/lang/String;II)Ljava/lang/String;")] 23

def k9m0 : Method := { name := "<init>", desc := "()V", sig := { parameters := [], returnType := none }, accessFlags := 2, code := none }
def k9c1 : Code := { maxStack := 4, maxLocals := 6, code := prog_25_method_3_code, exceptionTable := #[], attributes := #[] }
def k9m1 : Method := { name := "checkLength", desc := "(Ljava/lang/String;Ljava/lang/String;II)Ljava/lang/String;", sig := { parameters := [(.object "java/lang/String"), (.object "java/lang/String"), .int, .int], returnType := some (.object "java/lang/String") }, accessFlags := 9, code := some k9c1 }
/-- com/example/package_pricing/packagepricing/catalog/Text -/
def k9 : Class := { plain "com/example/package_pricing/packagepricing/catalog/Text" (some 0) with
  accessFlags := 33
  interfaces := #[]
  cf := some (fileOf pool9 19 #[] #[{ accessFlags := 2, nameIndex := 7, descriptorIndex := 8, attributes := #[] }, { accessFlags := 9, nameIndex := 54, descriptorIndex := 55, attributes := #[] }] 33 4 #[] #[{ accessFlags := 26, nameIndex := 45, descriptorIndex := 46, attributes := #[] }])
  fields := #[{ name := "MAX_QUOTED", type := .int, accessFlags := 26, slot := 0, constantValue := 0 }]
  methods := #[k9m0, k9m1]
  instanceTypes := #[]
  staticTypes := #[.int]
  resolved := Array.replicate 79 none
  statics := none }

def pool10 : Array CpInfo := pool [(2, .class_ 4), (1, u "java/lang/Object"), (0, u "<init>"), (0, u "()V"), (35, .class_ 44), (1, u "java/util/Objects"), (61, .class_ 108), (1, u "jdk/internal/util/Preconditions"), (2, .methodref 106 112), (0, .nameAndType 113 114), (0, u "checkFromToIndex"), (0, u "(IIILjava/util/function/BiFunction;)I"), (60, u "(III)I")] 8

def k10m0 : Method := { name := "<init>", desc := "()V", sig := { parameters := [], returnType := none }, accessFlags := 2, code := none }
def k10c1 : Code := { maxStack := 4, maxLocals := 3, code := jdk_31_method_18_code, exceptionTable := #[], attributes := #[] }
def k10m1 : Method := { name := "checkFromToIndex", desc := "(III)I", sig := { parameters := [.int, .int, .int], returnType := some .int }, accessFlags := 9, code := some k10c1 }
/-- java/util/Objects -/
def k10 : Class := { plain "java/util/Objects" (some 0) with
  accessFlags := 49
  interfaces := #[]
  cf := some (fileOf pool10 42 #[] #[{ accessFlags := 2, nameIndex := 5, descriptorIndex := 6, attributes := #[] }, { accessFlags := 9, nameIndex := 113, descriptorIndex := 175, attributes := #[] }] 49 2 #[] #[])
  fields := #[]
  methods := #[k10m0, k10m1]
  instanceTypes := #[]
  staticTypes := #[]
  resolved := Array.replicate 184 none
  statics := none }

def pool11 : Array CpInfo := pool [(2, .class_ 4), (1, u "java/lang/Object"), (0, u "<init>"), (0, u "()V"), (17, .class_ 26), (1, u "jdk/internal/util/Preconditions"), (20, u "checkFromToIndex"), (7, .class_ 56), (0, u "jdk/internal/util/Preconditions$4"), (57, .class_ 115), (0, u "jdk/internal/util/Preconditions$1"), (7, u "SIOOBE_FORMATTER"), (0, u "Ljava/util/function/BiFunction;"), (0, .class_ 126), (0, u "jdk/internal/util/Preconditions$2"), (3, u "AIOOBE_FORMATTER"), (0, .class_ 132), (0, u "jdk/internal/util/Preconditions$3"), (3, u "IOOBE_FORMATTER"), (46, u "(IIILjava/util/function/BiFunction;)I")] 10

def k11m0 : Method := { name := "<init>", desc := "()V", sig := { parameters := [], returnType := none }, accessFlags := 1, code := none }
def k11c1 : Code := { maxStack := 4, maxLocals := 4, code := jdk_41_method_12_code, exceptionTable := #[], attributes := #[] }
def k11m1 : Method := { name := "checkFromToIndex", desc := "(IIILjava/util/function/BiFunction;)I", sig := { parameters := [.int, .int, .int, (.object "java/util/function/BiFunction")], returnType := some .int }, accessFlags := 9, code := some k11c1 }
/-- jdk/internal/util/Preconditions -/
def k11 : Class := { plain "jdk/internal/util/Preconditions" (some 0) with
  accessFlags := 33
  interfaces := #[]
  cf := some (fileOf pool11 24 #[.nestMembers #[55, 131, 125, 114]] #[{ accessFlags := 1, nameIndex := 5, descriptorIndex := 6, attributes := #[] }, { accessFlags := 9, nameIndex := 47, descriptorIndex := 183, attributes := #[] }] 33 2 #[] #[{ accessFlags := 25, nameIndex := 123, descriptorIndex := 124, attributes := #[] }, { accessFlags := 25, nameIndex := 130, descriptorIndex := 124, attributes := #[] }, { accessFlags := 25, nameIndex := 136, descriptorIndex := 124, attributes := #[] }])
  fields := #[{ name := "SIOOBE_FORMATTER", type := (.object "java/util/function/BiFunction"), accessFlags := 25, slot := 0, constantValue := 0 }, { name := "AIOOBE_FORMATTER", type := (.object "java/util/function/BiFunction"), accessFlags := 25, slot := 1, constantValue := 0 }, { name := "IOOBE_FORMATTER", type := (.object "java/util/function/BiFunction"), accessFlags := 25, slot := 2, constantValue := 0 }]
  methods := #[k11m0, k11m1]
  instanceTypes := #[]
  staticTypes := #[(.object "java/util/function/BiFunction"), (.object "java/util/function/BiFunction"), (.object "java/util/function/BiFunction")]
  resolved := Array.replicate 194 none
  statics := some 1 }

def pool12 : Array CpInfo := pool [(6, .class_ 8), (1, u "java/lang/Object"), (0, u "<init>"), (0, u "()V"), (0, .methodref 12 13), (0, .class_ 14), (0, .nameAndType 15 16), (0, u "java/lang/StringUTF16"), (0, u "newBytesLength"), (0, u "(I)I"), (3, .integer 1073741823), (23, .fieldref 12 45), (0, .nameAndType 46 47), (0, u "$assertionsDisabled"), (0, u "Z"), (11, .fieldref 12 60), (0, .nameAndType 61 62), (0, u "HI_BYTE_SHIFT"), (0, u "I"), (0, .fieldref 12 64), (0, .nameAndType 65 62), (0, u "LO_BYTE_SHIFT"), (5, .methodref 12 72), (0, .nameAndType 73 74), (0, u "getChar"), (0, u "([BI)C"), (0, .methodref 76 77), (0, .class_ 78), (0, .nameAndType 79 80), (0, u "java/lang/Character"), (0, u "isHighSurrogate"), (0, u "(C)Z"), (0, .methodref 76 82), (0, .nameAndType 83 80), (0, u "isLowSurrogate"), (7, u "([BIIZ)I"), (8, .methodref 12 101), (0, .nameAndType 102 91), (0, u "codePointCount"), (4, .methodref 12 108), (0, .nameAndType 109 110), (0, u "newBytesFor"), (0, u "(I)[B"), (0, .methodref 12 112), (0, .nameAndType 113 114), (0, u "putChar"), (0, u "([BII)V"), (0, .methodref 12 116), (0, .nameAndType 117 118), (0, u "compress"), (0, u "([CI[BII)I"), (0, .methodref 12 120), (0, .nameAndType 121 122), (0, u "toBytes"), (0, u "([CII)[B"), (127, u "([BII)I"), (10, u "coderFromArrayLen"), (0, u "([BI)B"), (106, .class_ 371), (1, u "java/lang/StringUTF16$LinesSpliterator"), (58, u "MAX_LENGTH"), (196, .class_ 628), (0, u "java/lang/StringUTF16$CodePointsSpliterator"), (0, .class_ 630), (0, u "java/lang/StringUTF16$CharsSpliterator")] 4

def k12m0 : Method := { name := "<init>", desc := "()V", sig := { parameters := [], returnType := none }, accessFlags := 0, code := none }
def k12c1 : Code := { maxStack := 1, maxLocals := 1, code := jdk_52_method_2_code, exceptionTable := #[], attributes := #[] }
def k12m1 : Method := { name := "newBytesFor", desc := "(I)[B", sig := { parameters := [.int], returnType := some (.array .byte) }, accessFlags := 9, code := some k12c1 }
def k12c2 : Code := { maxStack := 4, maxLocals := 1, code := jdk_52_method_3_code, exceptionTable := #[], attributes := #[] }
def k12m2 : Method := { name := "newBytesLength", desc := "(I)I", sig := { parameters := [.int], returnType := some .int }, accessFlags := 9, code := some k12c2 }
def k12c3 : Code := { maxStack := 4, maxLocals := 3, code := jdk_52_method_4_code, exceptionTable := #[], attributes := #[] }
def k12m3 : Method := { name := "putChar", desc := "([BII)V", sig := { parameters := [(.array .byte), .int, .int], returnType := none }, accessFlags := 8, code := some k12c3 }
def k12c4 : Code := { maxStack := 3, maxLocals := 2, code := jdk_52_method_5_code, exceptionTable := #[], attributes := #[] }
def k12m4 : Method := { name := "getChar", desc := "([BI)C", sig := { parameters := [(.array .byte), .int], returnType := some .char }, accessFlags := 8, code := some k12c4 }
def k12c5 : Code := { maxStack := 3, maxLocals := 6, code := jdk_52_method_11_code, exceptionTable := #[], attributes := #[] }
def k12m5 : Method := { name := "codePointCount", desc := "([BIIZ)I", sig := { parameters := [(.array .byte), .int, .int, .boolean], returnType := some .int }, accessFlags := 10, code := some k12c5 }
def k12c6 : Code := { maxStack := 4, maxLocals := 3, code := jdk_52_method_12_code, exceptionTable := #[], attributes := #[] }
def k12m6 : Method := { name := "codePointCount", desc := "([BII)I", sig := { parameters := [(.array .byte), .int, .int], returnType := some .int }, accessFlags := 9, code := some k12c6 }
def k12c7 : Code := { maxStack := 4, maxLocals := 5, code := jdk_52_method_14_code, exceptionTable := #[], attributes := #[] }
def k12m7 : Method := { name := "toBytes", desc := "([CII)[B", sig := { parameters := [(.array .char), .int, .int], returnType := some (.array .byte) }, accessFlags := 9, code := some k12c7 }
def k12c8 : Code := { maxStack := 2, maxLocals := 2, code := jdk_52_method_15_code, exceptionTable := #[], attributes := #[] }
def k12m8 : Method := { name := "coderFromArrayLen", desc := "([BI)B", sig := { parameters := [(.array .byte), .int], returnType := some .byte }, accessFlags := 8, code := some k12c8 }
def k12c9 : Code := { maxStack := 5, maxLocals := 6, code := jdk_52_method_16_code, exceptionTable := #[], attributes := #[] }
def k12m9 : Method := { name := "compress", desc := "([CII)[B", sig := { parameters := [(.array .char), .int, .int], returnType := some (.array .byte) }, accessFlags := 9, code := some k12c9 }
def k12c10 : Code := { maxStack := 3, maxLocals := 7, code := jdk_52_method_21_code, exceptionTable := #[], attributes := #[] }
def k12m10 : Method := { name := "compress", desc := "([CI[BII)I", sig := { parameters := [(.array .char), .int, (.array .byte), .int, .int], returnType := some .int }, accessFlags := 9, code := some k12c10 }
/-- java/lang/StringUTF16 -/
def k12 : Class := { plain "java/lang/StringUTF16" (some 0) with
  accessFlags := 48
  interfaces := #[]
  cf := some (fileOf pool12 12 #[.nestMembers #[627, 629, 369]] #[{ accessFlags := 0, nameIndex := 9, descriptorIndex := 10, attributes := #[] }, { accessFlags := 9, nameIndex := 109, descriptorIndex := 110, attributes := #[] }, { accessFlags := 9, nameIndex := 15, descriptorIndex := 16, attributes := #[] }, { accessFlags := 8, nameIndex := 113, descriptorIndex := 114, attributes := #[] }, { accessFlags := 8, nameIndex := 73, descriptorIndex := 74, attributes := #[] }, { accessFlags := 10, nameIndex := 102, descriptorIndex := 91, attributes := #[] }, { accessFlags := 9, nameIndex := 102, descriptorIndex := 250, attributes := #[] }, { accessFlags := 9, nameIndex := 121, descriptorIndex := 122, attributes := #[] }, { accessFlags := 8, nameIndex := 261, descriptorIndex := 262, attributes := #[] }, { accessFlags := 9, nameIndex := 117, descriptorIndex := 122, attributes := #[] }, { accessFlags := 9, nameIndex := 117, descriptorIndex := 118, attributes := #[] }] 48 6 #[] #[{ accessFlags := 26, nameIndex := 61, descriptorIndex := 62, attributes := #[] }, { accessFlags := 26, nameIndex := 65, descriptorIndex := 62, attributes := #[] }, { accessFlags := 24, nameIndex := 430, descriptorIndex := 62, attributes := #[] }, { accessFlags := 4120, nameIndex := 46, descriptorIndex := 47, attributes := #[] }])
  fields := #[{ name := "HI_BYTE_SHIFT", type := .int, accessFlags := 26, slot := 0, constantValue := 0 }, { name := "LO_BYTE_SHIFT", type := .int, accessFlags := 26, slot := 1, constantValue := 0 }, { name := "MAX_LENGTH", type := .int, accessFlags := 24, slot := 2, constantValue := 0 }, { name := "$assertionsDisabled", type := .boolean, accessFlags := 4120, slot := 3, constantValue := 0 }]
  methods := #[k12m0, k12m1, k12m2, k12m3, k12m4, k12m5, k12m6, k12m7, k12m8, k12m9, k12m10]
  instanceTypes := #[]
  staticTypes := #[.int, .int, .int, .boolean]
  resolved := Array.replicate 635 none
  statics := some 2 }

def pool13 : Array CpInfo := pool [(1, .class_ 2), (0, u "java/lang/Character"), (18, u "value"), (0, u "C"), (19, .class_ 44), (1, u "java/lang/Object"), (3, .class_ 50), (1, u "java/lang/Character$CharacterCache"), (24, .integer 55296), (0, .integer 56320), (0, .integer 57344), (2, u "isHighSurrogate"), (0, u "(C)Z"), (2, u "isLowSurrogate"), (199, u "$assertionsDisabled"), (0, u "Z"), (21, .class_ 309), (1, u "java/lang/Character$UnicodeBlock"), (73, u "TYPE"), (0, u "Ljava/lang/Class;"), (0, .class_ 386), (0, u "java/io/Serializable"), (0, .class_ 388), (0, u "java/lang/Comparable"), (0, .class_ 390), (0, u "java/lang/constant/Constable"), (0, u "MIN_RADIX"), (0, u "I"), (2, u "MAX_RADIX"), (1, u "MIN_VALUE"), (1, u "MAX_VALUE"), (3, u "UNASSIGNED"), (0, u "B"), (0, u "UPPERCASE_LETTER"), (1, u "LOWERCASE_LETTER"), (0, u "TITLECASE_LETTER"), (1, u "MODIFIER_LETTER"), (1, u "OTHER_LETTER"), (1, u "NON_SPACING_MARK"), (1, u "ENCLOSING_MARK"), (1, u "COMBINING_SPACING_MARK"), (1, u "DECIMAL_DIGIT_NUMBER"), (1, u "LETTER_NUMBER"), (1, u "OTHER_NUMBER"), (1, u "SPACE_SEPARATOR"), (1, u "LINE_SEPARATOR"), (1, u "PARAGRAPH_SEPARATOR"), (1, u "CONTROL"), (1, u "FORMAT"), (1, u "PRIVATE_USE"), (1, u "SURROGATE"), (1, u "DASH_PUNCTUATION"), (1, u "START_PUNCTUATION"), (1, u "END_PUNCTUATION"), (1, u "CONNECTOR_PUNCTUATION"), (1, u "OTHER_PUNCTUATION"), (1, u "MATH_SYMBOL"), (1, u "CURRENCY_SYMBOL"), (1, u "MODIFIER_SYMBOL"), (1, u "OTHER_SYMBOL"), (1, u "INITIAL_QUOTE_PUNCTUATION"), (1, u "FINAL_QUOTE_PUNCTUATION"), (1, u "ERROR"), (1, u "DIRECTIONALITY_UNDEFINED"), (0, u "DIRECTIONALITY_LEFT_TO_RIGHT"), (0, u "DIRECTIONALITY_RIGHT_TO_LEFT"), (0, u "DIRECTIONALITY_RIGHT_TO_LEFT_ARABIC"), (0, u "DIRECTIONALITY_EUROPEAN_NUMBER"), (0, u "DIRECTIONALITY_EUROPEAN_NUMBER_SEPARATOR"), (0, u "DIRECTIONALITY_EUROPEAN_NUMBER_TERMINATOR"), (0, u "DIRECTIONALITY_ARABIC_NUMBER"), (0, u "DIRECTIONALITY_COMMON_NUMBER_SEPARATOR"), (0, u "DIRECTIONALITY_NONSPACING_MARK"), (0, u "DIRECTIONALITY_BOUNDARY_NEUTRAL"), (0, u "DIRECTIONALITY_PARAGRAPH_SEPARATOR"), (0, u "DIRECTIONALITY_SEGMENT_SEPARATOR"), (0, u "DIRECTIONALITY_WHITESPACE"), (0, u "DIRECTIONALITY_OTHER_NEUTRALS"), (0, u "DIRECTIONALITY_LEFT_TO_RIGHT_EMBEDDING"), (0, u "DIRECTIONALITY_LEFT_TO_RIGHT_OVERRIDE"), (0, u "DIRECTIONALITY_RIGHT_TO_LEFT_EMBEDDING"), (0, u "DIRECTIONALITY_RIGHT_TO_LEFT_OVERRIDE"), (1, u "DIRECTIONALITY_POP_DIRECTIONAL_FORMAT"), (0, u "DIRECTIONALITY_LEFT_TO_RIGHT_ISOLATE"), (0, u "DIRECTIONALITY_RIGHT_TO_LEFT_ISOLATE"), (0, u "DIRECTIONALITY_FIRST_STRONG_ISOLATE"), (0, u "DIRECTIONALITY_POP_DIRECTIONAL_ISOLATE"), (0, u "MIN_HIGH_SURROGATE"), (0, u "MAX_HIGH_SURROGATE"), (1, u "MIN_LOW_SURROGATE"), (0, u "MAX_LOW_SURROGATE"), (1, u "MIN_SURROGATE"), (0, u "MAX_SURROGATE"), (0, u "MIN_SUPPLEMENTARY_CODE_POINT"), (0, u "MIN_CODE_POINT"), (0, u "MAX_CODE_POINT"), (1, u "serialVersionUID"), (0, u "J"), (2, u "SIZE"), (0, u "BYTES"), (88, .class_ 596), (0, u "java/lang/Character$UnicodeScript"), (0, .class_ 598), (0, u "java/lang/Character$Subset")] 5

def k13c0 : Code := { maxStack := 2, maxLocals := 1, code := jdk_89_method_14_code, exceptionTable := #[], attributes := #[] }
def k13m0 : Method := { name := "isHighSurrogate", desc := "(C)Z", sig := { parameters := [.char], returnType := some .boolean }, accessFlags := 9, code := some k13c0 }
def k13c1 : Code := { maxStack := 2, maxLocals := 1, code := jdk_89_method_15_code, exceptionTable := #[], attributes := #[] }
def k13m1 : Method := { name := "isLowSurrogate", desc := "(C)Z", sig := { parameters := [.char], returnType := some .boolean }, accessFlags := 9, code := some k13c1 }
/-- java/lang/Character -/
def k13 : Class := { plain "java/lang/Character" (some 0) with
  accessFlags := 49
  interfaces := #[3, 4, 6]
  cf := some (fileOf pool13 1 #[.nestMembers #[48, 595, 307, 597]] #[{ accessFlags := 9, nameIndex := 80, descriptorIndex := 81, attributes := #[] }, { accessFlags := 9, nameIndex := 84, descriptorIndex := 81, attributes := #[] }] 49 42 #[385, 387, 389] #[{ accessFlags := 25, nameIndex := 391, descriptorIndex := 392, attributes := #[] }, { accessFlags := 25, nameIndex := 395, descriptorIndex := 392, attributes := #[] }, { accessFlags := 25, nameIndex := 397, descriptorIndex := 22, attributes := #[] }, { accessFlags := 25, nameIndex := 399, descriptorIndex := 22, attributes := #[] }, { accessFlags := 25, nameIndex := 383, descriptorIndex := 384, attributes := #[] }, { accessFlags := 25, nameIndex := 403, descriptorIndex := 404, attributes := #[] }, { accessFlags := 25, nameIndex := 405, descriptorIndex := 404, attributes := #[] }, { accessFlags := 25, nameIndex := 407, descriptorIndex := 404, attributes := #[] }, { accessFlags := 25, nameIndex := 408, descriptorIndex := 404, attributes := #[] }, { accessFlags := 25, nameIndex := 410, descriptorIndex := 404, attributes := #[] }, { accessFlags := 25, nameIndex := 412, descriptorIndex := 404, attributes := #[] }, { accessFlags := 25, nameIndex := 414, descriptorIndex := 404, attributes := #[] }, { accessFlags := 25, nameIndex := 416, descriptorIndex := 404, attributes := #[] }, { accessFlags := 25, nameIndex := 418, descriptorIndex := 404, attributes := #[] }, { accessFlags := 25, nameIndex := 420, descriptorIndex := 404, attributes := #[] }, { accessFlags := 25, nameIndex := 422, descriptorIndex := 404, attributes := #[] }, { accessFlags := 25, nameIndex := 424, descriptorIndex := 404, attributes := #[] }, { accessFlags := 25, nameIndex := 426, descriptorIndex := 404, attributes := #[] }, { accessFlags := 25, nameIndex := 428, descriptorIndex := 404, attributes := #[] }, { accessFlags := 25, nameIndex := 430, descriptorIndex := 404, attributes := #[] }, { accessFlags := 25, nameIndex := 432, descriptorIndex := 404, attributes := #[] }, { accessFlags := 25, nameIndex := 434, descriptorIndex := 404, attributes := #[] }, { accessFlags := 25, nameIndex := 436, descriptorIndex := 404, attributes := #[] }, { accessFlags := 25, nameIndex := 438, descriptorIndex := 404, attributes := #[] }, { accessFlags := 25, nameIndex := 440, descriptorIndex := 404, attributes := #[] }, { accessFlags := 25, nameIndex := 442, descriptorIndex := 404, attributes := #[] }, { accessFlags := 25, nameIndex := 444, descriptorIndex := 404, attributes := #[] }, { accessFlags := 25, nameIndex := 446, descriptorIndex := 404, attributes := #[] }, { accessFlags := 25, nameIndex := 448, descriptorIndex := 404, attributes := #[] }, { accessFlags := 25, nameIndex := 450, descriptorIndex := 404, attributes := #[] }, { accessFlags := 25, nameIndex := 452, descriptorIndex := 404, attributes := #[] }, { accessFlags := 25, nameIndex := 454, descriptorIndex := 404, attributes := #[] }, { accessFlags := 25, nameIndex := 456, descriptorIndex := 404, attributes := #[] }, { accessFlags := 25, nameIndex := 458, descriptorIndex := 404, attributes := #[] }, { accessFlags := 25, nameIndex := 460, descriptorIndex := 404, attributes := #[] }, { accessFlags := 24, nameIndex := 462, descriptorIndex := 392, attributes := #[] }, { accessFlags := 25, nameIndex := 464, descriptorIndex := 404, attributes := #[] }, { accessFlags := 25, nameIndex := 465, descriptorIndex := 404, attributes := #[] }, { accessFlags := 25, nameIndex := 466, descriptorIndex := 404, attributes := #[] }, { accessFlags := 25, nameIndex := 467, descriptorIndex := 404, attributes := #[] }, { accessFlags := 25, nameIndex := 468, descriptorIndex := 404, attributes := #[] }, { accessFlags := 25, nameIndex := 469, descriptorIndex := 404, attributes := #[] }, { accessFlags := 25, nameIndex := 470, descriptorIndex := 404, attributes := #[] }, { accessFlags := 25, nameIndex := 471, descriptorIndex := 404, attributes := #[] }, { accessFlags := 25, nameIndex := 472, descriptorIndex := 404, attributes := #[] }, { accessFlags := 25, nameIndex := 473, descriptorIndex := 404, attributes := #[] }, { accessFlags := 25, nameIndex := 474, descriptorIndex := 404, attributes := #[] }, { accessFlags := 25, nameIndex := 475, descriptorIndex := 404, attributes := #[] }, { accessFlags := 25, nameIndex := 476, descriptorIndex := 404, attributes := #[] }, { accessFlags := 25, nameIndex := 477, descriptorIndex := 404, attributes := #[] }, { accessFlags := 25, nameIndex := 478, descriptorIndex := 404, attributes := #[] }, { accessFlags := 25, nameIndex := 479, descriptorIndex := 404, attributes := #[] }, { accessFlags := 25, nameIndex := 480, descriptorIndex := 404, attributes := #[] }, { accessFlags := 25, nameIndex := 481, descriptorIndex := 404, attributes := #[] }, { accessFlags := 25, nameIndex := 482, descriptorIndex := 404, attributes := #[] }, { accessFlags := 25, nameIndex := 484, descriptorIndex := 404, attributes := #[] }, { accessFlags := 25, nameIndex := 485, descriptorIndex := 404, attributes := #[] }, { accessFlags := 25, nameIndex := 486, descriptorIndex := 404, attributes := #[] }, { accessFlags := 25, nameIndex := 487, descriptorIndex := 404, attributes := #[] }, { accessFlags := 25, nameIndex := 488, descriptorIndex := 404, attributes := #[] }, { accessFlags := 25, nameIndex := 489, descriptorIndex := 22, attributes := #[] }, { accessFlags := 25, nameIndex := 490, descriptorIndex := 22, attributes := #[] }, { accessFlags := 25, nameIndex := 492, descriptorIndex := 22, attributes := #[] }, { accessFlags := 25, nameIndex := 493, descriptorIndex := 22, attributes := #[] }, { accessFlags := 25, nameIndex := 495, descriptorIndex := 22, attributes := #[] }, { accessFlags := 25, nameIndex := 496, descriptorIndex := 22, attributes := #[] }, { accessFlags := 25, nameIndex := 497, descriptorIndex := 392, attributes := #[] }, { accessFlags := 25, nameIndex := 498, descriptorIndex := 392, attributes := #[] }, { accessFlags := 25, nameIndex := 499, descriptorIndex := 392, attributes := #[] }, { accessFlags := 18, nameIndex := 21, descriptorIndex := 22, attributes := #[] }, { accessFlags := 26, nameIndex := 501, descriptorIndex := 502, attributes := #[] }, { accessFlags := 25, nameIndex := 505, descriptorIndex := 392, attributes := #[] }, { accessFlags := 25, nameIndex := 506, descriptorIndex := 392, attributes := #[] }, { accessFlags := 4120, nameIndex := 284, descriptorIndex := 285, attributes := #[] }])
  fields := #[{ name := "MIN_RADIX", type := .int, accessFlags := 25, slot := 0, constantValue := 0 }, { name := "MAX_RADIX", type := .int, accessFlags := 25, slot := 1, constantValue := 0 }, { name := "MIN_VALUE", type := .char, accessFlags := 25, slot := 2, constantValue := 0 }, { name := "MAX_VALUE", type := .char, accessFlags := 25, slot := 3, constantValue := 0 }, { name := "TYPE", type := (.object "java/lang/Class"), accessFlags := 25, slot := 4, constantValue := 0 }, { name := "UNASSIGNED", type := .byte, accessFlags := 25, slot := 5, constantValue := 0 }, { name := "UPPERCASE_LETTER", type := .byte, accessFlags := 25, slot := 6, constantValue := 0 }, { name := "LOWERCASE_LETTER", type := .byte, accessFlags := 25, slot := 7, constantValue := 0 }, { name := "TITLECASE_LETTER", type := .byte, accessFlags := 25, slot := 8, constantValue := 0 }, { name := "MODIFIER_LETTER", type := .byte, accessFlags := 25, slot := 9, constantValue := 0 }, { name := "OTHER_LETTER", type := .byte, accessFlags := 25, slot := 10, constantValue := 0 }, { name := "NON_SPACING_MARK", type := .byte, accessFlags := 25, slot := 11, constantValue := 0 }, { name := "ENCLOSING_MARK", type := .byte, accessFlags := 25, slot := 12, constantValue := 0 }, { name := "COMBINING_SPACING_MARK", type := .byte, accessFlags := 25, slot := 13, constantValue := 0 }, { name := "DECIMAL_DIGIT_NUMBER", type := .byte, accessFlags := 25, slot := 14, constantValue := 0 }, { name := "LETTER_NUMBER", type := .byte, accessFlags := 25, slot := 15, constantValue := 0 }, { name := "OTHER_NUMBER", type := .byte, accessFlags := 25, slot := 16, constantValue := 0 }, { name := "SPACE_SEPARATOR", type := .byte, accessFlags := 25, slot := 17, constantValue := 0 }, { name := "LINE_SEPARATOR", type := .byte, accessFlags := 25, slot := 18, constantValue := 0 }, { name := "PARAGRAPH_SEPARATOR", type := .byte, accessFlags := 25, slot := 19, constantValue := 0 }, { name := "CONTROL", type := .byte, accessFlags := 25, slot := 20, constantValue := 0 }, { name := "FORMAT", type := .byte, accessFlags := 25, slot := 21, constantValue := 0 }, { name := "PRIVATE_USE", type := .byte, accessFlags := 25, slot := 22, constantValue := 0 }, { name := "SURROGATE", type := .byte, accessFlags := 25, slot := 23, constantValue := 0 }, { name := "DASH_PUNCTUATION", type := .byte, accessFlags := 25, slot := 24, constantValue := 0 }, { name := "START_PUNCTUATION", type := .byte, accessFlags := 25, slot := 25, constantValue := 0 }, { name := "END_PUNCTUATION", type := .byte, accessFlags := 25, slot := 26, constantValue := 0 }, { name := "CONNECTOR_PUNCTUATION", type := .byte, accessFlags := 25, slot := 27, constantValue := 0 }, { name := "OTHER_PUNCTUATION", type := .byte, accessFlags := 25, slot := 28, constantValue := 0 }, { name := "MATH_SYMBOL", type := .byte, accessFlags := 25, slot := 29, constantValue := 0 }, { name := "CURRENCY_SYMBOL", type := .byte, accessFlags := 25, slot := 30, constantValue := 0 }, { name := "MODIFIER_SYMBOL", type := .byte, accessFlags := 25, slot := 31, constantValue := 0 }, { name := "OTHER_SYMBOL", type := .byte, accessFlags := 25, slot := 32, constantValue := 0 }, { name := "INITIAL_QUOTE_PUNCTUATION", type := .byte, accessFlags := 25, slot := 33, constantValue := 0 }, { name := "FINAL_QUOTE_PUNCTUATION", type := .byte, accessFlags := 25, slot := 34, constantValue := 0 }, { name := "ERROR", type := .int, accessFlags := 24, slot := 35, constantValue := 0 }, { name := "DIRECTIONALITY_UNDEFINED", type := .byte, accessFlags := 25, slot := 36, constantValue := 0 }, { name := "DIRECTIONALITY_LEFT_TO_RIGHT", type := .byte, accessFlags := 25, slot := 37, constantValue := 0 }, { name := "DIRECTIONALITY_RIGHT_TO_LEFT", type := .byte, accessFlags := 25, slot := 38, constantValue := 0 }, { name := "DIRECTIONALITY_RIGHT_TO_LEFT_ARABIC", type := .byte, accessFlags := 25, slot := 39, constantValue := 0 }, { name := "DIRECTIONALITY_EUROPEAN_NUMBER", type := .byte, accessFlags := 25, slot := 40, constantValue := 0 }, { name := "DIRECTIONALITY_EUROPEAN_NUMBER_SEPARATOR", type := .byte, accessFlags := 25, slot := 41, constantValue := 0 }, { name := "DIRECTIONALITY_EUROPEAN_NUMBER_TERMINATOR", type := .byte, accessFlags := 25, slot := 42, constantValue := 0 }, { name := "DIRECTIONALITY_ARABIC_NUMBER", type := .byte, accessFlags := 25, slot := 43, constantValue := 0 }, { name := "DIRECTIONALITY_COMMON_NUMBER_SEPARATOR", type := .byte, accessFlags := 25, slot := 44, constantValue := 0 }, { name := "DIRECTIONALITY_NONSPACING_MARK", type := .byte, accessFlags := 25, slot := 45, constantValue := 0 }, { name := "DIRECTIONALITY_BOUNDARY_NEUTRAL", type := .byte, accessFlags := 25, slot := 46, constantValue := 0 }, { name := "DIRECTIONALITY_PARAGRAPH_SEPARATOR", type := .byte, accessFlags := 25, slot := 47, constantValue := 0 }, { name := "DIRECTIONALITY_SEGMENT_SEPARATOR", type := .byte, accessFlags := 25, slot := 48, constantValue := 0 }, { name := "DIRECTIONALITY_WHITESPACE", type := .byte, accessFlags := 25, slot := 49, constantValue := 0 }, { name := "DIRECTIONALITY_OTHER_NEUTRALS", type := .byte, accessFlags := 25, slot := 50, constantValue := 0 }, { name := "DIRECTIONALITY_LEFT_TO_RIGHT_EMBEDDING", type := .byte, accessFlags := 25, slot := 51, constantValue := 0 }, { name := "DIRECTIONALITY_LEFT_TO_RIGHT_OVERRIDE", type := .byte, accessFlags := 25, slot := 52, constantValue := 0 }, { name := "DIRECTIONALITY_RIGHT_TO_LEFT_EMBEDDING", type := .byte, accessFlags := 25, slot := 53, constantValue := 0 }, { name := "DIRECTIONALITY_RIGHT_TO_LEFT_OVERRIDE", type := .byte, accessFlags := 25, slot := 54, constantValue := 0 }, { name := "DIRECTIONALITY_POP_DIRECTIONAL_FORMAT", type := .byte, accessFlags := 25, slot := 55, constantValue := 0 }, { name := "DIRECTIONALITY_LEFT_TO_RIGHT_ISOLATE", type := .byte, accessFlags := 25, slot := 56, constantValue := 0 }, { name := "DIRECTIONALITY_RIGHT_TO_LEFT_ISOLATE", type := .byte, accessFlags := 25, slot := 57, constantValue := 0 }, { name := "DIRECTIONALITY_FIRST_STRONG_ISOLATE", type := .byte, accessFlags := 25, slot := 58, constantValue := 0 }, { name := "DIRECTIONALITY_POP_DIRECTIONAL_ISOLATE", type := .byte, accessFlags := 25, slot := 59, constantValue := 0 }, { name := "MIN_HIGH_SURROGATE", type := .char, accessFlags := 25, slot := 60, constantValue := 0 }, { name := "MAX_HIGH_SURROGATE", type := .char, accessFlags := 25, slot := 61, constantValue := 0 }, { name := "MIN_LOW_SURROGATE", type := .char, accessFlags := 25, slot := 62, constantValue := 0 }, { name := "MAX_LOW_SURROGATE", type := .char, accessFlags := 25, slot := 63, constantValue := 0 }, { name := "MIN_SURROGATE", type := .char, accessFlags := 25, slot := 64, constantValue := 0 }, { name := "MAX_SURROGATE", type := .char, accessFlags := 25, slot := 65, constantValue := 0 }, { name := "MIN_SUPPLEMENTARY_CODE_POINT", type := .int, accessFlags := 25, slot := 66, constantValue := 0 }, { name := "MIN_CODE_POINT", type := .int, accessFlags := 25, slot := 67, constantValue := 0 }, { name := "MAX_CODE_POINT", type := .int, accessFlags := 25, slot := 68, constantValue := 0 }, { name := "value", type := .char, accessFlags := 18, slot := 0, constantValue := 0 }, { name := "serialVersionUID", type := .long, accessFlags := 26, slot := 69, constantValue := 0 }, { name := "SIZE", type := .int, accessFlags := 25, slot := 70, constantValue := 0 }, { name := "BYTES", type := .int, accessFlags := 25, slot := 71, constantValue := 0 }, { name := "$assertionsDisabled", type := .boolean, accessFlags := 4120, slot := 72, constantValue := 0 }]
  methods := #[k13m0, k13m1]
  instanceTypes := #[.char]
  staticTypes := #[.int, .int, .char, .char, (.object "java/lang/Class"), .byte, .byte, .byte, .byte, .byte, .byte, .byte, .byte, .byte, .byte, .byte, .byte, .byte, .byte, .byte, .byte, .byte, .byte, .byte, .byte, .byte, .byte, .byte, .byte, .byte, .byte, .byte, .byte, .byte, .byte, .int, .byte, .byte, .byte, .byte, .byte, .byte, .byte, .byte, .byte, .byte, .byte, .byte, .byte, .byte, .byte, .byte, .byte, .byte, .byte, .byte, .byte, .byte, .byte, .byte, .char, .char, .char, .char, .char, .char, .int, .int, .int, .long, .int, .int, .boolean]
  resolved := Array.replicate 604 none
  statics := none }

def pool14 : Array CpInfo := pool [(4, .class_ 6), (1, u "java/lang/Object"), (0, u "<init>"), (0, u "()V"), (5, .class_ 16), (1, u "java/lang/StringLatin1"), (104, u "$assertionsDisabled"), (0, u "Z"), (98, .class_ 223), (1, u "java/lang/StringLatin1$LinesSpliterator"), (166, .class_ 391), (0, u "java/lang/StringLatin1$CharsSpliterator")] 3

def k14m0 : Method := { name := "<init>", desc := "()V", sig := { parameters := [], returnType := none }, accessFlags := 0, code := none }
/-- java/lang/StringLatin1 -/
def k14 : Class := { plain "java/lang/StringLatin1" (some 0) with
  accessFlags := 48
  interfaces := #[]
  cf := some (fileOf pool14 14 #[.nestMembers #[390, 221]] #[{ accessFlags := 0, nameIndex := 7, descriptorIndex := 8, attributes := #[] }] 48 4 #[] #[{ accessFlags := 4120, nameIndex := 121, descriptorIndex := 122, attributes := #[] }])
  fields := #[{ name := "$assertionsDisabled", type := .boolean, accessFlags := 4120, slot := 0, constantValue := 0 }]
  methods := #[k14m0]
  instanceTypes := #[]
  staticTypes := #[.boolean]
  resolved := Array.replicate 395 none
  statics := none }

def pool15 : Array CpInfo := pool [(9, u "<init>"), (6, .class_ 18), (1, u "java/lang/Object"), (0, u "()V"), (1, .class_ 23), (1, u "jdk/internal/util/ArraysSupport"), (0, u "LOG2_ARRAY_LONG_INDEX_SCALE"), (0, u "I"), (2, u "U"), (0, u "Ljdk/internal/misc/Unsafe;"), (8, u "BIG_ENDIAN"), (0, u "Z"), (8, u "LOG2_BYTE_BIT_SIZE"), (4, u "LOG2_ARRAY_INT_INDEX_SCALE"), (54, u "JLA"), (0, u "Ljdk/internal/access/JavaLangAccess;"), (11, u "LOG2_ARRAY_BOOLEAN_INDEX_SCALE"), (9, u "LOG2_ARRAY_BYTE_INDEX_SCALE"), (5, u "LOG2_ARRAY_CHAR_INDEX_SCALE"), (5, u "LOG2_ARRAY_SHORT_INDEX_SCALE"), (18, u "LOG2_ARRAY_FLOAT_INDEX_SCALE"), (24, u "LOG2_ARRAY_DOUBLE_INDEX_SCALE"), (89, u "T_BOOLEAN"), (2, u "T_CHAR"), (1, u "T_FLOAT"), (1, u "T_DOUBLE"), (1, u "T_BYTE"), (1, u "T_SHORT"), (1, u "T_INT"), (1, u "T_LONG"), (1, u "SOFT_MAX_ARRAY_LENGTH")] 83

def k15m0 : Method := { name := "<init>", desc := "()V", sig := { parameters := [], returnType := none }, accessFlags := 2, code := none }
/-- jdk/internal/util/ArraysSupport -/
def k15 : Class := { plain "jdk/internal/util/ArraysSupport" (some 0) with
  accessFlags := 33
  interfaces := #[]
  cf := some (fileOf pool15 21 #[] #[{ accessFlags := 2, nameIndex := 9, descriptorIndex := 19, attributes := #[] }] 33 16 #[] #[{ accessFlags := 24, nameIndex := 28, descriptorIndex := 29, attributes := #[] }, { accessFlags := 26, nameIndex := 38, descriptorIndex := 39, attributes := #[] }, { accessFlags := 25, nameIndex := 121, descriptorIndex := 25, attributes := #[] }, { accessFlags := 25, nameIndex := 131, descriptorIndex := 25, attributes := #[] }, { accessFlags := 25, nameIndex := 137, descriptorIndex := 25, attributes := #[] }, { accessFlags := 25, nameIndex := 143, descriptorIndex := 25, attributes := #[] }, { accessFlags := 25, nameIndex := 53, descriptorIndex := 25, attributes := #[] }, { accessFlags := 25, nameIndex := 24, descriptorIndex := 25, attributes := #[] }, { accessFlags := 25, nameIndex := 162, descriptorIndex := 25, attributes := #[] }, { accessFlags := 25, nameIndex := 187, descriptorIndex := 25, attributes := #[] }, { accessFlags := 26, nameIndex := 48, descriptorIndex := 25, attributes := #[] }, { accessFlags := 25, nameIndex := 277, descriptorIndex := 25, attributes := #[] }, { accessFlags := 25, nameIndex := 280, descriptorIndex := 25, attributes := #[] }, { accessFlags := 25, nameIndex := 282, descriptorIndex := 25, attributes := #[] }, { accessFlags := 25, nameIndex := 284, descriptorIndex := 25, attributes := #[] }, { accessFlags := 25, nameIndex := 286, descriptorIndex := 25, attributes := #[] }, { accessFlags := 25, nameIndex := 288, descriptorIndex := 25, attributes := #[] }, { accessFlags := 25, nameIndex := 290, descriptorIndex := 25, attributes := #[] }, { accessFlags := 25, nameIndex := 292, descriptorIndex := 25, attributes := #[] }, { accessFlags := 26, nameIndex := 108, descriptorIndex := 109, attributes := #[] }, { accessFlags := 25, nameIndex := 294, descriptorIndex := 25, attributes := #[] }])
  fields := #[{ name := "U", type := (.object "jdk/internal/misc/Unsafe"), accessFlags := 24, slot := 0, constantValue := 0 }, { name := "BIG_ENDIAN", type := .boolean, accessFlags := 26, slot := 1, constantValue := 0 }, { name := "LOG2_ARRAY_BOOLEAN_INDEX_SCALE", type := .int, accessFlags := 25, slot := 2, constantValue := 0 }, { name := "LOG2_ARRAY_BYTE_INDEX_SCALE", type := .int, accessFlags := 25, slot := 3, constantValue := 0 }, { name := "LOG2_ARRAY_CHAR_INDEX_SCALE", type := .int, accessFlags := 25, slot := 4, constantValue := 0 }, { name := "LOG2_ARRAY_SHORT_INDEX_SCALE", type := .int, accessFlags := 25, slot := 5, constantValue := 0 }, { name := "LOG2_ARRAY_INT_INDEX_SCALE", type := .int, accessFlags := 25, slot := 6, constantValue := 0 }, { name := "LOG2_ARRAY_LONG_INDEX_SCALE", type := .int, accessFlags := 25, slot := 7, constantValue := 0 }, { name := "LOG2_ARRAY_FLOAT_INDEX_SCALE", type := .int, accessFlags := 25, slot := 8, constantValue := 0 }, { name := "LOG2_ARRAY_DOUBLE_INDEX_SCALE", type := .int, accessFlags := 25, slot := 9, constantValue := 0 }, { name := "LOG2_BYTE_BIT_SIZE", type := .int, accessFlags := 26, slot := 10, constantValue := 0 }, { name := "T_BOOLEAN", type := .int, accessFlags := 25, slot := 11, constantValue := 0 }, { name := "T_CHAR", type := .int, accessFlags := 25, slot := 12, constantValue := 0 }, { name := "T_FLOAT", type := .int, accessFlags := 25, slot := 13, constantValue := 0 }, { name := "T_DOUBLE", type := .int, accessFlags := 25, slot := 14, constantValue := 0 }, { name := "T_BYTE", type := .int, accessFlags := 25, slot := 15, constantValue := 0 }, { name := "T_SHORT", type := .int, accessFlags := 25, slot := 16, constantValue := 0 }, { name := "T_INT", type := .int, accessFlags := 25, slot := 17, constantValue := 0 }, { name := "T_LONG", type := .int, accessFlags := 25, slot := 18, constantValue := 0 }, { name := "JLA", type := (.object "jdk/internal/access/JavaLangAccess"), accessFlags := 26, slot := 19, constantValue := 0 }, { name := "SOFT_MAX_ARRAY_LENGTH", type := .int, accessFlags := 25, slot := 20, constantValue := 0 }]
  methods := #[k15m0]
  instanceTypes := #[]
  staticTypes := #[(.object "jdk/internal/misc/Unsafe"), .boolean, .int, .int, .int, .int, .int, .int, .int, .int, .int, .int, .int, .int, .int, .int, .int, .int, .int, (.object "jdk/internal/access/JavaLangAccess"), .int]
  resolved := Array.replicate 378 none
  statics := none }

def pool16 : Array CpInfo := pool [(1, u "java/lang/Cloneable"), (0, .class_ 1), (0, u "java/lang/Object"), (0, .class_ 3)] 3

/-- java/lang/Cloneable -/
def k16 : Class := { plain "java/lang/Cloneable" (some 0) with
  accessFlags := 1537
  interfaces := #[]
  cf := some (fileOf pool16 2 #[] #[] 1537 4 #[] #[])
  fields := #[]
  methods := #[]
  instanceTypes := #[]
  staticTypes := #[]
  resolved := Array.replicate 8 none
  statics := none }

/-- the primitive byte -/
def k17 : Class := { plain "byte" none with kind := .primitive 'B', accessFlags := 0x411 }
/-- [B -/
def k18 : Class := { plain "[B" (some 0) with kind := .array 17 .byte, interfaces := #[16, 3], accessFlags := 1041 }

/-- the primitive char -/
def k19 : Class := { plain "char" none with kind := .primitive 'C', accessFlags := 0x411 }
/-- [C -/
def k20 : Class := { plain "[C" (some 0) with kind := .array 19 .char, interfaces := #[16, 3], accessFlags := 1041 }

/-- the primitive int -/
def k21 : Class := { plain "int" none with kind := .primitive 'I', accessFlags := 0x411 }
/-- [I -/
def k22 : Class := { plain "[I" (some 0) with kind := .array 21 .int, interfaces := #[16, 3], accessFlags := 1041 }

def heap : Heap := #[{ cls := 8, slots := #[.long 0, .int 1, .null, .int 0, .null, .int 0, .int 0], vm := .statics 8 },
  { cls := 11, slots := #[.null, .null, .null], vm := .statics 11 },
  { cls := 12, slots := #[.int 0, .int 8, .int 0, .int 1], vm := .statics 12 }]
def classes : Array Class := #[k0, k1, k2, k3, k4, k5, k6, k7, k8, k9, k10, k11, k12, k13, k14, k15, k16, k17, k18, k19, k20, k21, k22]
def interned : List (Array UInt16 × Addr) := []
def slotsUsed : Nat := 14
def theMethod : MethodId := ⟨1, 4⟩
def args0 : Array Value := #[.int 5, .int 7, .int 3, .int 9, .int 2]
def aboutOver (below : List Frame) : State where
  vm := { classes := classes, interned := interned.toArray }
  heap := heap
  slotsUsed := slotsUsed
  threads := #[{ frames := .invoking theMethod args0 :: below }]
def below0 : List Frame := [.native { method := ⟨0, 0⟩, args := #[] }]
def about1 : State := aboutOver below0
def p0 : Program := .bare "" "" ""
def e0 : Env := launch0.env 0 0 0
theorem w_frames : about1.frames = Frame.invoking theMethod args0 :: below0 := rfl
set_option maxRecDepth 65536 in
theorem w_args : argsFit about1.vm theMethod args0 = true := by decide +kernel
set_option maxRecDepth 65536 in
theorem w_heap : heapFits about1 = true := by decide +kernel
set_option maxRecDepth 65536 in
theorem w_runnable : about1.curStatus? = some .runnable := by decide +kernel
set_option maxRecDepth 65536 in
theorem w_alone : about1.alone = true := by decide +kernel
set_option maxRecDepth 65536 in
theorem w_named : about1.methodNamed? x = some theMethod := by decide +kernel
set_option maxRecDepth 65536 in
theorem w_hears : about1.hears theMethod below0 = true := by decide +kernel
set_option maxRecDepth 65536 in
theorem w_ripe : about1.ripe theMethod args0 below0 = true := by decide +kernel
theorem w_running : about1.status = .running := rfl
set_option maxRecDepth 65536 in
theorem w_room : about1.hasRoom e0.platform room_1 = true :=
  launch0.hasRoom_least _ room_1 (by decide +kernel) (by decide +kernel) (by decide +kernel) (by decide +kernel) (by decide +kernel) (by decide +kernel)
theorem allAtoms_all (ts : List Jvm.Cond) (a : Array Jvm.Value) (st : Jvm.State) : (allAtoms ts).before a st = ts.all (fun c => c.before a st) := by
  induction ts with
  | nil => rfl
  | cons c t ih =>
    show (Jvm.Cond.and c (allAtoms t)).before a st = _
    rw [Jvm.Cond.before_and, ih, List.all_cons]
def words1 : List Jvm.Cond := Jvm.Cond.code x code maxLocals ret :: tables_1
/-- a 'code' word, met by the world's own term for the bytes: nothing is compared byte by byte -/
theorem code_word {y : MethodName} {bytes : ByteArray} {mx : Nat} {rt : Option FieldType} {a : Array Value} {s : State} {m : MethodId} {meth : Method} {c : Code} (h1 : s.methodNamed? y = some m) (h2 : s.vm.method? m = some meth) (h3 : meth.code = some c) (h4 : c.code = bytes)
    (h5 : (c.maxLocals == mx && c.exceptionTable.isEmpty && decide (c.maxStack ≤ mostOperands) && decide (meth.sig.returnType = rt) && !meth.locks && decide (parseMethodDescriptor y.desc = some meth.sig)) = true) : (Jvm.Cond.code y bytes mx rt).before a s = true := by
  simp only [Bool.and_eq_true, beq_iff_eq, Bool.not_eq_true', decide_eq_true_eq] at h5
  obtain ⟨⟨⟨⟨⟨g1, g2⟩, g3⟩, g4⟩, g5⟩, g6⟩ := h5
  simp [Cond.before, Cond.holds, Cond.value, h1, h2, h3, h4, g1, g2, g3, g4, g5, g6]
def isCode : Jvm.Cond → Bool
  | .code _ _ _ _ => true
  | _ => false
theorem all_split {L : List Jvm.Cond} {P : Jvm.Cond → Bool} (h1 : L.all (fun c => isCode c || P c) = true) (h2 : ∀ c ∈ L.filter isCode, P c = true) : L.all P = true := by
  refine List.all_eq_true.mpr fun c hc => ?_
  have h := List.all_eq_true.mp h1 c hc
  rcases Bool.eq_false_or_eq_true (isCode c) with hi | hi
  · exact h2 c (List.mem_filter.mpr ⟨hc, hi⟩)
  · simpa [hi] using h
set_option maxRecDepth 65536 in
theorem w_c0 : (Jvm.Cond.code x code maxLocals ret).before args0 about1 = true := code_word (m := ⟨1, 4⟩) (meth := k1m4) (c := k1c4) (by decide +kernel) rfl rfl rfl (by decide +kernel)
set_option maxRecDepth 65536 in
theorem w_c1 : (Jvm.Cond.code ({ cls := "com/example/package_pricing/packagepricing/catalog/TextCheckLengthPinLaw", name := "draw", desc := "(II)C" } : Jvm.MethodName) method_4_code (3 : Nat) (Option.some Jvm.ClassFile.FieldType.char)).before args0 about1 = true := code_word (m := ⟨1, 3⟩) (meth := k1m3) (c := k1c3) (by decide +kernel) rfl rfl rfl (by decide +kernel)
set_option maxRecDepth 65536 in
theorem w_c2 : (Jvm.Cond.code ({ cls := "java/lang/Math", name := "min", desc := "(II)I" } : Jvm.MethodName) jdk_29_method_69_code (2 : Nat) (Option.some Jvm.ClassFile.FieldType.int)).before args0 about1 = true := code_word (m := ⟨2, 2⟩) (meth := k2m2) (c := k2c2) (by decide +kernel) rfl rfl rfl (by decide +kernel)
set_option maxRecDepth 65536 in
theorem w_c3 : (Jvm.Cond.code ({ cls := "java/lang/Math", name := "max", desc := "(II)I" } : Jvm.MethodName) jdk_29_method_65_code (2 : Nat) (Option.some Jvm.ClassFile.FieldType.int)).before args0 about1 = true := code_word (m := ⟨2, 1⟩) (meth := k2m1) (c := k2c1) (by decide +kernel) rfl rfl rfl (by decide +kernel)
set_option maxRecDepth 65536 in
theorem w_c4 : (Jvm.Cond.code ({ cls := "java/lang/String", name := "<init>", desc := "([C)V" } : Jvm.MethodName) jdk_42_method_3_code (2 : Nat) (Option.none : Option Jvm.ClassFile.FieldType)).before args0 about1 = true := code_word (m := ⟨8, 1⟩) (meth := k8m1) (c := k8c1) (by decide +kernel) rfl rfl rfl (by decide +kernel)
set_option maxRecDepth 65536 in
theorem w_c5 : (Jvm.Cond.code ({ cls := "java/lang/String", name := "<init>", desc := "([CIILjava/lang/Void;)V" } : Jvm.MethodName) jdk_42_method_149_code (6 : Nat) (Option.none : Option Jvm.ClassFile.FieldType)).before args0 about1 = true := code_word (m := ⟨8, 4⟩) (meth := k8m4) (c := k8c4) (by decide +kernel) rfl rfl rfl (by decide +kernel)
set_option maxRecDepth 65536 in
theorem w_c6 : (Jvm.Cond.code ({ cls := "java/lang/Object", name := "<init>", desc := "()V" } : Jvm.MethodName) object_method_1_code (1 : Nat) (Option.none : Option Jvm.ClassFile.FieldType)).before args0 about1 = true := code_word (m := ⟨0, 0⟩) (meth := k0m0) (c := k0c0) (by decide +kernel) rfl rfl rfl (by decide +kernel)
set_option maxRecDepth 65536 in
theorem w_c7 : (Jvm.Cond.code ({ cls := "com/example/package_pricing/packagepricing/catalog/Text", name := "checkLength", desc := "(Ljava/lang/String;Ljava/lang/String;II)Ljava/lang/String;" } : Jvm.MethodName) prog_25_method_3_code (6 : Nat) (Option.some (Jvm.ClassFile.FieldType.object "java/lang/String"))).before args0 about1 = true := code_word (m := ⟨9, 1⟩) (meth := k9m1) (c := k9c1) (by decide +kernel) rfl rfl rfl (by decide +kernel)
set_option maxRecDepth 65536 in
theorem w_c8 : (Jvm.Cond.code ({ cls := "java/lang/String", name := "length", desc := "()I" } : Jvm.MethodName) jdk_42_method_54_code (1 : Nat) (Option.some Jvm.ClassFile.FieldType.int)).before args0 about1 = true := code_word (m := ⟨8, 2⟩) (meth := k8m2) (c := k8c2) (by decide +kernel) rfl rfl rfl (by decide +kernel)
set_option maxRecDepth 65536 in
theorem w_c9 : (Jvm.Cond.code ({ cls := "java/lang/String", name := "coder", desc := "()B" } : Jvm.MethodName) jdk_42_method_152_code (1 : Nat) (Option.some Jvm.ClassFile.FieldType.byte)).before args0 about1 = true := code_word (m := ⟨8, 5⟩) (meth := k8m5) (c := k8c5) (by decide +kernel) rfl rfl rfl (by decide +kernel)
set_option maxRecDepth 65536 in
theorem w_c10 : (Jvm.Cond.code ({ cls := "java/lang/String", name := "codePointCount", desc := "(II)I" } : Jvm.MethodName) jdk_42_method_59_code (3 : Nat) (Option.some Jvm.ClassFile.FieldType.int)).before args0 about1 = true := code_word (m := ⟨8, 3⟩) (meth := k8m3) (c := k8c3) (by decide +kernel) rfl rfl rfl (by decide +kernel)
set_option maxRecDepth 65536 in
theorem w_c11 : (Jvm.Cond.code ({ cls := "java/util/Objects", name := "checkFromToIndex", desc := "(III)I" } : Jvm.MethodName) jdk_31_method_18_code (3 : Nat) (Option.some Jvm.ClassFile.FieldType.int)).before args0 about1 = true := code_word (m := ⟨10, 1⟩) (meth := k10m1) (c := k10c1) (by decide +kernel) rfl rfl rfl (by decide +kernel)
set_option maxRecDepth 65536 in
theorem w_c12 : (Jvm.Cond.code ({ cls := "jdk/internal/util/Preconditions", name := "checkFromToIndex", desc := "(IIILjava/util/function/BiFunction;)I" } : Jvm.MethodName) jdk_41_method_12_code (4 : Nat) (Option.some Jvm.ClassFile.FieldType.int)).before args0 about1 = true := code_word (m := ⟨11, 1⟩) (meth := k11m1) (c := k11c1) (by decide +kernel) rfl rfl rfl (by decide +kernel)
set_option maxRecDepth 65536 in
theorem w_c13 : (Jvm.Cond.code ({ cls := "java/lang/String", name := "isLatin1", desc := "()Z" } : Jvm.MethodName) jdk_42_method_154_code (1 : Nat) (Option.some Jvm.ClassFile.FieldType.boolean)).before args0 about1 = true := code_word (m := ⟨8, 6⟩) (meth := k8m6) (c := k8c6) (by decide +kernel) rfl rfl rfl (by decide +kernel)
set_option maxRecDepth 65536 in
theorem w_c14 : (Jvm.Cond.code ({ cls := "java/lang/StringUTF16", name := "compress", desc := "([CII)[B" } : Jvm.MethodName) jdk_52_method_16_code (6 : Nat) (Option.some (Jvm.ClassFile.FieldType.array Jvm.ClassFile.FieldType.byte))).before args0 about1 = true := code_word (m := ⟨12, 9⟩) (meth := k12m9) (c := k12c9) (by decide +kernel) rfl rfl rfl (by decide +kernel)
set_option maxRecDepth 65536 in
theorem w_c15 : (Jvm.Cond.code ({ cls := "java/lang/StringUTF16", name := "compress", desc := "([CI[BII)I" } : Jvm.MethodName) jdk_52_method_21_code (7 : Nat) (Option.some Jvm.ClassFile.FieldType.int)).before args0 about1 = true := code_word (m := ⟨12, 10⟩) (meth := k12m10) (c := k12c10) (by decide +kernel) rfl rfl rfl (by decide +kernel)
set_option maxRecDepth 65536 in
theorem w_c16 : (Jvm.Cond.code ({ cls := "java/lang/StringUTF16", name := "toBytes", desc := "([CII)[B" } : Jvm.MethodName) jdk_52_method_14_code (5 : Nat) (Option.some (Jvm.ClassFile.FieldType.array Jvm.ClassFile.FieldType.byte))).before args0 about1 = true := code_word (m := ⟨12, 7⟩) (meth := k12m7) (c := k12c7) (by decide +kernel) rfl rfl rfl (by decide +kernel)
set_option maxRecDepth 65536 in
theorem w_c17 : (Jvm.Cond.code ({ cls := "java/lang/StringUTF16", name := "newBytesFor", desc := "(I)[B" } : Jvm.MethodName) jdk_52_method_2_code (1 : Nat) (Option.some (Jvm.ClassFile.FieldType.array Jvm.ClassFile.FieldType.byte))).before args0 about1 = true := code_word (m := ⟨12, 1⟩) (meth := k12m1) (c := k12c1) (by decide +kernel) rfl rfl rfl (by decide +kernel)
set_option maxRecDepth 65536 in
theorem w_c18 : (Jvm.Cond.code ({ cls := "java/lang/StringUTF16", name := "newBytesLength", desc := "(I)I" } : Jvm.MethodName) jdk_52_method_3_code (1 : Nat) (Option.some Jvm.ClassFile.FieldType.int)).before args0 about1 = true := code_word (m := ⟨12, 2⟩) (meth := k12m2) (c := k12c2) (by decide +kernel) rfl rfl rfl (by decide +kernel)
set_option maxRecDepth 65536 in
theorem w_c19 : (Jvm.Cond.code ({ cls := "java/lang/StringUTF16", name := "putChar", desc := "([BII)V" } : Jvm.MethodName) jdk_52_method_4_code (3 : Nat) (Option.none : Option Jvm.ClassFile.FieldType)).before args0 about1 = true := code_word (m := ⟨12, 3⟩) (meth := k12m3) (c := k12c3) (by decide +kernel) rfl rfl rfl (by decide +kernel)
set_option maxRecDepth 65536 in
theorem w_c20 : (Jvm.Cond.code ({ cls := "java/lang/StringUTF16", name := "getChar", desc := "([BI)C" } : Jvm.MethodName) jdk_52_method_5_code (2 : Nat) (Option.some Jvm.ClassFile.FieldType.char)).before args0 about1 = true := code_word (m := ⟨12, 4⟩) (meth := k12m4) (c := k12c4) (by decide +kernel) rfl rfl rfl (by decide +kernel)
set_option maxRecDepth 65536 in
theorem w_c21 : (Jvm.Cond.code ({ cls := "java/lang/StringUTF16", name := "coderFromArrayLen", desc := "([BI)B" } : Jvm.MethodName) jdk_52_method_15_code (2 : Nat) (Option.some Jvm.ClassFile.FieldType.byte)).before args0 about1 = true := code_word (m := ⟨12, 8⟩) (meth := k12m8) (c := k12c8) (by decide +kernel) rfl rfl rfl (by decide +kernel)
set_option maxRecDepth 65536 in
theorem w_c22 : (Jvm.Cond.code ({ cls := "java/lang/StringUTF16", name := "codePointCount", desc := "([BII)I" } : Jvm.MethodName) jdk_52_method_12_code (3 : Nat) (Option.some Jvm.ClassFile.FieldType.int)).before args0 about1 = true := code_word (m := ⟨12, 6⟩) (meth := k12m6) (c := k12c6) (by decide +kernel) rfl rfl rfl (by decide +kernel)
set_option maxRecDepth 65536 in
theorem w_c23 : (Jvm.Cond.code ({ cls := "java/lang/StringUTF16", name := "codePointCount", desc := "([BIIZ)I" } : Jvm.MethodName) jdk_52_method_11_code (6 : Nat) (Option.some Jvm.ClassFile.FieldType.int)).before args0 about1 = true := code_word (m := ⟨12, 5⟩) (meth := k12m5) (c := k12c5) (by decide +kernel) rfl rfl rfl (by decide +kernel)
set_option maxRecDepth 65536 in
theorem w_c24 : (Jvm.Cond.code ({ cls := "com/example/package_pricing/packagepricing/catalog/TextCheckLengthPinLaw", name := "hi", desc := "(C)Z" } : Jvm.MethodName) method_2_code (1 : Nat) (Option.some Jvm.ClassFile.FieldType.boolean)).before args0 about1 = true := code_word (m := ⟨1, 1⟩) (meth := k1m1) (c := k1c1) (by decide +kernel) rfl rfl rfl (by decide +kernel)
set_option maxRecDepth 65536 in
theorem w_c25 : (Jvm.Cond.code ({ cls := "java/lang/Character", name := "isHighSurrogate", desc := "(C)Z" } : Jvm.MethodName) jdk_89_method_14_code (1 : Nat) (Option.some Jvm.ClassFile.FieldType.boolean)).before args0 about1 = true := code_word (m := ⟨13, 0⟩) (meth := k13m0) (c := k13c0) (by decide +kernel) rfl rfl rfl (by decide +kernel)
set_option maxRecDepth 65536 in
theorem w_c26 : (Jvm.Cond.code ({ cls := "com/example/package_pricing/packagepricing/catalog/TextCheckLengthPinLaw", name := "lo", desc := "(C)Z" } : Jvm.MethodName) method_3_code (1 : Nat) (Option.some Jvm.ClassFile.FieldType.boolean)).before args0 about1 = true := code_word (m := ⟨1, 2⟩) (meth := k1m2) (c := k1c2) (by decide +kernel) rfl rfl rfl (by decide +kernel)
set_option maxRecDepth 65536 in
theorem w_c27 : (Jvm.Cond.code ({ cls := "java/lang/Character", name := "isLowSurrogate", desc := "(C)Z" } : Jvm.MethodName) jdk_89_method_15_code (1 : Nat) (Option.some Jvm.ClassFile.FieldType.boolean)).before args0 about1 = true := code_word (m := ⟨13, 1⟩) (meth := k13m1) (c := k13c1) (by decide +kernel) rfl rfl rfl (by decide +kernel)
def codes1 : List Jvm.Cond := [Jvm.Cond.code x code maxLocals ret, Jvm.Cond.code ({ cls := "com/example/package_pricing/packagepricing/catalog/TextCheckLengthPinLaw", name := "draw", desc := "(II)C" } : Jvm.MethodName) method_4_code (3 : Nat) (Option.some Jvm.ClassFile.FieldType.char), Jvm.Cond.code ({ cls := "java/lang/Math", name := "min", desc := "(II)I" } : Jvm.MethodName) jdk_29_method_69_code (2 : Nat) (Option.some Jvm.ClassFile.FieldType.int), Jvm.Cond.code ({ cls := "java/lang/Math", name := "max", desc := "(II)I" } : Jvm.MethodName) jdk_29_method_65_code (2 : Nat) (Option.some Jvm.ClassFile.FieldType.int), Jvm.Cond.code ({ cls := "java/lang/String", name := "<init>", desc := "([C)V" } : Jvm.MethodName) jdk_42_method_3_code (2 : Nat) (Option.none : Option Jvm.ClassFile.FieldType), Jvm.Cond.code ({ cls := "java/lang/String", name := "<init>", desc := "([CIILjava/lang/Void;)V" } : Jvm.MethodName) jdk_42_method_149_code (6 : Nat) (Option.none : Option Jvm.ClassFile.FieldType), Jvm.Cond.code ({ cls := "java/lang/Object", name := "<init>", desc := "()V" } : Jvm.MethodName) object_method_1_code (1 : Nat) (Option.none : Option Jvm.ClassFile.FieldType), Jvm.Cond.code ({ cls := "com/example/package_pricing/packagepricing/catalog/Text", name := "checkLength", desc := "(Ljava/lang/String;Ljava/lang/String;II)Ljava/lang/String;" } : Jvm.MethodName) prog_25_method_3_code (6 : Nat) (Option.some (Jvm.ClassFile.FieldType.object "java/lang/String")), Jvm.Cond.code ({ cls := "java/lang/String", name := "length", desc := "()I" } : Jvm.MethodName) jdk_42_method_54_code (1 : Nat) (Option.some Jvm.ClassFile.FieldType.int), Jvm.Cond.code ({ cls := "java/lang/String", name := "coder", desc := "()B" } : Jvm.MethodName) jdk_42_method_152_code (1 : Nat) (Option.some Jvm.ClassFile.FieldType.byte), Jvm.Cond.code ({ cls := "java/lang/String", name := "codePointCount", desc := "(II)I" } : Jvm.MethodName) jdk_42_method_59_code (3 : Nat) (Option.some Jvm.ClassFile.FieldType.int), Jvm.Cond.code ({ cls := "java/util/Objects", name := "checkFromToIndex", desc := "(III)I" } : Jvm.MethodName) jdk_31_method_18_code (3 : Nat) (Option.some Jvm.ClassFile.FieldType.int), Jvm.Cond.code ({ cls := "jdk/internal/util/Preconditions", name := "checkFromToIndex", desc := "(IIILjava/util/function/BiFunction;)I" } : Jvm.MethodName) jdk_41_method_12_code (4 : Nat) (Option.some Jvm.ClassFile.FieldType.int), Jvm.Cond.code ({ cls := "java/lang/String", name := "isLatin1", desc := "()Z" } : Jvm.MethodName) jdk_42_method_154_code (1 : Nat) (Option.some Jvm.ClassFile.FieldType.boolean), Jvm.Cond.code ({ cls := "java/lang/StringUTF16", name := "compress", desc := "([CII)[B" } : Jvm.MethodName) jdk_52_method_16_code (6 : Nat) (Option.some (Jvm.ClassFile.FieldType.array Jvm.ClassFile.FieldType.byte)), Jvm.Cond.code ({ cls := "java/lang/StringUTF16", name := "compress", desc := "([CI[BII)I" } : Jvm.MethodName) jdk_52_method_21_code (7 : Nat) (Option.some Jvm.ClassFile.FieldType.int), Jvm.Cond.code ({ cls := "java/lang/StringUTF16", name := "toBytes", desc := "([CII)[B" } : Jvm.MethodName) jdk_52_method_14_code (5 : Nat) (Option.some (Jvm.ClassFile.FieldType.array Jvm.ClassFile.FieldType.byte)), Jvm.Cond.code ({ cls := "java/lang/StringUTF16", name := "newBytesFor", desc := "(I)[B" } : Jvm.MethodName) jdk_52_method_2_code (1 : Nat) (Option.some (Jvm.ClassFile.FieldType.array Jvm.ClassFile.FieldType.byte)), Jvm.Cond.code ({ cls := "java/lang/StringUTF16", name := "newBytesLength", desc := "(I)I" } : Jvm.MethodName) jdk_52_method_3_code (1 : Nat) (Option.some Jvm.ClassFile.FieldType.int), Jvm.Cond.code ({ cls := "java/lang/StringUTF16", name := "putChar", desc := "([BII)V" } : Jvm.MethodName) jdk_52_method_4_code (3 : Nat) (Option.none : Option Jvm.ClassFile.FieldType), Jvm.Cond.code ({ cls := "java/lang/StringUTF16", name := "getChar", desc := "([BI)C" } : Jvm.MethodName) jdk_52_method_5_code (2 : Nat) (Option.some Jvm.ClassFile.FieldType.char), Jvm.Cond.code ({ cls := "java/lang/StringUTF16", name := "coderFromArrayLen", desc := "([BI)B" } : Jvm.MethodName) jdk_52_method_15_code (2 : Nat) (Option.some Jvm.ClassFile.FieldType.byte), Jvm.Cond.code ({ cls := "java/lang/StringUTF16", name := "codePointCount", desc := "([BII)I" } : Jvm.MethodName) jdk_52_method_12_code (3 : Nat) (Option.some Jvm.ClassFile.FieldType.int), Jvm.Cond.code ({ cls := "java/lang/StringUTF16", name := "codePointCount", desc := "([BIIZ)I" } : Jvm.MethodName) jdk_52_method_11_code (6 : Nat) (Option.some Jvm.ClassFile.FieldType.int), Jvm.Cond.code ({ cls := "com/example/package_pricing/packagepricing/catalog/TextCheckLengthPinLaw", name := "hi", desc := "(C)Z" } : Jvm.MethodName) method_2_code (1 : Nat) (Option.some Jvm.ClassFile.FieldType.boolean), Jvm.Cond.code ({ cls := "java/lang/Character", name := "isHighSurrogate", desc := "(C)Z" } : Jvm.MethodName) jdk_89_method_14_code (1 : Nat) (Option.some Jvm.ClassFile.FieldType.boolean), Jvm.Cond.code ({ cls := "com/example/package_pricing/packagepricing/catalog/TextCheckLengthPinLaw", name := "lo", desc := "(C)Z" } : Jvm.MethodName) method_3_code (1 : Nat) (Option.some Jvm.ClassFile.FieldType.boolean), Jvm.Cond.code ({ cls := "java/lang/Character", name := "isLowSurrogate", desc := "(C)Z" } : Jvm.MethodName) jdk_89_method_15_code (1 : Nat) (Option.some Jvm.ClassFile.FieldType.boolean)]
set_option maxRecDepth 65536 in
theorem codes_eq : words1.filter isCode = codes1 := rfl
theorem w_codes : ∀ c ∈ words1.filter isCode, c.before args0 about1 = true := by
  rw [codes_eq]
  intro c hc
  simp only [codes1, List.mem_cons, List.not_mem_nil, or_false] at hc
  rcases hc with rfl | rfl | rfl | rfl | rfl | rfl | rfl | rfl | rfl | rfl | rfl | rfl | rfl | rfl | rfl | rfl | rfl | rfl | rfl | rfl | rfl | rfl | rfl | rfl | rfl | rfl | rfl | rfl
  · exact w_c0
  · exact w_c1
  · exact w_c2
  · exact w_c3
  · exact w_c4
  · exact w_c5
  · exact w_c6
  · exact w_c7
  · exact w_c8
  · exact w_c9
  · exact w_c10
  · exact w_c11
  · exact w_c12
  · exact w_c13
  · exact w_c14
  · exact w_c15
  · exact w_c16
  · exact w_c17
  · exact w_c18
  · exact w_c19
  · exact w_c20
  · exact w_c21
  · exact w_c22
  · exact w_c23
  · exact w_c24
  · exact w_c25
  · exact w_c26
  · exact w_c27
set_option maxRecDepth 65536 in
theorem w_t1 : (words1.take 24).all (fun c => isCode c || c.before args0 about1) = true := by decide +kernel
set_option maxRecDepth 65536 in
theorem w_t2 : ((words1.drop 24).take 24).all (fun c => isCode c || c.before args0 about1) = true := by decide +kernel
set_option maxRecDepth 65536 in
theorem w_t3 : (((words1.drop 24).drop 24).take 24).all (fun c => isCode c || c.before args0 about1) = true := by decide +kernel
set_option maxRecDepth 65536 in
theorem w_t4 : ((((words1.drop 24).drop 24).drop 24).take 24).all (fun c => isCode c || c.before args0 about1) = true := by decide +kernel
set_option maxRecDepth 65536 in
theorem w_t5 : (((((words1.drop 24).drop 24).drop 24).drop 24).take 24).all (fun c => isCode c || c.before args0 about1) = true := by decide +kernel
set_option maxRecDepth 65536 in
theorem w_t6 : (((((words1.drop 24).drop 24).drop 24).drop 24).drop 24).all (fun c => isCode c || c.before args0 about1) = true := by decide +kernel
theorem w_tables : (allAtoms (Jvm.Cond.code x code maxLocals ret :: tables_1)).before args0 about1 = true := by
  rw [allAtoms_all]
  show words1.all (fun c => c.before args0 about1) = true
  refine all_split ?_ w_codes
  rw [← List.take_append_drop 24 words1, List.all_append, w_t1, ← List.take_append_drop 24 (words1.drop 24), List.all_append, w_t2, ← List.take_append_drop 24 ((words1.drop 24).drop 24), List.all_append, w_t3, ← List.take_append_drop 24 (((words1.drop 24).drop 24).drop 24), List.all_append, w_t4, ← List.take_append_drop 24 ((((words1.drop 24).drop 24).drop 24).drop 24), List.all_append, w_t5, w_t6]
  rfl
set_option maxRecDepth 65536 in
theorem w_rest : rest_1_c.before args0 about1 = true := by decide +kernel
set_option maxRecDepth 65536 in
theorem w_case : (Jvm.Cond.and given_1 narrow_1).before args0 about1 = true := by decide +kernel
set_option maxRecDepth 65536 in
theorem w_consts : constsHeld consts_1 about1 := Jvm.Lit.constsHeldB_iff.mp (by decide +kernel)
theorem w_applies : (headSpec (Jvm.Cond.code x code maxLocals ret :: tables_1) room_1).applies x e0.platform about1 = true :=
  (Spec.applies_iff w_frames).mpr ⟨w_running, w_runnable, w_alone, w_named, w_hears, w_ripe, w_room, w_tables⟩
theorem atStart : AtStart classFile x code maxLocals ret World_1 tables_1 room_1 Calls_1 rest_1 Pre_1 launch0 p0 e0 about1 theMethod args0 below0 :=
  ⟨lists_1, trivial, launch0.admits_env _ _ _, launch0.least_env, fairChoices_fair.cas, fairChoices_fair.clock, w_frames, w_args, w_heap, w_applies, ⟨w_consts, trivial⟩, w_rest, w_case⟩
end start1
theorem witness_1 : WitnessClaimed_1 := ⟨start1.p0, start1.e0, start1.about1, start1.theMethod, start1.args0, start1.below0, start1.atStart⟩
end Jvm.Pilot.@@N@@
