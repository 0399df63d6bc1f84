import JvmDerived
import JvmDerived.Pilot.@@N@@Statement
import JvmDerived.Pilot.@@N@@Code
set_option linter.unusedVariables false
set_option linter.unusedSimpArgs false
namespace Jvm.Own
open Sem ClassFile Op Lib Jvm.Stand Jvm.Free Jvm.LawKit Jvm.RoadKit
/-! A small logic of walks: 'Wp' says of a point of a body (pc, locals, stack, heap) that from every state that stands there the run ends with Q; one rule an instruction. 'Ct' is a body's contract. -/
def Fen (wd : Bool) (U : State) (o : Outcome) (U' : State) (L : List Loc) (k n : Nat) : Prop := ReturnedEndW U o U' L k n ∧ (wd = false → U.WarmedH U'.vm)
def Wh (hs : Heap) (ws : List Addr) (L : List Loc) : Prop := ∀ y ∈ L, y.base ∈ ws ∨ hs.size ≤ y.base
def Sf (Z : State) (EL : List (String × Nat)) (vm : Vm) (h : Heap) (F : List Addr) : Prop := ∀ x ∈ F, x < h.size ∧ Safe Z EL vm h x
def Sfe (Z : State) (EL : List (String × Nat)) (h : Heap) (F : List Addr) (a : Addr) : Prop := ∀ vm, Z.vm.Alike vm → Sf Z EL vm h F → Safe Z EL vm h a
def Ct (wd : Bool) (l : Launch) (Z : State) (EL : List (String × Nat)) (cw : List Cond) (y : MethodName) (bytes : ByteArray) (maxL : Nat) (ret : Option FieldType) (rm : Room) (as : Array Value) (h : Heap) (F ws : List Addr) (Q : Option Value → Heap → Prop) : Prop :=
  MetFree l y (head1 (Cond.code y bytes maxL ret :: cw) rm)
    (fun a U => a = as ∧ Z.Warmed39 U.vm ∧ U.heap = h ∧ CHv Z EL U.vm h ∧ Sf Z EL U.vm h F) (fun _ _ _ _ _ => True)
    (fun _ U o U' => ∃ v L, o = .returned v ∧ (Wh U.heap ws L ∧ Q v U'.heap) ∧ CHr Z EL U.vm U.heap U'.vm U'.heap ∧ Fen wd U o U' L rm.cells rm.slots)
def Inv (wd : Bool) (l : Launch) (Z : State) (a0 : Array Value) (EL : List (String × Nat)) (R : Room) (y : MethodName) (bytes : ByteArray) (maxL : Nat) (ret : Option FieldType) (hs : Heap) (ws : List Addr) (h : Heap) (F : List Addr) (k n : Nat)
    (p : Program) (e : Env) (s : State) (m : MethodId) (args : Array Value) (below : List Frame) (meth : Method) (c : Code) (vm0 : Vm) (k0 : Nat) (T : State) (locs : List Loc) : Prop :=
  (EW Z a0 EL ∧ p.tables.exec = Jvm.exec ∧ c.code = bytes ∧ c.maxLocals = maxL ∧ meth.sig.returnType = ret ∧ meth.name = y.name ∧ meth.locks = false) ∧
  (s.heap = hs ∧ (∀ x ∈ ws, Z.heap.size ≤ x) ∧ Z.heap.size ≤ hs.size ∧ Wh hs ws locs ∧ Ext Z.heap h) ∧
  (vm0.findClass y.cls = some m.cls ∧ s.Since vm0 k0 ∧ k0 ≤ h.size ∧ (wd = false → s.WarmedH vm0) ∧ Z.Warmed39 vm0 ∧ CHr Z EL s.vm hs vm0 h ∧ Sf Z EL vm0 h F) ∧
  Stand p l e R (s.setVm vm0) m args below meth c T locs k n ∧ T.heap = h
def Out (wd : Bool) (Z : State) (EL : List (String × Nat)) (R : Room) (hs : Heap) (ws : List Addr) (Q : Option Value → Heap → Prop) (p : Program) (e : Env) (s : State) (below : List Frame) (st : State) : Prop :=
  ∃ (v : Option Value) (t : State), Steps p.tables e below st t ∧ t.status = .running ∧ Ended t below (.returned v) ∧ ∃ L, Wh hs ws L ∧ Q v t.heap ∧ CHr Z EL s.vm hs t.vm t.heap ∧ Fen wd s (.returned v) t L R.cells R.slots
def Wp (wd : Bool) (l : Launch) (Z : State) (a0 : Array Value) (EL : List (String × Nat)) (R : Room) (y : MethodName) (bytes : ByteArray) (maxL : Nat) (ret : Option FieldType) (hs : Heap) (ws : List Addr) (Q : Option Value → Heap → Prop) (h : Heap) (F : List Addr) (k n pc : Nat) (Ls : Array Slot) (S : List Value) : Prop :=
  ∀ (p : Program) (e : Env) (s : State) (m : MethodId) (args : Array Value) (below : List Frame) (meth : Method) (c : Code) (vm0 : Vm) (k0 : Nat) (T : State) (locs : List Loc),
    Inv wd l Z a0 EL R y bytes maxL ret hs ws h F k n p e s m args below meth c vm0 k0 T locs → Out wd Z EL R hs ws Q p e s below (T.setTop (mkF m pc Ls S))
section Kit
variable {wd : Bool} {l : Launch} {Z : State} {EL : List (String × Nat)} {R : Room} {y : MethodName} {bytes : ByteArray} {maxL : Nat} {ret : Option FieldType} {hs : Heap} {ws : List Addr} {Q : Option Value → Heap → Prop} {h h' : Heap} {F F' : List Addr} {k n k' n' pc pc' pc1 : Nat} {Ls Ls' : Array Slot} {S S' : List Value}
variable {a0 : Array Value} {a b : Addr} {C O nm d : String} {v w : Value} {sl : Nat} {cl : Cell} {ty : FieldType}
theorem Sfe.mem (q : a ∈ F) : Sfe Z EL h F a := fun _ _ S => (S a q).2
theorem Sfe.exa (E : Exa Z h a C) (h1 : C ≠ "java/lang/String") (h2 : C ≠ "[B") : Sfe Z EL h F a := fun _ hal _ => Safe.exa hal E h1 h2
theorem Sfe.arr (A : Arr Z h a cl ty) (ht : ty ≠ .byte) : Sfe Z EL h F a := fun _ hal _ => Safe.arr hal A ht
theorem Out.back {p : Program} {e : Env} {s : State} {below : List Frame} {st st' : State} (o : Out wd Z EL R hs ws Q p e s below st') (f : ∀ t, Steps p.tables e below st' t → Steps p.tables e below st t) : Out wd Z EL R hs ws Q p e s below st := by
  obtain ⟨v, t, h1, r⟩ := o; exact ⟨v, t, f t h1, r⟩
theorem Wp.lift (f : ∀ (p : Program) (e : Env) (m : MethodId) (below : List Frame) (c : Code) (T t : State), At T m c below → p.tables.exec = Jvm.exec → c.code = bytes → Steps p.tables e below (T.setTop (mkF m pc' Ls' S')) t → Steps p.tables e below (T.setTop (mkF m pc Ls S)) t)
    (K : Wp wd l Z a0 EL R y bytes maxL ret hs ws Q h F k n pc' Ls' S') : Wp wd l Z a0 EL R y bytes maxL ret hs ws Q h F k n pc Ls S :=
  fun p e s m args below meth c vm0 k0 T locs I => (K p e s m args below meth c vm0 k0 T locs I).back fun t st => f p e m below c T t I.2.2.2.1.here I.1.2.1 I.1.2.2.1 st
theorem Wp.old (K : Ext Z.heap h → Wp wd l Z a0 EL R y bytes maxL ret hs ws Q h F k n pc Ls S) : Wp wd l Z a0 EL R y bytes maxL ret hs ws Q h F k n pc Ls S :=
  fun p e s m args below meth c vm0 k0 T locs I => K I.2.1.2.2.2.2 p e s m args below meth c vm0 k0 T locs I
theorem Wp.eqS (q : S = S') (K : Wp wd l Z a0 EL R y bytes maxL ret hs ws Q h F k n pc Ls S') : Wp wd l Z a0 EL R y bytes maxL ret hs ws Q h F k n pc Ls S := q ▸ K
theorem Wp.more (hk : k ≤ k') (hn : n ≤ n') (K : Wp wd l Z a0 EL R y bytes maxL ret hs ws Q h F k' n' pc Ls S) : Wp wd l Z a0 EL R y bytes maxL ret hs ws Q h F k n pc Ls S :=
  fun p e s m args below meth c vm0 k0 T locs I => K p e s m args below meth c vm0 k0 T locs ⟨I.1, I.2.1, I.2.2.1, I.2.2.2.1.mono hk hn, I.2.2.2.2⟩
theorem Wp.less (hF : ∀ x ∈ F', x ∈ F) (K : Wp wd l Z a0 EL R y bytes maxL ret hs ws Q h F' k n pc Ls S) : Wp wd l Z a0 EL R y bytes maxL ret hs ws Q h F k n pc Ls S :=
  fun p e s m args below meth c vm0 k0 T locs I => K p e s m args below meth c vm0 k0 T locs ⟨I.1, I.2.1, ⟨I.2.2.1.1, I.2.2.1.2.1, I.2.2.1.2.2.1, I.2.2.1.2.2.2.1, I.2.2.1.2.2.2.2.1, I.2.2.1.2.2.2.2.2.1, fun x hx => I.2.2.1.2.2.2.2.2.2 x (hF x hx)⟩, I.2.2.2⟩
/-- the cells of the start stand, but for the listed -/
theorem keep_of {s T : State} {locs : List Loc} {kk nn : Nat} (hsm : s.sameButNew T locs kk nn) (hL : Wh s.heap ws locs) : Keep s.heap T.heap ws := by
  refine ⟨hsm.2.1, fun x c hx hn => ?_, fun x c hx => ?_⟩
  · obtain ⟨c', h1, h2, -, h4⟩ := hsm.2.2.2.2.2 x c hx
    have hb := (Array.getElem?_eq_some_iff.mp hx).1
    have hsl : c'.slots = c.slots := Array.ext_getElem? fun i => h4 i fun hm => (hL _ hm).elim hn fun q => absurd q (Nat.not_le.mpr hb)
    have hcc : c' = c := by rw [h2, hsl]
    rw [← hcc]; exact h1
  · obtain ⟨c', h1, h2, h3, -⟩ := hsm.2.2.2.2.2 x c hx
    exact ⟨c', h1, by rw [h2], by rw [h2], h3⟩
theorem Ext.trans {h1 h2 h3 : Heap} (A : Ext h1 h2) (B : Ext h2 h3) : Ext h1 h3 := ⟨Nat.le_trans A.1 B.1, fun x c q => B.2 x c (A.2 x c q)⟩
theorem ext_wr (O : Ext Z.heap h) (W : Wr h h' a sl v) (q : Z.heap.size ≤ a) : Ext Z.heap h' := ⟨by rw [W.size]; exact O.1, fun x c hx => by
  obtain ⟨c', h1, -, -, -, h5, -⟩ := wr_at W (O.2 x c hx)
  rw [← h5 (Nat.ne_of_lt (Nat.lt_of_lt_of_le (Array.getElem?_eq_some_iff.mp hx).1 q))]; exact h1⟩
theorem ext_keep {wc : List Addr} (O : Ext Z.heap h) (K : Keep h h' wc) (q : ∀ x ∈ wc, Z.heap.size ≤ x) : Ext Z.heap h' := ⟨Nat.le_trans O.1 K.1, fun x c hx => K.2.1 x c (O.2 x c hx) fun hm => absurd (Array.getElem?_eq_some_iff.mp hx).1 (Nat.not_lt.mpr (q x hm))⟩
/-- a step that reads the tables or the heap and moves neither but by resolving -/
theorem Wp.tab (law : ∀ (p : Program) (e : Env) (s : State) (m : MethodId) (args : Array Value) (below : List Frame) (meth : Method) (c : Code) (T : State) (locs : List Loc), Stand p l e R s m args below meth c T locs k n → p.tables.exec = Jvm.exec → Z.Warmed39 s.vm → s.vm.findClass y.cls = some m.cls → c.code = bytes → c.maxLocals = maxL → s.heap = hs → T.heap = h → Ext Z.heap h →
      ∃ T', Stand p l e R s m args below meth c T' locs k n ∧ T'.heap = h ∧ ∀ t, Steps p.tables e below (T'.setTop (mkF m pc' Ls' S')) t → Steps p.tables e below (T.setTop (mkF m pc Ls S)) t)
    (K : Wp wd l Z a0 EL R y bytes maxL ret hs ws Q h F k n pc' Ls' S') : Wp wd l Z a0 EL R y bytes maxL ret hs ws Q h F k n pc Ls S := fun p e s m args below meth c vm0 k0 T locs I => by
  obtain ⟨⟨i1, i2, i3, i4, i5⟩, J, ⟨j1, j2, j3, j4, j5, j6⟩, X, eT⟩ := I
  obtain ⟨T', X', eT', st⟩ := law p e (s.setVm vm0) m args below meth c T locs X i2 j5 j1 i3 i4 J.1 eT J.2.2.2.2
  exact (K p e s m args below meth c vm0 k0 T' locs ⟨⟨i1, i2, i3, i4, i5⟩, J, ⟨j1, j2, j3, j4, j5, j6⟩, X', eT'⟩).back st
/-- a step that writes one place -/
theorem Wp.put (hw : a ∈ ws ∨ hs.size ≤ a) (sf : Sfe Z EL h F a) (law : ∀ (p : Program) (e : Env) (s : State) (m : MethodId) (args : Array Value) (below : List Frame) (meth : Method) (c : Code) (T : State) (locs : List Loc), Stand p l e R s m args below meth c T locs k n → p.tables.exec = Jvm.exec → Z.Warmed39 s.vm → s.vm.findClass y.cls = some m.cls → c.code = bytes → meth.name = y.name → T.heap = h →
      ∃ T' h', Stand p l e R s m args below meth c T' (locs ++ [⟨a, sl⟩]) k n ∧ T'.heap = h' ∧ Wr h h' a sl v ∧ ∀ t, Steps p.tables e below (T'.setTop (mkF m pc' Ls' S')) t → Steps p.tables e below (T.setTop (mkF m pc Ls S)) t)
    (K : ∀ h', Wr h h' a sl v → Wp wd l Z a0 EL R y bytes maxL ret hs ws Q h' F k n pc' Ls' S') : Wp wd l Z a0 EL R y bytes maxL ret hs ws Q h F k n pc Ls S := fun p e s m args below meth c vm0 k0 T locs I => by
  obtain ⟨⟨i1, i2, i3, i4, i5, i6, i7⟩, ⟨q1, q2, q3, q4, q5⟩, ⟨j1, j2, j3, j4, j5, j6, j7⟩, X, eT⟩ := I
  obtain ⟨T', h', X', eT', W, st⟩ := law p e (s.setVm vm0) m args below meth c T locs X i2 j5 j1 i3 i6 eT
  have S := sf vm0 j5.alike j7
  refine (K h' W p e s m args below meth c vm0 k0 T' _ ⟨⟨i1, i2, i3, i4, i5, i6, i7⟩, ⟨q1, q2, q3, fun z hz => ?_, ext_wr q5 W (hw.elim (q2 a) (Nat.le_trans q3))⟩, ⟨j1, j2, by rw [W.size]; exact j3, j4, j5, j6.trans (CHr.wr W S j6.1), fun x hx => ⟨by rw [W.size]; exact (j7 x hx).1, Safe.wr W S j6.1 (j7 x hx).2⟩⟩, X', eT'⟩).back st
  rcases List.mem_append.mp hz with hz | hz
  · exact q4 z hz
  · cases List.mem_singleton.mp hz; exact hw
/-- a step that makes one cell -/
theorem Wp.mk (P : Heap → Prop) (hlt : ∀ h', P h' → h.size < h'.size) (law : ∀ (p : Program) (e : Env) (s : State) (m : MethodId) (args : Array Value) (below : List Frame) (meth : Method) (c : Code) (T : State) (locs : List Loc), Stand p l e R s m args below meth c T locs k n → p.tables.exec = Jvm.exec → Z.Warmed39 s.vm → s.vm.findClass y.cls = some m.cls → c.code = bytes → T.heap = h →
      ∃ T' h', Stand p l e R s m args below meth c T' locs k' n' ∧ T'.heap = h' ∧ Ext h h' ∧ P h' ∧ ∀ t, Steps p.tables e below (T'.setTop (mkF m pc' Ls' S')) t → Steps p.tables e below (T.setTop (mkF m pc Ls S)) t)
    (K : ∀ h', hs.size ≤ h.size → Ext h h' → P h' → Wp wd l Z a0 EL R y bytes maxL ret hs ws Q h' (h.size :: F) k' n' pc' Ls' S') : Wp wd l Z a0 EL R y bytes maxL ret hs ws Q h F k n pc Ls S := fun p e s m args below meth c vm0 k0 T locs I => by
  obtain ⟨⟨i1, i2, i3, i4, i5⟩, ⟨q1, q2, q3, q4, q5⟩, ⟨j1, j2, j3, j4, j5, j6, j7⟩, X, eT⟩ := I
  obtain ⟨T', h', X', eT', E, hP, st⟩ := law p e (s.setVm vm0) m args below meth c T locs X i2 j5 j1 i3 eT
  refine (K h' j6.2.1 E hP p e s m args below meth c vm0 k0 T' _ ⟨⟨i1, i2, i3, i4, i5⟩, ⟨q1, q2, q3, q4, Ext.trans q5 E⟩, ⟨j1, j2, Nat.le_trans j3 E.1, j4, j5, j6.trans (CHr.ext E j6.1), fun x hx => ?_⟩, X', eT'⟩).back st
  rcases List.mem_cons.mp hx with rfl | hx
  · exact ⟨hlt h' hP, Safe.ext E j6.1 (Safe.new (Nat.le_refl _))⟩
  · exact ⟨Nat.lt_of_lt_of_le (j7 x hx).1 E.1, Safe.ext E j6.1 (j7 x hx).2⟩
/-- the return -/
theorem Wp.leave (hk : k ≤ R.cells) (hn : n ≤ R.slots) {v' : Option Value} (hv : ret = none → v' = none) (hQ : Q v' h) (law : ∀ (p : Program) (e : Env) (s : State) (m : MethodId) (args : Array Value) (below : List Frame) (meth : Method) (c : Code) (T : State) (locs : List Loc) (fs : List Frame), Stand p l e R s m args below meth c T locs k n → p.tables.exec = Jvm.exec → c.code = bytes → meth.sig.returnType = ret →
      (∀ (f : JFrame) (acts : List Action), f.method = m → f.locked = none → f.entered = [] → (doReturn e (T.setTop f) acts v').1 = T.setFrames fs) → Steps p.tables e below (T.setTop (mkF m pc Ls S)) (T.setFrames fs)) :
    Wp wd l Z a0 EL R y bytes maxL ret hs ws Q h F k n pc Ls S := fun p e s m args below meth c vm0 k0 T locs I => by
  obtain ⟨⟨i1, i2, i3, i4, i5, i6, i7⟩, ⟨q1, q2, q3, q4, q5⟩, ⟨j1, j2, j3, j4, j5, j6, j7⟩, X, eT⟩ := I
  subst eT
  obtain ⟨fs, hr, hrun, hended, hE⟩ := X.leaveW j2 j3 (v := v') (by rw [i5]; exact hv) i7
  refine ⟨v', _, law p e (s.setVm vm0) m args below meth c T locs fs X i2 i3 i5 hr, hrun, hended, locs, q4, hQ, j6.trans (show CHr Z EL vm0 T.heap T.vm T.heap from CHv.at X j5 i1 j6.1), ⟨hE.1, hE.2.1, hE.2.2.1, hE.2.2.2.mono hk hn⟩, fun z => ?_⟩
  exact State.WarmedH.trans (t := s.setVm vm0) (j4 z) X.warmed
end Kit
end Jvm.Own
namespace Jvm.Own
open Sem ClassFile Op Lib Jvm.Stand Jvm.Free Jvm.LawKit Jvm.RoadKit
section Rules
variable {wd : Bool} {l : Launch} {Z : State} {EL : List (String × Nat)} {R : Room} {y : MethodName} {bytes : ByteArray} {maxL : Nat} {ret : Option FieldType} {hs : Heap} {ws : List Addr} {Q : Option Value → Heap → Prop} {h h' : Heap} {F F' : List Addr} {k n k' n' pc pc' pc1 : Nat} {Ls Ls' : Array Slot} {S S' : List Value}
variable {a0 : Array Value} {a b : Addr} {C O nm d : String} {v w : Value} {sl : Nat} {cl : Cell} {ty : FieldType}
theorem Wp.iloadN {i : Fin 4} {x : Int32} (hd : decode bytes pc = .ok (.iload_n i, 1)) (hp : pc + 1 = pc') (hl : Ls[i.val]? = some (.val (.int x))) (K : Wp wd l Z a0 EL R y bytes maxL ret hs ws Q h F k n pc' Ls (.int x :: S)) : Wp wd l Z a0 EL R y bytes maxL ret hs ws Q h F k n pc Ls S := by
  subst hp; exact Wp.lift (fun p e m below c T t A hx hby st => XS.iloadN A hx rfl (hb hby hd) hl st) K
theorem Wp.iload {i : Nat} {x : Int32} (hd : decode bytes pc = .ok (.iload i, 2)) (hp : pc + 2 = pc') (hl : Ls[i]? = some (.val (.int x))) (K : Wp wd l Z a0 EL R y bytes maxL ret hs ws Q h F k n pc' Ls (.int x :: S)) : Wp wd l Z a0 EL R y bytes maxL ret hs ws Q h F k n pc Ls S := by
  subst hp; exact Wp.lift (fun p e m below c T t A hx hby st => XS.iload A hx rfl (hb hby hd) hl st) K
theorem Wp.istoreN {i : Fin 4} {x : Int32} {l' : Array Slot} (hd : decode bytes pc = .ok (.istore_n i, 1)) (hp : pc + 1 = pc') (hl : storeLocals Ls i.val (.int x) = some l') (K : Wp wd l Z a0 EL R y bytes maxL ret hs ws Q h F k n pc' l' S) : Wp wd l Z a0 EL R y bytes maxL ret hs ws Q h F k n pc Ls (.int x :: S) := by
  subst hp; exact Wp.lift (fun p e m below c T t A hx hby st => XS.istoreN A hx rfl (hb hby hd) rfl hl st) K
theorem Wp.istore {i : Nat} {x : Int32} {l' : Array Slot} (hd : decode bytes pc = .ok (.istore i, 2)) (hp : pc + 2 = pc') (hl : storeLocals Ls i (.int x) = some l') (K : Wp wd l Z a0 EL R y bytes maxL ret hs ws Q h F k n pc' l' S) : Wp wd l Z a0 EL R y bytes maxL ret hs ws Q h F k n pc Ls (.int x :: S) := by
  subst hp; exact Wp.lift (fun p e m below c T t A hx hby st => XS.istore A hx rfl (hb hby hd) rfl hl st) K
theorem Wp.lloadN {i : Fin 4} {x : Int64} (hd : decode bytes pc = .ok (.lload_n i, 1)) (hp : pc + 1 = pc') (hl : Ls[i.val]? = some (.val (.long x))) (K : Wp wd l Z a0 EL R y bytes maxL ret hs ws Q h F k n pc' Ls (.long x :: S)) : Wp wd l Z a0 EL R y bytes maxL ret hs ws Q h F k n pc Ls S := by
  subst hp; exact Wp.lift (fun p e m below c T t A hx hby st => XS.lloadN A hx rfl (hb hby hd) hl st) K
theorem Wp.lload {i : Nat} {x : Int64} (hd : decode bytes pc = .ok (.lload i, 2)) (hp : pc + 2 = pc') (hl : Ls[i]? = some (.val (.long x))) (K : Wp wd l Z a0 EL R y bytes maxL ret hs ws Q h F k n pc' Ls (.long x :: S)) : Wp wd l Z a0 EL R y bytes maxL ret hs ws Q h F k n pc Ls S := by
  subst hp; exact Wp.lift (fun p e m below c T t A hx hby st => XS.lload A hx rfl (hb hby hd) hl st) K
theorem Wp.lstoreN {i : Fin 4} {x : Int64} {l' : Array Slot} (hd : decode bytes pc = .ok (.lstore_n i, 1)) (hp : pc + 1 = pc') (hl : storeLocals Ls i.val (.long x) = some l') (K : Wp wd l Z a0 EL R y bytes maxL ret hs ws Q h F k n pc' l' S) : Wp wd l Z a0 EL R y bytes maxL ret hs ws Q h F k n pc Ls (.long x :: S) := by
  subst hp; exact Wp.lift (fun p e m below c T t A hx hby st => XS.lstoreN A hx rfl (hb hby hd) rfl hl st) K
theorem Wp.lstore {i : Nat} {x : Int64} {l' : Array Slot} (hd : decode bytes pc = .ok (.lstore i, 2)) (hp : pc + 2 = pc') (hl : storeLocals Ls i (.long x) = some l') (K : Wp wd l Z a0 EL R y bytes maxL ret hs ws Q h F k n pc' l' S) : Wp wd l Z a0 EL R y bytes maxL ret hs ws Q h F k n pc Ls (.long x :: S) := by
  subst hp; exact Wp.lift (fun p e m below c T t A hx hby st => XS.lstore A hx rfl (hb hby hd) rfl hl st) K
theorem Wp.aloadN {i : Fin 4} {v : Value} (hd : decode bytes pc = .ok (.aload_n i, 1)) (hp : pc + 1 = pc') (hl : Ls[i.val]? = some (.val v)) (hv : v.isRef = true) (K : Wp wd l Z a0 EL R y bytes maxL ret hs ws Q h F k n pc' Ls (v :: S)) : Wp wd l Z a0 EL R y bytes maxL ret hs ws Q h F k n pc Ls S := by
  subst hp; exact Wp.lift (fun p e m below c T t A hx hby st => XS.aloadN A hx rfl (hb hby hd) hl hv st) K
theorem Wp.aload {i : Nat} {v : Value} (hd : decode bytes pc = .ok (.aload i, 2)) (hp : pc + 2 = pc') (hl : Ls[i]? = some (.val v)) (hv : v.isRef = true) (K : Wp wd l Z a0 EL R y bytes maxL ret hs ws Q h F k n pc' Ls (v :: S)) : Wp wd l Z a0 EL R y bytes maxL ret hs ws Q h F k n pc Ls S := by
  subst hp; exact Wp.lift (fun p e m below c T t A hx hby st => XS.aload A hx rfl (hb hby hd) hl hv st) K
theorem Wp.astoreN {i : Fin 4} {v : Value} {l' : Array Slot} (hd : decode bytes pc = .ok (.astore_n i, 1)) (hp : pc + 1 = pc') (hv : v.isRef = true) (hl : storeLocals Ls i.val v = some l') (K : Wp wd l Z a0 EL R y bytes maxL ret hs ws Q h F k n pc' l' S) : Wp wd l Z a0 EL R y bytes maxL ret hs ws Q h F k n pc Ls (v :: S) := by
  subst hp; exact Wp.lift (fun p e m below c T t A hx hby st => XS.astoreN A hx rfl (hb hby hd) rfl hv hl st) K
theorem Wp.astore {i : Nat} {v : Value} {l' : Array Slot} (hd : decode bytes pc = .ok (.astore i, 2)) (hp : pc + 2 = pc') (hv : v.isRef = true) (hl : storeLocals Ls i v = some l') (K : Wp wd l Z a0 EL R y bytes maxL ret hs ws Q h F k n pc' l' S) : Wp wd l Z a0 EL R y bytes maxL ret hs ws Q h F k n pc Ls (v :: S) := by
  subst hp; exact Wp.lift (fun p e m below c T t A hx hby st => XS.astore A hx rfl (hb hby hd) rfl hv hl st) K
theorem Wp.iconst {i : Int} {x : Int32} (hd : decode bytes pc = .ok (.iconst i, 1)) (hp : pc + 1 = pc') (hi : Int32.ofInt i = x) (K : Wp wd l Z a0 EL R y bytes maxL ret hs ws Q h F k n pc' Ls (.int x :: S)) : Wp wd l Z a0 EL R y bytes maxL ret hs ws Q h F k n pc Ls S := by
  subst hp; exact Wp.lift (fun p e m below c T t A hx hby st => XS.iconst A hx rfl (hb hby hd) (hi ▸ st)) K
theorem Wp.bipush {i : Int} {x : Int32} (hd : decode bytes pc = .ok (.bipush i, 2)) (hp : pc + 2 = pc') (hi : (Int8.ofInt i).toInt32 = x) (K : Wp wd l Z a0 EL R y bytes maxL ret hs ws Q h F k n pc' Ls (.int x :: S)) : Wp wd l Z a0 EL R y bytes maxL ret hs ws Q h F k n pc Ls S := by
  subst hp; exact Wp.lift (fun p e m below c T t A hx hby st => XS.bipush A hx rfl (hb hby hd) (hi ▸ st)) K
theorem Wp.sipush {i : Int} {x : Int32} (hd : decode bytes pc = .ok (.sipush i, 3)) (hp : pc + 3 = pc') (hi : (Int16.ofInt i).toInt32 = x) (K : Wp wd l Z a0 EL R y bytes maxL ret hs ws Q h F k n pc' Ls (.int x :: S)) : Wp wd l Z a0 EL R y bytes maxL ret hs ws Q h F k n pc Ls S := by
  subst hp; exact Wp.lift (fun p e m below c T t A hx hby st => XS.sipush A hx rfl (hb hby hd) (hi ▸ st)) K
theorem Wp.lconst {i : Fin 2} {x : Int64} (hd : decode bytes pc = .ok (.lconst i, 1)) (hp : pc + 1 = pc') (hi : Int64.ofNat i = x) (K : Wp wd l Z a0 EL R y bytes maxL ret hs ws Q h F k n pc' Ls (.long x :: S)) : Wp wd l Z a0 EL R y bytes maxL ret hs ws Q h F k n pc Ls S := by
  subst hp; exact Wp.lift (fun p e m below c T t A hx hby st => XS.lconst A hx rfl (hb hby hd) (hi ▸ st)) K
theorem Wp.aconstNull  (hd : decode bytes pc = .ok (.aconst_null, 1)) (hp : pc + 1 = pc') (K : Wp wd l Z a0 EL R y bytes maxL ret hs ws Q h F k n pc' Ls (.null :: S)) : Wp wd l Z a0 EL R y bytes maxL ret hs ws Q h F k n pc Ls S := by
  subst hp; exact Wp.lift (fun p e m below c T t A hx hby st => XS.aconstNull A hx rfl (hb hby hd) st) K
theorem Wp.iadd {x z : Int32} (hd : decode bytes pc = .ok (.iadd, 1)) (hp : pc + 1 = pc') (K : Wp wd l Z a0 EL R y bytes maxL ret hs ws Q h F k n pc' Ls (.int (x + z) :: S)) : Wp wd l Z a0 EL R y bytes maxL ret hs ws Q h F k n pc Ls (.int z :: .int x :: S) := by
  subst hp; exact Wp.lift (fun p e m below c T t A hx hby st => XS.iadd A hx rfl (hb hby hd) rfl st) K
theorem Wp.ladd {x z : Int64} (hd : decode bytes pc = .ok (.ladd, 1)) (hp : pc + 1 = pc') (K : Wp wd l Z a0 EL R y bytes maxL ret hs ws Q h F k n pc' Ls (.long (x + z) :: S)) : Wp wd l Z a0 EL R y bytes maxL ret hs ws Q h F k n pc Ls (.long z :: .long x :: S) := by
  subst hp; exact Wp.lift (fun p e m below c T t A hx hby st => XS.ladd A hx rfl (hb hby hd) rfl st) K
theorem Wp.isub {x z : Int32} (hd : decode bytes pc = .ok (.isub, 1)) (hp : pc + 1 = pc') (K : Wp wd l Z a0 EL R y bytes maxL ret hs ws Q h F k n pc' Ls (.int (x - z) :: S)) : Wp wd l Z a0 EL R y bytes maxL ret hs ws Q h F k n pc Ls (.int z :: .int x :: S) := by
  subst hp; exact Wp.lift (fun p e m below c T t A hx hby st => XS.isub A hx rfl (hb hby hd) rfl st) K
theorem Wp.lsub {x z : Int64} (hd : decode bytes pc = .ok (.lsub, 1)) (hp : pc + 1 = pc') (K : Wp wd l Z a0 EL R y bytes maxL ret hs ws Q h F k n pc' Ls (.long (x - z) :: S)) : Wp wd l Z a0 EL R y bytes maxL ret hs ws Q h F k n pc Ls (.long z :: .long x :: S) := by
  subst hp; exact Wp.lift (fun p e m below c T t A hx hby st => XS.lsub A hx rfl (hb hby hd) rfl st) K
theorem Wp.imul {x z : Int32} (hd : decode bytes pc = .ok (.imul, 1)) (hp : pc + 1 = pc') (K : Wp wd l Z a0 EL R y bytes maxL ret hs ws Q h F k n pc' Ls (.int (x * z) :: S)) : Wp wd l Z a0 EL R y bytes maxL ret hs ws Q h F k n pc Ls (.int z :: .int x :: S) := by
  subst hp; exact Wp.lift (fun p e m below c T t A hx hby st => XS.imul A hx rfl (hb hby hd) rfl st) K
theorem Wp.lmul {x z : Int64} (hd : decode bytes pc = .ok (.lmul, 1)) (hp : pc + 1 = pc') (K : Wp wd l Z a0 EL R y bytes maxL ret hs ws Q h F k n pc' Ls (.long (x * z) :: S)) : Wp wd l Z a0 EL R y bytes maxL ret hs ws Q h F k n pc Ls (.long z :: .long x :: S) := by
  subst hp; exact Wp.lift (fun p e m below c T t A hx hby st => XS.lmul A hx rfl (hb hby hd) rfl st) K
theorem Wp.iand {x z : Int32} (hd : decode bytes pc = .ok (.iand, 1)) (hp : pc + 1 = pc') (K : Wp wd l Z a0 EL R y bytes maxL ret hs ws Q h F k n pc' Ls (.int (x &&& z) :: S)) : Wp wd l Z a0 EL R y bytes maxL ret hs ws Q h F k n pc Ls (.int z :: .int x :: S) := by
  subst hp; exact Wp.lift (fun p e m below c T t A hx hby st => XS.iand A hx rfl (hb hby hd) rfl st) K
theorem Wp.land {x z : Int64} (hd : decode bytes pc = .ok (.land, 1)) (hp : pc + 1 = pc') (K : Wp wd l Z a0 EL R y bytes maxL ret hs ws Q h F k n pc' Ls (.long (x &&& z) :: S)) : Wp wd l Z a0 EL R y bytes maxL ret hs ws Q h F k n pc Ls (.long z :: .long x :: S) := by
  subst hp; exact Wp.lift (fun p e m below c T t A hx hby st => XS.land A hx rfl (hb hby hd) rfl st) K
theorem Wp.ior {x z : Int32} (hd : decode bytes pc = .ok (.ior, 1)) (hp : pc + 1 = pc') (K : Wp wd l Z a0 EL R y bytes maxL ret hs ws Q h F k n pc' Ls (.int (x ||| z) :: S)) : Wp wd l Z a0 EL R y bytes maxL ret hs ws Q h F k n pc Ls (.int z :: .int x :: S) := by
  subst hp; exact Wp.lift (fun p e m below c T t A hx hby st => XS.ior A hx rfl (hb hby hd) rfl st) K
theorem Wp.lor {x z : Int64} (hd : decode bytes pc = .ok (.lor, 1)) (hp : pc + 1 = pc') (K : Wp wd l Z a0 EL R y bytes maxL ret hs ws Q h F k n pc' Ls (.long (x ||| z) :: S)) : Wp wd l Z a0 EL R y bytes maxL ret hs ws Q h F k n pc Ls (.long z :: .long x :: S) := by
  subst hp; exact Wp.lift (fun p e m below c T t A hx hby st => XS.lor A hx rfl (hb hby hd) rfl st) K
theorem Wp.ixor {x z : Int32} (hd : decode bytes pc = .ok (.ixor, 1)) (hp : pc + 1 = pc') (K : Wp wd l Z a0 EL R y bytes maxL ret hs ws Q h F k n pc' Ls (.int (x ^^^ z) :: S)) : Wp wd l Z a0 EL R y bytes maxL ret hs ws Q h F k n pc Ls (.int z :: .int x :: S) := by
  subst hp; exact Wp.lift (fun p e m below c T t A hx hby st => XS.ixor A hx rfl (hb hby hd) rfl st) K
theorem Wp.lxor {x z : Int64} (hd : decode bytes pc = .ok (.lxor, 1)) (hp : pc + 1 = pc') (K : Wp wd l Z a0 EL R y bytes maxL ret hs ws Q h F k n pc' Ls (.long (x ^^^ z) :: S)) : Wp wd l Z a0 EL R y bytes maxL ret hs ws Q h F k n pc Ls (.long z :: .long x :: S) := by
  subst hp; exact Wp.lift (fun p e m below c T t A hx hby st => XS.lxor A hx rfl (hb hby hd) rfl st) K
theorem Wp.ineg {x : Int32} (hd : decode bytes pc = .ok (.ineg, 1)) (hp : pc + 1 = pc') (K : Wp wd l Z a0 EL R y bytes maxL ret hs ws Q h F k n pc' Ls (.int (-x) :: S)) : Wp wd l Z a0 EL R y bytes maxL ret hs ws Q h F k n pc Ls (.int x :: S) := by
  subst hp; exact Wp.lift (fun p e m below c T t A hx hby st => XS.ineg A hx rfl (hb hby hd) rfl st) K
theorem Wp.i2l {x : Int32} (hd : decode bytes pc = .ok (.i2l, 1)) (hp : pc + 1 = pc') (K : Wp wd l Z a0 EL R y bytes maxL ret hs ws Q h F k n pc' Ls (.long (x.toInt64) :: S)) : Wp wd l Z a0 EL R y bytes maxL ret hs ws Q h F k n pc Ls (.int x :: S) := by
  subst hp; exact Wp.lift (fun p e m below c T t A hx hby st => XS.i2l A hx rfl (hb hby hd) rfl st) K
theorem Wp.l2i {x : Int64} (hd : decode bytes pc = .ok (.l2i, 1)) (hp : pc + 1 = pc') (K : Wp wd l Z a0 EL R y bytes maxL ret hs ws Q h F k n pc' Ls (.int (x.toInt32) :: S)) : Wp wd l Z a0 EL R y bytes maxL ret hs ws Q h F k n pc Ls (.long x :: S) := by
  subst hp; exact Wp.lift (fun p e m below c T t A hx hby st => XS.l2i A hx rfl (hb hby hd) rfl st) K
theorem Wp.i2b {x : Int32} (hd : decode bytes pc = .ok (.i2b, 1)) (hp : pc + 1 = pc') (K : Wp wd l Z a0 EL R y bytes maxL ret hs ws Q h F k n pc' Ls (.int (x.toInt8.toInt32) :: S)) : Wp wd l Z a0 EL R y bytes maxL ret hs ws Q h F k n pc Ls (.int x :: S) := by
  subst hp; exact Wp.lift (fun p e m below c T t A hx hby st => XS.i2b A hx rfl (hb hby hd) rfl st) K
theorem Wp.i2s {x : Int32} (hd : decode bytes pc = .ok (.i2s, 1)) (hp : pc + 1 = pc') (K : Wp wd l Z a0 EL R y bytes maxL ret hs ws Q h F k n pc' Ls (.int (x.toInt16.toInt32) :: S)) : Wp wd l Z a0 EL R y bytes maxL ret hs ws Q h F k n pc Ls (.int x :: S) := by
  subst hp; exact Wp.lift (fun p e m below c T t A hx hby st => XS.i2s A hx rfl (hb hby hd) rfl st) K
theorem Wp.i2c {x : Int32} (hd : decode bytes pc = .ok (.i2c, 1)) (hp : pc + 1 = pc') (K : Wp wd l Z a0 EL R y bytes maxL ret hs ws Q h F k n pc' Ls (.int (x.toUInt32.toUInt16.toUInt32.toInt32) :: S)) : Wp wd l Z a0 EL R y bytes maxL ret hs ws Q h F k n pc Ls (.int x :: S) := by
  subst hp; exact Wp.lift (fun p e m below c T t A hx hby st => XS.i2c A hx rfl (hb hby hd) rfl st) K
theorem Wp.ishl {x : Int32} {z : Int32} (hd : decode bytes pc = .ok (.ishl, 1)) (hp : pc + 1 = pc') (K : Wp wd l Z a0 EL R y bytes maxL ret hs ws Q h F k n pc' Ls (.int (x <<< (z &&& 31)) :: S)) : Wp wd l Z a0 EL R y bytes maxL ret hs ws Q h F k n pc Ls (.int z :: .int x :: S) := by
  subst hp; exact Wp.lift (fun p e m below c T t A hx hby st => XS.ishl A hx rfl (hb hby hd) rfl st) K
theorem Wp.ishr {x : Int32} {z : Int32} (hd : decode bytes pc = .ok (.ishr, 1)) (hp : pc + 1 = pc') (K : Wp wd l Z a0 EL R y bytes maxL ret hs ws Q h F k n pc' Ls (.int (x >>> (z &&& 31)) :: S)) : Wp wd l Z a0 EL R y bytes maxL ret hs ws Q h F k n pc Ls (.int z :: .int x :: S) := by
  subst hp; exact Wp.lift (fun p e m below c T t A hx hby st => XS.ishr A hx rfl (hb hby hd) rfl st) K
theorem Wp.iushr {x : Int32} {z : Int32} (hd : decode bytes pc = .ok (.iushr, 1)) (hp : pc + 1 = pc') (K : Wp wd l Z a0 EL R y bytes maxL ret hs ws Q h F k n pc' Ls (.int ((x.toUInt32 >>> (z &&& 31).toUInt32).toInt32) :: S)) : Wp wd l Z a0 EL R y bytes maxL ret hs ws Q h F k n pc Ls (.int z :: .int x :: S) := by
  subst hp; exact Wp.lift (fun p e m below c T t A hx hby st => XS.iushr A hx rfl (hb hby hd) rfl st) K
theorem Wp.lshl {x : Int64} {z : Int32} (hd : decode bytes pc = .ok (.lshl, 1)) (hp : pc + 1 = pc') (K : Wp wd l Z a0 EL R y bytes maxL ret hs ws Q h F k n pc' Ls (.long (x <<< (z &&& 0x3f).toInt64) :: S)) : Wp wd l Z a0 EL R y bytes maxL ret hs ws Q h F k n pc Ls (.int z :: .long x :: S) := by
  subst hp; exact Wp.lift (fun p e m below c T t A hx hby st => XS.lshl A hx rfl (hb hby hd) rfl st) K
theorem Wp.lshr {x : Int64} {z : Int32} (hd : decode bytes pc = .ok (.lshr, 1)) (hp : pc + 1 = pc') (K : Wp wd l Z a0 EL R y bytes maxL ret hs ws Q h F k n pc' Ls (.long (x >>> (z &&& 0x3f).toInt64) :: S)) : Wp wd l Z a0 EL R y bytes maxL ret hs ws Q h F k n pc Ls (.int z :: .long x :: S) := by
  subst hp; exact Wp.lift (fun p e m below c T t A hx hby st => XS.lshr A hx rfl (hb hby hd) rfl st) K
theorem Wp.lushr {x : Int64} {z : Int32} (hd : decode bytes pc = .ok (.lushr, 1)) (hp : pc + 1 = pc') (K : Wp wd l Z a0 EL R y bytes maxL ret hs ws Q h F k n pc' Ls (.long ((x.toUInt64 >>> (z &&& 0x3f).toInt64.toUInt64).toInt64) :: S)) : Wp wd l Z a0 EL R y bytes maxL ret hs ws Q h F k n pc Ls (.int z :: .long x :: S) := by
  subst hp; exact Wp.lift (fun p e m below c T t A hx hby st => XS.lushr A hx rfl (hb hby hd) rfl st) K
theorem Wp.lcmp {x z : Int64} (hd : decode bytes pc = .ok (.lcmp, 1)) (hp : pc + 1 = pc') (K : Wp wd l Z a0 EL R y bytes maxL ret hs ws Q h F k n pc' Ls (.int (lcmpW x z) :: S)) : Wp wd l Z a0 EL R y bytes maxL ret hs ws Q h F k n pc Ls (.long z :: .long x :: S) := by
  subst hp; exact Wp.lift (fun p e m below c T t A hx hby st => XS.lcmp A hx rfl (hb hby hd) rfl st) K
theorem Wp.idiv {x z : Int32} (hd : decode bytes pc = .ok (.idiv, 1)) (hp : pc + 1 = pc') (hz : z ≠ 0) (K : Wp wd l Z a0 EL R y bytes maxL ret hs ws Q h F k n pc' Ls (.int (x / z) :: S)) : Wp wd l Z a0 EL R y bytes maxL ret hs ws Q h F k n pc Ls (.int z :: .int x :: S) := by
  subst hp; exact Wp.lift (fun p e m below c T t A hx hby st => XS.idiv A hx rfl (hb hby hd) rfl hz st) K
theorem Wp.irem {x z : Int32} (hd : decode bytes pc = .ok (.irem, 1)) (hp : pc + 1 = pc') (hz : z ≠ 0) (K : Wp wd l Z a0 EL R y bytes maxL ret hs ws Q h F k n pc' Ls (.int (x % z) :: S)) : Wp wd l Z a0 EL R y bytes maxL ret hs ws Q h F k n pc Ls (.int z :: .int x :: S) := by
  subst hp; exact Wp.lift (fun p e m below c T t A hx hby st => XS.irem A hx rfl (hb hby hd) rfl hz (by rw [irem_eq_mod]; exact st)) K
theorem Wp.ldiv {x z : Int64} (hd : decode bytes pc = .ok (.ldiv, 1)) (hp : pc + 1 = pc') (hz : z ≠ 0) (K : Wp wd l Z a0 EL R y bytes maxL ret hs ws Q h F k n pc' Ls (.long (x / z) :: S)) : Wp wd l Z a0 EL R y bytes maxL ret hs ws Q h F k n pc Ls (.long z :: .long x :: S) := by
  subst hp; exact Wp.lift (fun p e m below c T t A hx hby st => XS.ldiv A hx rfl (hb hby hd) rfl hz st) K
theorem Wp.lrem {x z : Int64} (hd : decode bytes pc = .ok (.lrem, 1)) (hp : pc + 1 = pc') (hz : z ≠ 0) (K : Wp wd l Z a0 EL R y bytes maxL ret hs ws Q h F k n pc' Ls (.long (x - (x / z) * z) :: S)) : Wp wd l Z a0 EL R y bytes maxL ret hs ws Q h F k n pc Ls (.long z :: .long x :: S) := by
  subst hp; exact Wp.lift (fun p e m below c T t A hx hby st => XS.lrem A hx rfl (hb hby hd) rfl hz st) K
theorem Wp.dup {v : Value} (hd : decode bytes pc = .ok (.dup, 1)) (hp : pc + 1 = pc') (hc : v.category = 1) (K : Wp wd l Z a0 EL R y bytes maxL ret hs ws Q h F k n pc' Ls (v :: v :: S)) : Wp wd l Z a0 EL R y bytes maxL ret hs ws Q h F k n pc Ls (v :: S) := by
  subst hp; exact Wp.lift (fun p e m below c T t A hx hby st => XS.dup A hx rfl (hb hby hd) rfl hc st) K
theorem Wp.pop {v : Value} (hd : decode bytes pc = .ok (.pop, 1)) (hp : pc + 1 = pc') (hc : v.category = 1) (K : Wp wd l Z a0 EL R y bytes maxL ret hs ws Q h F k n pc' Ls S) : Wp wd l Z a0 EL R y bytes maxL ret hs ws Q h F k n pc Ls (v :: S) := by
  subst hp; exact Wp.lift (fun p e m below c T t A hx hby st => XS.pop A hx rfl (hb hby hd) rfl hc st) K
theorem Wp.dupX1 {v w : Value} (hd : decode bytes pc = .ok (.dup_x1, 1)) (hp : pc + 1 = pc') (hc : v.category = 1) (hc' : w.category = 1) (K : Wp wd l Z a0 EL R y bytes maxL ret hs ws Q h F k n pc' Ls (v :: w :: v :: S)) : Wp wd l Z a0 EL R y bytes maxL ret hs ws Q h F k n pc Ls (v :: w :: S) := by
  subst hp; exact Wp.lift (fun p e m below c T t A hx hby st => XS.dupX1 A hx rfl (hb hby hd) rfl hc hc' st) K
theorem Wp.dup2 {v w : Value} (hd : decode bytes pc = .ok (.dup2, 1)) (hp : pc + 1 = pc') (hc : v.category = 1) (hc' : w.category = 1) (K : Wp wd l Z a0 EL R y bytes maxL ret hs ws Q h F k n pc' Ls (v :: w :: v :: w :: S)) : Wp wd l Z a0 EL R y bytes maxL ret hs ws Q h F k n pc Ls (v :: w :: S) := by
  subst hp; exact Wp.lift (fun p e m below c T t A hx hby st => XT.dup2 A hx rfl (hb hby hd) rfl hc hc' st) K
theorem Wp.iinc {i : Nat} {q : Int} {x : Int32} {l' : Array Slot} (hd : decode bytes pc = .ok (.iinc i q, 3)) (hp : pc + 3 = pc') (hl : Ls[i]? = some (.val (.int x))) (hs' : storeLocals Ls i (.int (x + Int32.ofInt q)) = some l') (K : Wp wd l Z a0 EL R y bytes maxL ret hs ws Q h F k n pc' l' S) : Wp wd l Z a0 EL R y bytes maxL ret hs ws Q h F k n pc Ls S := by
  subst hp; exact Wp.lift (fun p e m below c T t A hx hby st => XS.iinc A hx rfl (hb hby hd) hl hs' st) K
theorem Wp.goto {q : Int} (hd : decode bytes pc = .ok (.goto q, 3)) (h0 : 0 ≤ (pc : Int) + q) (hp : ((pc : Int) + q).toNat = pc') (K : Wp wd l Z a0 EL R y bytes maxL ret hs ws Q h F k n pc' Ls S) : Wp wd l Z a0 EL R y bytes maxL ret hs ws Q h F k n pc Ls S :=
  Wp.lift (fun p e m below c T t A hx hby st => XS.goto A hx rfl rfl (hb hby hd) h0 hp st) K
theorem Wp.tswOut {dflt low high : Int} {offs : Array Int} {len : Nat} {x : Int32} (hd : decode bytes pc = .ok (.tableswitch dflt low high offs, len)) (hout : x.toInt < low ∨ x.toInt > high) (h0 : 0 ≤ (pc : Int) + dflt) (hp : ((pc : Int) + dflt).toNat = pc') (K : Wp wd l Z a0 EL R y bytes maxL ret hs ws Q h F k n pc' Ls S) : Wp wd l Z a0 EL R y bytes maxL ret hs ws Q h F k n pc Ls (.int x :: S) :=
  Wp.lift (fun p e m below c T t A hx hby st => XS.tswOut A hx rfl rfl (hb hby hd) rfl hout h0 hp st) K
theorem Wp.tswIn {dflt low high q : Int} {offs : Array Int} {len : Nat} {x : Int32} (hd : decode bytes pc = .ok (.tableswitch dflt low high offs, len)) (hin : ¬ (x.toInt < low ∨ x.toInt > high)) (hoff : offs[(x.toInt - low).toNat]? = some q) (h0 : 0 ≤ (pc : Int) + q) (hp : ((pc : Int) + q).toNat = pc') (K : Wp wd l Z a0 EL R y bytes maxL ret hs ws Q h F k n pc' Ls S) : Wp wd l Z a0 EL R y bytes maxL ret hs ws Q h F k n pc Ls (.int x :: S) :=
  Wp.lift (fun p e m below c T t A hx hby st => XS.tswIn A hx rfl rfl (hb hby hd) rfl hin hoff h0 hp st) K
theorem Wp.icmp_lt {x z : Int32} {q : Int} (hd : decode bytes pc = .ok (.if_icmp .lt q, 3)) (h0 : 0 ≤ (pc : Int) + q) (h1 : ((pc : Int) + q).toNat = pc1) (hp : pc + 3 = pc') (K1 : x < z → Wp wd l Z a0 EL R y bytes maxL ret hs ws Q h F k n pc1 Ls S) (K2 : ¬ (x < z) → Wp wd l Z a0 EL R y bytes maxL ret hs ws Q h F k n pc' Ls S) : Wp wd l Z a0 EL R y bytes maxL ret hs ws Q h F k n pc Ls (.int z :: .int x :: S) := by
  subst hp
  exact (Classical.em (x < z)).elim (fun hc => Wp.lift (fun p e m below c T t A hx hby st => XS.icmpYes A hx rfl rfl (hb hby hd) rfl (tlt hc).1 h0 h1 st) (K1 hc)) (fun hc => Wp.lift (fun p e m below c T t A hx hby st => XS.icmpNo A hx rfl (hb hby hd) rfl (flt hc).1 st) (K2 hc))
theorem Wp.if_lt {x : Int32} {q : Int} (hd : decode bytes pc = .ok (.ifCond .lt q, 3)) (h0 : 0 ≤ (pc : Int) + q) (h1 : ((pc : Int) + q).toNat = pc1) (hp : pc + 3 = pc') (K1 : x < (0 : Int32) → Wp wd l Z a0 EL R y bytes maxL ret hs ws Q h F k n pc1 Ls S) (K2 : ¬ (x < (0 : Int32)) → Wp wd l Z a0 EL R y bytes maxL ret hs ws Q h F k n pc' Ls S) : Wp wd l Z a0 EL R y bytes maxL ret hs ws Q h F k n pc Ls (.int x :: S) := by
  subst hp
  exact (Classical.em (x < (0 : Int32))).elim (fun hc => Wp.lift (fun p e m below c T t A hx hby st => XS.ifYes A hx rfl rfl (hb hby hd) rfl ((if0 _ _).trans (tlt hc).1) h0 h1 st) (K1 hc)) (fun hc => Wp.lift (fun p e m below c T t A hx hby st => XS.ifNo A hx rfl (hb hby hd) rfl ((if0 _ _).trans (flt hc).1) st) (K2 hc))
theorem Wp.icmp_ge {x z : Int32} {q : Int} (hd : decode bytes pc = .ok (.if_icmp .ge q, 3)) (h0 : 0 ≤ (pc : Int) + q) (h1 : ((pc : Int) + q).toNat = pc1) (hp : pc + 3 = pc') (K1 : ¬ (x < z) → Wp wd l Z a0 EL R y bytes maxL ret hs ws Q h F k n pc1 Ls S) (K2 : x < z → Wp wd l Z a0 EL R y bytes maxL ret hs ws Q h F k n pc' Ls S) : Wp wd l Z a0 EL R y bytes maxL ret hs ws Q h F k n pc Ls (.int z :: .int x :: S) := by
  subst hp
  exact (Classical.em (x < z)).elim (fun hc => Wp.lift (fun p e m below c T t A hx hby st => XS.icmpNo A hx rfl (hb hby hd) rfl (tlt hc).2.1 st) (K2 hc)) (fun hc => Wp.lift (fun p e m below c T t A hx hby st => XS.icmpYes A hx rfl rfl (hb hby hd) rfl (flt hc).2.1 h0 h1 st) (K1 hc))
theorem Wp.if_ge {x : Int32} {q : Int} (hd : decode bytes pc = .ok (.ifCond .ge q, 3)) (h0 : 0 ≤ (pc : Int) + q) (h1 : ((pc : Int) + q).toNat = pc1) (hp : pc + 3 = pc') (K1 : ¬ (x < (0 : Int32)) → Wp wd l Z a0 EL R y bytes maxL ret hs ws Q h F k n pc1 Ls S) (K2 : x < (0 : Int32) → Wp wd l Z a0 EL R y bytes maxL ret hs ws Q h F k n pc' Ls S) : Wp wd l Z a0 EL R y bytes maxL ret hs ws Q h F k n pc Ls (.int x :: S) := by
  subst hp
  exact (Classical.em (x < (0 : Int32))).elim (fun hc => Wp.lift (fun p e m below c T t A hx hby st => XS.ifNo A hx rfl (hb hby hd) rfl ((if0 _ _).trans (tlt hc).2.1) st) (K2 hc)) (fun hc => Wp.lift (fun p e m below c T t A hx hby st => XS.ifYes A hx rfl rfl (hb hby hd) rfl ((if0 _ _).trans (flt hc).2.1) h0 h1 st) (K1 hc))
theorem Wp.icmp_gt {x z : Int32} {q : Int} (hd : decode bytes pc = .ok (.if_icmp .gt q, 3)) (h0 : 0 ≤ (pc : Int) + q) (h1 : ((pc : Int) + q).toNat = pc1) (hp : pc + 3 = pc') (K1 : z < x → Wp wd l Z a0 EL R y bytes maxL ret hs ws Q h F k n pc1 Ls S) (K2 : ¬ (z < x) → Wp wd l Z a0 EL R y bytes maxL ret hs ws Q h F k n pc' Ls S) : Wp wd l Z a0 EL R y bytes maxL ret hs ws Q h F k n pc Ls (.int z :: .int x :: S) := by
  subst hp
  exact (Classical.em (z < x)).elim (fun hc => Wp.lift (fun p e m below c T t A hx hby st => XS.icmpYes A hx rfl rfl (hb hby hd) rfl (tlt hc).2.2.1 h0 h1 st) (K1 hc)) (fun hc => Wp.lift (fun p e m below c T t A hx hby st => XS.icmpNo A hx rfl (hb hby hd) rfl (flt hc).2.2.1 st) (K2 hc))
theorem Wp.if_gt {x : Int32} {q : Int} (hd : decode bytes pc = .ok (.ifCond .gt q, 3)) (h0 : 0 ≤ (pc : Int) + q) (h1 : ((pc : Int) + q).toNat = pc1) (hp : pc + 3 = pc') (K1 : (0 : Int32) < x → Wp wd l Z a0 EL R y bytes maxL ret hs ws Q h F k n pc1 Ls S) (K2 : ¬ ((0 : Int32) < x) → Wp wd l Z a0 EL R y bytes maxL ret hs ws Q h F k n pc' Ls S) : Wp wd l Z a0 EL R y bytes maxL ret hs ws Q h F k n pc Ls (.int x :: S) := by
  subst hp
  exact (Classical.em ((0 : Int32) < x)).elim (fun hc => Wp.lift (fun p e m below c T t A hx hby st => XS.ifYes A hx rfl rfl (hb hby hd) rfl ((if0 _ _).trans (tlt hc).2.2.1) h0 h1 st) (K1 hc)) (fun hc => Wp.lift (fun p e m below c T t A hx hby st => XS.ifNo A hx rfl (hb hby hd) rfl ((if0 _ _).trans (flt hc).2.2.1) st) (K2 hc))
theorem Wp.icmp_le {x z : Int32} {q : Int} (hd : decode bytes pc = .ok (.if_icmp .le q, 3)) (h0 : 0 ≤ (pc : Int) + q) (h1 : ((pc : Int) + q).toNat = pc1) (hp : pc + 3 = pc') (K1 : ¬ (z < x) → Wp wd l Z a0 EL R y bytes maxL ret hs ws Q h F k n pc1 Ls S) (K2 : z < x → Wp wd l Z a0 EL R y bytes maxL ret hs ws Q h F k n pc' Ls S) : Wp wd l Z a0 EL R y bytes maxL ret hs ws Q h F k n pc Ls (.int z :: .int x :: S) := by
  subst hp
  exact (Classical.em (z < x)).elim (fun hc => Wp.lift (fun p e m below c T t A hx hby st => XS.icmpNo A hx rfl (hb hby hd) rfl (tlt hc).2.2.2 st) (K2 hc)) (fun hc => Wp.lift (fun p e m below c T t A hx hby st => XS.icmpYes A hx rfl rfl (hb hby hd) rfl (flt hc).2.2.2 h0 h1 st) (K1 hc))
theorem Wp.if_le {x : Int32} {q : Int} (hd : decode bytes pc = .ok (.ifCond .le q, 3)) (h0 : 0 ≤ (pc : Int) + q) (h1 : ((pc : Int) + q).toNat = pc1) (hp : pc + 3 = pc') (K1 : ¬ ((0 : Int32) < x) → Wp wd l Z a0 EL R y bytes maxL ret hs ws Q h F k n pc1 Ls S) (K2 : (0 : Int32) < x → Wp wd l Z a0 EL R y bytes maxL ret hs ws Q h F k n pc' Ls S) : Wp wd l Z a0 EL R y bytes maxL ret hs ws Q h F k n pc Ls (.int x :: S) := by
  subst hp
  exact (Classical.em ((0 : Int32) < x)).elim (fun hc => Wp.lift (fun p e m below c T t A hx hby st => XS.ifNo A hx rfl (hb hby hd) rfl ((if0 _ _).trans (tlt hc).2.2.2) st) (K2 hc)) (fun hc => Wp.lift (fun p e m below c T t A hx hby st => XS.ifYes A hx rfl rfl (hb hby hd) rfl ((if0 _ _).trans (flt hc).2.2.2) h0 h1 st) (K1 hc))
theorem Wp.icmp_eq {x z : Int32} {q : Int} (hd : decode bytes pc = .ok (.if_icmp .eq q, 3)) (h0 : 0 ≤ (pc : Int) + q) (h1 : ((pc : Int) + q).toNat = pc1) (hp : pc + 3 = pc') (K1 : x = z → Wp wd l Z a0 EL R y bytes maxL ret hs ws Q h F k n pc1 Ls S) (K2 : ¬ (x = z) → Wp wd l Z a0 EL R y bytes maxL ret hs ws Q h F k n pc' Ls S) : Wp wd l Z a0 EL R y bytes maxL ret hs ws Q h F k n pc Ls (.int z :: .int x :: S) := by
  subst hp
  exact (Classical.em (x = z)).elim (fun hc => Wp.lift (fun p e m below c T t A hx hby st => XS.icmpYes A hx rfl rfl (hb hby hd) rfl (teq hc).1 h0 h1 st) (K1 hc)) (fun hc => Wp.lift (fun p e m below c T t A hx hby st => XS.icmpNo A hx rfl (hb hby hd) rfl (feq hc).1 st) (K2 hc))
theorem Wp.if_eq {x : Int32} {q : Int} (hd : decode bytes pc = .ok (.ifCond .eq q, 3)) (h0 : 0 ≤ (pc : Int) + q) (h1 : ((pc : Int) + q).toNat = pc1) (hp : pc + 3 = pc') (K1 : x = (0 : Int32) → Wp wd l Z a0 EL R y bytes maxL ret hs ws Q h F k n pc1 Ls S) (K2 : ¬ (x = (0 : Int32)) → Wp wd l Z a0 EL R y bytes maxL ret hs ws Q h F k n pc' Ls S) : Wp wd l Z a0 EL R y bytes maxL ret hs ws Q h F k n pc Ls (.int x :: S) := by
  subst hp
  exact (Classical.em (x = (0 : Int32))).elim (fun hc => Wp.lift (fun p e m below c T t A hx hby st => XS.ifYes A hx rfl rfl (hb hby hd) rfl ((if0 _ _).trans (teq hc).1) h0 h1 st) (K1 hc)) (fun hc => Wp.lift (fun p e m below c T t A hx hby st => XS.ifNo A hx rfl (hb hby hd) rfl ((if0 _ _).trans (feq hc).1) st) (K2 hc))
theorem Wp.icmp_ne {x z : Int32} {q : Int} (hd : decode bytes pc = .ok (.if_icmp .ne q, 3)) (h0 : 0 ≤ (pc : Int) + q) (h1 : ((pc : Int) + q).toNat = pc1) (hp : pc + 3 = pc') (K1 : ¬ (x = z) → Wp wd l Z a0 EL R y bytes maxL ret hs ws Q h F k n pc1 Ls S) (K2 : x = z → Wp wd l Z a0 EL R y bytes maxL ret hs ws Q h F k n pc' Ls S) : Wp wd l Z a0 EL R y bytes maxL ret hs ws Q h F k n pc Ls (.int z :: .int x :: S) := by
  subst hp
  exact (Classical.em (x = z)).elim (fun hc => Wp.lift (fun p e m below c T t A hx hby st => XS.icmpNo A hx rfl (hb hby hd) rfl (teq hc).2 st) (K2 hc)) (fun hc => Wp.lift (fun p e m below c T t A hx hby st => XS.icmpYes A hx rfl rfl (hb hby hd) rfl (feq hc).2 h0 h1 st) (K1 hc))
theorem Wp.if_ne {x : Int32} {q : Int} (hd : decode bytes pc = .ok (.ifCond .ne q, 3)) (h0 : 0 ≤ (pc : Int) + q) (h1 : ((pc : Int) + q).toNat = pc1) (hp : pc + 3 = pc') (K1 : ¬ (x = (0 : Int32)) → Wp wd l Z a0 EL R y bytes maxL ret hs ws Q h F k n pc1 Ls S) (K2 : x = (0 : Int32) → Wp wd l Z a0 EL R y bytes maxL ret hs ws Q h F k n pc' Ls S) : Wp wd l Z a0 EL R y bytes maxL ret hs ws Q h F k n pc Ls (.int x :: S) := by
  subst hp
  exact (Classical.em (x = (0 : Int32))).elim (fun hc => Wp.lift (fun p e m below c T t A hx hby st => XS.ifNo A hx rfl (hb hby hd) rfl ((if0 _ _).trans (teq hc).2) st) (K2 hc)) (fun hc => Wp.lift (fun p e m below c T t A hx hby st => XS.ifYes A hx rfl rfl (hb hby hd) rfl ((if0 _ _).trans (feq hc).2) h0 h1 st) (K1 hc))
theorem Wp.ifnullYes {q : Int} (hd : decode bytes pc = .ok (.ifnull q, 3)) (h0 : 0 ≤ (pc : Int) + q) (h1 : ((pc : Int) + q).toNat = pc') (K : Wp wd l Z a0 EL R y bytes maxL ret hs ws Q h F k n pc' Ls S) : Wp wd l Z a0 EL R y bytes maxL ret hs ws Q h F k n pc Ls (.null :: S) :=
  Wp.lift (fun p e m below c T t A hx hby st => XS.ifnullYes A hx rfl rfl (hb hby hd) rfl h0 h1 st) K
theorem Wp.ifnullNo {q : Int} (hd : decode bytes pc = .ok (.ifnull q, 3)) (hp : pc + 3 = pc') (K : Wp wd l Z a0 EL R y bytes maxL ret hs ws Q h F k n pc' Ls S) : Wp wd l Z a0 EL R y bytes maxL ret hs ws Q h F k n pc Ls ((.ref a) :: S) := by
  subst hp; exact Wp.lift (fun p e m below c T t A hx hby st => XS.ifnullNo A hx rfl (hb hby hd) rfl st) K
theorem Wp.ifnonnullYes {q : Int} (hd : decode bytes pc = .ok (.ifnonnull q, 3)) (h0 : 0 ≤ (pc : Int) + q) (h1 : ((pc : Int) + q).toNat = pc') (K : Wp wd l Z a0 EL R y bytes maxL ret hs ws Q h F k n pc' Ls S) : Wp wd l Z a0 EL R y bytes maxL ret hs ws Q h F k n pc Ls ((.ref a) :: S) :=
  Wp.lift (fun p e m below c T t A hx hby st => XS.ifnonnullYes A hx rfl rfl (hb hby hd) rfl h0 h1 st) K
theorem Wp.ifnonnullNo {q : Int} (hd : decode bytes pc = .ok (.ifnonnull q, 3)) (hp : pc + 3 = pc') (K : Wp wd l Z a0 EL R y bytes maxL ret hs ws Q h F k n pc' Ls S) : Wp wd l Z a0 EL R y bytes maxL ret hs ws Q h F k n pc Ls (.null :: S) := by
  subst hp; exact Wp.lift (fun p e m below c T t A hx hby st => XS.ifnonnullNo A hx rfl (hb hby hd) rfl st) K
theorem Wp.acmp_eq {q : Int} (hv : v.isRef = true) (hw : w.isRef = true) (hd : decode bytes pc = .ok (.if_acmp .eq q, 3)) (h0 : 0 ≤ (pc : Int) + q) (h1 : ((pc : Int) + q).toNat = pc1) (hp : pc + 3 = pc') (K1 : v = w → Wp wd l Z a0 EL R y bytes maxL ret hs ws Q h F k n pc1 Ls S) (K2 : ¬ v = w → Wp wd l Z a0 EL R y bytes maxL ret hs ws Q h F k n pc' Ls S) : Wp wd l Z a0 EL R y bytes maxL ret hs ws Q h F k n pc Ls (w :: v :: S) := by
  by_cases hc : v = w
  · exact Wp.tab (fun p e s m args below meth c T locs X hx hZ hown hby hml hsh eT hO => ⟨T, X, eT, fun t st => Jvm.RoadKit.acmp (g := mkF m pc Ls (w :: v :: S)) X hx rfl hv hw (same := true) rfl (hb hby hd) rfl (decide_eq_true hc) h0 (by simp [acV]; omega) st⟩) (K1 hc)
  · exact Wp.tab (fun p e s m args below meth c T locs X hx hZ hown hby hml hsh eT hO => ⟨T, X, eT, fun t st => Jvm.RoadKit.acmp (g := mkF m pc Ls (w :: v :: S)) X hx rfl hv hw (same := false) rfl (hb hby hd) rfl (decide_eq_false hc) h0 (by simp [acV]; omega) st⟩) (K2 hc)
theorem Wp.acmp_ne {q : Int} (hv : v.isRef = true) (hw : w.isRef = true) (hd : decode bytes pc = .ok (.if_acmp .ne q, 3)) (h0 : 0 ≤ (pc : Int) + q) (h1 : ((pc : Int) + q).toNat = pc1) (hp : pc + 3 = pc') (K1 : ¬ v = w → Wp wd l Z a0 EL R y bytes maxL ret hs ws Q h F k n pc1 Ls S) (K2 : v = w → Wp wd l Z a0 EL R y bytes maxL ret hs ws Q h F k n pc' Ls S) : Wp wd l Z a0 EL R y bytes maxL ret hs ws Q h F k n pc Ls (w :: v :: S) := by
  by_cases hc : v = w
  · exact Wp.tab (fun p e s m args below meth c T locs X hx hZ hown hby hml hsh eT hO => ⟨T, X, eT, fun t st => Jvm.RoadKit.acmp (g := mkF m pc Ls (w :: v :: S)) X hx rfl hv hw (same := true) rfl (hb hby hd) rfl (decide_eq_true hc) h0 (by simp [acV]; omega) st⟩) (K2 hc)
  · exact Wp.tab (fun p e s m args below meth c T locs X hx hZ hown hby hml hsh eT hO => ⟨T, X, eT, fun t st => Jvm.RoadKit.acmp (g := mkF m pc Ls (w :: v :: S)) X hx rfl hv hw (same := false) rfl (hb hby hd) rfl (decide_eq_false hc) h0 (by simp [acV]; omega) st⟩) (K1 hc)
theorem Wp.getF {own host : String} {index : Nat} (hown0 : y.cls = own) (lk : (Cond.fieldLink own index C nm d).before a0 Z = true ∨ (Cond.fieldLinkNest own index C nm d host).before a0 Z = true) (via : Via Z C O nm d) (Fl : Fld Z h a O nm d v) (hd : decode bytes pc = .ok (.getfield index, 3)) (hp : pc + 3 = pc') (K : Wp wd l Z a0 EL R y bytes maxL ret hs ws Q h F k n pc' Ls (v :: S)) : Wp wd l Z a0 EL R y bytes maxL ret hs ws Q h F k n pc Ls (.ref a :: S) := by
  subst hp hown0
  exact Wp.tab (fun p e s m args below meth c T locs X hx hZ hown hby hml hsh eT hO => Jvm.RoadKit.getF X hx hZ hown lk via eT Fl (g := mkF m pc Ls (.ref a :: S)) rfl rfl (hb hby hd)) K
theorem Wp.getS {own host : String} {index : Nat} (hown0 : y.cls = own) (lk : (Cond.fieldLink own index C nm d).before a0 Z = true ∨ (Cond.fieldLinkNest own index C nm d host).before a0 Z = true) (via : Via Z C O nm d) (Sv : Sta Z Z.heap O nm d v) (hd : decode bytes pc = .ok (.getstatic index, 3)) (hp : pc + 3 = pc') (K : Wp wd l Z a0 EL R y bytes maxL ret hs ws Q h F k n pc' Ls (v :: S)) : Wp wd l Z a0 EL R y bytes maxL ret hs ws Q h F k n pc Ls S := by
  subst hp hown0
  exact Wp.tab (fun p e s m args below meth c T locs X hx hZ hown hby hml hsh eT hO => Jvm.RoadKit.getS2 X hx hZ hown lk via eT (Sv.ext hO) (g := mkF m pc Ls S) rfl (hb hby hd)) K
theorem Wp.castY {own : String} {index : Nat} (hown0 : y.cls = own) (lk : (Cond.classLink own index C).before a0 Z = true) (I : Ins Z h a C true) (hd : decode bytes pc = .ok (.checkcast index, 3)) (hp : pc + 3 = pc') (K : Wp wd l Z a0 EL R y bytes maxL ret hs ws Q h F k n pc' Ls (.ref a :: S)) : Wp wd l Z a0 EL R y bytes maxL ret hs ws Q h F k n pc Ls (.ref a :: S) := by
  subst hp hown0
  exact Wp.tab (fun p e s m args below meth c T locs X hx hZ hown hby hml hsh eT hO => Jvm.RoadKit.castY X hx hZ hown lk eT I (g := mkF m pc Ls (.ref a :: S)) rfl rfl (hb hby hd)) K
theorem Wp.instY {own : String} {index : Nat} (hown0 : y.cls = own) (lk : (Cond.classLink own index C).before a0 Z = true) (I : Ins Z h a C true) (hd : decode bytes pc = .ok (.instanceof index, 3)) (hp : pc + 3 = pc') (K : Wp wd l Z a0 EL R y bytes maxL ret hs ws Q h F k n pc' Ls (.int 1 :: S)) : Wp wd l Z a0 EL R y bytes maxL ret hs ws Q h F k n pc Ls (.ref a :: S) := by
  subst hp hown0
  exact Wp.tab (fun p e s m args below meth c T locs X hx hZ hown hby hml hsh eT hO => Jvm.RoadKit.instY X hx hZ hown lk eT I (g := mkF m pc Ls (.ref a :: S)) rfl rfl (hb hby hd)) K
theorem Wp.instN {own D : String} {index : Nat} (hown0 : y.cls = own) (lk : (Cond.classLink own index C).before a0 Z = true) (I : Ins Z hs a C false) (E : Exa Z hs a D) (hd : decode bytes pc = .ok (.instanceof index, 3)) (hp : pc + 3 = pc') (K : Wp wd l Z a0 EL R y bytes maxL ret hs ws Q h F k n pc' Ls (.int 0 :: S)) : Wp wd l Z a0 EL R y bytes maxL ret hs ws Q h F k n pc Ls (.ref a :: S) := by
  subst hp hown0
  exact Wp.tab (fun p e s m args below meth c T locs X hx hZ hown hby hml hsh eT hO => Jvm.RoadKit.instN X hx hZ hown lk eT (hsh ▸ I) (hsh ▸ E) (g := mkF m pc Ls (.ref a :: S)) rfl rfl (hb hby hd)) K
theorem Wp.instNo {own D : String} {index : Nat} (hown0 : y.cls = own) (lk : (Cond.classLink own index C).before a0 Z = true) (E : Exa Z h a D) (hno : ∃ c t, Z.vm.findClass D = some c ∧ Z.vm.findClass C = some t ∧ Z.vm.assignable c t = false) (hd : decode bytes pc = .ok (.instanceof index, 3)) (hp : pc + 3 = pc') (K : Wp wd l Z a0 EL R y bytes maxL ret hs ws Q h F k n pc' Ls (.int 0 :: S)) : Wp wd l Z a0 EL R y bytes maxL ret hs ws Q h F k n pc Ls (.ref a :: S) := by
  subst hp hown0
  exact Wp.tab (fun p e s m args below meth c T locs X hx hZ hown hby hml hsh eT hO => Jvm.RoadKit.instNo X hx hZ hown lk eT E hno (g := mkF m pc Ls (.ref a :: S)) rfl rfl (hb hby hd)) K
theorem Wp.instNull {index : Nat} (hd : decode bytes pc = .ok (.instanceof index, 3)) (hp : pc + 3 = pc') (K : Wp wd l Z a0 EL R y bytes maxL ret hs ws Q h F k n pc' Ls (.int 0 :: S)) : Wp wd l Z a0 EL R y bytes maxL ret hs ws Q h F k n pc Ls (.null :: S) := by
  subst hp
  exact Wp.tab (fun p e s m args below meth c T locs X hx hZ hown hby hml hsh eT hO => ⟨T, X, eT, fun t st => X.instanceofNull hx (g := mkF m pc Ls (.null :: S)) rfl rfl (hb hby hd) t st⟩) K
theorem Wp.castNull {index : Nat} (hd : decode bytes pc = .ok (.checkcast index, 3)) (hp : pc + 3 = pc') (K : Wp wd l Z a0 EL R y bytes maxL ret hs ws Q h F k n pc' Ls (.null :: S)) : Wp wd l Z a0 EL R y bytes maxL ret hs ws Q h F k n pc Ls (.null :: S) := by
  subst hp
  exact Wp.tab (fun p e s m args below meth c T locs X hx hZ hown hby hml hsh eT hO => ⟨T, X, eT, fun t st => X.checkcastNull hx (g := mkF m pc Ls (.null :: S)) rfl rfl (hb hby hd) t st⟩) K
theorem Wp.initO {own : String} {idx : Nat} {W : Nat} (hown0 : y.cls = own) (w1 : (Cond.methodLink own idx Lib.objectInit).before a0 Z = true) (w2 : (Cond.instanceMethod Lib.objectInit).before a0 Z = true) (w3 : (Cond.code Lib.objectInit ⟨#[0xb1]⟩ 1 none).before a0 Z = true) (hd : decode bytes pc = .ok (.invokespecial idx, 3)) (hp : pc + 3 = pc') (hsz : Ls.size = maxL)
    (hf : 1 ≤ R.frames) (hW : (S.map fun v => v.category).sum ≤ W) (hl : W + 12 ≤ R.locals) (K : Wp wd l Z a0 EL R y bytes maxL ret hs ws Q h F k n pc' Ls S) : Wp wd l Z a0 EL R y bytes maxL ret hs ws Q h F k n pc Ls (.ref a :: S) := by
  subst hp hown0
  exact Wp.tab (fun p e s m args below meth c T locs X hx hZ hown hby hml hsh eT hO => Jvm.RoadKit.initO X hx hZ hown w1 w2 w3 eT (g := mkF m pc Ls (.ref a :: S)) rfl (by rw [hml]; exact hsz) rfl (hb hby hd) hf (W := W) (by show 2 * 0 + _ ≤ _; omega) hl) K
theorem Wp.ldcI {own : String} {index : Nat} {x : Int32} (hown0 : y.cls = own) (wc : (Cond.constant own index x).before a0 Z = true) (hd : decode bytes pc = .ok (.ldc index, 2)) (hp : pc + 2 = pc') (K : Wp wd l Z a0 EL R y bytes maxL ret hs ws Q h F k n pc' Ls (.int x :: S)) : Wp wd l Z a0 EL R y bytes maxL ret hs ws Q h F k n pc Ls S := by
  subst hp hown0
  exact Wp.tab (fun p e s m args below meth c T locs X hx hZ hown hby hml hsh eT hO => ⟨T, X, eT, fun t st => X.ldcInt hx hown (mvT hZ wc) (g := mkF m pc Ls S) rfl (hb hby hd) t st⟩) K
theorem Wp.ldcL {own : String} {index : Nat} {x : Int64} (hown0 : y.cls = own) (wc : (Cond.constantLong own index x).before a0 Z = true) (hd : decode bytes pc = .ok (.ldc2_w index, 3)) (hp : pc + 3 = pc') (K : Wp wd l Z a0 EL R y bytes maxL ret hs ws Q h F k n pc' Ls (.long x :: S)) : Wp wd l Z a0 EL R y bytes maxL ret hs ws Q h F k n pc Ls S := by
  subst hp hown0
  exact Wp.tab (fun p e s m args below meth c T locs X hx hZ hown hby hml hsh eT hO => ⟨T, X, eT, fun t st => X.ldc2Long hx hown (mvT hZ wc) (g := mkF m pc Ls S) rfl (hb hby hd) t st⟩) K
theorem Wp.alen {kA : ClassId} {z : Int32} {vs : List Value} {dv : Value} (V : Arv Z h a kA ty z vs dv) (hd : decode bytes pc = .ok (.arraylength, 1)) (hp : pc + 1 = pc') (K : Wp wd l Z a0 EL R y bytes maxL ret hs ws Q h F k n pc' Ls (.int z :: S)) : Wp wd l Z a0 EL R y bytes maxL ret hs ws Q h F k n pc Ls (.ref a :: S) := by
  subst hp
  obtain ⟨cl, A, -, hz1, hz2, -⟩ := V
  have e1 := len_of hz1 hz2
  exact Wp.tab (fun p e s m args below meth c T locs X hx hZ hown hby hml hsh eT hO => ⟨T, X, eT, fun t st => X.arraylength hx (by rw [eT]; exact A.1) (State.isArrayOf_alike hZ.alike A.2.1) (g := mkF m pc Ls (.ref a :: S)) rfl rfl (hb hby hd) t (by rw [e1]; exact st)⟩) K
theorem Wp.caload {kA : ClassId} {z j : Int32} {vs : List Value} {dv : Value} (V : Arv Z h a kA .char z vs dv) (h1 : ¬ j < 0) (h2 : j < z) (hv : vs.getD j.toNatClampNeg dv = v) (hd : decode bytes pc = .ok (.caload, 1)) (hp : pc + 1 = pc') (K : Wp wd l Z a0 EL R y bytes maxL ret hs ws Q h F k n pc' Ls (v :: S)) : Wp wd l Z a0 EL R y bytes maxL ret hs ws Q h F k n pc Ls (.int j :: .ref a :: S) := by
  subst hp
  obtain ⟨cl, A, -, hz1, hz2, H, -⟩ := V
  have hin := inb_of hz1 ⟨h1, h2⟩
  have hat := H.at hin hv
  exact Wp.tab (fun p e s m args below meth c T locs X hx hZ hown hby hml hsh eT hO => ⟨T, X, eT, fun t st => X.caload hx (by rw [eT]; exact A.1) (State.isArrayOf_alike hZ.alike A.2.1) A.2.2 hin hat (g := mkF m pc Ls (.int j :: .ref a :: S)) rfl rfl (hb hby hd) t st⟩) K
theorem Wp.iaload {kA : ClassId} {z j : Int32} {vs : List Value} {dv : Value} (V : Arv Z h a kA .int z vs dv) (h1 : ¬ j < 0) (h2 : j < z) (hv : vs.getD j.toNatClampNeg dv = v) (hd : decode bytes pc = .ok (.iaload, 1)) (hp : pc + 1 = pc') (K : Wp wd l Z a0 EL R y bytes maxL ret hs ws Q h F k n pc' Ls (v :: S)) : Wp wd l Z a0 EL R y bytes maxL ret hs ws Q h F k n pc Ls (.int j :: .ref a :: S) := by
  subst hp
  obtain ⟨cl, A, -, hz1, hz2, H, -⟩ := V
  have hin := inb_of hz1 ⟨h1, h2⟩
  have hat := H.at hin hv
  exact Wp.tab (fun p e s m args below meth c T locs X hx hZ hown hby hml hsh eT hO => ⟨T, X, eT, fun t st => X.iaload hx (by rw [eT]; exact A.1) (State.isArrayOf_alike hZ.alike A.2.1) A.2.2 hin hat (g := mkF m pc Ls (.int j :: .ref a :: S)) rfl rfl (hb hby hd) t st⟩) K
theorem Wp.laload {kA : ClassId} {z j : Int32} {vs : List Value} {dv : Value} (V : Arv Z h a kA .long z vs dv) (h1 : ¬ j < 0) (h2 : j < z) (hv : vs.getD j.toNatClampNeg dv = v) (hd : decode bytes pc = .ok (.laload, 1)) (hp : pc + 1 = pc') (K : Wp wd l Z a0 EL R y bytes maxL ret hs ws Q h F k n pc' Ls (v :: S)) : Wp wd l Z a0 EL R y bytes maxL ret hs ws Q h F k n pc Ls (.int j :: .ref a :: S) := by
  subst hp
  obtain ⟨cl, A, -, hz1, hz2, H, -⟩ := V
  have hin := inb_of hz1 ⟨h1, h2⟩
  have hat := H.at hin hv
  exact Wp.tab (fun p e s m args below meth c T locs X hx hZ hown hby hml hsh eT hO => ⟨T, X, eT, fun t st => X.laload hx (by rw [eT]; exact A.1) (State.isArrayOf_alike hZ.alike A.2.1) A.2.2 hin hat (g := mkF m pc Ls (.int j :: .ref a :: S)) rfl rfl (hb hby hd) t st⟩) K
theorem Wp.baload {kA : ClassId} {z j : Int32} {vs : List Value} {dv : Value} (V : Arv Z h a kA .byte z vs dv) (h1 : ¬ j < 0) (h2 : j < z) (hv : vs.getD j.toNatClampNeg dv = v) (hd : decode bytes pc = .ok (.baload, 1)) (hp : pc + 1 = pc') (K : Wp wd l Z a0 EL R y bytes maxL ret hs ws Q h F k n pc' Ls (v :: S)) : Wp wd l Z a0 EL R y bytes maxL ret hs ws Q h F k n pc Ls (.int j :: .ref a :: S) := by
  subst hp
  obtain ⟨cl, A, -, hz1, hz2, H, -⟩ := V
  have hin := inb_of hz1 ⟨h1, h2⟩
  have hat := H.at hin hv
  exact Wp.tab (fun p e s m args below meth c T locs X hx hZ hown hby hml hsh eT hO => ⟨T, X, eT, fun t st => X.baloadBytes hx (by rw [eT]; exact A.1) (State.isArrayOf_alike hZ.alike A.2.1) A.2.2 hin hat (g := mkF m pc Ls (.int j :: .ref a :: S)) rfl rfl (hb hby hd) t st⟩) K
theorem Wp.aaload {kA : ClassId} {z j : Int32} {vs : List Value} {dv : Value} (V : Arv Z h a kA ty z vs dv) (hty : ty.isReference = true) (h1 : ¬ j < 0) (h2 : j < z) (hv : vs.getD j.toNatClampNeg dv = v) (hd : decode bytes pc = .ok (.aaload, 1)) (hp : pc + 1 = pc') (K : Wp wd l Z a0 EL R y bytes maxL ret hs ws Q h F k n pc' Ls (v :: S)) : Wp wd l Z a0 EL R y bytes maxL ret hs ws Q h F k n pc Ls (.int j :: .ref a :: S) := by
  subst hp
  obtain ⟨cl, A, -, hz1, hz2, H, -⟩ := V
  have hin := inb_of hz1 ⟨h1, h2⟩
  have hat := H.at hin hv
  exact Wp.tab (fun p e s m args below meth c T locs X hx hZ hown hby hml hsh eT hO => ⟨T, X, eT, fun t st => X.aaload hx (by rw [eT]; exact A.1) (State.isArrayOf_alike hZ.alike A.2.1) hty A.2.2 hin hat (g := mkF m pc Ls (.int j :: .ref a :: S)) rfl rfl (hb hby hd) t st⟩) K
theorem Wp.putF {own host : String} {index kk : Nat} {C0 : String} {old : Value} (hown0 : y.cls = own) (lk : (Cond.fieldLink own index C0 nm d).before a0 Z = true ∨ (Cond.fieldLinkNest own index C0 nm d host).before a0 Z = true) (via : Via Z C0 O nm d) (Fl : Fld Z h a O nm d old) (E : Exa Z h a C)
    (L : (Cond.lays C O nm d).before a0 Z = true ∨ ((Cond.laysFinal C O nm d).before a0 Z = true ∧ own = O ∧ y.name = "<init>")) (wi : (Cond.instantiable C kk).before a0 Z = true) (hty : parseFieldDescriptor d = some ty) (hn : narrow ty v = v) (hf : fits ty v = true) (hd : decode bytes pc = .ok (.putfield index, 3)) (hp : pc + 3 = pc')
    (hw : a ∈ ws ∨ hs.size ≤ a) (sf : Sfe Z EL h F a) (K : ∀ h', Wr h h' a (Jvm.RoadKit.slotOf Z O nm d) v → Fld Z h' a O nm d v → Wp wd l Z a0 EL R y bytes maxL ret hs ws Q h' F k n pc' Ls S) : Wp wd l Z a0 EL R y bytes maxL ret hs ws Q h F k n pc Ls (v :: .ref a :: S) := by
  subst hp hown0
  exact Wp.put hw sf (fun p e s m args below meth c T locs X hx hZ hown hby hnm eT => Jvm.RoadKit.putF X hx hZ hown lk via eT Fl E (L.imp id fun q => ⟨q.1, q.2.1, hnm.trans q.2.2⟩) wi hty hn hf (g := mkF m pc Ls (v :: .ref a :: S)) rfl rfl (hb hby hd)) (fun h' W => K h' W (Fl.same W))
theorem Wp.putFN {own : String} {index kk : Nat} {C0 : String} {old v' : Value} (hown0 : y.cls = own) (lk : (Cond.fieldLink own index C0 nm d).before a0 Z = true) (via : Via Z C0 O nm d) (Fl : Fld Z h a O nm d old) (E : Exa Z h a C)
    (L : (Cond.lays C O nm d).before a0 Z = true ∨ ((Cond.laysFinal C O nm d).before a0 Z = true ∧ own = O ∧ y.name = "<init>")) (wi : (Cond.instantiable C kk).before a0 Z = true) (hty : parseFieldDescriptor d = some ty) (hn : narrow ty v = v') (hf : fits ty v' = true) (hd : decode bytes pc = .ok (.putfield index, 3)) (hp : pc + 3 = pc')
    (hw : a ∈ ws ∨ hs.size ≤ a) (sf : Sfe Z EL h F a) (K : ∀ h', Wr h h' a (Jvm.RoadKit.slotOf Z O nm d) v' → Fld Z h' a O nm d v' → Wp wd l Z a0 EL R y bytes maxL ret hs ws Q h' F k n pc' Ls S) : Wp wd l Z a0 EL R y bytes maxL ret hs ws Q h F k n pc Ls (v :: .ref a :: S) := by
  subst hp hown0
  exact Wp.put hw sf (fun p e s m args below meth c T locs X hx hZ hown hby hnm eT => Jvm.RoadKit.putFN X hx hZ hown lk via eT Fl E (L.imp id fun q => ⟨q.1, q.2.1, hnm.trans q.2.2⟩) wi hty hn hf (g := mkF m pc Ls (v :: .ref a :: S)) rfl rfl (hb hby hd)) (fun h' W => K h' W (Fl.same W))
theorem Wp.castore {kA : ClassId} {z j x : Int32} {vs : List Value} {dv : Value} {i : Nat} (V : Arv Z h a kA .char z vs dv) (h1 : ¬ j < 0) (h2 : j < z) (hj : j.toNatClampNeg = i) (hi : i < vs.length) (hd : decode bytes pc = .ok (.castore, 1)) (hp : pc + 1 = pc')
    (hw : a ∈ ws ∨ hs.size ≤ a) (K : ∀ h', Wr h h' a j.toNatClampNeg (.int (nar .char x)) → Arv Z h' a kA .char z (vs.set i (.int (nar .char x))) dv → Wp wd l Z a0 EL R y bytes maxL ret hs ws Q h' F k n pc' Ls S) : Wp wd l Z a0 EL R y bytes maxL ret hs ws Q h F k n pc Ls (.int x :: .int j :: .ref a :: S) := by
  subst hp
  obtain ⟨cl, A, hz0, hz1, hz2, H, G⟩ := V
  have hin := inb_of hz1 ⟨h1, h2⟩
  exact Wp.put hw (Sfe.arr A (by decide)) (fun p e s m args below meth c T locs X hx hZ hown hby hnm eT => Jvm.RoadKit.stC X hx hZ eT A hin (g := mkF m pc Ls (.int x :: .int j :: .ref a :: S)) rfl rfl (hb hby hd)) (fun h' W => K h' W (Arv.set A hz0 hz1 hz2 H G (fits_nar_char _) W i hj hi))
theorem Wp.bastore {kA : ClassId} {z j x : Int32} {vs : List Value} {dv : Value} {i : Nat} (V : Arv Z h a kA .byte z vs dv) (h1 : ¬ j < 0) (h2 : j < z) (hj : j.toNatClampNeg = i) (hi : i < vs.length) (hd : decode bytes pc = .ok (.bastore, 1)) (hp : pc + 1 = pc')
    (hw : a ∈ ws ∨ hs.size ≤ a) (sf : Sfe Z EL h F a) (K : ∀ h', Wr h h' a j.toNatClampNeg (.int (nar .byte x)) → Arv Z h' a kA .byte z (vs.set i (.int (nar .byte x))) dv → Wp wd l Z a0 EL R y bytes maxL ret hs ws Q h' F k n pc' Ls S) : Wp wd l Z a0 EL R y bytes maxL ret hs ws Q h F k n pc Ls (.int x :: .int j :: .ref a :: S) := by
  subst hp
  obtain ⟨cl, A, hz0, hz1, hz2, H, G⟩ := V
  have hin := inb_of hz1 ⟨h1, h2⟩
  exact Wp.put hw sf (fun p e s m args below meth c T locs X hx hZ hown hby hnm eT => Jvm.RoadKit.stB X hx hZ eT A hin (g := mkF m pc Ls (.int x :: .int j :: .ref a :: S)) rfl rfl (hb hby hd)) (fun h' W => K h' W (Arv.set A hz0 hz1 hz2 H G (fits_nar_byte _) W i hj hi))
theorem Wp.iastore {kA : ClassId} {z j x : Int32} {vs : List Value} {dv : Value} {i : Nat} (V : Arv Z h a kA .int z vs dv) (h1 : ¬ j < 0) (h2 : j < z) (hj : j.toNatClampNeg = i) (hi : i < vs.length) (hd : decode bytes pc = .ok (.iastore, 1)) (hp : pc + 1 = pc')
    (hw : a ∈ ws ∨ hs.size ≤ a) (K : ∀ h', Wr h h' a j.toNatClampNeg (.int x) → Arv Z h' a kA .int z (vs.set i (.int x)) dv → Wp wd l Z a0 EL R y bytes maxL ret hs ws Q h' F k n pc' Ls S) : Wp wd l Z a0 EL R y bytes maxL ret hs ws Q h F k n pc Ls (.int x :: .int j :: .ref a :: S) := by
  subst hp
  obtain ⟨cl, A, hz0, hz1, hz2, H, G⟩ := V
  have hin := inb_of hz1 ⟨h1, h2⟩
  exact Wp.put hw (Sfe.arr A (by decide)) (fun p e s m args below meth c T locs X hx hZ hown hby hnm eT => Jvm.RoadKit.stI X hx hZ eT A hin (g := mkF m pc Ls (.int x :: .int j :: .ref a :: S)) rfl rfl (hb hby hd)) (fun h' W => K h' W (Arv.set A hz0 hz1 hz2 H G rfl W i hj hi))
theorem Wp.lastore {kA : ClassId} {z j : Int32} {x : Int64} {vs : List Value} {dv : Value} {i : Nat} (V : Arv Z h a kA .long z vs dv) (h1 : ¬ j < 0) (h2 : j < z) (hj : j.toNatClampNeg = i) (hi : i < vs.length) (hd : decode bytes pc = .ok (.lastore, 1)) (hp : pc + 1 = pc')
    (hw : a ∈ ws ∨ hs.size ≤ a) (K : ∀ h', Wr h h' a j.toNatClampNeg (.long x) → Arv Z h' a kA .long z (vs.set i (.long x)) dv → Wp wd l Z a0 EL R y bytes maxL ret hs ws Q h' F k n pc' Ls S) : Wp wd l Z a0 EL R y bytes maxL ret hs ws Q h F k n pc Ls (.long x :: .int j :: .ref a :: S) := by
  subst hp
  obtain ⟨cl, A, hz0, hz1, hz2, H, G⟩ := V
  have hin := inb_of hz1 ⟨h1, h2⟩
  exact Wp.put hw (Sfe.arr A (by decide)) (fun p e s m args below meth c T locs X hx hZ hown hby hnm eT => Jvm.RoadKit.stJ X hx hZ eT A hin (g := mkF m pc Ls (.long x :: .int j :: .ref a :: S)) rfl rfl (hb hby hd)) (fun h' W => K h' W (Arv.set A hz0 hz1 hz2 H G rfl W i hj hi))
theorem Wp.aastore {kA : ClassId} {z j : Int32} {vs : List Value} {dv : Value} {i : Nat} (V : Arv Z h a kA ty z vs dv) (hty : ty.isReference = true) (hby0 : ty ≠ .byte) (hfit : fits ty v = true) (St : v = .null ∨ ∃ D y', v = .ref y' ∧ Ovr Z kA D ∧ Ins Z h y' D true) (h1 : ¬ j < 0) (h2 : j < z) (hj : j.toNatClampNeg = i) (hi : i < vs.length) (hd : decode bytes pc = .ok (.aastore, 1)) (hp : pc + 1 = pc')
    (hw : a ∈ ws ∨ hs.size ≤ a) (K : ∀ h', Wr h h' a j.toNatClampNeg v → Arv Z h' a kA ty z (vs.set i v) dv → Wp wd l Z a0 EL R y bytes maxL ret hs ws Q h' F k n pc' Ls S) : Wp wd l Z a0 EL R y bytes maxL ret hs ws Q h F k n pc Ls (v :: .int j :: .ref a :: S) := by
  subst hp
  obtain ⟨cl, A, hz0, hz1, hz2, H, G⟩ := V
  have hin := inb_of hz1 ⟨h1, h2⟩
  have hSt : Sto Z h a v := by
    rcases St with rfl | ⟨D, y', rfl, Ov, I⟩
    · exact Or.inl rfl
    · exact Sto.ofV A hz0 Ov I
  exact Wp.put hw (Sfe.arr A hby0) (fun p e s m args below meth c T locs X hx hZ hown hby hnm eT => Jvm.RoadKit.stR X hx hZ eT A hin hty hSt (g := mkF m pc Ls (v :: .int j :: .ref a :: S)) rfl rfl (hb hby hd)) (fun h' W => K h' W (Arv.set A hz0 hz1 hz2 H G hfit W i hj hi))
theorem Wp.new {own : String} {index : Nat} (hown0 : y.cls = own) (lk : (Cond.classLink own index C).before a0 Z = true) (wi : (Cond.instantiable C sl).before a0 Z = true) (wz : (Cond.initialized C).before a0 Z = true) (hd : decode bytes pc = .ok (.new index, 3)) (hp : pc + 3 = pc') (hk : k + 1 = k') (hn : n + sl = n') (hk' : k' ≤ R.cells) (hn' : n' ≤ R.slots)
    (K : ∀ h' b, b = h.size → hs.size ≤ b → Ext h h' → Exa Z h' b C → (∀ {O nm d : String} {ty : FieldType}, Laid Z a0 C O nm d → parseFieldDescriptor d = some ty → Fld Z h' b O nm d (defaultValue ty)) → Wp wd l Z a0 EL R y bytes maxL ret hs ws Q h' (b :: F) k' n' pc' Ls (.ref b :: S)) : Wp wd l Z a0 EL R y bytes maxL ret hs ws Q h F k n pc Ls S := by
  subst hp hown0 hk hn
  exact Wp.mk (fun h' => Exa Z h' h.size C ∧ ∀ {O nm d : String} {ty : FieldType}, Laid Z a0 C O nm d → parseFieldDescriptor d = some ty → Fld Z h' h.size O nm d (defaultValue ty)) (fun h' q => q.1.lt)
    (fun p e s m args below meth c T locs X hx hZ hown hby eT => by obtain ⟨T', h', X', e', E, A, D, -, st⟩ := Jvm.RoadKit.newO X hx hZ hown lk wi wz eT (g := mkF m pc Ls S) rfl (hb hby hd) hk' hn'; exact ⟨T', h', X', e', E, ⟨A, D⟩, st⟩) (fun h' z E q => K h' _ rfl z E q.1 q.2)
theorem Wp.newP {aty : ArrayType} {z : Int32} {cap : Nat} (wa : (Cond.arrayClass (newarray.typeOf aty)).before a0 Z = true) (hz : ¬ z < 0) (hcap : z.toNatClampNeg ≤ cap) (hb8 : cap * 8 ≤ 536870912) (hd : decode bytes pc = .ok (.newarray aty, 2)) (hp : pc + 2 = pc') (hk : k + 1 = k') (hn : n + cap = n') (hk' : k' ≤ R.cells) (hn' : n' ≤ R.slots)
    (K : ∀ h' b kA, b = h.size → hs.size ≤ b → Ext h h' → Arv Z h' b kA (newarray.typeOf aty) z [] (defaultValue (newarray.typeOf aty)) → Wp wd l Z a0 EL R y bytes maxL ret hs ws Q h' (b :: F) k' n' pc' Ls (.ref b :: S)) : Wp wd l Z a0 EL R y bytes maxL ret hs ws Q h F k n pc Ls (.int z :: S) := by
  subst hp hk hn
  exact Wp.mk (fun h' => ∃ kA, Arv Z h' h.size kA (newarray.typeOf aty) z [] (defaultValue (newarray.typeOf aty))) (fun h' q => q.elim fun _ A => A.lt)
    (fun p e s m args below meth c T locs X hx hZ hown hby eT => by obtain ⟨T', h', kA, X', e', E, A, st⟩ := Jvm.RoadKit.newP X hx hZ wa eT (g := mkF m pc Ls (.int z :: S)) rfl (hb hby hd) rfl hz hcap hb8 hk' hn'; exact ⟨T', h', X', e', E, ⟨kA, Arv.new A hz⟩, st⟩) (fun h' z E q => q.elim fun kA A => K h' _ kA rfl z E A)
theorem Wp.newR {own : String} {index : Nat} {z : Int32} {cap : Nat} (hown0 : y.cls = own) (lk : (Cond.classLink own index C).before a0 Z = true) (wa : (Cond.arrayOver (.object C)).before a0 Z = true) (hz : ¬ z < 0) (hcap : z.toNatClampNeg ≤ cap) (hb8 : cap * 8 ≤ 536870912) (hd : decode bytes pc = .ok (.anewarray index, 3)) (hp : pc + 3 = pc') (hk : k + 1 = k') (hn : n + cap = n') (hk' : k' ≤ R.cells) (hn' : n' ≤ R.slots)
    (K : ∀ h' b kA, b = h.size → hs.size ≤ b → Ext h h' → Arv Z h' b kA (.object C) z [] .null → Ovr Z kA C → Wp wd l Z a0 EL R y bytes maxL ret hs ws Q h' (b :: F) k' n' pc' Ls (.ref b :: S)) : Wp wd l Z a0 EL R y bytes maxL ret hs ws Q h F k n pc Ls (.int z :: S) := by
  subst hp hk hn hown0
  exact Wp.mk (fun h' => ∃ kA, Arv Z h' h.size kA (.object C) z [] .null ∧ Ovr Z kA C) (fun h' q => q.elim fun _ A => A.1.lt)
    (fun p e s m args below meth c T locs X hx hZ hown hby eT => by obtain ⟨T', h', kA, X', e', E, A, Ov, st⟩ := Jvm.RoadKit.newR X hx hZ hown lk wa eT (g := mkF m pc Ls (.int z :: S)) rfl (hb hby hd) rfl hz hcap hb8 hk' hn'; exact ⟨T', h', X', e', E, ⟨kA, Arv.new A hz, Ov⟩, st⟩) (fun h' z E q => q.elim fun kA A => K h' _ kA rfl z E A.1 A.2)
theorem Wp.retn (hr : ret = none) (hd : decode bytes pc = .ok (.return_, 1)) (hk : k ≤ R.cells) (hn : n ≤ R.slots) (hQ : Q none h) : Wp wd l Z a0 EL R y bytes maxL ret hs ws Q h F k n pc Ls [] :=
  Wp.leave hk hn (fun _ => rfl) hQ (fun p e s m args below meth c T locs fs X hx hby hret hl => X.returnOut hx (hret.trans hr) (hb hby hd) hl)
theorem Wp.retN {t : FieldType} {x x' : Int32} (hr : ret = some t) (ht : t = .boolean ∨ t = .byte ∨ t = .char ∨ t = .short) (hx' : nar t x = x') (hd : decode bytes pc = .ok (.ireturn, 1)) (hk : k ≤ R.cells) (hn : n ≤ R.slots) (hQ : Q (some (.int x')) h) : Wp wd l Z a0 EL R y bytes maxL ret hs ws Q h F k n pc Ls (.int x :: S) := by
  subst hx'
  exact Wp.leave hk hn (fun q => by rw [hr] at q; cases q) hQ (fun p e s m args below meth c T locs fs X hx hby hret hl => Jvm.RoadKit.retN X hx (hret.trans hr) ht (hb hby hd) hl)
theorem Wp.retV {i : Instr} {t : FieldType} (hr : ret = some t) (hn' : narrow t v = v) (hi : (i = .ireturn ∧ (t = .int ∨ t = .boolean ∨ t = .byte ∨ t = .char ∨ t = .short) ∧ ∃ z, v = .int z) ∨ (i = .lreturn ∧ t = .long ∧ ∃ z, v = .long z) ∨ (i = .dreturn ∧ t = .double ∧ ∃ z, v = .double z) ∨ (i = .freturn ∧ t = .float ∧ ∃ z, v = .float z) ∨ (i = .areturn ∧ t.isReference = true ∧ v.isRef = true))
    (hd : decode bytes pc = .ok (i, 1)) (hk : k ≤ R.cells) (hn : n ≤ R.slots) (hQ : Q (some v) h) : Wp wd l Z a0 EL R y bytes maxL ret hs ws Q h F k n pc Ls (v :: S) :=
  Wp.leave hk hn (fun q => by rw [hr] at q; cases q) hQ (fun p e s m args below meth c T locs fs X hx hby hret hl => Jvm.RoadKit.retOut X hx (hret.trans hr) hn' hi (hb hby hd) hl)
theorem Wp.retI {x : Int32} (hr : ret = some .int) (hd : decode bytes pc = .ok (.ireturn, 1)) (hk : k ≤ R.cells) (hn : n ≤ R.slots) (hQ : Q (some (.int x)) h) : Wp wd l Z a0 EL R y bytes maxL ret hs ws Q h F k n pc Ls (.int x :: S) :=
  Wp.retV hr rfl (Or.inl ⟨rfl, Or.inl rfl, _, rfl⟩) hd hk hn hQ
theorem Wp.retL {x : Int64} (hr : ret = some .long) (hd : decode bytes pc = .ok (.lreturn, 1)) (hk : k ≤ R.cells) (hn : n ≤ R.slots) (hQ : Q (some (.long x)) h) : Wp wd l Z a0 EL R y bytes maxL ret hs ws Q h F k n pc Ls (.long x :: S) :=
  Wp.retV hr rfl (Or.inr (Or.inl ⟨rfl, rfl, _, rfl⟩)) hd hk hn hQ
theorem Wp.retA {t : FieldType} (hr : ret = some t) (ht : t.isReference = true) (hv : v.isRef = true) (hd : decode bytes pc = .ok (.areturn, 1)) (hk : k ≤ R.cells) (hn : n ≤ R.slots) (hQ : Q (some v) h) : Wp wd l Z a0 EL R y bytes maxL ret hs ws Q h F k n pc Ls (v :: S) :=
  Wp.retV hr (by cases t <;> first | rfl | cases ht) (Or.inr (Or.inr (Or.inr (Or.inr ⟨rfl, ht, hv⟩)))) hd hk hn hQ
end Rules
end Jvm.Own
namespace Jvm.Own
open Sem ClassFile Op Lib Jvm.Stand Jvm.Free Jvm.LawKit Jvm.RoadKit
section Calls
variable {wd : Bool} {l : Launch} {Z : State} {EL : List (String × Nat)} {R : Room} {y : MethodName} {bytes : ByteArray} {maxL : Nat} {ret : Option FieldType} {hs : Heap} {ws : List Addr} {Q : Option Value → Heap → Prop} {h h' : Heap} {F F' : List Addr} {k n k' n' pc pc' pc1 : Nat} {Ls Ls' : Array Slot} {S S' : List Value}
variable {a0 : Array Value} {a b : Addr} {C O nm d : String} {v w : Value} {sl : Nat} {cl : Cell} {ty : FieldType}
variable {y' : MethodName} {bytes' : ByteArray} {maxL' : Nat} {ret' : Option FieldType} {rm : Room} {as : Array Value} {Fc wc : List Addr} {Qc : Option Value → Heap → Prop}
theorem mvMN {s : State} {args : Array Value} {own host : String} {idx : Nat} (hZ : Z.Warmed39 s.vm) (w : (Cond.methodLinkNest own idx y' host).before a0 Z = true) : (Cond.methodLinkNest own idx y' host).before args s = true := (Cond.methodLinkNest_wide hZ w :)
/-- a body's contract, from its walk -/
theorem Ct.of_wp {cw : List Cond} (hpl : plainFor y = true) (hE : EW Z a0 EL) (hO : Ext Z.heap h) (hws : ∀ x ∈ ws, Z.heap.size ≤ x) (hef : ∀ m, entryFrame m as maxL = mkF m 0 Ls []) (K : Wp wd l Z a0 EL rm y bytes maxL ret h ws Q h F 0 0 0 Ls []) : Ct wd l Z EL cw y bytes maxL ret rm as h F ws Q := by
  refine MetFree.of_bodySF (code := bytes) (maxLocals := maxL) (ret := ret) hpl hisR ?_
  intro p e s m args below meth c s₁ Bd hml0 hP hK
  obtain ⟨rfl, hZ, rfl, hC, hF⟩ := hP
  have e0 : s₁.heap = s.heap := by rw [Bd.state]; rfl
  obtain ⟨v, t, h1, h2, h3, L, r1, r2, r3, r4⟩ := K p e s m args below meth c s.vm s.heap.size s₁ [] ⟨⟨hE, Bd.exec, Bd.bytes, hml0, Bd.returns, (name_of_methodNamed Bd.named Bd.method).1, Bd.notSynchronized⟩, ⟨rfl, hws, hO.1, (fun _ q => nomatch q), hO⟩, ⟨findClass_of_methodNamed Bd.named, (State.WarmedH.refl s).since _, Nat.le_refl _, fun _ => State.WarmedH.refl s, hZ, CHr.refl hC, hF⟩, Stand.of_body Bd, e0⟩
  exact ⟨t, _, castTop (hef m) h1, h2, h3, v, L, rfl, ⟨r1, r2⟩, r3, r4⟩
/-- a contract pays a call -/
theorem Ct.pays {p : Program} {e : Env} {below : List Frame} {s : State} {args : Array Value} {vm0 : Vm} {len W : Nat} (hM : Ct wd l Z EL [] y' bytes' maxL' ret' rm as h Fc wc Qc) (hE : EW Z a0 EL) (hZ : Z.Warmed39 vm0) (wcode : (Cond.code y' bytes' maxL' ret').before a0 Z = true) (wz : (Cond.initialized y'.cls).before a0 Z = true) (hf : rm.frames + 1 ≤ R.frames) (hl : W + (maxL' + 11) + rm.locals ≤ R.locals) (H : CHv Z EL vm0 h) (HF : Sf Z EL vm0 h Fc) :
    BackS l R p e below (s.setVm vm0) args y' len W (fun A a => a = as ∧ A.U.heap = h ∧ A.cells + rm.cells ≤ R.cells ∧ A.slots + rm.slots ≤ R.slots)
      (fun A _ v B => ∃ L, (Wh h wc L ∧ Qc v B.U.heap) ∧ B.locs = A.locs ++ L ∧ B.cells = A.cells + rm.cells ∧ B.slots = A.slots + rm.slots ∧ CHr Z EL vm0 h B.U.vm B.U.heap ∧ Keep h B.U.heap wc ∧ (wd = false → (s.setVm vm0).WarmedH B.U.vm)) :=
  BackS.of_freeW (bytes := bytes') (maxL := maxL') (ret := ret') (E := fun _ first o t L k n => k = rm.cells ∧ n = rm.slots ∧ (∃ v, o = .returned v ∧ Wh first.heap wc L ∧ Qc v t.heap) ∧ CHr Z EL first.vm first.heap t.vm t.heap ∧ Keep first.heap t.heap wc ∧ (wd = false → first.WarmedH t.vm)) hM hf hl
    (fun m meth c A a Y hp => have hU : Z.Warmed39 A.U.vm := wtrans (s := s.setVm vm0) hZ Y.warmed
      ⟨by show (Cond.and _ .tt).before a A.U = true; rw [Cond.before_and, mv hU wcode]; rfl, mv hU wcode, mv hU wz, hp.2.2.1, hp.2.2.2⟩)
    (fun m meth c A a g mk Y hp => ⟨hp.1, wtrans (s := s.setVm vm0) hZ Y.warmed, hp.2.1, (CHv.at Y hZ hE H).1, fun x hx => ⟨(HF x hx).1, CHr.safe (CHv.at Y hZ hE H) (HF x hx).1 (HF x hx).2⟩⟩) (fun _ _ _ _ _ _ _ _ _ => trivial)
    (fun _ first _ t ⟨v, L, h1, h2, h3, h4⟩ => ⟨L, _, _, h4.1, rfl, rfl, ⟨v, h1, h2⟩, h3, (show Keep first.heap t.heap wc from keep_of (T := ({ t with vm := first.vm } : State)) h4.1.2.2.2 h2.1), h4.2⟩)
    (fun m meth c A a g mk v t L k n Y hp _ _ ⟨e1, e2, ⟨v', e3, e4, e5⟩, e6, e7, e8⟩ => by
      cases e3; subst e1 e2
      have eh : (A.U.calling g mk a).heap = h := hp.2.1
      rw [eh] at e4 e6 e7
      exact ⟨L, ⟨e4, e5⟩, rfl, rfl, rfl, (CHv.at Y hZ hE H).trans e6, e7, fun z => State.WarmedH.trans (t := A.U) Y.warmed (e8 z)⟩)
/-- a call, whatever its kind -/
theorem Wp.call {len W : Nat} {rest : List Value} (Cc : Ct wd l Z EL [] y' bytes' maxL' ret' rm as h Fc wc Qc) (wcode : (Cond.code y' bytes' maxL' ret').before a0 Z = true) (wz : (Cond.initialized y'.cls).before a0 Z = true) (hFc : ∀ x ∈ Fc, x ∈ F) (hwc : ∀ x ∈ wc, x ∈ ws ∨ hs.size ≤ x) (hf : rm.frames + 1 ≤ R.frames) (hl : W + (maxL' + 11) + rm.locals ≤ R.locals) (hk : k + rm.cells = k') (hn : n + rm.slots = n') (hk' : k' ≤ R.cells) (hn' : n' ≤ R.slots)
    (law : ∀ (p : Program) (e : Env) (s : State) (m : MethodId) (args : Array Value) (below : List Frame) (meth : Method) (c : Code) (T : State) (locs : List Loc) (Pre : Pt → Array Value → Prop) (Post : Pt → Array Value → Option Value → Pt → Prop), Stand p l e R s m args below meth c T locs k n → p.tables.exec = Jvm.exec → Z.Warmed39 s.vm → s.vm.findClass y.cls = some m.cls → c.code = bytes → c.maxLocals = maxL → T.heap = h →
      BackS l R p e below s args y' len W Pre Post → (∀ vm₁, s.WarmedH vm₁ → Pre ⟨T.setVm vm₁, locs, k, n⟩ as) →
      ∃ (v : Option Value) (vm₁ : Vm) (B : Pt), s.WarmedH vm₁ ∧ Stand p l e R (s.setVm B.U.vm) m args below meth c B.U B.locs B.cells B.slots ∧ s.Since B.U.vm B.U.heap.size ∧ T.heap.size ≤ B.U.heap.size ∧ Post ⟨T.setVm vm₁, locs, k, n⟩ as v B ∧
        Steps p.tables e below (T.setTop (mkF m pc Ls S)) (B.U.setTop (mkF m pc' Ls (v.toList ++ rest))))
    (K : ∀ v h', hs.size ≤ h.size → Keep h h' wc → Qc v h' → Wp wd l Z a0 EL R y bytes maxL ret hs ws Q h' F k' n' pc' Ls (v.toList ++ rest)) : Wp wd l Z a0 EL R y bytes maxL ret hs ws Q h F k n pc Ls S := fun p e s m args below meth c vm0 k0 T locs I => by
  obtain ⟨⟨i1, i2, i3, i4, i5⟩, ⟨q1, q2, q3, q4, q5⟩, ⟨j1, j2, j3, j4, j5, j6, j7⟩, X, eT⟩ := I
  subst hk hn
  obtain ⟨v, vm₁, ⟨U, L', kk, nn⟩, hW₁, X', hS', hgr, ⟨L, ⟨c1, c2⟩, c3, c4, c5, c6, c7, c8⟩, st⟩ := law p e (s.setVm vm0) m args below meth c T locs _ _ X i2 j5 j1 i3 i4 eT (Ct.pays Cc i1 j5 wcode wz hf hl j6.1 fun x hx => j7 x (hFc x hx)) (fun _ _ => ⟨rfl, eT, hk', hn'⟩)
  dsimp only [Pt.U, Pt.locs, Pt.cells, Pt.slots] at X' hS' hgr c2 c3 c4 c5 c6 c7 c8 st
  subst c3 c4 c5
  have hhs : hs.size ≤ h.size := j6.2.1
  have hSin : s.Since U.vm U.heap.size := j2.trans hS' (Nat.le_trans j3 (by rw [← eT]; exact hgr))
  refine (K v U.heap hhs c7 c2 p e s m args below meth c U.vm U.heap.size U _ ⟨⟨i1, i2, i3, i4, i5⟩, ⟨q1, q2, q3, fun z hz => ?_, ext_keep q5 c7 fun x hx => (hwc x hx).elim (q2 x) (Nat.le_trans q3)⟩, ⟨(hS'.1.alike.findClass _ _).trans j1, hSin, Nat.le_refl _, fun z => State.WarmedH.trans (t := s.setVm vm0) (j4 z) (c8 z), State.Warmed39.trans (t := s.setVm vm0) j5 hS'.1, j6.trans c6, fun x hx => ⟨Nat.lt_of_lt_of_le (j7 x hx).1 c7.1, CHr.safe c6 (j7 x hx).1 (j7 x hx).2⟩⟩, X', rfl⟩).back fun t => st.trans
  rcases List.mem_append.mp hz with hz | hz
  · exact q4 z hz
  · rcases c1 z hz with q | q
    · exact hwc _ q
    · exact Or.inr (Nat.le_trans hhs q)

theorem Wp.callS {own : String} {idx W : Nat} {argsL rest : List Value} (hown0 : y.cls = own) (Cc : Ct wd l Z EL [] y' bytes' maxL' ret' rm as h Fc wc Qc) (wl : (Cond.methodLink own idx y').before a0 Z = true) (wst : (Cond.static y').before a0 Z = true) (wcode : (Cond.code y' bytes' maxL' ret').before a0 Z = true) (wz : (Cond.initialized y'.cls).before a0 Z = true) (hy : y'.cls ≠ "java/lang/invoke/MethodHandle" ∧ y'.cls ≠ "java/lang/invoke/VarHandle") (hlen : ∀ sig, parseMethodDescriptor y'.desc = some sig → argsL.length = sig.parameters.length) (hd : decode bytes pc = .ok (.invokestatic idx, 3))
    (hsz : Ls.size = maxL) (hst : S = argsL.reverse ++ rest) (has : argsL.toArray = as) (hW : (rest.map fun v => v.category).sum ≤ W) (hp : pc + 3 = pc') (hFc : ∀ x ∈ Fc, x ∈ F) (hwc : ∀ x ∈ wc, x ∈ ws ∨ hs.size ≤ x) (hf : rm.frames + 1 ≤ R.frames) (hl : W + (maxL' + 11) + rm.locals ≤ R.locals) (hk : k + rm.cells = k') (hn : n + rm.slots = n') (hk' : k' ≤ R.cells) (hn' : n' ≤ R.slots)
    (K : ∀ v h', hs.size ≤ h.size → Keep h h' wc → Qc v h' → Wp wd l Z a0 EL R y bytes maxL ret hs ws Q h' F k' n' pc' Ls (v.toList ++ rest)) : Wp wd l Z a0 EL R y bytes maxL ret hs ws Q h F k n pc Ls S := by
  subst hown0 hst has hp
  exact Wp.call Cc wcode wz hFc hwc hf hl hk hn hk' hn' (fun p e s m args below meth c T locs Pre Post X hx hZ hown hby hml eT hK hpre => callSS X hx hown (mvT hZ wl) (mvT hZ wst) (mvT hZ wz) (mvT hZ wcode) hy hK (g := mkF m pc Ls (argsL.reverse ++ rest)) rfl (by rw [hml]; exact hsz) hlen rfl (by show 2 * 0 + _ ≤ _; omega) (hb hby hd) hpre) K
theorem Wp.callI {own : String} {idx W : Nat} {argsL rest : List Value} (hown0 : y.cls = own) (Cc : Ct wd l Z EL [] y' bytes' maxL' ret' rm as h Fc wc Qc) (hy1 : y'.name = "<init>") (hr' : ret' = none) (wl : (Cond.methodLink own idx y').before a0 Z = true) (wi : (Cond.instanceMethod y').before a0 Z = true) (wcode : (Cond.code y' bytes' maxL' ret').before a0 Z = true) (wz : (Cond.initialized y'.cls).before a0 Z = true) (hy : y'.cls ≠ "java/lang/invoke/MethodHandle" ∧ y'.cls ≠ "java/lang/invoke/VarHandle") (hlen : ∀ sig, parseMethodDescriptor y'.desc = some sig → argsL.length = sig.parameters.length) (hd : decode bytes pc = .ok (.invokespecial idx, 3))
    (hsz : Ls.size = maxL) (hst : S = argsL.reverse ++ .ref a :: rest) (has : (Value.ref a :: argsL).toArray = as) (hW : (rest.map fun v => v.category).sum ≤ W) (hp : pc + 3 = pc') (hFc : ∀ x ∈ Fc, x ∈ F) (hwc : ∀ x ∈ wc, x ∈ ws ∨ hs.size ≤ x) (hf : rm.frames + 1 ≤ R.frames) (hl : W + (maxL' + 11) + rm.locals ≤ R.locals) (hk : k + rm.cells = k') (hn : n + rm.slots = n') (hk' : k' ≤ R.cells) (hn' : n' ≤ R.slots)
    (K : ∀ v h', hs.size ≤ h.size → Keep h h' wc → Qc v h' → Wp wd l Z a0 EL R y bytes maxL ret hs ws Q h' F k' n' pc' Ls (v.toList ++ rest)) : Wp wd l Z a0 EL R y bytes maxL ret hs ws Q h F k n pc Ls S := by
  subst hown0 hst has hp hr'
  exact Wp.call Cc wcode wz hFc hwc hf hl hk hn hk' hn' (fun p e s m args below meth c T locs Pre Post X hx hZ hown hby hml eT hK hpre => X.specialBackS hx hy1 hown (mvT hZ wl) (mvT hZ wi) (mvT hZ wcode) hy hK (g := mkF m pc Ls (argsL.reverse ++ .ref a :: rest)) rfl (by rw [hml]; exact hsz) (Steps.refl _) hlen rfl (by show 2 * 0 + _ ≤ _; omega) (hb hby hd) hpre) K
theorem Wp.callIN {host : String} {own : String} {idx W : Nat} {argsL rest : List Value} (hown0 : y.cls = own) (Cc : Ct wd l Z EL [] y' bytes' maxL' ret' rm as h Fc wc Qc) (hy1 : y'.name = "<init>") (hr' : ret' = none) (wl : (Cond.methodLinkNest own idx y' host).before a0 Z = true) (wi : (Cond.instanceMethod y').before a0 Z = true) (wcode : (Cond.code y' bytes' maxL' ret').before a0 Z = true) (wz : (Cond.initialized y'.cls).before a0 Z = true) (hy : y'.cls ≠ "java/lang/invoke/MethodHandle" ∧ y'.cls ≠ "java/lang/invoke/VarHandle") (hlen : ∀ sig, parseMethodDescriptor y'.desc = some sig → argsL.length = sig.parameters.length) (hd : decode bytes pc = .ok (.invokespecial idx, 3))
    (hsz : Ls.size = maxL) (hst : S = argsL.reverse ++ .ref a :: rest) (has : (Value.ref a :: argsL).toArray = as) (hW : (rest.map fun v => v.category).sum ≤ W) (hp : pc + 3 = pc') (hFc : ∀ x ∈ Fc, x ∈ F) (hwc : ∀ x ∈ wc, x ∈ ws ∨ hs.size ≤ x) (hf : rm.frames + 1 ≤ R.frames) (hl : W + (maxL' + 11) + rm.locals ≤ R.locals) (hk : k + rm.cells = k') (hn : n + rm.slots = n') (hk' : k' ≤ R.cells) (hn' : n' ≤ R.slots)
    (K : ∀ v h', hs.size ≤ h.size → Keep h h' wc → Qc v h' → Wp wd l Z a0 EL R y bytes maxL ret hs ws Q h' F k' n' pc' Ls (v.toList ++ rest)) : Wp wd l Z a0 EL R y bytes maxL ret hs ws Q h F k n pc Ls S := by
  subst hown0 hst has hp hr'
  exact Wp.call Cc wcode wz hFc hwc hf hl hk hn hk' hn' (fun p e s m args below meth c T locs Pre Post X hx hZ hown hby hml eT hK hpre => X.specialBackNestS hx hy1 hown (mvMN hZ wl) (mvT hZ wi) (mvT hZ wcode) hy hK (g := mkF m pc Ls (argsL.reverse ++ .ref a :: rest)) rfl (by rw [hml]; exact hsz) (Steps.refl _) hlen rfl (by show 2 * 0 + _ ≤ _; omega) (hb hby hd) hpre) K
theorem Wp.callV {x' : MethodName} {own : String} {idx W : Nat} {argsL rest : List Value} (hown0 : y.cls = own) (Cc : Ct wd l Z EL [] y' bytes' maxL' ret' rm as h Fc wc Qc) (wl : (Cond.methodLink own idx x').before a0 Z = true) (wd' : (Cond.declares x').before a0 Z = true) (wsel : (Cond.selects C x' y').before a0 Z = true) (wi : (Cond.instanceMethod y').before a0 Z = true) (wcode : (Cond.code y' bytes' maxL' ret').before a0 Z = true) (wz : (Cond.initialized y'.cls).before a0 Z = true) (nf : ∀ s : State, Z.Warmed39 s.vm → NotFace s x') (E : Exa Z h a C) (hy : x'.cls ≠ "java/lang/invoke/MethodHandle" ∧ x'.cls ≠ "java/lang/invoke/VarHandle") (hlen : ∀ sig, parseMethodDescriptor x'.desc = some sig → argsL.length = sig.parameters.length) (hd : decode bytes pc = .ok (.invokevirtual idx, 3))
    (hsz : Ls.size = maxL) (hst : S = argsL.reverse ++ .ref a :: rest) (has : (Value.ref a :: argsL).toArray = as) (hW : (rest.map fun v => v.category).sum ≤ W) (hp : pc + 3 = pc') (hFc : ∀ x ∈ Fc, x ∈ F) (hwc : ∀ x ∈ wc, x ∈ ws ∨ hs.size ≤ x) (hf : rm.frames + 1 ≤ R.frames) (hl : W + (maxL' + 11) + rm.locals ≤ R.locals) (hk : k + rm.cells = k') (hn : n + rm.slots = n') (hk' : k' ≤ R.cells) (hn' : n' ≤ R.slots)
    (K : ∀ v h', hs.size ≤ h.size → Keep h h' wc → Qc v h' → Wp wd l Z a0 EL R y bytes maxL ret hs ws Q h' F k' n' pc' Ls (v.toList ++ rest)) : Wp wd l Z a0 EL R y bytes maxL ret hs ws Q h F k n pc Ls S := by
  subst hown0 hst has hp
  exact Wp.call Cc wcode wz hFc hwc hf hl hk hn hk' hn' (fun p e s m args below meth c T locs Pre Post X hx hZ hown hby hml eT hK hpre => by
    obtain ⟨cq, kq, qa, qb, qc⟩ := isOf (T := T) hZ eT E
    exact X.virtualBackS hx hown (mvT hZ wl) (mvT hZ wd') (nf s hZ) (mvT hZ wsel) (mvT hZ wi) hy hK qa qc (g := mkF m pc Ls (argsL.reverse ++ .ref a :: rest)) rfl (by rw [hml]; exact hsz) (Steps.refl _) hlen rfl (by show 2 * 0 + _ ≤ _; omega) (hb hby hd) hpre) K
theorem nf_sel {x' y'' : MethodName} (hc : C = x'.cls) (wsel : (Cond.selects C x' y'').before a0 Z = true) (s : State) (hZ : Z.Warmed39 s.vm) (h1 : x' = y'') : NotFace s x' := by
  subst h1 hc; exact notFace_of_selects (args := #[]) (mvT hZ wsel)
theorem Wp.callF {x' : MethodName} {count : Nat} {own : String} {idx W : Nat} {argsL rest : List Value} (hown0 : y.cls = own) (Cc : Ct wd l Z EL [] y' bytes' maxL' ret' rm as h Fc wc Qc) (wl : (Cond.methodLink own idx x').before a0 Z = true) (wd' : (Cond.declares x').before a0 Z = true) (wf : (Cond.interfaceMethod x'.cls x'.cls x'.name x'.desc).before a0 Z = true) (wsel : (Cond.selects C x' y').before a0 Z = true) (wi : (Cond.instanceMethod y').before a0 Z = true) (wp : (Cond.publicMethod y').before a0 Z = true) (hfa : ((Cond.interfaceMethod x'.cls x'.cls x'.name x'.desc).onTables && (Cond.interfaceMethod x'.cls x'.cls x'.name x'.desc).keepsFace) = true) (wu : (Cond.unhidden C x'.name x'.desc).before a0 Z = true) (wca : (Cond.castable C x'.cls).before a0 Z = true) (wcode : (Cond.code y' bytes' maxL' ret').before a0 Z = true) (wz : (Cond.initialized y'.cls).before a0 Z = true) (E : Exa Z h a C) (hy : x'.cls ≠ "java/lang/invoke/MethodHandle" ∧ x'.cls ≠ "java/lang/invoke/VarHandle") (hlen : ∀ sig, parseMethodDescriptor x'.desc = some sig → argsL.length = sig.parameters.length) (hd : decode bytes pc = .ok (.invokeinterface idx count, 5))
    (hsz : Ls.size = maxL) (hst : S = argsL.reverse ++ .ref a :: rest) (has : (Value.ref a :: argsL).toArray = as) (hW : (rest.map fun v => v.category).sum ≤ W) (hp : pc + 5 = pc') (hFc : ∀ x ∈ Fc, x ∈ F) (hwc : ∀ x ∈ wc, x ∈ ws ∨ hs.size ≤ x) (hf : rm.frames + 1 ≤ R.frames) (hl : W + (maxL' + 11) + rm.locals ≤ R.locals) (hk : k + rm.cells = k') (hn : n + rm.slots = n') (hk' : k' ≤ R.cells) (hn' : n' ≤ R.slots)
    (K : ∀ v h', hs.size ≤ h.size → Keep h h' wc → Qc v h' → Wp wd l Z a0 EL R y bytes maxL ret hs ws Q h' F k' n' pc' Ls (v.toList ++ rest)) : Wp wd l Z a0 EL R y bytes maxL ret hs ws Q h F k n pc Ls S := by
  subst hown0 hst has hp
  exact Wp.call Cc wcode wz hFc hwc hf hl hk hn hk' hn' (fun p e s m args below meth c T locs Pre Post X hx hZ hown hby hml eT hK hpre => by
    obtain ⟨cq, kq, qa, qb, qc⟩ := isOf (T := T) hZ eT E
    exact X.interfaceBackS hx hown (mvT hZ wl) (mvT hZ wd') (mvT hZ wf hfa) (mvT hZ wsel) (mvT hZ wi) (mvT hZ wp) (mvT hZ wu) (mvT hZ wca) hy hK qa qb qc (g := mkF m pc Ls (argsL.reverse ++ .ref a :: rest)) rfl (by rw [hml]; exact hsz) (Steps.refl _) hlen rfl (by show 2 * 0 + _ ≤ _; omega) (hb hby hd) hpre) K
/-- ldc of a String constant, opaque -/
theorem Wp.ldcO {own text : String} {idx nn : Nat} (hwd : wd = true) (hown0 : y.cls = own) (lk : (Cond.stringLink own idx text).before a0 Z = true) (wS : ∀ d ∈ Bundle.stringAtoms, d.before a0 Z = true) (hd : decode bytes pc = .ok (.ldc idx, 2)) (hp : pc + 2 = pc') (hnn : 4 * text.toList.length ≤ nn) (hbig : nn ≤ 536870912) (hk : k + 2 = k') (hn : n + (nn + 4) = n') (hk' : k' ≤ R.cells) (hn' : n' ≤ R.slots)
    (K : ∀ h' b, Ext h h' → Wp wd l Z a0 EL R y bytes maxL ret hs ws Q h' F k' n' pc' Ls (.ref b :: S)) : Wp wd l Z a0 EL R y bytes maxL ret hs ws Q h F k n pc Ls S := fun p e s m args below meth c vm0 k0 T locs I => by
  obtain ⟨⟨i1, i2, i3, i4, i5⟩, ⟨q1, q2, q3, q4, q5⟩, ⟨j1, j2, j3, j4, j5, j6, j7⟩, X, eT⟩ := I
  subst hk hn hp hown0
  obtain ⟨b, T', h', k1, X', e', E, hS, hk1, hW, hf, hC, -, st⟩ := ldcOH X i2 j5 j1 lk wS eT j2 j3 i1 j6.1 (g := mkF m pc Ls S) rfl (hb i3 hd) hnn hbig hk' hn'
  exact (K h' b E p e s m args below meth c T'.vm k1 T' locs ⟨⟨i1, i2, i3, i4, i5⟩, ⟨q1, q2, q3, q4, Ext.trans q5 E⟩, ⟨hf, hS, hk1, (fun z => by rw [hwd] at z; cases z), hW, j6.trans hC, fun x hx => ⟨Nat.lt_of_lt_of_le (j7 x hx).1 E.1, CHr.safe hC (j7 x hx).1 (j7 x hx).2⟩⟩, X', e'⟩).back st
/-- ldc of a String constant whose text is read -/
theorem Wp.ldcC {own text : String} {idx nn : Nat} {vs : List Value} {z : Int32} (hwd : wd = true) (hown0 : y.cls = own) (lk : (Cond.stringLink own idx text).before a0 Z = true) (wS : ∀ d ∈ Bundle.stringAtoms, d.before a0 Z = true) (hmem : (own, idx) ∈ EL) (ht : (∀ c ∈ text.toList, c.toNat < 256) ∧ text.toList.map (fun c => Value.int (Jvm.Lit.byteI c.toNat.toUInt16)) = vs) (hz : ¬ z < 0) (hl : z.toNatClampNeg = vs.length)
    (hd : decode bytes pc = .ok (.ldc idx, 2)) (hp : pc + 2 = pc') (hnn : 4 * text.toList.length ≤ nn) (hbig : nn ≤ 536870912) (hk : k + 2 = k') (hn : n + (nn + 4) = n') (hk' : k' ≤ R.cells) (hn' : n' ≤ R.slots)
    (K : ∀ h' b c kA, Ext h h' → Exa Z h' b "java/lang/String" → Fld Z h' b "java/lang/String" "coder" "B" (.int 0) → Fld Z h' b "java/lang/String" "value" "[B" (.ref c) → Arv Z h' c kA .byte z vs (.int 0) → (∀ x ∈ F, x ≠ b ∧ x ≠ c) → Wp wd l Z a0 EL R y bytes maxL ret hs ws Q h' F k' n' pc' Ls (.ref b :: S)) : Wp wd l Z a0 EL R y bytes maxL ret hs ws Q h F k n pc Ls S := fun p e s m args below meth c vm0 k0 T locs I => by
  obtain ⟨⟨i1, i2, i3, i4, i5⟩, ⟨q1, q2, q3, q4, q5⟩, ⟨j1, j2, j3, j4, j5, j6, j7⟩, X, eT⟩ := I
  subst hk hn hp hown0
  obtain ⟨b, T', h', k1, cc, kA, X', e', E, hS, hk1, hW, hf, r1, r2, r3, r4, -, -, hC, -, hne, st⟩ := ldcCH X i2 j5 j1 lk wS eT j2 j3 i1 hmem j6.1 ht hz hl (g := mkF m pc Ls S) rfl (hb i3 hd) hnn hbig hk' hn'
  have hSf : Sf Z EL T'.vm h' F := fun x hx => ⟨Nat.lt_of_lt_of_le (j7 x hx).1 E.1, CHr.safe hC (j7 x hx).1 (j7 x hx).2⟩
  exact (K h' b cc kA E r1 r2 r3 r4 (fun x hx => hne x (hSf x hx).2) p e s m args below meth c T'.vm k1 T' locs ⟨⟨i1, i2, i3, i4, i5⟩, ⟨q1, q2, q3, q4, Ext.trans q5 E⟩, ⟨hf, hS, hk1, (fun z => by rw [hwd] at z; cases z), hW, j6.trans hC, hSf⟩, X', e'⟩).back st
end Calls
end Jvm.Own
namespace Jvm.Own
open Sem ClassFile Op Lib Jvm.Stand Jvm.Free Jvm.LawKit Jvm.RoadKit
/-! small naturals as ints -/
theorem on_toInt {i : Nat} (h : i < 2147483648) : (Int32.ofNat i).toInt = i := Int32.toInt_ofNat_of_lt h
theorem on_lt {i n : Nat} (hn : n < 2147483648) (h : i < n) : Int32.ofNat i < Int32.ofNat n := by rw [Int32.lt_iff_toInt_lt, on_toInt (by omega), on_toInt hn]; omega
theorem on_nlt {i n : Nat} (hi : i < 2147483648) (h : n ≤ i) : ¬ Int32.ofNat i < Int32.ofNat n := by rw [Int32.lt_iff_toInt_lt, on_toInt hi, on_toInt (i := n) (by omega)]; omega
theorem on_nneg {i : Nat} (hi : i < 2147483648) : ¬ Int32.ofNat i < 0 := by rw [Int32.lt_iff_toInt_lt, on_toInt hi]; show ¬ ((i : Int) < 0); omega
theorem on_clamp {i : Nat} (hi : i < 2147483648) : (Int32.ofNat i).toNatClampNeg = i := by simp only [Int32.toNatClampNeg, on_toInt hi]; omega
theorem on_succ (i : Nat) : Int32.ofNat i + (1 : Int32) = Int32.ofNat (i + 1) := (Int32.ofNat_add i 1).symm
theorem on_eq {i n : Nat} (hi : i < 2147483648) (hn : n < 2147483648) : Int32.ofNat i = Int32.ofNat n ↔ i = n := by
  rw [← Int32.toInt_inj, on_toInt hi, on_toInt hn]; omega
/-- what the low byte of a char is, as the JVM keeps it -/
def lb (c : Int32) : Int32 := c.toInt8.toInt32
theorem nar_lb (c : Int32) : nar .byte c.toInt8.toInt32 = lb c := by show (c.toInt8.toInt32).toInt8.toInt32 = _; rw [Int8.toInt8_toInt32]; rfl
theorem set_step {f : Int32 → Value} {cs : List Int32} {i j : Nat} {c : Int32} {z v : Value} (hc : cs[i]? = some c) (hv : v = f c) : ((cs.take i).map f ++ List.replicate (j + 1) z).set i v = (cs.take (i + 1)).map f ++ List.replicate j z := by
  obtain ⟨hi, rfl⟩ := List.getElem?_eq_some_iff.mp hc
  have hl : ((cs.take i).map f).length = i := by simp; omega
  rw [List.set_append_right _ _ (by omega), hl, Nat.sub_self, List.replicate_succ, List.set_cons_zero, List.take_add_one, List.map_append, hv, hc]
  simp
/-- an object of C is none of K: neither C nor its only superclass O is K -/
theorem ns_no {Z : State} {a0 : Array Value} {C O K : String} {n : Nat} (w : (Cond.superclass C O).before a0 Z = true) (wr : (Cond.noSuperclass O).before a0 Z = true) (wk : (Cond.instantiable K n).before a0 Z = true) (hn : C ≠ K) (hn2 : O ≠ K) : ∃ c t, Z.vm.findClass C = some c ∧ Z.vm.findClass K = some t ∧ Z.vm.assignable c t = false := by
  obtain ⟨t, kt, g1, g2, g3, g4, -⟩ := Cond.instantiable_spec wk
  have hN : NS Z O K := by
    obtain ⟨c, k, h1, h2, h3, -, -⟩ := Cond.noSuperclass_spec wr
    have ne := ids_ne h1 g1 hn2
    refine ⟨c, t, h1, g1, fun fuel => ?_⟩
    cases fuel with
    | zero => rfl
    | succ f => simp [Vm.isSubclassAux, ne, h2, h3]
  obtain ⟨c, t', h0, g0, n3⟩ := NS.step w hN hn
  cases g1.symm.trans g0
  obtain ⟨p, k, kp, h1, h2, h3, h4, h5, -, h7⟩ := Cond.superclass_spec h0 w
  have ne := ids_ne h0 g0 hn
  have g5 : kt.isInterface = false := (Bool.or_eq_false_iff.mp g4).1
  refine ⟨c, t, h0, g1, ?_⟩
  show Z.vm.assignableAux (255 + 1) c t = false
  simp [Vm.assignableAux, ne, h2, g2, h5, g3, g5, Vm.isSubclass, n3]
section Str
variable {Z : State} {a0 : Array Value} {h h' : Heap} {s w : Addr} {bs : List Int32} {C : String} {n sl : Nat} {v : Value} {k : ClassId} {ty : FieldType} {z : Int32} {vs : List Value} {d : Value}
/-- a Latin-1 String: its bytes, as ints -/
def SL (Z : State) (h : Heap) (s : Addr) (bs : List Int32) : Prop := Exa Z h s "java/lang/String" ∧ Fld Z h s "java/lang/String" "coder" "B" (.int 0) ∧ ∃ b k, Fld Z h s "java/lang/String" "value" "[B" (.ref b) ∧ Arv Z h b k .byte (Int32.ofNat bs.length) (bs.map Value.int) (.int 0)
theorem SL.lt (S : SL Z h s bs) : s < h.size := S.1.lt
theorem SL.ext (S : SL Z h s bs) (E : Ext h h') : SL Z h' s bs := by
  obtain ⟨A, B, b, k, D, G⟩ := S; exact ⟨A.ext E, B.ext E, b, k, D.ext E, G.ext E⟩
theorem SL.keep0 (S : SL Z h s bs) (K : Keep h h' []) : SL Z h' s bs := by
  obtain ⟨A, B, b, k, D, G⟩ := S; exact ⟨A.keep K, B.keep K nin0, b, k, D.keep K nin0, G.keep K nin0⟩
theorem SL.keep1 (S : SL Z h s bs) (K : Keep h h' [w]) (q : s ≠ w) (E : Exa Z h w C) (wi : (Cond.instantiable C n).before a0 Z = true) : SL Z h' s bs := by
  obtain ⟨A, B, b, k, D, G⟩ := S; exact ⟨A.keep K, B.keep K (ninS q nin0), b, k, D.keep K (ninS q nin0), G.keep K (ninS (Ne.symm (Exa.neArv E G wi)) nin0)⟩
theorem SL.wr (S : SL Z h s bs) (W : Wr h h' w sl v) (q : s ≠ w) (E : Exa Z h w C) (wi : (Cond.instantiable C n).before a0 Z = true) : SL Z h' s bs := S.keep1 (Keep.of_wr W) q E wi
theorem Arv.neTy {a b : Addr} {k' : ClassId} {ty' : FieldType} {z' : Int32} {vs' : List Value} {d' : Value} (A : Arv Z h a k ty z vs d) (B : Arv Z h b k' ty' z' vs' d') (q : ty ≠ ty') : a ≠ b := fun e => by
  subst e
  obtain ⟨c, ⟨h1, ⟨-, kk, h2, cm, h3⟩, -⟩, -⟩ := A
  obtain ⟨c', ⟨g1, ⟨-, kk', g2, cm', g3⟩, -⟩, -⟩ := B
  cases h1.symm.trans g1
  cases h2.symm.trans g2
  rw [h3] at g3; injection g3 with _ g3; exact q g3
theorem SL.keepA (S : SL Z h s bs) (K : Keep h h' [w]) (V : Arv Z h w k ty z vs d) (ht : ty ≠ .byte) (wi : (Cond.instantiable "java/lang/String" n).before a0 Z = true) : SL Z h' s bs := by
  obtain ⟨A, B, b, k, D, G⟩ := S
  have q : s ≠ w := Exa.neArv A V wi
  exact ⟨A.keep K, B.keep K (ninS q nin0), b, k, D.keep K (ninS q nin0), G.keep K (ninS (Arv.neTy G V (Ne.symm ht)) nin0)⟩
theorem SL.wrA (S : SL Z h s bs) (W : Wr h h' w sl v) (V : Arv Z h w k ty z vs d) (ht : ty ≠ .byte) (wi : (Cond.instantiable "java/lang/String" n).before a0 Z = true) : SL Z h' s bs := S.keepA (Keep.of_wr W) V ht wi
end Str
end Jvm.Own
namespace Jvm.Own
/-- two lists of one length that are alike up to i, and at i .. -/
theorem take_step {α : Type} {xs ys : List α} {i : Nat} {x y : α} (hx : xs[i]? = some x) (hy : ys[i]? = some y) (h : xs.take i = ys.take i) : (xs.take (i + 1) = ys.take (i + 1)) ↔ x = y := by
  rw [List.take_add_one, List.take_add_one, hx, hy, h]; simp
theorem ne_at {α : Type} {xs ys : List α} {i : Nat} {x y : α} (hx : xs[i]? = some x) (hy : ys[i]? = some y) (h : ¬ x = y) : ¬ xs = ys := fun e => by
  rw [e, hy] at hx; exact h (Option.some.inj hx).symm
theorem ne_len {α : Type} {xs ys : List α} (hx : xs.length < 2147483647) (hy : ys.length < 2147483647) (h : ¬ Int32.ofNat xs.length = Int32.ofNat ys.length) : ¬ xs = ys := fun e => h (by rw [e])
theorem all_take {α : Type} {xs ys : List α} (hl : xs.length = ys.length) (h : xs.take xs.length = ys.take xs.length) : xs = ys := by
  rw [List.take_length] at h; rw [hl, List.take_length] at h; exact h
end Jvm.Own
@@BLOCK:NumsL.lean.txt@@
namespace Jvm.Pilot.@@N@@
open Jvm Jvm.ClassFile Sem Op Lib Jvm.Free Jvm.Stand Jvm.LawKit Jvm.RoadKit Bundle Jvm.Own Jvm.Pilot.@@N@@.Jvm.D
theorem own_cnt (x : Int32) : ¬ ((x &&& (2147483647 : Int32)) % (999 : Int32) + (1 : Int32)) < (1 : Int32) ∧ ¬ (999 : Int32) < ((x &&& (2147483647 : Int32)) % (999 : Int32) + (1 : Int32)) := by
  have e1 : (x &&& (2147483647 : Int32)).toInt = x.toInt % 2 ^ 31 := Jvm.Kit.i32_mask x 2147483647 (k := 31) (by decide) (by decide)
  have e2 : ((x &&& (2147483647 : Int32)) % (999 : Int32)).toInt = (x.toInt % 2 ^ 31).tmod 999 := by rw [Int32.toInt_mod, e1]; rfl
  have e3 : (x.toInt % 2 ^ 31).tmod 999 = (x.toInt % 2 ^ 31) % 999 := Int.tmod_eq_emod_of_nonneg (by omega)
  have e4 : ((x &&& (2147483647 : Int32)) % (999 : Int32) + (1 : Int32)).toInt = ((x &&& (2147483647 : Int32)) % (999 : Int32)).toInt + (1 : Int32).toInt := Jvm.Kit.i32_add (by rw [e2, e3]; show _ ≤ _ + (1 : Int); omega) (by rw [e2, e3]; show _ + (1 : Int) < _; omega)
  rw [e2, e3] at e4
  have e5 : (1 : Int32).toInt = 1 := rfl
  have e6 : (999 : Int32).toInt = 999 := rfl
  constructor <;> rw [Int32.lt_iff_toInt_lt, e4] <;> omega
theorem own_wS {Z : State} {a0 : Array Value} (hw : ∀ d ∈ tables_1, d.before a0 Z = true) : ∀ d ∈ Bundle.stringAtoms, d.before a0 Z = true := by
  intro d hd
  simp only [Bundle.stringAtoms, Bundle.sN, List.mem_cons, List.not_mem_nil, or_false] at hd
  rcases hd with rfl | rfl | rfl | rfl | rfl | rfl | rfl
  · exact (hw _ (List.mem_of_getElem? (i := 15) rfl))
  · exact (hw _ (List.mem_of_getElem? (i := 16) rfl))
  · exact (hw _ (List.mem_of_getElem? (i := 17) rfl))
  · exact (hw _ (List.mem_of_getElem? (i := 18) rfl))
  · exact (hw _ (List.mem_of_getElem? (i := 19) rfl))
  · exact (hw _ (List.mem_of_getElem? (i := 20) rfl))
  · exact (hw _ (List.mem_of_getElem? (i := 21) rfl))
theorem d1_0 : decode method_2_code 0 = .ok (.iload_n 0, 1) := by decide +kernel
theorem d1_1 : decode method_2_code 1 = .ok (.iconst 3, 1) := by decide +kernel
theorem d1_2 : decode method_2_code 2 = .ok (.iand, 1) := by decide +kernel
theorem d1_3 : decode method_2_code 3 = .ok (.istore_n 1, 1) := by decide +kernel
theorem d1_4 : decode method_2_code 4 = .ok (.iload_n 1, 1) := by decide +kernel
theorem d1_5 : decode method_2_code 5 = .ok (.ifCond .ne 7, 3) := by decide +kernel
theorem d1_8 : decode method_2_code 8 = .ok (.getstatic 7, 3) := by decide +kernel
theorem d1_11 : decode method_2_code 11 = .ok (.areturn, 1) := by decide +kernel
theorem d1_12 : decode method_2_code 12 = .ok (.iload_n 1, 1) := by decide +kernel
theorem d1_13 : decode method_2_code 13 = .ok (.iconst 1, 1) := by decide +kernel
theorem d1_14 : decode method_2_code 14 = .ok (.if_icmp .ne 7, 3) := by decide +kernel
theorem d1_17 : decode method_2_code 17 = .ok (.getstatic 13, 3) := by decide +kernel
theorem d1_20 : decode method_2_code 20 = .ok (.areturn, 1) := by decide +kernel
theorem d1_21 : decode method_2_code 21 = .ok (.iload_n 1, 1) := by decide +kernel
theorem d1_22 : decode method_2_code 22 = .ok (.iconst 2, 1) := by decide +kernel
theorem d1_23 : decode method_2_code 23 = .ok (.if_icmp .ne 7, 3) := by decide +kernel
theorem d1_26 : decode method_2_code 26 = .ok (.getstatic 16, 3) := by decide +kernel
theorem d1_29 : decode method_2_code 29 = .ok (.areturn, 1) := by decide +kernel
theorem d1_30 : decode method_2_code 30 = .ok (.getstatic 19, 3) := by decide +kernel
theorem d1_33 : decode method_2_code 33 = .ok (.areturn, 1) := by decide +kernel
theorem pn_com_example_package_pricing_packagepricing_catalog_BillingPeriodOfPinLaw : plainName "com/example/package_pricing/packagepricing/catalog/BillingPeriodOfPinLaw" = true := by first | (simp [plainName, overriddenIn]; done) | decide +kernel
theorem ef_ct1 (m : MethodId) (x0 : Int32) : entryFrame m #[(.int x0)] 2 = mkF m 0 #[.val (.int x0), .unset] [] := by first | (simp [entryFrame, mkF, argsToLocals, Value.category]; done) | rfl
set_option maxRecDepth 65536 in
set_option maxHeartbeats 40000000 in
theorem ct1 (l : Launch) (Z : State) (a0 : Array Value) (hw : ∀ d ∈ tables_1, d.before a0 Z = true) (hE : EW Z a0 []) (p1 : Int32) (w_DAY w_WEEK w_MONTH w_YEAR : Addr) (h0 : Heap) (hO : Ext Z.heap h0) (S_DAY : Sta Z Z.heap "com/example/package_pricing/packagepricing/catalog/BillingPeriod$Unit" "DAY" "Lcom/example/package_pricing/packagepricing/catalog/BillingPeriod$Unit;" (.ref w_DAY)) (S_WEEK : Sta Z Z.heap "com/example/package_pricing/packagepricing/catalog/BillingPeriod$Unit" "WEEK" "Lcom/example/package_pricing/packagepricing/catalog/BillingPeriod$Unit;" (.ref w_WEEK)) (S_MONTH : Sta Z Z.heap "com/example/package_pricing/packagepricing/catalog/BillingPeriod$Unit" "MONTH" "Lcom/example/package_pricing/packagepricing/catalog/BillingPeriod$Unit;" (.ref w_MONTH)) (S_YEAR : Sta Z Z.heap "com/example/package_pricing/packagepricing/catalog/BillingPeriod$Unit" "YEAR" "Lcom/example/package_pricing/packagepricing/catalog/BillingPeriod$Unit;" (.ref w_YEAR)) :
    Ct true l Z [] [] (⟨"com/example/package_pricing/packagepricing/catalog/BillingPeriodOfPinLaw", "unitOf", "(I)Lcom/example/package_pricing/packagepricing/catalog/BillingPeriod$Unit;"⟩ : MethodName) method_2_code 2 (some (.object "com/example/package_pricing/packagepricing/catalog/BillingPeriod$Unit")) ({ frames := 0, cells := 0, slots := 0, locals := 0 } : Room) #[(.int p1)] h0 [] [] (fun v h => ∃ w, v = some (.ref w)) := by
  refine Ct.of_wp (a0 := a0) (Ls := #[.val (.int p1), .unset]) (plainFor_of_name pn_com_example_package_pricing_packagepricing_catalog_BillingPeriodOfPinLaw) hE hO nofun (fun m => ef_ct1 m p1) ?_
  refine Wp.iloadN d1_0 (pc' := 1) rfl rfl ?_
  refine Wp.iconst (x := (3 : Int32)) d1_1 (pc' := 2) rfl rfl ?_
  refine Wp.iand d1_2 (pc' := 3) rfl ?_
  refine Wp.istoreN (l' := #[.val (.int p1), .val (.int (p1 &&& (3 : Int32)))]) d1_3 (pc' := 4) rfl rfl ?_
  refine Wp.iloadN d1_4 (pc' := 5) rfl rfl ?_
  refine Wp.if_ne (pc1 := 12) (pc' := 8) d1_5 (by decide) (by decide) rfl (fun hc1 => ?_) (fun hc1 => ?_)
  · have hc1 : ¬ ((p1 &&& (3 : Int32)) = (0 : Int32)) := hc1
    refine Wp.iloadN d1_12 (pc' := 13) rfl rfl ?_
    refine Wp.iconst (x := (1 : Int32)) d1_13 (pc' := 14) rfl rfl ?_
    refine Wp.icmp_ne (pc1 := 21) (pc' := 17) d1_14 (by decide) (by decide) rfl (fun hc2 => ?_) (fun hc2 => ?_)
    · have hc2 : ¬ ((p1 &&& (3 : Int32)) = (1 : Int32)) := hc2
      refine Wp.iloadN d1_21 (pc' := 22) rfl rfl ?_
      refine Wp.iconst (x := (2 : Int32)) d1_22 (pc' := 23) rfl rfl ?_
      refine Wp.icmp_ne (pc1 := 30) (pc' := 26) d1_23 (by decide) (by decide) rfl (fun hc3 => ?_) (fun hc3 => ?_)
      · have hc3 : ¬ ((p1 &&& (3 : Int32)) = (2 : Int32)) := hc3
        refine Wp.getS rfl (host := "") (Or.inl (hw _ (List.mem_of_getElem? (i := 5) rfl))) Via.refl S_YEAR d1_30 (pc' := 33) rfl ?_
        refine Wp.retA rfl rfl rfl d1_33 (by decide) (by decide) ?_
        exact ⟨_, rfl⟩
      · have hc3 : (p1 &&& (3 : Int32)) = (2 : Int32) := hc3
        refine Wp.getS rfl (host := "") (Or.inl (hw _ (List.mem_of_getElem? (i := 54) rfl))) Via.refl S_MONTH d1_26 (pc' := 29) rfl ?_
        refine Wp.retA rfl rfl rfl d1_29 (by decide) (by decide) ?_
        exact ⟨_, rfl⟩
    · have hc2 : (p1 &&& (3 : Int32)) = (1 : Int32) := hc2
      refine Wp.getS rfl (host := "") (Or.inl (hw _ (List.mem_of_getElem? (i := 8) rfl))) Via.refl S_WEEK d1_17 (pc' := 20) rfl ?_
      refine Wp.retA rfl rfl rfl d1_20 (by decide) (by decide) ?_
      exact ⟨_, rfl⟩
  · have hc1 : (p1 &&& (3 : Int32)) = (0 : Int32) := hc1
    refine Wp.getS rfl (host := "") (Or.inl (hw _ (List.mem_of_getElem? (i := 56) rfl))) Via.refl S_DAY d1_8 (pc' := 11) rfl ?_
    refine Wp.retA rfl rfl rfl d1_11 (by decide) (by decide) ?_
    exact ⟨_, rfl⟩
theorem d3_0 : decode jdk_31_method_11_code 0 = .ok (.aload_n 0, 1) := by decide +kernel
theorem d3_1 : decode jdk_31_method_11_code 1 = .ok (.ifnonnull 12, 3) := by decide +kernel
theorem d3_4 : decode jdk_31_method_11_code 4 = .ok (.new 84, 3) := by decide +kernel
theorem d3_7 : decode jdk_31_method_11_code 7 = .ok (.dup, 1) := by decide +kernel
theorem d3_8 : decode jdk_31_method_11_code 8 = .ok (.aload_n 1, 1) := by decide +kernel
theorem d3_9 : decode jdk_31_method_11_code 9 = .ok (.invokespecial 87, 3) := by decide +kernel
theorem d3_12 : decode jdk_31_method_11_code 12 = .ok (.athrow, 1) := by decide +kernel
theorem d3_13 : decode jdk_31_method_11_code 13 = .ok (.aload_n 0, 1) := by decide +kernel
theorem d3_14 : decode jdk_31_method_11_code 14 = .ok (.areturn, 1) := by decide +kernel
theorem pn_java_util_Objects : plainName "java/util/Objects" = true := by first | (simp [plainName, overriddenIn]; done) | decide +kernel
theorem ef_ct3 (m : MethodId) (x0 : Addr) (x1 : Addr) : entryFrame m #[(.ref x0), (.ref x1)] 2 = mkF m 0 #[.val (.ref x0), .val (.ref x1)] [] := by first | (simp [entryFrame, mkF, argsToLocals, Value.category]; done) | rfl
set_option maxRecDepth 65536 in
set_option maxHeartbeats 40000000 in
theorem ct3 (l : Launch) (Z : State) (a0 : Array Value) (hw : ∀ d ∈ tables_1, d.before a0 Z = true) (hE : EW Z a0 []) (a c : Addr) (h0 : Heap) (hO : Ext Z.heap h0) :
    Ct true l Z [] [] (⟨"java/util/Objects", "requireNonNull", "(Ljava/lang/Object;Ljava/lang/String;)Ljava/lang/Object;"⟩ : MethodName) jdk_31_method_11_code 2 (some (.object "java/lang/Object")) ({ frames := 0, cells := 0, slots := 0, locals := 0 } : Room) #[(.ref a), (.ref c)] h0 [] [] (fun v h => v = some (.ref a)) := by
  refine Ct.of_wp (a0 := a0) (Ls := #[.val (.ref a), .val (.ref c)]) (plainFor_of_name pn_java_util_Objects) hE hO nofun (fun m => ef_ct3 m a c) ?_
  refine Wp.aloadN d3_0 (pc' := 1) rfl rfl rfl ?_
  refine Wp.ifnonnullYes (pc' := 13) d3_1 (by decide) (by decide) ?_
  refine Wp.aloadN d3_13 (pc' := 14) rfl rfl rfl ?_
  refine Wp.retA rfl rfl rfl d3_14 (by decide) (by decide) ?_
  rfl
theorem d4_0 : decode prog_1_method_1_code 0 = .ok (.aload_n 0, 1) := by decide +kernel
theorem d4_1 : decode prog_1_method_1_code 1 = .ok (.invokespecial 1, 3) := by decide +kernel
theorem d4_4 : decode prog_1_method_1_code 4 = .ok (.aload_n 0, 1) := by decide +kernel
theorem d4_5 : decode prog_1_method_1_code 5 = .ok (.iload_n 1, 1) := by decide +kernel
theorem d4_6 : decode prog_1_method_1_code 6 = .ok (.putfield 7, 3) := by decide +kernel
theorem d4_9 : decode prog_1_method_1_code 9 = .ok (.aload_n 0, 1) := by decide +kernel
theorem d4_10 : decode prog_1_method_1_code 10 = .ok (.aload_n 2, 1) := by decide +kernel
theorem d4_11 : decode prog_1_method_1_code 11 = .ok (.putfield 13, 3) := by decide +kernel
theorem d4_14 : decode prog_1_method_1_code 14 = .ok (.return_, 1) := by decide +kernel
theorem pn_com_example_package_pricing_packagepricing_catalog_BillingPeriod : plainName "com/example/package_pricing/packagepricing/catalog/BillingPeriod" = true := by first | (simp [plainName, overriddenIn]; done) | decide +kernel
theorem ef_ct4 (m : MethodId) (x0 : Addr) (x1 : Int32) (x2 : Addr) : entryFrame m #[(.ref x0), (.int x1), (.ref x2)] 3 = mkF m 0 #[.val (.ref x0), .val (.int x1), .val (.ref x2)] [] := by first | (simp [entryFrame, mkF, argsToLocals, Value.category]; done) | rfl
set_option maxRecDepth 65536 in
set_option maxHeartbeats 40000000 in
theorem ct4 (l : Launch) (Z : State) (a0 : Array Value) (hw : ∀ d ∈ tables_1, d.before a0 Z = true) (hE : EW Z a0 []) (b : Addr) (c : Int32) (u : Addr) (o1 o2 : Value) (h0 : Heap) (hO : Ext Z.heap h0) (hb0 : Z.heap.size ≤ b) (E_b : Exa Z h0 b "com/example/package_pricing/packagepricing/catalog/BillingPeriod") (F1 : Fld Z h0 b "com/example/package_pricing/packagepricing/catalog/BillingPeriod" "count" "I" o1) (F2 : Fld Z h0 b "com/example/package_pricing/packagepricing/catalog/BillingPeriod" "unit" "Lcom/example/package_pricing/packagepricing/catalog/BillingPeriod$Unit;" o2) :
    Ct true l Z [] [] (⟨"com/example/package_pricing/packagepricing/catalog/BillingPeriod", "<init>", "(ILcom/example/package_pricing/packagepricing/catalog/BillingPeriod$Unit;)V"⟩ : MethodName) prog_1_method_1_code 3 none ({ frames := 1, cells := 0, slots := 0, locals := 12 } : Room) #[(.ref b), (.int c), (.ref u)] h0 [] [b] (fun v h => v = none ∧ Fld Z h b "com/example/package_pricing/packagepricing/catalog/BillingPeriod" "count" "I" (.int c) ∧ Fld Z h b "com/example/package_pricing/packagepricing/catalog/BillingPeriod" "unit" "Lcom/example/package_pricing/packagepricing/catalog/BillingPeriod$Unit;" (.ref u)) := by
  refine Ct.of_wp (a0 := a0) (Ls := #[.val (.ref b), .val (.int c), .val (.ref u)]) (plainFor_of_name pn_com_example_package_pricing_packagepricing_catalog_BillingPeriod) hE hO (by intro x hx; cases List.mem_singleton.mp hx; exact hb0) (fun m => ef_ct4 m b c u) ?_
  refine Wp.aloadN d4_0 (pc' := 1) rfl rfl rfl ?_
  refine Wp.initO (W := 0) rfl (hw _ (List.mem_of_getElem? (i := 31) rfl)) (hw _ (List.mem_of_getElem? (i := 32) rfl)) (hw _ (List.mem_of_getElem? (i := 33) rfl)) d4_1 (pc' := 4) rfl rfl (by decide) (Nat.le_of_eq rfl) (by decide) ?_
  refine Wp.aloadN d4_4 (pc' := 5) rfl rfl rfl ?_
  refine Wp.iloadN d4_5 (pc' := 6) rfl rfl ?_
  refine Wp.putF rfl (host := "") (Or.inl (hw _ (List.mem_of_getElem? (i := 34) rfl))) Via.refl F1 E_b (Or.inr ⟨(hw _ (List.mem_of_getElem? (i := 35) rfl)), rfl, rfl⟩) (hw _ (List.mem_of_getElem? (i := 27) rfl)) (ty := .int) (by decide) rfl rfl d4_6 (pc' := 9) rfl (Or.inl (by simp)) (Sfe.exa E_b (by decide) (by decide)) (fun h1 W1 Fh1 => ?_)
  replace E_b := E_b.wr W1
  replace F2 := F2.other W1 (Or.inr (slot_ne (Or.inr (hw _ (List.mem_of_getElem? (i := 37) rfl))) (Or.inr (hw _ (List.mem_of_getElem? (i := 35) rfl))) (by decide) (t := (.object "com/example/package_pricing/packagepricing/catalog/BillingPeriod$Unit")) (t' := .int) (by decide) (by decide)))
  replace F1 := Fh1
  refine Wp.aloadN d4_9 (pc' := 10) rfl rfl rfl ?_
  refine Wp.aloadN d4_10 (pc' := 11) rfl rfl rfl ?_
  refine Wp.putF rfl (host := "") (Or.inl (hw _ (List.mem_of_getElem? (i := 36) rfl))) Via.refl F2 E_b (Or.inr ⟨(hw _ (List.mem_of_getElem? (i := 37) rfl)), rfl, rfl⟩) (hw _ (List.mem_of_getElem? (i := 27) rfl)) (ty := (.object "com/example/package_pricing/packagepricing/catalog/BillingPeriod$Unit")) (by decide) rfl rfl d4_11 (pc' := 14) rfl (Or.inl (by simp)) (Sfe.exa E_b (by decide) (by decide)) (fun h2 W2 Fh2 => ?_)
  replace E_b := E_b.wr W2
  replace F1 := F1.other W2 (Or.inr (slot_ne (Or.inr (hw _ (List.mem_of_getElem? (i := 35) rfl))) (Or.inr (hw _ (List.mem_of_getElem? (i := 37) rfl))) (by decide) (t := .int) (t' := (.object "com/example/package_pricing/packagepricing/catalog/BillingPeriod$Unit")) (by decide) (by decide)))
  replace F2 := Fh2
  refine Wp.retn rfl d4_14 (by decide) (by decide) ?_
  exact ⟨rfl, F1, F2⟩
theorem d2_0 : decode prog_1_method_2_code 0 = .ok (.aload_n 1, 1) := by decide +kernel
theorem d2_1 : decode prog_1_method_2_code 1 = .ok (.ldc 17, 2) := by decide +kernel
theorem d2_3 : decode prog_1_method_2_code 3 = .ok (.invokestatic 18, 3) := by decide +kernel
theorem d2_6 : decode prog_1_method_2_code 6 = .ok (.pop, 1) := by decide +kernel
theorem d2_7 : decode prog_1_method_2_code 7 = .ok (.iload_n 0, 1) := by decide +kernel
theorem d2_8 : decode prog_1_method_2_code 8 = .ok (.iconst 1, 1) := by decide +kernel
theorem d2_9 : decode prog_1_method_2_code 9 = .ok (.if_icmp .lt 10, 3) := by decide +kernel
theorem d2_12 : decode prog_1_method_2_code 12 = .ok (.iload_n 0, 1) := by decide +kernel
theorem d2_13 : decode prog_1_method_2_code 13 = .ok (.sipush 999, 3) := by decide +kernel
theorem d2_16 : decode prog_1_method_2_code 16 = .ok (.if_icmp .le 17, 3) := by decide +kernel
theorem d2_19 : decode prog_1_method_2_code 19 = .ok (.new 24, 3) := by decide +kernel
theorem d2_22 : decode prog_1_method_2_code 22 = .ok (.dup, 1) := by decide +kernel
theorem d2_23 : decode prog_1_method_2_code 23 = .ok (.iload_n 0, 1) := by decide +kernel
theorem d2_29 : decode prog_1_method_2_code 29 = .ok (.invokespecial 30, 3) := by decide +kernel
theorem d2_32 : decode prog_1_method_2_code 32 = .ok (.athrow, 1) := by decide +kernel
theorem d2_33 : decode prog_1_method_2_code 33 = .ok (.new 8, 3) := by decide +kernel
theorem d2_36 : decode prog_1_method_2_code 36 = .ok (.dup, 1) := by decide +kernel
theorem d2_37 : decode prog_1_method_2_code 37 = .ok (.iload_n 0, 1) := by decide +kernel
theorem d2_38 : decode prog_1_method_2_code 38 = .ok (.aload_n 1, 1) := by decide +kernel
theorem d2_39 : decode prog_1_method_2_code 39 = .ok (.invokespecial 33, 3) := by decide +kernel
theorem d2_42 : decode prog_1_method_2_code 42 = .ok (.areturn, 1) := by decide +kernel
theorem ef_ct2 (m : MethodId) (x0 : Int32) (x1 : Addr) : entryFrame m #[(.int x0), (.ref x1)] 2 = mkF m 0 #[.val (.int x0), .val (.ref x1)] [] := by first | (simp [entryFrame, mkF, argsToLocals, Value.category]; done) | rfl
theorem pd__Ljava_lang_Object_Ljava_lang_String__Ljava_lang_Object_ : parseMethodDescriptor "(Ljava/lang/Object;Ljava/lang/String;)Ljava/lang/Object;" = some ⟨[(.object "java/lang/Object"), (.object "java/lang/String")], some (.object "java/lang/Object")⟩ := by decide +kernel
theorem pd__ILcom_example_package_pricing_packagepricing_catalog_BillingPeriod_Unit__V : parseMethodDescriptor "(ILcom/example/package_pricing/packagepricing/catalog/BillingPeriod$Unit;)V" = some ⟨[.int, (.object "com/example/package_pricing/packagepricing/catalog/BillingPeriod$Unit")], none⟩ := by decide +kernel
set_option maxRecDepth 65536 in
set_option maxHeartbeats 40000000 in
theorem ct2 (l : Launch) (Z : State) (a0 : Array Value) (hw : ∀ d ∈ tables_1, d.before a0 Z = true) (hE : EW Z a0 []) (c : Int32) (u : Addr) (h0 : Heap) (hO : Ext Z.heap h0) (r1 : ¬ c < 1) (r2 : ¬ 999 < c) :
    Ct true l Z [] [] (⟨"com/example/package_pricing/packagepricing/catalog/BillingPeriod", "of", "(ILcom/example/package_pricing/packagepricing/catalog/BillingPeriod$Unit;)Lcom/example/package_pricing/packagepricing/catalog/BillingPeriod;"⟩ : MethodName) prog_1_method_2_code 2 (some (.object "com/example/package_pricing/packagepricing/catalog/BillingPeriod")) ({ frames := 2, cells := 3, slots := 22, locals := 27 } : Room) #[(.int c), (.ref u)] h0 [] [] (fun v h => ∃ b, v = some (.ref b) ∧ h0.size ≤ b ∧ Exa Z h b "com/example/package_pricing/packagepricing/catalog/BillingPeriod" ∧ Fld Z h b "com/example/package_pricing/packagepricing/catalog/BillingPeriod" "count" "I" (.int c) ∧ Fld Z h b "com/example/package_pricing/packagepricing/catalog/BillingPeriod" "unit" "Lcom/example/package_pricing/packagepricing/catalog/BillingPeriod$Unit;" (.ref u)) := by
  refine Ct.of_wp (a0 := a0) (Ls := #[.val (.int c), .val (.ref u)]) (plainFor_of_name pn_com_example_package_pricing_packagepricing_catalog_BillingPeriod) hE hO nofun (fun m => ef_ct2 m c u) ?_
  refine Wp.aloadN d2_0 (pc' := 1) rfl rfl rfl ?_
  refine Wp.ldcO (nn := 16) rfl rfl (hw _ (List.mem_of_getElem? (i := 14) rfl)) (own_wS hw) d2_1 (pc' := 3) rfl (by decide) (by decide) (k' := 2) (n' := 20) rfl rfl (by decide) (by decide) (fun h1 c1 Xh1 => ?_)
  refine Wp.old fun hOc => ?_
  refine Wp.callS (W := 0) (argsL := [(.ref u), (.ref c1)]) (rest := []) rfl (ct3 l Z a0 hw hE u c1 h1 hOc) (hw _ (List.mem_of_getElem? (i := 22) rfl)) (hw _ (List.mem_of_getElem? (i := 23) rfl)) (hw _ (List.mem_of_getElem? (i := 25) rfl)) (hw _ (List.mem_of_getElem? (i := 24) rfl)) (by decide) (lenOf pd__Ljava_lang_Object_Ljava_lang_String__Ljava_lang_Object_ rfl) d2_3 rfl rfl rfl (Nat.le_of_eq rfl) (pc' := 6) rfl nofun nofun (by decide) (by decide) (k' := 2) (n' := 20) rfl rfl (by decide) (by decide) (fun vh2 h2 zh2 Kh2 qh2 => ?_)
  obtain rfl := qh2
  refine Wp.eqS (S' := [(.ref u)]) rfl ?_
  refine Wp.pop d2_6 (pc' := 7) rfl rfl ?_
  refine Wp.iloadN d2_7 (pc' := 8) rfl rfl ?_
  refine Wp.iconst (x := (1 : Int32)) d2_8 (pc' := 9) rfl rfl ?_
  refine Wp.icmp_lt (pc1 := 19) (pc' := 12) d2_9 (by decide) (by decide) rfl (fun hc3 => by exact absurd hc3 r1) (fun hc3 => ?_)
  refine Wp.iloadN d2_12 (pc' := 13) rfl rfl ?_
  refine Wp.sipush (x := (999 : Int32)) d2_13 (pc' := 16) rfl rfl ?_
  refine Wp.icmp_le (pc1 := 33) (pc' := 19) d2_16 (by decide) (by decide) rfl (fun hc4 => ?_) (fun hc4 => by exact absurd hc4 r2)
  refine Wp.new rfl (hw _ (List.mem_of_getElem? (i := 26) rfl)) (hw _ (List.mem_of_getElem? (i := 27) rfl)) (hw _ (List.mem_of_getElem? (i := 12) rfl)) d2_33 (pc' := 36) rfl (k' := 3) (n' := 22) rfl rfl (by decide) (by decide) (fun h5 b5 g_b5 sz_b5 Xh5 E_b5 D_b5 => ?_)
  have F_count_b5 : Fld Z h5 b5 "com/example/package_pricing/packagepricing/catalog/BillingPeriod" "count" "I" (.int (0 : Int32)) := D_b5 (Or.inr (hw _ (List.mem_of_getElem? (i := 35) rfl))) (ty := .int) (by decide)
  have F_unit_b5 : Fld Z h5 b5 "com/example/package_pricing/packagepricing/catalog/BillingPeriod" "unit" "Lcom/example/package_pricing/packagepricing/catalog/BillingPeriod$Unit;" .null := D_b5 (Or.inr (hw _ (List.mem_of_getElem? (i := 37) rfl))) (ty := (.object "com/example/package_pricing/packagepricing/catalog/BillingPeriod$Unit")) (by decide)
  clear D_b5
  refine Wp.dup d2_36 (pc' := 37) rfl rfl ?_
  refine Wp.iloadN d2_37 (pc' := 38) rfl rfl ?_
  refine Wp.aloadN d2_38 (pc' := 39) rfl rfl rfl ?_
  refine Wp.old fun hOc => ?_
  refine Wp.callI (a := b5) (W := 1) (argsL := [(.int c), (.ref u)]) (rest := [(.ref b5)]) rfl (ct4 l Z a0 hw hE b5 c u _ _ h5 hOc (Nat.le_trans hO.1 sz_b5) E_b5 F_count_b5 F_unit_b5) rfl rfl (hw _ (List.mem_of_getElem? (i := 28) rfl)) (hw _ (List.mem_of_getElem? (i := 29) rfl)) (hw _ (List.mem_of_getElem? (i := 30) rfl)) (hw _ (List.mem_of_getElem? (i := 12) rfl)) (by decide) (lenOf pd__ILcom_example_package_pricing_packagepricing_catalog_BillingPeriod_Unit__V rfl) d2_39 rfl rfl rfl (Nat.le_of_eq rfl) (pc' := 42) rfl nofun (by intro x hx; simp only [List.mem_cons, List.not_mem_nil, or_false] at hx; rcases hx with rfl; exact (Or.inr sz_b5)) (by decide) (by decide) (k' := 3) (n' := 22) rfl rfl (by decide) (by decide) (fun vh6 h6 zh6 Kh6 qh6 => ?_)
  obtain ⟨rfl, G1, G2⟩ := qh6
  replace E_b5 := E_b5.keep Kh6
  refine Wp.eqS (S' := [(.ref b5)]) rfl ?_
  refine Wp.retA rfl rfl rfl d2_42 (by decide) (by decide) ?_
  exact ⟨_, rfl, sz_b5, E_b5, G1, G2⟩
theorem d6_0 : decode prog_1_method_4_code 0 = .ok (.aload_n 0, 1) := by decide +kernel
theorem d6_1 : decode prog_1_method_4_code 1 = .ok (.getfield 7, 3) := by decide +kernel
theorem d6_4 : decode prog_1_method_4_code 4 = .ok (.ireturn, 1) := by decide +kernel
theorem ef_ct6 (m : MethodId) (x0 : Addr) : entryFrame m #[(.ref x0)] 1 = mkF m 0 #[.val (.ref x0)] [] := by first | (simp [entryFrame, mkF, argsToLocals, Value.category]; done) | rfl
set_option maxRecDepth 65536 in
set_option maxHeartbeats 40000000 in
theorem ct6 (l : Launch) (Z : State) (a0 : Array Value) (hw : ∀ d ∈ tables_1, d.before a0 Z = true) (hE : EW Z a0 []) (a : Addr) (c : Int32) (h0 : Heap) (hO : Ext Z.heap h0) (F : Fld Z h0 a "com/example/package_pricing/packagepricing/catalog/BillingPeriod" "count" "I" (.int c)) :
    Ct true l Z [] [] (⟨"com/example/package_pricing/packagepricing/catalog/BillingPeriod", "getCount", "()I"⟩ : MethodName) prog_1_method_4_code 1 (some .int) ({ frames := 0, cells := 0, slots := 0, locals := 0 } : Room) #[(.ref a)] h0 [] [] (fun v h => v = some (.int c)) := by
  refine Ct.of_wp (a0 := a0) (Ls := #[.val (.ref a)]) (plainFor_of_name pn_com_example_package_pricing_packagepricing_catalog_BillingPeriod) hE hO nofun (fun m => ef_ct6 m a) ?_
  refine Wp.aloadN d6_0 (pc' := 1) rfl rfl rfl ?_
  refine Wp.getF rfl (host := "") (Or.inl (hw _ (List.mem_of_getElem? (i := 34) rfl))) Via.refl F d6_1 (pc' := 4) rfl ?_
  refine Wp.retI rfl d6_4 (by decide) (by decide) ?_
  rfl
theorem d7_0 : decode prog_1_method_5_code 0 = .ok (.aload_n 0, 1) := by decide +kernel
theorem d7_1 : decode prog_1_method_5_code 1 = .ok (.getfield 13, 3) := by decide +kernel
theorem d7_4 : decode prog_1_method_5_code 4 = .ok (.areturn, 1) := by decide +kernel
theorem ef_ct7 (m : MethodId) (x0 : Addr) : entryFrame m #[(.ref x0)] 1 = mkF m 0 #[.val (.ref x0)] [] := by first | (simp [entryFrame, mkF, argsToLocals, Value.category]; done) | rfl
set_option maxRecDepth 65536 in
set_option maxHeartbeats 40000000 in
theorem ct7 (l : Launch) (Z : State) (a0 : Array Value) (hw : ∀ d ∈ tables_1, d.before a0 Z = true) (hE : EW Z a0 []) (a u : Addr) (h0 : Heap) (hO : Ext Z.heap h0) (F : Fld Z h0 a "com/example/package_pricing/packagepricing/catalog/BillingPeriod" "unit" "Lcom/example/package_pricing/packagepricing/catalog/BillingPeriod$Unit;" (.ref u)) :
    Ct true l Z [] [] (⟨"com/example/package_pricing/packagepricing/catalog/BillingPeriod", "getUnit", "()Lcom/example/package_pricing/packagepricing/catalog/BillingPeriod$Unit;"⟩ : MethodName) prog_1_method_5_code 1 (some (.object "com/example/package_pricing/packagepricing/catalog/BillingPeriod$Unit")) ({ frames := 0, cells := 0, slots := 0, locals := 0 } : Room) #[(.ref a)] h0 [] [] (fun v h => v = some (.ref u)) := by
  refine Ct.of_wp (a0 := a0) (Ls := #[.val (.ref a)]) (plainFor_of_name pn_com_example_package_pricing_packagepricing_catalog_BillingPeriod) hE hO nofun (fun m => ef_ct7 m a) ?_
  refine Wp.aloadN d7_0 (pc' := 1) rfl rfl rfl ?_
  refine Wp.getF rfl (host := "") (Or.inl (hw _ (List.mem_of_getElem? (i := 36) rfl))) Via.refl F d7_1 (pc' := 4) rfl ?_
  refine Wp.retA rfl rfl rfl d7_4 (by decide) (by decide) ?_
  rfl
theorem d8_0 : decode prog_1_method_7_code 0 = .ok (.aload_n 1, 1) := by decide +kernel
theorem d8_1 : decode prog_1_method_7_code 1 = .ok (.instanceof 8, 3) := by decide +kernel
theorem d8_4 : decode prog_1_method_7_code 4 = .ok (.ifCond .eq 34, 3) := by decide +kernel
theorem d8_7 : decode prog_1_method_7_code 7 = .ok (.aload_n 1, 1) := by decide +kernel
theorem d8_8 : decode prog_1_method_7_code 8 = .ok (.checkcast 8, 3) := by decide +kernel
theorem d8_11 : decode prog_1_method_7_code 11 = .ok (.astore_n 2, 1) := by decide +kernel
theorem d8_12 : decode prog_1_method_7_code 12 = .ok (.aload_n 0, 1) := by decide +kernel
theorem d8_13 : decode prog_1_method_7_code 13 = .ok (.getfield 7, 3) := by decide +kernel
theorem d8_16 : decode prog_1_method_7_code 16 = .ok (.aload_n 2, 1) := by decide +kernel
theorem d8_17 : decode prog_1_method_7_code 17 = .ok (.getfield 7, 3) := by decide +kernel
theorem d8_20 : decode prog_1_method_7_code 20 = .ok (.if_icmp .ne 18, 3) := by decide +kernel
theorem d8_23 : decode prog_1_method_7_code 23 = .ok (.aload_n 0, 1) := by decide +kernel
theorem d8_24 : decode prog_1_method_7_code 24 = .ok (.getfield 13, 3) := by decide +kernel
theorem d8_27 : decode prog_1_method_7_code 27 = .ok (.aload_n 2, 1) := by decide +kernel
theorem d8_28 : decode prog_1_method_7_code 28 = .ok (.getfield 13, 3) := by decide +kernel
theorem d8_31 : decode prog_1_method_7_code 31 = .ok (.if_acmp .ne 7, 3) := by decide +kernel
theorem d8_34 : decode prog_1_method_7_code 34 = .ok (.iconst 1, 1) := by decide +kernel
theorem d8_35 : decode prog_1_method_7_code 35 = .ok (.goto 4, 3) := by decide +kernel
theorem d8_38 : decode prog_1_method_7_code 38 = .ok (.iconst 0, 1) := by decide +kernel
theorem d8_39 : decode prog_1_method_7_code 39 = .ok (.ireturn, 1) := by decide +kernel
theorem ef_ct8 (m : MethodId) (x0 : Addr) (x1 : Addr) : entryFrame m #[(.ref x0), (.ref x1)] 3 = mkF m 0 #[.val (.ref x0), .val (.ref x1), .unset] [] := by first | (simp [entryFrame, mkF, argsToLocals, Value.category]; done) | rfl
set_option maxRecDepth 65536 in
set_option maxHeartbeats 40000000 in
theorem ct8 (l : Launch) (Z : State) (a0 : Array Value) (hw : ∀ d ∈ tables_1, d.before a0 Z = true) (hE : EW Z a0 []) (a b : Addr) (c d : Int32) (u w : Addr) (h0 : Heap) (hO : Ext Z.heap h0) (E_b : Exa Z h0 b "com/example/package_pricing/packagepricing/catalog/BillingPeriod") (F1 : Fld Z h0 a "com/example/package_pricing/packagepricing/catalog/BillingPeriod" "count" "I" (.int c)) (F2 : Fld Z h0 a "com/example/package_pricing/packagepricing/catalog/BillingPeriod" "unit" "Lcom/example/package_pricing/packagepricing/catalog/BillingPeriod$Unit;" (.ref u)) (F3 : Fld Z h0 b "com/example/package_pricing/packagepricing/catalog/BillingPeriod" "count" "I" (.int d)) (F4 : Fld Z h0 b "com/example/package_pricing/packagepricing/catalog/BillingPeriod" "unit" "Lcom/example/package_pricing/packagepricing/catalog/BillingPeriod$Unit;" (.ref w)) :
    Ct true l Z [] [] (⟨"com/example/package_pricing/packagepricing/catalog/BillingPeriod", "equals", "(Ljava/lang/Object;)Z"⟩ : MethodName) prog_1_method_7_code 3 (some .boolean) ({ frames := 0, cells := 0, slots := 0, locals := 0 } : Room) #[(.ref a), (.ref b)] h0 [] [] (fun v h => v = some (.int (if c = d ∧ u = w then 1 else 0))) := by
  refine Ct.of_wp (a0 := a0) (Ls := #[.val (.ref a), .val (.ref b), .unset]) (plainFor_of_name pn_com_example_package_pricing_packagepricing_catalog_BillingPeriod) hE hO nofun (fun m => ef_ct8 m a b) ?_
  refine Wp.aloadN d8_0 (pc' := 1) rfl rfl rfl ?_
  refine Wp.instY rfl (hw _ (List.mem_of_getElem? (i := 26) rfl)) (Ins.self E_b) d8_1 (pc' := 4) rfl ?_
  refine Wp.if_eq (pc1 := 38) (pc' := 7) d8_4 (by decide) (by decide) rfl (fun hc1 => by exact absurd hc1 (by decide)) (fun hc1 => ?_)
  refine Wp.aloadN d8_7 (pc' := 8) rfl rfl rfl ?_
  refine Wp.castY rfl (hw _ (List.mem_of_getElem? (i := 26) rfl)) (Ins.self E_b) d8_8 (pc' := 11) rfl ?_
  refine Wp.astoreN (l' := #[.val (.ref a), .val (.ref b), .val (.ref b)]) d8_11 (pc' := 12) rfl rfl rfl ?_
  refine Wp.aloadN d8_12 (pc' := 13) rfl rfl rfl ?_
  refine Wp.getF rfl (host := "") (Or.inl (hw _ (List.mem_of_getElem? (i := 34) rfl))) Via.refl F1 d8_13 (pc' := 16) rfl ?_
  refine Wp.aloadN d8_16 (pc' := 17) rfl rfl rfl ?_
  refine Wp.getF rfl (host := "") (Or.inl (hw _ (List.mem_of_getElem? (i := 34) rfl))) Via.refl F3 d8_17 (pc' := 20) rfl ?_
  refine Wp.icmp_ne (pc1 := 38) (pc' := 23) d8_20 (by decide) (by decide) rfl (fun hc2 => ?_) (fun hc2 => ?_)
  · have hc2 : ¬ (c = d) := hc2
    refine Wp.iconst (x := (0 : Int32)) d8_38 (pc' := 39) rfl rfl ?_
    refine Wp.retN (x' := (0 : Int32)) (t := .boolean) rfl (by simp) rfl d8_39 (by decide) (by decide) ?_
    simp [hc2]
  · have hc2 : c = d := hc2
    refine Wp.aloadN d8_23 (pc' := 24) rfl rfl rfl ?_
    refine Wp.getF rfl (host := "") (Or.inl (hw _ (List.mem_of_getElem? (i := 36) rfl))) Via.refl F2 d8_24 (pc' := 27) rfl ?_
    refine Wp.aloadN d8_27 (pc' := 28) rfl rfl rfl ?_
    refine Wp.getF rfl (host := "") (Or.inl (hw _ (List.mem_of_getElem? (i := 36) rfl))) Via.refl F4 d8_28 (pc' := 31) rfl ?_
    refine Wp.acmp_ne (pc1 := 38) (pc' := 34) rfl rfl d8_31 (by decide) (by decide) rfl (fun hc3 => ?_) (fun hc3 => ?_)
    · have hc3 : ¬ ((Value.ref u) = (Value.ref w)) := hc3
      have hc3a : ¬ u = w := fun e => hc3 (congrArg Value.ref e)
      refine Wp.iconst (x := (0 : Int32)) d8_38 (pc' := 39) rfl rfl ?_
      refine Wp.retN (x' := (0 : Int32)) (t := .boolean) rfl (by simp) rfl d8_39 (by decide) (by decide) ?_
      simp [hc2, hc3, hc3a]
    · have hc3 : (Value.ref u) = (Value.ref w) := hc3
      have hc3a : u = w := Value.ref.inj hc3
      refine Wp.iconst (x := (1 : Int32)) d8_34 (pc' := 35) rfl rfl ?_
      refine Wp.goto (pc' := 39) d8_35 (by decide) (by decide) ?_
      refine Wp.retN (x' := (1 : Int32)) (t := .boolean) rfl (by simp) rfl d8_39 (by decide) (by decide) ?_
      simp [hc2, hc3, hc3a]
theorem ef_ct0 (m : MethodId) (x0 : Int32) (x1 : Int32) (x2 : Int32) (x3 : Int32) : entryFrame m #[(.int x0), (.int x1), (.int x2), (.int x3)] maxLocals = mkF m 0 #[.val (.int x0), .val (.int x1), .val (.int x2), .val (.int x3), .unset, .unset, .unset, .unset, .unset, .unset, .unset, .unset] [] := by first | (simp [entryFrame, mkF, argsToLocals, Value.category, maxLocals]; done) | rfl
theorem pd__I_Lcom_example_package_pricing_packagepricing_catalog_BillingPeriod_Unit_ : parseMethodDescriptor "(I)Lcom/example/package_pricing/packagepricing/catalog/BillingPeriod$Unit;" = some ⟨[.int], some (.object "com/example/package_pricing/packagepricing/catalog/BillingPeriod$Unit")⟩ := by decide +kernel
theorem pd__ILcom_example_package_pricing_packagepricing_catalog_BillingPeriod_Unit__Lcom_example_package_pricing_packagepricing_catalog_BillingPeriod_ : parseMethodDescriptor "(ILcom/example/package_pricing/packagepricing/catalog/BillingPeriod$Unit;)Lcom/example/package_pricing/packagepricing/catalog/BillingPeriod;" = some ⟨[.int, (.object "com/example/package_pricing/packagepricing/catalog/BillingPeriod$Unit")], some (.object "com/example/package_pricing/packagepricing/catalog/BillingPeriod")⟩ := by decide +kernel
theorem pd___I : parseMethodDescriptor "()I" = some ⟨[], some .int⟩ := by decide +kernel
theorem pd___Lcom_example_package_pricing_packagepricing_catalog_BillingPeriod_Unit_ : parseMethodDescriptor "()Lcom/example/package_pricing/packagepricing/catalog/BillingPeriod$Unit;" = some ⟨[], some (.object "com/example/package_pricing/packagepricing/catalog/BillingPeriod$Unit")⟩ := by decide +kernel
theorem pd__Ljava_lang_Object__Z : parseMethodDescriptor "(Ljava/lang/Object;)Z" = some ⟨[(.object "java/lang/Object")], some .boolean⟩ := by decide +kernel
set_option maxRecDepth 65536 in
set_option maxHeartbeats 40000000 in
theorem ct0 (l : Launch) (Z : State) (a0 : Array Value) (hw : ∀ d ∈ tables_1, d.before a0 Z = true) (hE : EW Z a0 []) (p1 p2 p3 p4 : Int32) (w_DAY w_WEEK w_MONTH w_YEAR : Addr) (h0 : Heap) (hO : Ext Z.heap h0) (S_DAY : Sta Z Z.heap "com/example/package_pricing/packagepricing/catalog/BillingPeriod$Unit" "DAY" "Lcom/example/package_pricing/packagepricing/catalog/BillingPeriod$Unit;" (.ref w_DAY)) (S_WEEK : Sta Z Z.heap "com/example/package_pricing/packagepricing/catalog/BillingPeriod$Unit" "WEEK" "Lcom/example/package_pricing/packagepricing/catalog/BillingPeriod$Unit;" (.ref w_WEEK)) (S_MONTH : Sta Z Z.heap "com/example/package_pricing/packagepricing/catalog/BillingPeriod$Unit" "MONTH" "Lcom/example/package_pricing/packagepricing/catalog/BillingPeriod$Unit;" (.ref w_MONTH)) (S_YEAR : Sta Z Z.heap "com/example/package_pricing/packagepricing/catalog/BillingPeriod$Unit" "YEAR" "Lcom/example/package_pricing/packagepricing/catalog/BillingPeriod$Unit;" (.ref w_YEAR)) :
    Ct true l Z [] tables_1 x code maxLocals ret room_1 #[(.int p1), (.int p2), (.int p3), (.int p4)] h0 [] [] (fun v h => v = some (.int 1)) := by
  refine Ct.of_wp (a0 := a0) (Ls := #[.val (.int p1), .val (.int p2), .val (.int p3), .val (.int p4), .unset, .unset, .unset, .unset, .unset, .unset, .unset, .unset]) (plainFor_of_name pn_com_example_package_pricing_packagepricing_catalog_BillingPeriodOfPinLaw) hE hO nofun (fun m => ef_ct0 m p1 p2 p3 p4) ?_
  refine Wp.iloadN at_0 (pc' := 1) rfl rfl ?_
  refine Wp.ldcI rfl (hw _ (List.mem_of_getElem? (i := 0) rfl)) at_1 (pc' := 3) rfl ?_
  refine Wp.iand at_3 (pc' := 4) rfl ?_
  refine Wp.sipush (x := (999 : Int32)) at_4 (pc' := 7) rfl rfl ?_
  refine Wp.irem at_7 (pc' := 8) rfl (by decide) ?_
  refine Wp.iconst (x := (1 : Int32)) at_8 (pc' := 9) rfl rfl ?_
  refine Wp.iadd at_9 (pc' := 10) rfl ?_
  generalize g_c4 : (((p1 &&& (2147483647 : Int32)) % (999 : Int32)) + (1 : Int32)) = c4
  have r_c4 := own_cnt p1
  rw [g_c4] at r_c4
  refine Wp.istore (l' := #[.val (.int p1), .val (.int p2), .val (.int p3), .val (.int p4), .val (.int c4), .unset, .unset, .unset, .unset, .unset, .unset, .unset]) at_10 (pc' := 12) rfl rfl ?_
  refine Wp.iloadN at_12 (pc' := 13) rfl rfl ?_
  refine Wp.old fun hOc => ?_
  refine Wp.callS (W := 0) (argsL := [(.int p2)]) (rest := []) rfl (ct1 l Z a0 hw hE p2 w_DAY w_WEEK w_MONTH w_YEAR h0 hOc S_DAY S_WEEK S_MONTH S_YEAR) (hw _ (List.mem_of_getElem? (i := 1) rfl)) (hw _ (List.mem_of_getElem? (i := 2) rfl)) (hw _ (List.mem_of_getElem? (i := 4) rfl)) (hw _ (List.mem_of_getElem? (i := 3) rfl)) (by decide) (lenOf pd__I_Lcom_example_package_pricing_packagepricing_catalog_BillingPeriod_Unit_ rfl) at_13 rfl rfl rfl (Nat.le_of_eq rfl) (pc' := 16) rfl nofun nofun (by decide) (by decide) (k' := 0) (n' := 0) rfl rfl (by decide) (by decide) (fun vh1 h1 zh1 Kh1 qh1 => ?_)
  obtain ⟨u13, rfl⟩ := qh1
  refine Wp.eqS (S' := [(.ref u13)]) rfl ?_
  refine Wp.astore (l' := #[.val (.int p1), .val (.int p2), .val (.int p3), .val (.int p4), .val (.int c4), .val (.ref u13), .unset, .unset, .unset, .unset, .unset, .unset]) at_16 (pc' := 18) rfl rfl rfl ?_
  refine Wp.iloadN at_18 (pc' := 19) rfl rfl ?_
  refine Wp.iconst (x := (2 : Int32)) at_19 (pc' := 20) rfl rfl ?_
  refine Wp.ishr at_20 (pc' := 21) rfl ?_
  refine Wp.iconst (x := (1 : Int32)) at_21 (pc' := 22) rfl rfl ?_
  refine Wp.iand at_22 (pc' := 23) rfl ?_
  refine Wp.if_eq (pc1 := 30) (pc' := 26) at_23 (by decide) (by decide) rfl (fun hc2 => ?_) (fun hc2 => ?_)
  · have hc2 : ((p4 >>> ((2 : Int32) &&& 31)) &&& (1 : Int32)) = (0 : Int32) := hc2
    refine Wp.iconst (x := (0 : Int32)) at_30 (pc' := 31) rfl rfl ?_
    refine Wp.istore (l' := #[.val (.int p1), .val (.int p2), .val (.int p3), .val (.int p4), .val (.int c4), .val (.ref u13), .val (.int (0 : Int32)), .unset, .unset, .unset, .unset, .unset]) at_31 (pc' := 33) rfl rfl ?_
    refine Wp.iload at_33 (pc' := 35) rfl rfl ?_
    refine Wp.if_eq (pc1 := 43) (pc' := 38) at_35 (by decide) (by decide) rfl (fun hc3 => ?_) (fun hc3 => by exact absurd hc3 (by decide))
    refine Wp.iloadN at_43 (pc' := 44) rfl rfl ?_
    refine Wp.ldcI rfl (hw _ (List.mem_of_getElem? (i := 0) rfl)) at_44 (pc' := 46) rfl ?_
    refine Wp.iand at_46 (pc' := 47) rfl ?_
    refine Wp.sipush (x := (999 : Int32)) at_47 (pc' := 50) rfl rfl ?_
    refine Wp.irem at_50 (pc' := 51) rfl (by decide) ?_
    refine Wp.iconst (x := (1 : Int32)) at_51 (pc' := 52) rfl rfl ?_
    refine Wp.iadd at_52 (pc' := 53) rfl ?_
    generalize g_c7 : (((p3 &&& (2147483647 : Int32)) % (999 : Int32)) + (1 : Int32)) = c7
    have r_c7 := own_cnt p3
    rw [g_c7] at r_c7
    refine Wp.istore (l' := #[.val (.int p1), .val (.int p2), .val (.int p3), .val (.int p4), .val (.int c4), .val (.ref u13), .val (.int (0 : Int32)), .val (.int c7), .unset, .unset, .unset, .unset]) at_53 (pc' := 55) rfl rfl ?_
    refine Wp.iloadN at_55 (pc' := 56) rfl rfl ?_
    refine Wp.old fun hOc => ?_
    refine Wp.callS (W := 0) (argsL := [(.int p4)]) (rest := []) rfl (ct1 l Z a0 hw hE p4 w_DAY w_WEEK w_MONTH w_YEAR h1 hOc S_DAY S_WEEK S_MONTH S_YEAR) (hw _ (List.mem_of_getElem? (i := 1) rfl)) (hw _ (List.mem_of_getElem? (i := 2) rfl)) (hw _ (List.mem_of_getElem? (i := 4) rfl)) (hw _ (List.mem_of_getElem? (i := 3) rfl)) (by decide) (lenOf pd__I_Lcom_example_package_pricing_packagepricing_catalog_BillingPeriod_Unit_ rfl) at_56 rfl rfl rfl (Nat.le_of_eq rfl) (pc' := 59) rfl nofun nofun (by decide) (by decide) (k' := 0) (n' := 0) rfl rfl (by decide) (by decide) (fun vh4 h4 zh4 Kh4 qh4 => ?_)
    obtain ⟨u56, rfl⟩ := qh4
    refine Wp.eqS (S' := [(.ref u56)]) rfl ?_
    refine Wp.astore (l' := #[.val (.int p1), .val (.int p2), .val (.int p3), .val (.int p4), .val (.int c4), .val (.ref u13), .val (.int (0 : Int32)), .val (.int c7), .val (.ref u56), .unset, .unset, .unset]) at_59 (pc' := 61) rfl rfl rfl ?_
    refine Wp.iload at_61 (pc' := 63) rfl rfl ?_
    refine Wp.aload at_63 (pc' := 65) rfl rfl rfl ?_
    refine Wp.old fun hOc => ?_
    refine Wp.callS (W := 0) (argsL := [(.int c4), (.ref u13)]) (rest := []) rfl (ct2 l Z a0 hw hE c4 u13 h4 hOc r_c4.1 r_c4.2) (hw _ (List.mem_of_getElem? (i := 10) rfl)) (hw _ (List.mem_of_getElem? (i := 11) rfl)) (hw _ (List.mem_of_getElem? (i := 13) rfl)) (hw _ (List.mem_of_getElem? (i := 12) rfl)) (by decide) (lenOf pd__ILcom_example_package_pricing_packagepricing_catalog_BillingPeriod_Unit__Lcom_example_package_pricing_packagepricing_catalog_BillingPeriod_ rfl) at_65 rfl rfl rfl (Nat.le_of_eq rfl) (pc' := 68) rfl nofun nofun (by decide) (by decide) (k' := 3) (n' := 22) rfl rfl (by decide) (by decide) (fun vh5 h5 zh5 Kh5 qh5 => ?_)
    obtain ⟨b65, rfl, sb_b65, E_b65, Fc_b65, Fu_b65⟩ := qh5
    refine Wp.eqS (S' := [(.ref b65)]) rfl ?_
    have sz_b65 : h0.size ≤ b65 := Nat.le_trans zh5 sb_b65
    refine Wp.astore (l' := #[.val (.int p1), .val (.int p2), .val (.int p3), .val (.int p4), .val (.int c4), .val (.ref u13), .val (.int (0 : Int32)), .val (.int c7), .val (.ref u56), .val (.ref b65), .unset, .unset]) at_68 (pc' := 70) rfl rfl rfl ?_
    refine Wp.iload at_70 (pc' := 72) rfl rfl ?_
    refine Wp.aload at_72 (pc' := 74) rfl rfl rfl ?_
    refine Wp.old fun hOc => ?_
    refine Wp.callS (W := 0) (argsL := [(.int c7), (.ref u56)]) (rest := []) rfl (ct2 l Z a0 hw hE c7 u56 h5 hOc r_c7.1 r_c7.2) (hw _ (List.mem_of_getElem? (i := 10) rfl)) (hw _ (List.mem_of_getElem? (i := 11) rfl)) (hw _ (List.mem_of_getElem? (i := 13) rfl)) (hw _ (List.mem_of_getElem? (i := 12) rfl)) (by decide) (lenOf pd__ILcom_example_package_pricing_packagepricing_catalog_BillingPeriod_Unit__Lcom_example_package_pricing_packagepricing_catalog_BillingPeriod_ rfl) at_74 rfl rfl rfl (Nat.le_of_eq rfl) (pc' := 77) rfl nofun nofun (by decide) (by decide) (k' := 6) (n' := 44) rfl rfl (by decide) (by decide) (fun vh6 h6 zh6 Kh6 qh6 => ?_)
    obtain ⟨b74, rfl, sb_b74, E_b74, Fc_b74, Fu_b74⟩ := qh6
    have ne_b65_b74 : b65 ≠ b74 := Nat.ne_of_lt (Nat.lt_of_lt_of_le E_b65.lt sb_b74)
    replace E_b65 := E_b65.keep Kh6
    replace Fc_b65 := Fc_b65.keep Kh6 nin0
    replace Fu_b65 := Fu_b65.keep Kh6 nin0
    refine Wp.eqS (S' := [(.ref b74)]) rfl ?_
    have sz_b74 : h0.size ≤ b74 := Nat.le_trans zh6 sb_b74
    refine Wp.astore (l' := #[.val (.int p1), .val (.int p2), .val (.int p3), .val (.int p4), .val (.int c4), .val (.ref u13), .val (.int (0 : Int32)), .val (.int c7), .val (.ref u56), .val (.ref b65), .val (.ref b74), .unset]) at_77 (pc' := 79) rfl rfl rfl ?_
    refine Wp.iload at_79 (pc' := 81) rfl rfl ?_
    refine Wp.iload at_81 (pc' := 83) rfl rfl ?_
    refine Wp.icmp_ne (pc1 := 97) (pc' := 86) at_83 (by decide) (by decide) rfl (fun hc7 => ?_) (fun hc7 => ?_)
    · have hc7 : ¬ (c4 = c7) := hc7
      refine Wp.iconst (x := (0 : Int32)) at_97 (pc' := 98) rfl rfl ?_
      refine Wp.istore (l' := #[.val (.int p1), .val (.int p2), .val (.int p3), .val (.int p4), .val (.int c4), .val (.ref u13), .val (.int (0 : Int32)), .val (.int c7), .val (.ref u56), .val (.ref b65), .val (.ref b74), .val (.int (0 : Int32))]) at_98 (pc' := 100) rfl rfl ?_
      refine Wp.aload at_100 (pc' := 102) rfl rfl rfl ?_
      refine Wp.old fun hOc => ?_
      refine Wp.callV (a := b65) (x' := (⟨"com/example/package_pricing/packagepricing/catalog/BillingPeriod", "getCount", "()I"⟩ : MethodName)) (W := 0) (argsL := []) (rest := []) rfl (ct6 l Z a0 hw hE b65 c4 h6 hOc Fc_b65) (hw _ (List.mem_of_getElem? (i := 38) rfl)) (hw _ (List.mem_of_getElem? (i := 39) rfl)) (hw _ (List.mem_of_getElem? (i := 41) rfl)) (hw _ (List.mem_of_getElem? (i := 40) rfl)) (hw _ (List.mem_of_getElem? (i := 42) rfl)) (hw _ (List.mem_of_getElem? (i := 12) rfl)) (fun s hZ => nf_sel rfl (hw _ (List.mem_of_getElem? (i := 41) rfl)) s hZ rfl) E_b65 (by decide) (lenOf pd___I rfl) at_102 rfl rfl rfl (Nat.le_of_eq rfl) (pc' := 105) rfl nofun nofun (by decide) (by decide) (k' := 6) (n' := 44) rfl rfl (by decide) (by decide) (fun vh8 h8 zh8 Kh8 qh8 => ?_)
      obtain rfl := qh8
      replace E_b65 := E_b65.keep Kh8
      replace Fc_b65 := Fc_b65.keep Kh8 nin0
      replace Fu_b65 := Fu_b65.keep Kh8 nin0
      replace E_b74 := E_b74.keep Kh8
      replace Fc_b74 := Fc_b74.keep Kh8 nin0
      replace Fu_b74 := Fu_b74.keep Kh8 nin0
      refine Wp.eqS (S' := [(.int c4)]) rfl ?_
      refine Wp.iload at_105 (pc' := 107) rfl rfl ?_
      refine Wp.icmp_ne (pc1 := 156) (pc' := 110) at_107 (by decide) (by decide) rfl (fun hc9 => by exact absurd rfl hc9) (fun hc9 => ?_)
      refine Wp.aload at_110 (pc' := 112) rfl rfl rfl ?_
      refine Wp.old fun hOc => ?_
      refine Wp.callV (a := b65) (x' := (⟨"com/example/package_pricing/packagepricing/catalog/BillingPeriod", "getUnit", "()Lcom/example/package_pricing/packagepricing/catalog/BillingPeriod$Unit;"⟩ : MethodName)) (W := 0) (argsL := []) (rest := []) rfl (ct7 l Z a0 hw hE b65 u13 h8 hOc Fu_b65) (hw _ (List.mem_of_getElem? (i := 43) rfl)) (hw _ (List.mem_of_getElem? (i := 44) rfl)) (hw _ (List.mem_of_getElem? (i := 46) rfl)) (hw _ (List.mem_of_getElem? (i := 45) rfl)) (hw _ (List.mem_of_getElem? (i := 47) rfl)) (hw _ (List.mem_of_getElem? (i := 12) rfl)) (fun s hZ => nf_sel rfl (hw _ (List.mem_of_getElem? (i := 46) rfl)) s hZ rfl) E_b65 (by decide) (lenOf pd___Lcom_example_package_pricing_packagepricing_catalog_BillingPeriod_Unit_ rfl) at_112 rfl rfl rfl (Nat.le_of_eq rfl) (pc' := 115) rfl nofun nofun (by decide) (by decide) (k' := 6) (n' := 44) rfl rfl (by decide) (by decide) (fun vh10 h10 zh10 Kh10 qh10 => ?_)
      obtain rfl := qh10
      replace E_b65 := E_b65.keep Kh10
      replace Fc_b65 := Fc_b65.keep Kh10 nin0
      replace Fu_b65 := Fu_b65.keep Kh10 nin0
      replace E_b74 := E_b74.keep Kh10
      replace Fc_b74 := Fc_b74.keep Kh10 nin0
      replace Fu_b74 := Fu_b74.keep Kh10 nin0
      refine Wp.eqS (S' := [(.ref u13)]) rfl ?_
      refine Wp.aload at_115 (pc' := 117) rfl rfl rfl ?_
      refine Wp.acmp_ne (pc1 := 156) (pc' := 120) rfl rfl at_117 (by decide) (by decide) rfl (fun hc11 => by exact absurd rfl hc11) (fun hc11 => ?_)
      refine Wp.aload at_120 (pc' := 122) rfl rfl rfl ?_
      refine Wp.old fun hOc => ?_
      refine Wp.callV (a := b74) (x' := (⟨"com/example/package_pricing/packagepricing/catalog/BillingPeriod", "getCount", "()I"⟩ : MethodName)) (W := 0) (argsL := []) (rest := []) rfl (ct6 l Z a0 hw hE b74 c7 h10 hOc Fc_b74) (hw _ (List.mem_of_getElem? (i := 38) rfl)) (hw _ (List.mem_of_getElem? (i := 39) rfl)) (hw _ (List.mem_of_getElem? (i := 41) rfl)) (hw _ (List.mem_of_getElem? (i := 40) rfl)) (hw _ (List.mem_of_getElem? (i := 42) rfl)) (hw _ (List.mem_of_getElem? (i := 12) rfl)) (fun s hZ => nf_sel rfl (hw _ (List.mem_of_getElem? (i := 41) rfl)) s hZ rfl) E_b74 (by decide) (lenOf pd___I rfl) at_122 rfl rfl rfl (Nat.le_of_eq rfl) (pc' := 125) rfl nofun nofun (by decide) (by decide) (k' := 6) (n' := 44) rfl rfl (by decide) (by decide) (fun vh12 h12 zh12 Kh12 qh12 => ?_)
      obtain rfl := qh12
      replace E_b65 := E_b65.keep Kh12
      replace Fc_b65 := Fc_b65.keep Kh12 nin0
      replace Fu_b65 := Fu_b65.keep Kh12 nin0
      replace E_b74 := E_b74.keep Kh12
      replace Fc_b74 := Fc_b74.keep Kh12 nin0
      replace Fu_b74 := Fu_b74.keep Kh12 nin0
      refine Wp.eqS (S' := [(.int c7)]) rfl ?_
      refine Wp.iload at_125 (pc' := 127) rfl rfl ?_
      refine Wp.icmp_ne (pc1 := 156) (pc' := 130) at_127 (by decide) (by decide) rfl (fun hc13 => by exact absurd rfl hc13) (fun hc13 => ?_)
      refine Wp.aload at_130 (pc' := 132) rfl rfl rfl ?_
      refine Wp.old fun hOc => ?_
      refine Wp.callV (a := b74) (x' := (⟨"com/example/package_pricing/packagepricing/catalog/BillingPeriod", "getUnit", "()Lcom/example/package_pricing/packagepricing/catalog/BillingPeriod$Unit;"⟩ : MethodName)) (W := 0) (argsL := []) (rest := []) rfl (ct7 l Z a0 hw hE b74 u56 h12 hOc Fu_b74) (hw _ (List.mem_of_getElem? (i := 43) rfl)) (hw _ (List.mem_of_getElem? (i := 44) rfl)) (hw _ (List.mem_of_getElem? (i := 46) rfl)) (hw _ (List.mem_of_getElem? (i := 45) rfl)) (hw _ (List.mem_of_getElem? (i := 47) rfl)) (hw _ (List.mem_of_getElem? (i := 12) rfl)) (fun s hZ => nf_sel rfl (hw _ (List.mem_of_getElem? (i := 46) rfl)) s hZ rfl) E_b74 (by decide) (lenOf pd___Lcom_example_package_pricing_packagepricing_catalog_BillingPeriod_Unit_ rfl) at_132 rfl rfl rfl (Nat.le_of_eq rfl) (pc' := 135) rfl nofun nofun (by decide) (by decide) (k' := 6) (n' := 44) rfl rfl (by decide) (by decide) (fun vh14 h14 zh14 Kh14 qh14 => ?_)
      obtain rfl := qh14
      replace E_b65 := E_b65.keep Kh14
      replace Fc_b65 := Fc_b65.keep Kh14 nin0
      replace Fu_b65 := Fu_b65.keep Kh14 nin0
      replace E_b74 := E_b74.keep Kh14
      replace Fc_b74 := Fc_b74.keep Kh14 nin0
      replace Fu_b74 := Fu_b74.keep Kh14 nin0
      refine Wp.eqS (S' := [(.ref u56)]) rfl ?_
      refine Wp.aload at_135 (pc' := 137) rfl rfl rfl ?_
      refine Wp.acmp_ne (pc1 := 156) (pc' := 140) rfl rfl at_137 (by decide) (by decide) rfl (fun hc15 => by exact absurd rfl hc15) (fun hc15 => ?_)
      refine Wp.aload at_140 (pc' := 142) rfl rfl rfl ?_
      refine Wp.aload at_142 (pc' := 144) rfl rfl rfl ?_
      refine Wp.old fun hOc => ?_
      refine Wp.callV (a := b65) (x' := (⟨"com/example/package_pricing/packagepricing/catalog/BillingPeriod", "equals", "(Ljava/lang/Object;)Z"⟩ : MethodName)) (W := 0) (argsL := [(.ref b74)]) (rest := []) rfl (ct8 l Z a0 hw hE b65 b74 c4 c7 u13 u56 h14 hOc E_b74 Fc_b65 Fu_b65 Fc_b74 Fu_b74) (hw _ (List.mem_of_getElem? (i := 48) rfl)) (hw _ (List.mem_of_getElem? (i := 49) rfl)) (hw _ (List.mem_of_getElem? (i := 51) rfl)) (hw _ (List.mem_of_getElem? (i := 50) rfl)) (hw _ (List.mem_of_getElem? (i := 52) rfl)) (hw _ (List.mem_of_getElem? (i := 12) rfl)) (fun s hZ => nf_sel rfl (hw _ (List.mem_of_getElem? (i := 51) rfl)) s hZ rfl) E_b65 (by decide) (lenOf pd__Ljava_lang_Object__Z rfl) at_144 rfl rfl rfl (Nat.le_of_eq rfl) (pc' := 147) rfl nofun nofun (by decide) (by decide) (k' := 6) (n' := 44) rfl rfl (by decide) (by decide) (fun vh16 h16 zh16 Kh16 qh16 => ?_)
      obtain rfl : vh16 = some (.int (0 : Int32)) := by simpa [hc7, hc9, hc11, hc13] using qh16
      replace E_b65 := E_b65.keep Kh16
      replace Fc_b65 := Fc_b65.keep Kh16 nin0
      replace Fu_b65 := Fu_b65.keep Kh16 nin0
      replace E_b74 := E_b74.keep Kh16
      replace Fc_b74 := Fc_b74.keep Kh16 nin0
      replace Fu_b74 := Fu_b74.keep Kh16 nin0
      refine Wp.eqS (S' := [(.int (0 : Int32))]) rfl ?_
      refine Wp.iload at_147 (pc' := 149) rfl rfl ?_
      refine Wp.icmp_ne (pc1 := 156) (pc' := 152) at_149 (by decide) (by decide) rfl (fun hc17 => by exact absurd hc17 (by decide)) (fun hc17 => ?_)
      refine Wp.iconst (x := (1 : Int32)) at_152 (pc' := 153) rfl rfl ?_
      refine Wp.goto (pc' := 157) at_153 (by decide) (by decide) ?_
      refine Wp.retN (x' := (1 : Int32)) (t := .boolean) rfl (by simp) rfl at_157 (by decide) (by decide) ?_
      rfl
    · have hc7 : c4 = c7 := hc7
      refine Wp.aload at_86 (pc' := 88) rfl rfl rfl ?_
      refine Wp.aload at_88 (pc' := 90) rfl rfl rfl ?_
      refine Wp.acmp_ne (pc1 := 97) (pc' := 93) rfl rfl at_90 (by decide) (by decide) rfl (fun hc18 => ?_) (fun hc18 => ?_)
      · have hc18 : ¬ ((Value.ref u13) = (Value.ref u56)) := hc18
        have hc18a : ¬ u13 = u56 := fun e => hc18 (congrArg Value.ref e)
        refine Wp.iconst (x := (0 : Int32)) at_97 (pc' := 98) rfl rfl ?_
        refine Wp.istore (l' := #[.val (.int p1), .val (.int p2), .val (.int p3), .val (.int p4), .val (.int c4), .val (.ref u13), .val (.int (0 : Int32)), .val (.int c7), .val (.ref u56), .val (.ref b65), .val (.ref b74), .val (.int (0 : Int32))]) at_98 (pc' := 100) rfl rfl ?_
        refine Wp.aload at_100 (pc' := 102) rfl rfl rfl ?_
        refine Wp.old fun hOc => ?_
        refine Wp.callV (a := b65) (x' := (⟨"com/example/package_pricing/packagepricing/catalog/BillingPeriod", "getCount", "()I"⟩ : MethodName)) (W := 0) (argsL := []) (rest := []) rfl (ct6 l Z a0 hw hE b65 c4 h6 hOc Fc_b65) (hw _ (List.mem_of_getElem? (i := 38) rfl)) (hw _ (List.mem_of_getElem? (i := 39) rfl)) (hw _ (List.mem_of_getElem? (i := 41) rfl)) (hw _ (List.mem_of_getElem? (i := 40) rfl)) (hw _ (List.mem_of_getElem? (i := 42) rfl)) (hw _ (List.mem_of_getElem? (i := 12) rfl)) (fun s hZ => nf_sel rfl (hw _ (List.mem_of_getElem? (i := 41) rfl)) s hZ rfl) E_b65 (by decide) (lenOf pd___I rfl) at_102 rfl rfl rfl (Nat.le_of_eq rfl) (pc' := 105) rfl nofun nofun (by decide) (by decide) (k' := 6) (n' := 44) rfl rfl (by decide) (by decide) (fun vh19 h19 zh19 Kh19 qh19 => ?_)
        obtain rfl := qh19
        replace E_b65 := E_b65.keep Kh19
        replace Fc_b65 := Fc_b65.keep Kh19 nin0
        replace Fu_b65 := Fu_b65.keep Kh19 nin0
        replace E_b74 := E_b74.keep Kh19
        replace Fc_b74 := Fc_b74.keep Kh19 nin0
        replace Fu_b74 := Fu_b74.keep Kh19 nin0
        refine Wp.eqS (S' := [(.int c4)]) rfl ?_
        refine Wp.iload at_105 (pc' := 107) rfl rfl ?_
        refine Wp.icmp_ne (pc1 := 156) (pc' := 110) at_107 (by decide) (by decide) rfl (fun hc20 => by exact absurd rfl hc20) (fun hc20 => ?_)
        refine Wp.aload at_110 (pc' := 112) rfl rfl rfl ?_
        refine Wp.old fun hOc => ?_
        refine Wp.callV (a := b65) (x' := (⟨"com/example/package_pricing/packagepricing/catalog/BillingPeriod", "getUnit", "()Lcom/example/package_pricing/packagepricing/catalog/BillingPeriod$Unit;"⟩ : MethodName)) (W := 0) (argsL := []) (rest := []) rfl (ct7 l Z a0 hw hE b65 u13 h19 hOc Fu_b65) (hw _ (List.mem_of_getElem? (i := 43) rfl)) (hw _ (List.mem_of_getElem? (i := 44) rfl)) (hw _ (List.mem_of_getElem? (i := 46) rfl)) (hw _ (List.mem_of_getElem? (i := 45) rfl)) (hw _ (List.mem_of_getElem? (i := 47) rfl)) (hw _ (List.mem_of_getElem? (i := 12) rfl)) (fun s hZ => nf_sel rfl (hw _ (List.mem_of_getElem? (i := 46) rfl)) s hZ rfl) E_b65 (by decide) (lenOf pd___Lcom_example_package_pricing_packagepricing_catalog_BillingPeriod_Unit_ rfl) at_112 rfl rfl rfl (Nat.le_of_eq rfl) (pc' := 115) rfl nofun nofun (by decide) (by decide) (k' := 6) (n' := 44) rfl rfl (by decide) (by decide) (fun vh21 h21 zh21 Kh21 qh21 => ?_)
        obtain rfl := qh21
        replace E_b65 := E_b65.keep Kh21
        replace Fc_b65 := Fc_b65.keep Kh21 nin0
        replace Fu_b65 := Fu_b65.keep Kh21 nin0
        replace E_b74 := E_b74.keep Kh21
        replace Fc_b74 := Fc_b74.keep Kh21 nin0
        replace Fu_b74 := Fu_b74.keep Kh21 nin0
        refine Wp.eqS (S' := [(.ref u13)]) rfl ?_
        refine Wp.aload at_115 (pc' := 117) rfl rfl rfl ?_
        refine Wp.acmp_ne (pc1 := 156) (pc' := 120) rfl rfl at_117 (by decide) (by decide) rfl (fun hc22 => by exact absurd rfl hc22) (fun hc22 => ?_)
        refine Wp.aload at_120 (pc' := 122) rfl rfl rfl ?_
        refine Wp.old fun hOc => ?_
        refine Wp.callV (a := b74) (x' := (⟨"com/example/package_pricing/packagepricing/catalog/BillingPeriod", "getCount", "()I"⟩ : MethodName)) (W := 0) (argsL := []) (rest := []) rfl (ct6 l Z a0 hw hE b74 c7 h21 hOc Fc_b74) (hw _ (List.mem_of_getElem? (i := 38) rfl)) (hw _ (List.mem_of_getElem? (i := 39) rfl)) (hw _ (List.mem_of_getElem? (i := 41) rfl)) (hw _ (List.mem_of_getElem? (i := 40) rfl)) (hw _ (List.mem_of_getElem? (i := 42) rfl)) (hw _ (List.mem_of_getElem? (i := 12) rfl)) (fun s hZ => nf_sel rfl (hw _ (List.mem_of_getElem? (i := 41) rfl)) s hZ rfl) E_b74 (by decide) (lenOf pd___I rfl) at_122 rfl rfl rfl (Nat.le_of_eq rfl) (pc' := 125) rfl nofun nofun (by decide) (by decide) (k' := 6) (n' := 44) rfl rfl (by decide) (by decide) (fun vh23 h23 zh23 Kh23 qh23 => ?_)
        obtain rfl := qh23
        replace E_b65 := E_b65.keep Kh23
        replace Fc_b65 := Fc_b65.keep Kh23 nin0
        replace Fu_b65 := Fu_b65.keep Kh23 nin0
        replace E_b74 := E_b74.keep Kh23
        replace Fc_b74 := Fc_b74.keep Kh23 nin0
        replace Fu_b74 := Fu_b74.keep Kh23 nin0
        refine Wp.eqS (S' := [(.int c7)]) rfl ?_
        refine Wp.iload at_125 (pc' := 127) rfl rfl ?_
        refine Wp.icmp_ne (pc1 := 156) (pc' := 130) at_127 (by decide) (by decide) rfl (fun hc24 => by exact absurd rfl hc24) (fun hc24 => ?_)
        refine Wp.aload at_130 (pc' := 132) rfl rfl rfl ?_
        refine Wp.old fun hOc => ?_
        refine Wp.callV (a := b74) (x' := (⟨"com/example/package_pricing/packagepricing/catalog/BillingPeriod", "getUnit", "()Lcom/example/package_pricing/packagepricing/catalog/BillingPeriod$Unit;"⟩ : MethodName)) (W := 0) (argsL := []) (rest := []) rfl (ct7 l Z a0 hw hE b74 u56 h23 hOc Fu_b74) (hw _ (List.mem_of_getElem? (i := 43) rfl)) (hw _ (List.mem_of_getElem? (i := 44) rfl)) (hw _ (List.mem_of_getElem? (i := 46) rfl)) (hw _ (List.mem_of_getElem? (i := 45) rfl)) (hw _ (List.mem_of_getElem? (i := 47) rfl)) (hw _ (List.mem_of_getElem? (i := 12) rfl)) (fun s hZ => nf_sel rfl (hw _ (List.mem_of_getElem? (i := 46) rfl)) s hZ rfl) E_b74 (by decide) (lenOf pd___Lcom_example_package_pricing_packagepricing_catalog_BillingPeriod_Unit_ rfl) at_132 rfl rfl rfl (Nat.le_of_eq rfl) (pc' := 135) rfl nofun nofun (by decide) (by decide) (k' := 6) (n' := 44) rfl rfl (by decide) (by decide) (fun vh25 h25 zh25 Kh25 qh25 => ?_)
        obtain rfl := qh25
        replace E_b65 := E_b65.keep Kh25
        replace Fc_b65 := Fc_b65.keep Kh25 nin0
        replace Fu_b65 := Fu_b65.keep Kh25 nin0
        replace E_b74 := E_b74.keep Kh25
        replace Fc_b74 := Fc_b74.keep Kh25 nin0
        replace Fu_b74 := Fu_b74.keep Kh25 nin0
        refine Wp.eqS (S' := [(.ref u56)]) rfl ?_
        refine Wp.aload at_135 (pc' := 137) rfl rfl rfl ?_
        refine Wp.acmp_ne (pc1 := 156) (pc' := 140) rfl rfl at_137 (by decide) (by decide) rfl (fun hc26 => by exact absurd rfl hc26) (fun hc26 => ?_)
        refine Wp.aload at_140 (pc' := 142) rfl rfl rfl ?_
        refine Wp.aload at_142 (pc' := 144) rfl rfl rfl ?_
        refine Wp.old fun hOc => ?_
        refine Wp.callV (a := b65) (x' := (⟨"com/example/package_pricing/packagepricing/catalog/BillingPeriod", "equals", "(Ljava/lang/Object;)Z"⟩ : MethodName)) (W := 0) (argsL := [(.ref b74)]) (rest := []) rfl (ct8 l Z a0 hw hE b65 b74 c4 c7 u13 u56 h25 hOc E_b74 Fc_b65 Fu_b65 Fc_b74 Fu_b74) (hw _ (List.mem_of_getElem? (i := 48) rfl)) (hw _ (List.mem_of_getElem? (i := 49) rfl)) (hw _ (List.mem_of_getElem? (i := 51) rfl)) (hw _ (List.mem_of_getElem? (i := 50) rfl)) (hw _ (List.mem_of_getElem? (i := 52) rfl)) (hw _ (List.mem_of_getElem? (i := 12) rfl)) (fun s hZ => nf_sel rfl (hw _ (List.mem_of_getElem? (i := 51) rfl)) s hZ rfl) E_b65 (by decide) (lenOf pd__Ljava_lang_Object__Z rfl) at_144 rfl rfl rfl (Nat.le_of_eq rfl) (pc' := 147) rfl nofun nofun (by decide) (by decide) (k' := 6) (n' := 44) rfl rfl (by decide) (by decide) (fun vh27 h27 zh27 Kh27 qh27 => ?_)
        obtain rfl : vh27 = some (.int (0 : Int32)) := by simpa [hc7, hc18, hc18a, hc20, hc22, hc24] using qh27
        replace E_b65 := E_b65.keep Kh27
        replace Fc_b65 := Fc_b65.keep Kh27 nin0
        replace Fu_b65 := Fu_b65.keep Kh27 nin0
        replace E_b74 := E_b74.keep Kh27
        replace Fc_b74 := Fc_b74.keep Kh27 nin0
        replace Fu_b74 := Fu_b74.keep Kh27 nin0
        refine Wp.eqS (S' := [(.int (0 : Int32))]) rfl ?_
        refine Wp.iload at_147 (pc' := 149) rfl rfl ?_
        refine Wp.icmp_ne (pc1 := 156) (pc' := 152) at_149 (by decide) (by decide) rfl (fun hc28 => by exact absurd hc28 (by decide)) (fun hc28 => ?_)
        refine Wp.iconst (x := (1 : Int32)) at_152 (pc' := 153) rfl rfl ?_
        refine Wp.goto (pc' := 157) at_153 (by decide) (by decide) ?_
        refine Wp.retN (x' := (1 : Int32)) (t := .boolean) rfl (by simp) rfl at_157 (by decide) (by decide) ?_
        rfl
      · have hc18 : (Value.ref u13) = (Value.ref u56) := hc18
        have hc18a : u13 = u56 := Value.ref.inj hc18
        refine Wp.iconst (x := (1 : Int32)) at_93 (pc' := 94) rfl rfl ?_
        refine Wp.goto (pc' := 98) at_94 (by decide) (by decide) ?_
        refine Wp.istore (l' := #[.val (.int p1), .val (.int p2), .val (.int p3), .val (.int p4), .val (.int c4), .val (.ref u13), .val (.int (0 : Int32)), .val (.int c7), .val (.ref u56), .val (.ref b65), .val (.ref b74), .val (.int (1 : Int32))]) at_98 (pc' := 100) rfl rfl ?_
        refine Wp.aload at_100 (pc' := 102) rfl rfl rfl ?_
        refine Wp.old fun hOc => ?_
        refine Wp.callV (a := b65) (x' := (⟨"com/example/package_pricing/packagepricing/catalog/BillingPeriod", "getCount", "()I"⟩ : MethodName)) (W := 0) (argsL := []) (rest := []) rfl (ct6 l Z a0 hw hE b65 c4 h6 hOc Fc_b65) (hw _ (List.mem_of_getElem? (i := 38) rfl)) (hw _ (List.mem_of_getElem? (i := 39) rfl)) (hw _ (List.mem_of_getElem? (i := 41) rfl)) (hw _ (List.mem_of_getElem? (i := 40) rfl)) (hw _ (List.mem_of_getElem? (i := 42) rfl)) (hw _ (List.mem_of_getElem? (i := 12) rfl)) (fun s hZ => nf_sel rfl (hw _ (List.mem_of_getElem? (i := 41) rfl)) s hZ rfl) E_b65 (by decide) (lenOf pd___I rfl) at_102 rfl rfl rfl (Nat.le_of_eq rfl) (pc' := 105) rfl nofun nofun (by decide) (by decide) (k' := 6) (n' := 44) rfl rfl (by decide) (by decide) (fun vh29 h29 zh29 Kh29 qh29 => ?_)
        obtain rfl := qh29
        replace E_b65 := E_b65.keep Kh29
        replace Fc_b65 := Fc_b65.keep Kh29 nin0
        replace Fu_b65 := Fu_b65.keep Kh29 nin0
        replace E_b74 := E_b74.keep Kh29
        replace Fc_b74 := Fc_b74.keep Kh29 nin0
        replace Fu_b74 := Fu_b74.keep Kh29 nin0
        refine Wp.eqS (S' := [(.int c4)]) rfl ?_
        refine Wp.iload at_105 (pc' := 107) rfl rfl ?_
        refine Wp.icmp_ne (pc1 := 156) (pc' := 110) at_107 (by decide) (by decide) rfl (fun hc30 => by exact absurd rfl hc30) (fun hc30 => ?_)
        refine Wp.aload at_110 (pc' := 112) rfl rfl rfl ?_
        refine Wp.old fun hOc => ?_
        refine Wp.callV (a := b65) (x' := (⟨"com/example/package_pricing/packagepricing/catalog/BillingPeriod", "getUnit", "()Lcom/example/package_pricing/packagepricing/catalog/BillingPeriod$Unit;"⟩ : MethodName)) (W := 0) (argsL := []) (rest := []) rfl (ct7 l Z a0 hw hE b65 u13 h29 hOc Fu_b65) (hw _ (List.mem_of_getElem? (i := 43) rfl)) (hw _ (List.mem_of_getElem? (i := 44) rfl)) (hw _ (List.mem_of_getElem? (i := 46) rfl)) (hw _ (List.mem_of_getElem? (i := 45) rfl)) (hw _ (List.mem_of_getElem? (i := 47) rfl)) (hw _ (List.mem_of_getElem? (i := 12) rfl)) (fun s hZ => nf_sel rfl (hw _ (List.mem_of_getElem? (i := 46) rfl)) s hZ rfl) E_b65 (by decide) (lenOf pd___Lcom_example_package_pricing_packagepricing_catalog_BillingPeriod_Unit_ rfl) at_112 rfl rfl rfl (Nat.le_of_eq rfl) (pc' := 115) rfl nofun nofun (by decide) (by decide) (k' := 6) (n' := 44) rfl rfl (by decide) (by decide) (fun vh31 h31 zh31 Kh31 qh31 => ?_)
        obtain rfl := qh31
        replace E_b65 := E_b65.keep Kh31
        replace Fc_b65 := Fc_b65.keep Kh31 nin0
        replace Fu_b65 := Fu_b65.keep Kh31 nin0
        replace E_b74 := E_b74.keep Kh31
        replace Fc_b74 := Fc_b74.keep Kh31 nin0
        replace Fu_b74 := Fu_b74.keep Kh31 nin0
        refine Wp.eqS (S' := [(.ref u13)]) rfl ?_
        refine Wp.aload at_115 (pc' := 117) rfl rfl rfl ?_
        refine Wp.acmp_ne (pc1 := 156) (pc' := 120) rfl rfl at_117 (by decide) (by decide) rfl (fun hc32 => by exact absurd rfl hc32) (fun hc32 => ?_)
        refine Wp.aload at_120 (pc' := 122) rfl rfl rfl ?_
        refine Wp.old fun hOc => ?_
        refine Wp.callV (a := b74) (x' := (⟨"com/example/package_pricing/packagepricing/catalog/BillingPeriod", "getCount", "()I"⟩ : MethodName)) (W := 0) (argsL := []) (rest := []) rfl (ct6 l Z a0 hw hE b74 c7 h31 hOc Fc_b74) (hw _ (List.mem_of_getElem? (i := 38) rfl)) (hw _ (List.mem_of_getElem? (i := 39) rfl)) (hw _ (List.mem_of_getElem? (i := 41) rfl)) (hw _ (List.mem_of_getElem? (i := 40) rfl)) (hw _ (List.mem_of_getElem? (i := 42) rfl)) (hw _ (List.mem_of_getElem? (i := 12) rfl)) (fun s hZ => nf_sel rfl (hw _ (List.mem_of_getElem? (i := 41) rfl)) s hZ rfl) E_b74 (by decide) (lenOf pd___I rfl) at_122 rfl rfl rfl (Nat.le_of_eq rfl) (pc' := 125) rfl nofun nofun (by decide) (by decide) (k' := 6) (n' := 44) rfl rfl (by decide) (by decide) (fun vh33 h33 zh33 Kh33 qh33 => ?_)
        obtain rfl := qh33
        replace E_b65 := E_b65.keep Kh33
        replace Fc_b65 := Fc_b65.keep Kh33 nin0
        replace Fu_b65 := Fu_b65.keep Kh33 nin0
        replace E_b74 := E_b74.keep Kh33
        replace Fc_b74 := Fc_b74.keep Kh33 nin0
        replace Fu_b74 := Fu_b74.keep Kh33 nin0
        refine Wp.eqS (S' := [(.int c7)]) rfl ?_
        refine Wp.iload at_125 (pc' := 127) rfl rfl ?_
        refine Wp.icmp_ne (pc1 := 156) (pc' := 130) at_127 (by decide) (by decide) rfl (fun hc34 => by exact absurd rfl hc34) (fun hc34 => ?_)
        refine Wp.aload at_130 (pc' := 132) rfl rfl rfl ?_
        refine Wp.old fun hOc => ?_
        refine Wp.callV (a := b74) (x' := (⟨"com/example/package_pricing/packagepricing/catalog/BillingPeriod", "getUnit", "()Lcom/example/package_pricing/packagepricing/catalog/BillingPeriod$Unit;"⟩ : MethodName)) (W := 0) (argsL := []) (rest := []) rfl (ct7 l Z a0 hw hE b74 u56 h33 hOc Fu_b74) (hw _ (List.mem_of_getElem? (i := 43) rfl)) (hw _ (List.mem_of_getElem? (i := 44) rfl)) (hw _ (List.mem_of_getElem? (i := 46) rfl)) (hw _ (List.mem_of_getElem? (i := 45) rfl)) (hw _ (List.mem_of_getElem? (i := 47) rfl)) (hw _ (List.mem_of_getElem? (i := 12) rfl)) (fun s hZ => nf_sel rfl (hw _ (List.mem_of_getElem? (i := 46) rfl)) s hZ rfl) E_b74 (by decide) (lenOf pd___Lcom_example_package_pricing_packagepricing_catalog_BillingPeriod_Unit_ rfl) at_132 rfl rfl rfl (Nat.le_of_eq rfl) (pc' := 135) rfl nofun nofun (by decide) (by decide) (k' := 6) (n' := 44) rfl rfl (by decide) (by decide) (fun vh35 h35 zh35 Kh35 qh35 => ?_)
        obtain rfl := qh35
        replace E_b65 := E_b65.keep Kh35
        replace Fc_b65 := Fc_b65.keep Kh35 nin0
        replace Fu_b65 := Fu_b65.keep Kh35 nin0
        replace E_b74 := E_b74.keep Kh35
        replace Fc_b74 := Fc_b74.keep Kh35 nin0
        replace Fu_b74 := Fu_b74.keep Kh35 nin0
        refine Wp.eqS (S' := [(.ref u56)]) rfl ?_
        refine Wp.aload at_135 (pc' := 137) rfl rfl rfl ?_
        refine Wp.acmp_ne (pc1 := 156) (pc' := 140) rfl rfl at_137 (by decide) (by decide) rfl (fun hc36 => by exact absurd rfl hc36) (fun hc36 => ?_)
        refine Wp.aload at_140 (pc' := 142) rfl rfl rfl ?_
        refine Wp.aload at_142 (pc' := 144) rfl rfl rfl ?_
        refine Wp.old fun hOc => ?_
        refine Wp.callV (a := b65) (x' := (⟨"com/example/package_pricing/packagepricing/catalog/BillingPeriod", "equals", "(Ljava/lang/Object;)Z"⟩ : MethodName)) (W := 0) (argsL := [(.ref b74)]) (rest := []) rfl (ct8 l Z a0 hw hE b65 b74 c4 c7 u13 u56 h35 hOc E_b74 Fc_b65 Fu_b65 Fc_b74 Fu_b74) (hw _ (List.mem_of_getElem? (i := 48) rfl)) (hw _ (List.mem_of_getElem? (i := 49) rfl)) (hw _ (List.mem_of_getElem? (i := 51) rfl)) (hw _ (List.mem_of_getElem? (i := 50) rfl)) (hw _ (List.mem_of_getElem? (i := 52) rfl)) (hw _ (List.mem_of_getElem? (i := 12) rfl)) (fun s hZ => nf_sel rfl (hw _ (List.mem_of_getElem? (i := 51) rfl)) s hZ rfl) E_b65 (by decide) (lenOf pd__Ljava_lang_Object__Z rfl) at_144 rfl rfl rfl (Nat.le_of_eq rfl) (pc' := 147) rfl nofun nofun (by decide) (by decide) (k' := 6) (n' := 44) rfl rfl (by decide) (by decide) (fun vh37 h37 zh37 Kh37 qh37 => ?_)
        obtain rfl : vh37 = some (.int (1 : Int32)) := by simpa [hc7, hc18, hc18a, hc30, hc32, hc34] using qh37
        replace E_b65 := E_b65.keep Kh37
        replace Fc_b65 := Fc_b65.keep Kh37 nin0
        replace Fu_b65 := Fu_b65.keep Kh37 nin0
        replace E_b74 := E_b74.keep Kh37
        replace Fc_b74 := Fc_b74.keep Kh37 nin0
        replace Fu_b74 := Fu_b74.keep Kh37 nin0
        refine Wp.eqS (S' := [(.int (1 : Int32))]) rfl ?_
        refine Wp.iload at_147 (pc' := 149) rfl rfl ?_
        refine Wp.icmp_ne (pc1 := 156) (pc' := 152) at_149 (by decide) (by decide) rfl (fun hc38 => by exact absurd hc38 (by decide)) (fun hc38 => ?_)
        refine Wp.iconst (x := (1 : Int32)) at_152 (pc' := 153) rfl rfl ?_
        refine Wp.goto (pc' := 157) at_153 (by decide) (by decide) ?_
        refine Wp.retN (x' := (1 : Int32)) (t := .boolean) rfl (by simp) rfl at_157 (by decide) (by decide) ?_
        rfl
  · have hc2 : ¬ (((p4 >>> ((2 : Int32) &&& 31)) &&& (1 : Int32)) = (0 : Int32)) := hc2
    refine Wp.iconst (x := (1 : Int32)) at_26 (pc' := 27) rfl rfl ?_
    refine Wp.goto (pc' := 31) at_27 (by decide) (by decide) ?_
    refine Wp.istore (l' := #[.val (.int p1), .val (.int p2), .val (.int p3), .val (.int p4), .val (.int c4), .val (.ref u13), .val (.int (1 : Int32)), .unset, .unset, .unset, .unset, .unset]) at_31 (pc' := 33) rfl rfl ?_
    refine Wp.iload at_33 (pc' := 35) rfl rfl ?_
    refine Wp.if_eq (pc1 := 43) (pc' := 38) at_35 (by decide) (by decide) rfl (fun hc39 => by exact absurd hc39 (by decide)) (fun hc39 => ?_)
    refine Wp.iload at_38 (pc' := 40) rfl rfl ?_
    refine Wp.goto (pc' := 53) at_40 (by decide) (by decide) ?_
    refine Wp.istore (l' := #[.val (.int p1), .val (.int p2), .val (.int p3), .val (.int p4), .val (.int c4), .val (.ref u13), .val (.int (1 : Int32)), .val (.int c4), .unset, .unset, .unset, .unset]) at_53 (pc' := 55) rfl rfl ?_
    refine Wp.iloadN at_55 (pc' := 56) rfl rfl ?_
    refine Wp.old fun hOc => ?_
    refine Wp.callS (W := 0) (argsL := [(.int p4)]) (rest := []) rfl (ct1 l Z a0 hw hE p4 w_DAY w_WEEK w_MONTH w_YEAR h1 hOc S_DAY S_WEEK S_MONTH S_YEAR) (hw _ (List.mem_of_getElem? (i := 1) rfl)) (hw _ (List.mem_of_getElem? (i := 2) rfl)) (hw _ (List.mem_of_getElem? (i := 4) rfl)) (hw _ (List.mem_of_getElem? (i := 3) rfl)) (by decide) (lenOf pd__I_Lcom_example_package_pricing_packagepricing_catalog_BillingPeriod_Unit_ rfl) at_56 rfl rfl rfl (Nat.le_of_eq rfl) (pc' := 59) rfl nofun nofun (by decide) (by decide) (k' := 0) (n' := 0) rfl rfl (by decide) (by decide) (fun vh40 h40 zh40 Kh40 qh40 => ?_)
    obtain ⟨u56, rfl⟩ := qh40
    refine Wp.eqS (S' := [(.ref u56)]) rfl ?_
    refine Wp.astore (l' := #[.val (.int p1), .val (.int p2), .val (.int p3), .val (.int p4), .val (.int c4), .val (.ref u13), .val (.int (1 : Int32)), .val (.int c4), .val (.ref u56), .unset, .unset, .unset]) at_59 (pc' := 61) rfl rfl rfl ?_
    refine Wp.iload at_61 (pc' := 63) rfl rfl ?_
    refine Wp.aload at_63 (pc' := 65) rfl rfl rfl ?_
    refine Wp.old fun hOc => ?_
    refine Wp.callS (W := 0) (argsL := [(.int c4), (.ref u13)]) (rest := []) rfl (ct2 l Z a0 hw hE c4 u13 h40 hOc r_c4.1 r_c4.2) (hw _ (List.mem_of_getElem? (i := 10) rfl)) (hw _ (List.mem_of_getElem? (i := 11) rfl)) (hw _ (List.mem_of_getElem? (i := 13) rfl)) (hw _ (List.mem_of_getElem? (i := 12) rfl)) (by decide) (lenOf pd__ILcom_example_package_pricing_packagepricing_catalog_BillingPeriod_Unit__Lcom_example_package_pricing_packagepricing_catalog_BillingPeriod_ rfl) at_65 rfl rfl rfl (Nat.le_of_eq rfl) (pc' := 68) rfl nofun nofun (by decide) (by decide) (k' := 3) (n' := 22) rfl rfl (by decide) (by decide) (fun vh41 h41 zh41 Kh41 qh41 => ?_)
    obtain ⟨b65, rfl, sb_b65, E_b65, Fc_b65, Fu_b65⟩ := qh41
    refine Wp.eqS (S' := [(.ref b65)]) rfl ?_
    have sz_b65 : h0.size ≤ b65 := Nat.le_trans zh41 sb_b65
    refine Wp.astore (l' := #[.val (.int p1), .val (.int p2), .val (.int p3), .val (.int p4), .val (.int c4), .val (.ref u13), .val (.int (1 : Int32)), .val (.int c4), .val (.ref u56), .val (.ref b65), .unset, .unset]) at_68 (pc' := 70) rfl rfl rfl ?_
    refine Wp.iload at_70 (pc' := 72) rfl rfl ?_
    refine Wp.aload at_72 (pc' := 74) rfl rfl rfl ?_
    refine Wp.old fun hOc => ?_
    refine Wp.callS (W := 0) (argsL := [(.int c4), (.ref u56)]) (rest := []) rfl (ct2 l Z a0 hw hE c4 u56 h41 hOc r_c4.1 r_c4.2) (hw _ (List.mem_of_getElem? (i := 10) rfl)) (hw _ (List.mem_of_getElem? (i := 11) rfl)) (hw _ (List.mem_of_getElem? (i := 13) rfl)) (hw _ (List.mem_of_getElem? (i := 12) rfl)) (by decide) (lenOf pd__ILcom_example_package_pricing_packagepricing_catalog_BillingPeriod_Unit__Lcom_example_package_pricing_packagepricing_catalog_BillingPeriod_ rfl) at_74 rfl rfl rfl (Nat.le_of_eq rfl) (pc' := 77) rfl nofun nofun (by decide) (by decide) (k' := 6) (n' := 44) rfl rfl (by decide) (by decide) (fun vh42 h42 zh42 Kh42 qh42 => ?_)
    obtain ⟨b74, rfl, sb_b74, E_b74, Fc_b74, Fu_b74⟩ := qh42
    have ne_b65_b74 : b65 ≠ b74 := Nat.ne_of_lt (Nat.lt_of_lt_of_le E_b65.lt sb_b74)
    replace E_b65 := E_b65.keep Kh42
    replace Fc_b65 := Fc_b65.keep Kh42 nin0
    replace Fu_b65 := Fu_b65.keep Kh42 nin0
    refine Wp.eqS (S' := [(.ref b74)]) rfl ?_
    have sz_b74 : h0.size ≤ b74 := Nat.le_trans zh42 sb_b74
    refine Wp.astore (l' := #[.val (.int p1), .val (.int p2), .val (.int p3), .val (.int p4), .val (.int c4), .val (.ref u13), .val (.int (1 : Int32)), .val (.int c4), .val (.ref u56), .val (.ref b65), .val (.ref b74), .unset]) at_77 (pc' := 79) rfl rfl rfl ?_
    refine Wp.iload at_79 (pc' := 81) rfl rfl ?_
    refine Wp.iload at_81 (pc' := 83) rfl rfl ?_
    refine Wp.icmp_ne (pc1 := 97) (pc' := 86) at_83 (by decide) (by decide) rfl (fun hc43 => by exact absurd rfl hc43) (fun hc43 => ?_)
    refine Wp.aload at_86 (pc' := 88) rfl rfl rfl ?_
    refine Wp.aload at_88 (pc' := 90) rfl rfl rfl ?_
    refine Wp.acmp_ne (pc1 := 97) (pc' := 93) rfl rfl at_90 (by decide) (by decide) rfl (fun hc44 => ?_) (fun hc44 => ?_)
    · have hc44 : ¬ ((Value.ref u13) = (Value.ref u56)) := hc44
      have hc44a : ¬ u13 = u56 := fun e => hc44 (congrArg Value.ref e)
      refine Wp.iconst (x := (0 : Int32)) at_97 (pc' := 98) rfl rfl ?_
      refine Wp.istore (l' := #[.val (.int p1), .val (.int p2), .val (.int p3), .val (.int p4), .val (.int c4), .val (.ref u13), .val (.int (1 : Int32)), .val (.int c4), .val (.ref u56), .val (.ref b65), .val (.ref b74), .val (.int (0 : Int32))]) at_98 (pc' := 100) rfl rfl ?_
      refine Wp.aload at_100 (pc' := 102) rfl rfl rfl ?_
      refine Wp.old fun hOc => ?_
      refine Wp.callV (a := b65) (x' := (⟨"com/example/package_pricing/packagepricing/catalog/BillingPeriod", "getCount", "()I"⟩ : MethodName)) (W := 0) (argsL := []) (rest := []) rfl (ct6 l Z a0 hw hE b65 c4 h42 hOc Fc_b65) (hw _ (List.mem_of_getElem? (i := 38) rfl)) (hw _ (List.mem_of_getElem? (i := 39) rfl)) (hw _ (List.mem_of_getElem? (i := 41) rfl)) (hw _ (List.mem_of_getElem? (i := 40) rfl)) (hw _ (List.mem_of_getElem? (i := 42) rfl)) (hw _ (List.mem_of_getElem? (i := 12) rfl)) (fun s hZ => nf_sel rfl (hw _ (List.mem_of_getElem? (i := 41) rfl)) s hZ rfl) E_b65 (by decide) (lenOf pd___I rfl) at_102 rfl rfl rfl (Nat.le_of_eq rfl) (pc' := 105) rfl nofun nofun (by decide) (by decide) (k' := 6) (n' := 44) rfl rfl (by decide) (by decide) (fun vh45 h45 zh45 Kh45 qh45 => ?_)
      obtain rfl := qh45
      replace E_b65 := E_b65.keep Kh45
      replace Fc_b65 := Fc_b65.keep Kh45 nin0
      replace Fu_b65 := Fu_b65.keep Kh45 nin0
      replace E_b74 := E_b74.keep Kh45
      replace Fc_b74 := Fc_b74.keep Kh45 nin0
      replace Fu_b74 := Fu_b74.keep Kh45 nin0
      refine Wp.eqS (S' := [(.int c4)]) rfl ?_
      refine Wp.iload at_105 (pc' := 107) rfl rfl ?_
      refine Wp.icmp_ne (pc1 := 156) (pc' := 110) at_107 (by decide) (by decide) rfl (fun hc46 => by exact absurd rfl hc46) (fun hc46 => ?_)
      refine Wp.aload at_110 (pc' := 112) rfl rfl rfl ?_
      refine Wp.old fun hOc => ?_
      refine Wp.callV (a := b65) (x' := (⟨"com/example/package_pricing/packagepricing/catalog/BillingPeriod", "getUnit", "()Lcom/example/package_pricing/packagepricing/catalog/BillingPeriod$Unit;"⟩ : MethodName)) (W := 0) (argsL := []) (rest := []) rfl (ct7 l Z a0 hw hE b65 u13 h45 hOc Fu_b65) (hw _ (List.mem_of_getElem? (i := 43) rfl)) (hw _ (List.mem_of_getElem? (i := 44) rfl)) (hw _ (List.mem_of_getElem? (i := 46) rfl)) (hw _ (List.mem_of_getElem? (i := 45) rfl)) (hw _ (List.mem_of_getElem? (i := 47) rfl)) (hw _ (List.mem_of_getElem? (i := 12) rfl)) (fun s hZ => nf_sel rfl (hw _ (List.mem_of_getElem? (i := 46) rfl)) s hZ rfl) E_b65 (by decide) (lenOf pd___Lcom_example_package_pricing_packagepricing_catalog_BillingPeriod_Unit_ rfl) at_112 rfl rfl rfl (Nat.le_of_eq rfl) (pc' := 115) rfl nofun nofun (by decide) (by decide) (k' := 6) (n' := 44) rfl rfl (by decide) (by decide) (fun vh47 h47 zh47 Kh47 qh47 => ?_)
      obtain rfl := qh47
      replace E_b65 := E_b65.keep Kh47
      replace Fc_b65 := Fc_b65.keep Kh47 nin0
      replace Fu_b65 := Fu_b65.keep Kh47 nin0
      replace E_b74 := E_b74.keep Kh47
      replace Fc_b74 := Fc_b74.keep Kh47 nin0
      replace Fu_b74 := Fu_b74.keep Kh47 nin0
      refine Wp.eqS (S' := [(.ref u13)]) rfl ?_
      refine Wp.aload at_115 (pc' := 117) rfl rfl rfl ?_
      refine Wp.acmp_ne (pc1 := 156) (pc' := 120) rfl rfl at_117 (by decide) (by decide) rfl (fun hc48 => by exact absurd rfl hc48) (fun hc48 => ?_)
      refine Wp.aload at_120 (pc' := 122) rfl rfl rfl ?_
      refine Wp.old fun hOc => ?_
      refine Wp.callV (a := b74) (x' := (⟨"com/example/package_pricing/packagepricing/catalog/BillingPeriod", "getCount", "()I"⟩ : MethodName)) (W := 0) (argsL := []) (rest := []) rfl (ct6 l Z a0 hw hE b74 c4 h47 hOc Fc_b74) (hw _ (List.mem_of_getElem? (i := 38) rfl)) (hw _ (List.mem_of_getElem? (i := 39) rfl)) (hw _ (List.mem_of_getElem? (i := 41) rfl)) (hw _ (List.mem_of_getElem? (i := 40) rfl)) (hw _ (List.mem_of_getElem? (i := 42) rfl)) (hw _ (List.mem_of_getElem? (i := 12) rfl)) (fun s hZ => nf_sel rfl (hw _ (List.mem_of_getElem? (i := 41) rfl)) s hZ rfl) E_b74 (by decide) (lenOf pd___I rfl) at_122 rfl rfl rfl (Nat.le_of_eq rfl) (pc' := 125) rfl nofun nofun (by decide) (by decide) (k' := 6) (n' := 44) rfl rfl (by decide) (by decide) (fun vh49 h49 zh49 Kh49 qh49 => ?_)
      obtain rfl := qh49
      replace E_b65 := E_b65.keep Kh49
      replace Fc_b65 := Fc_b65.keep Kh49 nin0
      replace Fu_b65 := Fu_b65.keep Kh49 nin0
      replace E_b74 := E_b74.keep Kh49
      replace Fc_b74 := Fc_b74.keep Kh49 nin0
      replace Fu_b74 := Fu_b74.keep Kh49 nin0
      refine Wp.eqS (S' := [(.int c4)]) rfl ?_
      refine Wp.iload at_125 (pc' := 127) rfl rfl ?_
      refine Wp.icmp_ne (pc1 := 156) (pc' := 130) at_127 (by decide) (by decide) rfl (fun hc50 => by exact absurd rfl hc50) (fun hc50 => ?_)
      refine Wp.aload at_130 (pc' := 132) rfl rfl rfl ?_
      refine Wp.old fun hOc => ?_
      refine Wp.callV (a := b74) (x' := (⟨"com/example/package_pricing/packagepricing/catalog/BillingPeriod", "getUnit", "()Lcom/example/package_pricing/packagepricing/catalog/BillingPeriod$Unit;"⟩ : MethodName)) (W := 0) (argsL := []) (rest := []) rfl (ct7 l Z a0 hw hE b74 u56 h49 hOc Fu_b74) (hw _ (List.mem_of_getElem? (i := 43) rfl)) (hw _ (List.mem_of_getElem? (i := 44) rfl)) (hw _ (List.mem_of_getElem? (i := 46) rfl)) (hw _ (List.mem_of_getElem? (i := 45) rfl)) (hw _ (List.mem_of_getElem? (i := 47) rfl)) (hw _ (List.mem_of_getElem? (i := 12) rfl)) (fun s hZ => nf_sel rfl (hw _ (List.mem_of_getElem? (i := 46) rfl)) s hZ rfl) E_b74 (by decide) (lenOf pd___Lcom_example_package_pricing_packagepricing_catalog_BillingPeriod_Unit_ rfl) at_132 rfl rfl rfl (Nat.le_of_eq rfl) (pc' := 135) rfl nofun nofun (by decide) (by decide) (k' := 6) (n' := 44) rfl rfl (by decide) (by decide) (fun vh51 h51 zh51 Kh51 qh51 => ?_)
      obtain rfl := qh51
      replace E_b65 := E_b65.keep Kh51
      replace Fc_b65 := Fc_b65.keep Kh51 nin0
      replace Fu_b65 := Fu_b65.keep Kh51 nin0
      replace E_b74 := E_b74.keep Kh51
      replace Fc_b74 := Fc_b74.keep Kh51 nin0
      replace Fu_b74 := Fu_b74.keep Kh51 nin0
      refine Wp.eqS (S' := [(.ref u56)]) rfl ?_
      refine Wp.aload at_135 (pc' := 137) rfl rfl rfl ?_
      refine Wp.acmp_ne (pc1 := 156) (pc' := 140) rfl rfl at_137 (by decide) (by decide) rfl (fun hc52 => by exact absurd rfl hc52) (fun hc52 => ?_)
      refine Wp.aload at_140 (pc' := 142) rfl rfl rfl ?_
      refine Wp.aload at_142 (pc' := 144) rfl rfl rfl ?_
      refine Wp.old fun hOc => ?_
      refine Wp.callV (a := b65) (x' := (⟨"com/example/package_pricing/packagepricing/catalog/BillingPeriod", "equals", "(Ljava/lang/Object;)Z"⟩ : MethodName)) (W := 0) (argsL := [(.ref b74)]) (rest := []) rfl (ct8 l Z a0 hw hE b65 b74 c4 c4 u13 u56 h51 hOc E_b74 Fc_b65 Fu_b65 Fc_b74 Fu_b74) (hw _ (List.mem_of_getElem? (i := 48) rfl)) (hw _ (List.mem_of_getElem? (i := 49) rfl)) (hw _ (List.mem_of_getElem? (i := 51) rfl)) (hw _ (List.mem_of_getElem? (i := 50) rfl)) (hw _ (List.mem_of_getElem? (i := 52) rfl)) (hw _ (List.mem_of_getElem? (i := 12) rfl)) (fun s hZ => nf_sel rfl (hw _ (List.mem_of_getElem? (i := 51) rfl)) s hZ rfl) E_b65 (by decide) (lenOf pd__Ljava_lang_Object__Z rfl) at_144 rfl rfl rfl (Nat.le_of_eq rfl) (pc' := 147) rfl nofun nofun (by decide) (by decide) (k' := 6) (n' := 44) rfl rfl (by decide) (by decide) (fun vh53 h53 zh53 Kh53 qh53 => ?_)
      obtain rfl : vh53 = some (.int (0 : Int32)) := by simpa [hc43, hc44, hc44a, hc46, hc48, hc50] using qh53
      replace E_b65 := E_b65.keep Kh53
      replace Fc_b65 := Fc_b65.keep Kh53 nin0
      replace Fu_b65 := Fu_b65.keep Kh53 nin0
      replace E_b74 := E_b74.keep Kh53
      replace Fc_b74 := Fc_b74.keep Kh53 nin0
      replace Fu_b74 := Fu_b74.keep Kh53 nin0
      refine Wp.eqS (S' := [(.int (0 : Int32))]) rfl ?_
      refine Wp.iload at_147 (pc' := 149) rfl rfl ?_
      refine Wp.icmp_ne (pc1 := 156) (pc' := 152) at_149 (by decide) (by decide) rfl (fun hc54 => by exact absurd hc54 (by decide)) (fun hc54 => ?_)
      refine Wp.iconst (x := (1 : Int32)) at_152 (pc' := 153) rfl rfl ?_
      refine Wp.goto (pc' := 157) at_153 (by decide) (by decide) ?_
      refine Wp.retN (x' := (1 : Int32)) (t := .boolean) rfl (by simp) rfl at_157 (by decide) (by decide) ?_
      rfl
    · have hc44 : (Value.ref u13) = (Value.ref u56) := hc44
      have hc44a : u13 = u56 := Value.ref.inj hc44
      refine Wp.iconst (x := (1 : Int32)) at_93 (pc' := 94) rfl rfl ?_
      refine Wp.goto (pc' := 98) at_94 (by decide) (by decide) ?_
      refine Wp.istore (l' := #[.val (.int p1), .val (.int p2), .val (.int p3), .val (.int p4), .val (.int c4), .val (.ref u13), .val (.int (1 : Int32)), .val (.int c4), .val (.ref u56), .val (.ref b65), .val (.ref b74), .val (.int (1 : Int32))]) at_98 (pc' := 100) rfl rfl ?_
      refine Wp.aload at_100 (pc' := 102) rfl rfl rfl ?_
      refine Wp.old fun hOc => ?_
      refine Wp.callV (a := b65) (x' := (⟨"com/example/package_pricing/packagepricing/catalog/BillingPeriod", "getCount", "()I"⟩ : MethodName)) (W := 0) (argsL := []) (rest := []) rfl (ct6 l Z a0 hw hE b65 c4 h42 hOc Fc_b65) (hw _ (List.mem_of_getElem? (i := 38) rfl)) (hw _ (List.mem_of_getElem? (i := 39) rfl)) (hw _ (List.mem_of_getElem? (i := 41) rfl)) (hw _ (List.mem_of_getElem? (i := 40) rfl)) (hw _ (List.mem_of_getElem? (i := 42) rfl)) (hw _ (List.mem_of_getElem? (i := 12) rfl)) (fun s hZ => nf_sel rfl (hw _ (List.mem_of_getElem? (i := 41) rfl)) s hZ rfl) E_b65 (by decide) (lenOf pd___I rfl) at_102 rfl rfl rfl (Nat.le_of_eq rfl) (pc' := 105) rfl nofun nofun (by decide) (by decide) (k' := 6) (n' := 44) rfl rfl (by decide) (by decide) (fun vh55 h55 zh55 Kh55 qh55 => ?_)
      obtain rfl := qh55
      replace E_b65 := E_b65.keep Kh55
      replace Fc_b65 := Fc_b65.keep Kh55 nin0
      replace Fu_b65 := Fu_b65.keep Kh55 nin0
      replace E_b74 := E_b74.keep Kh55
      replace Fc_b74 := Fc_b74.keep Kh55 nin0
      replace Fu_b74 := Fu_b74.keep Kh55 nin0
      refine Wp.eqS (S' := [(.int c4)]) rfl ?_
      refine Wp.iload at_105 (pc' := 107) rfl rfl ?_
      refine Wp.icmp_ne (pc1 := 156) (pc' := 110) at_107 (by decide) (by decide) rfl (fun hc56 => by exact absurd rfl hc56) (fun hc56 => ?_)
      refine Wp.aload at_110 (pc' := 112) rfl rfl rfl ?_
      refine Wp.old fun hOc => ?_
      refine Wp.callV (a := b65) (x' := (⟨"com/example/package_pricing/packagepricing/catalog/BillingPeriod", "getUnit", "()Lcom/example/package_pricing/packagepricing/catalog/BillingPeriod$Unit;"⟩ : MethodName)) (W := 0) (argsL := []) (rest := []) rfl (ct7 l Z a0 hw hE b65 u13 h55 hOc Fu_b65) (hw _ (List.mem_of_getElem? (i := 43) rfl)) (hw _ (List.mem_of_getElem? (i := 44) rfl)) (hw _ (List.mem_of_getElem? (i := 46) rfl)) (hw _ (List.mem_of_getElem? (i := 45) rfl)) (hw _ (List.mem_of_getElem? (i := 47) rfl)) (hw _ (List.mem_of_getElem? (i := 12) rfl)) (fun s hZ => nf_sel rfl (hw _ (List.mem_of_getElem? (i := 46) rfl)) s hZ rfl) E_b65 (by decide) (lenOf pd___Lcom_example_package_pricing_packagepricing_catalog_BillingPeriod_Unit_ rfl) at_112 rfl rfl rfl (Nat.le_of_eq rfl) (pc' := 115) rfl nofun nofun (by decide) (by decide) (k' := 6) (n' := 44) rfl rfl (by decide) (by decide) (fun vh57 h57 zh57 Kh57 qh57 => ?_)
      obtain rfl := qh57
      replace E_b65 := E_b65.keep Kh57
      replace Fc_b65 := Fc_b65.keep Kh57 nin0
      replace Fu_b65 := Fu_b65.keep Kh57 nin0
      replace E_b74 := E_b74.keep Kh57
      replace Fc_b74 := Fc_b74.keep Kh57 nin0
      replace Fu_b74 := Fu_b74.keep Kh57 nin0
      refine Wp.eqS (S' := [(.ref u13)]) rfl ?_
      refine Wp.aload at_115 (pc' := 117) rfl rfl rfl ?_
      refine Wp.acmp_ne (pc1 := 156) (pc' := 120) rfl rfl at_117 (by decide) (by decide) rfl (fun hc58 => by exact absurd rfl hc58) (fun hc58 => ?_)
      refine Wp.aload at_120 (pc' := 122) rfl rfl rfl ?_
      refine Wp.old fun hOc => ?_
      refine Wp.callV (a := b74) (x' := (⟨"com/example/package_pricing/packagepricing/catalog/BillingPeriod", "getCount", "()I"⟩ : MethodName)) (W := 0) (argsL := []) (rest := []) rfl (ct6 l Z a0 hw hE b74 c4 h57 hOc Fc_b74) (hw _ (List.mem_of_getElem? (i := 38) rfl)) (hw _ (List.mem_of_getElem? (i := 39) rfl)) (hw _ (List.mem_of_getElem? (i := 41) rfl)) (hw _ (List.mem_of_getElem? (i := 40) rfl)) (hw _ (List.mem_of_getElem? (i := 42) rfl)) (hw _ (List.mem_of_getElem? (i := 12) rfl)) (fun s hZ => nf_sel rfl (hw _ (List.mem_of_getElem? (i := 41) rfl)) s hZ rfl) E_b74 (by decide) (lenOf pd___I rfl) at_122 rfl rfl rfl (Nat.le_of_eq rfl) (pc' := 125) rfl nofun nofun (by decide) (by decide) (k' := 6) (n' := 44) rfl rfl (by decide) (by decide) (fun vh59 h59 zh59 Kh59 qh59 => ?_)
      obtain rfl := qh59
      replace E_b65 := E_b65.keep Kh59
      replace Fc_b65 := Fc_b65.keep Kh59 nin0
      replace Fu_b65 := Fu_b65.keep Kh59 nin0
      replace E_b74 := E_b74.keep Kh59
      replace Fc_b74 := Fc_b74.keep Kh59 nin0
      replace Fu_b74 := Fu_b74.keep Kh59 nin0
      refine Wp.eqS (S' := [(.int c4)]) rfl ?_
      refine Wp.iload at_125 (pc' := 127) rfl rfl ?_
      refine Wp.icmp_ne (pc1 := 156) (pc' := 130) at_127 (by decide) (by decide) rfl (fun hc60 => by exact absurd rfl hc60) (fun hc60 => ?_)
      refine Wp.aload at_130 (pc' := 132) rfl rfl rfl ?_
      refine Wp.old fun hOc => ?_
      refine Wp.callV (a := b74) (x' := (⟨"com/example/package_pricing/packagepricing/catalog/BillingPeriod", "getUnit", "()Lcom/example/package_pricing/packagepricing/catalog/BillingPeriod$Unit;"⟩ : MethodName)) (W := 0) (argsL := []) (rest := []) rfl (ct7 l Z a0 hw hE b74 u56 h59 hOc Fu_b74) (hw _ (List.mem_of_getElem? (i := 43) rfl)) (hw _ (List.mem_of_getElem? (i := 44) rfl)) (hw _ (List.mem_of_getElem? (i := 46) rfl)) (hw _ (List.mem_of_getElem? (i := 45) rfl)) (hw _ (List.mem_of_getElem? (i := 47) rfl)) (hw _ (List.mem_of_getElem? (i := 12) rfl)) (fun s hZ => nf_sel rfl (hw _ (List.mem_of_getElem? (i := 46) rfl)) s hZ rfl) E_b74 (by decide) (lenOf pd___Lcom_example_package_pricing_packagepricing_catalog_BillingPeriod_Unit_ rfl) at_132 rfl rfl rfl (Nat.le_of_eq rfl) (pc' := 135) rfl nofun nofun (by decide) (by decide) (k' := 6) (n' := 44) rfl rfl (by decide) (by decide) (fun vh61 h61 zh61 Kh61 qh61 => ?_)
      obtain rfl := qh61
      replace E_b65 := E_b65.keep Kh61
      replace Fc_b65 := Fc_b65.keep Kh61 nin0
      replace Fu_b65 := Fu_b65.keep Kh61 nin0
      replace E_b74 := E_b74.keep Kh61
      replace Fc_b74 := Fc_b74.keep Kh61 nin0
      replace Fu_b74 := Fu_b74.keep Kh61 nin0
      refine Wp.eqS (S' := [(.ref u56)]) rfl ?_
      refine Wp.aload at_135 (pc' := 137) rfl rfl rfl ?_
      refine Wp.acmp_ne (pc1 := 156) (pc' := 140) rfl rfl at_137 (by decide) (by decide) rfl (fun hc62 => by exact absurd rfl hc62) (fun hc62 => ?_)
      refine Wp.aload at_140 (pc' := 142) rfl rfl rfl ?_
      refine Wp.aload at_142 (pc' := 144) rfl rfl rfl ?_
      refine Wp.old fun hOc => ?_
      refine Wp.callV (a := b65) (x' := (⟨"com/example/package_pricing/packagepricing/catalog/BillingPeriod", "equals", "(Ljava/lang/Object;)Z"⟩ : MethodName)) (W := 0) (argsL := [(.ref b74)]) (rest := []) rfl (ct8 l Z a0 hw hE b65 b74 c4 c4 u13 u56 h61 hOc E_b74 Fc_b65 Fu_b65 Fc_b74 Fu_b74) (hw _ (List.mem_of_getElem? (i := 48) rfl)) (hw _ (List.mem_of_getElem? (i := 49) rfl)) (hw _ (List.mem_of_getElem? (i := 51) rfl)) (hw _ (List.mem_of_getElem? (i := 50) rfl)) (hw _ (List.mem_of_getElem? (i := 52) rfl)) (hw _ (List.mem_of_getElem? (i := 12) rfl)) (fun s hZ => nf_sel rfl (hw _ (List.mem_of_getElem? (i := 51) rfl)) s hZ rfl) E_b65 (by decide) (lenOf pd__Ljava_lang_Object__Z rfl) at_144 rfl rfl rfl (Nat.le_of_eq rfl) (pc' := 147) rfl nofun nofun (by decide) (by decide) (k' := 6) (n' := 44) rfl rfl (by decide) (by decide) (fun vh63 h63 zh63 Kh63 qh63 => ?_)
      obtain rfl : vh63 = some (.int (1 : Int32)) := by simpa [hc43, hc44, hc44a, hc56, hc58, hc60] using qh63
      replace E_b65 := E_b65.keep Kh63
      replace Fc_b65 := Fc_b65.keep Kh63 nin0
      replace Fu_b65 := Fu_b65.keep Kh63 nin0
      replace E_b74 := E_b74.keep Kh63
      replace Fc_b74 := Fc_b74.keep Kh63 nin0
      replace Fu_b74 := Fu_b74.keep Kh63 nin0
      refine Wp.eqS (S' := [(.int (1 : Int32))]) rfl ?_
      refine Wp.iload at_147 (pc' := 149) rfl rfl ?_
      refine Wp.icmp_ne (pc1 := 156) (pc' := 152) at_149 (by decide) (by decide) rfl (fun hc64 => by exact absurd hc64 (by decide)) (fun hc64 => ?_)
      refine Wp.iconst (x := (1 : Int32)) at_152 (pc' := 153) rfl rfl ?_
      refine Wp.goto (pc' := 157) at_153 (by decide) (by decide) ?_
      refine Wp.retN (x' := (1 : Int32)) (t := .boolean) rfl (by simp) rfl at_157 (by decide) (by decide) ?_
      rfl
set_option maxRecDepth 65536 in
set_option maxHeartbeats 40000000 in
theorem comes_1 {Post : Tables → Env → Array Value → State → Outcome → State → Prop} (hpost : ∀ tb e args s v u, (limb_1_1.after args s (.returned v) u = true ∧ limb_1_2.after args s (.returned v) u = true ∧ True) → ReturnedEndW s (.returned v) u (Jvm.fieldLocs frame_1_writes args s ++ Jvm.arrayLocs frame_1_arrays args s ++ Jvm.staticLocs frame_1_statics s) 16 1152 → Post tb e args s (.returned v) u) :
    ArmFor flags0 classFile x code maxLocals ret World_1 tables_1 room_1 Calls_1 rest_1 Pre_1 Post := by
  intro l hfl _ _ p e ha hc hk s m args below hf hA hF happ hP
  obtain ⟨hcalls, hrest, hpre⟩ := hP
  obtain ⟨-, -, -, hnamed, -, -, -, hat⟩ := (Spec.applies_iff hf).mp happ
  obtain ⟨hg, hn⟩ := and_e (Cond.before_iff.mp (show (Jvm.Cond.and given_1 narrow_1).before args s = true from hpre))
  obtain ⟨gc, ga0⟩ := and_e hg
  obtain ⟨ga0, ga1⟩ := and_e ga0
  obtain ⟨ga1, ga2⟩ := and_e ga1
  obtain ⟨ga2, ga3⟩ := and_e ga2
  obtain ⟨w0, w1, w2, w3, rfl⟩ : ∃ w0 w1 w2 w3 : Value, args = #[w0, w1, w2, w3] := by
    have hs : args.size = 4 := by simpa [Cond.value, given_1] using gc
    obtain ⟨L⟩ := args
    match L, hs with
    | [w0, w1, w2, w3], _ => exact ⟨w0, w1, w2, w3, rfl⟩
  have hw := fun d (hd : d ∈ tables_1) => atoms_spec (ws := Jvm.Cond.code x code maxLocals ret :: tables_1) hat d (List.mem_cons_of_mem _ hd)
  obtain ⟨i0, ei0⟩ := is_v ga0
  obtain rfl : w0 = (.int i0) := Option.some.inj ei0
  obtain ⟨i1, ei1⟩ := is_v ga1
  obtain rfl : w1 = (.int i1) := Option.some.inj ei1
  obtain ⟨i2, ei2⟩ := is_v ga2
  obtain rfl : w2 = (.int i2) := Option.some.inj ei2
  obtain ⟨i3, ei3⟩ := is_v ga3
  obtain rfl : w3 = (.int i3) := Option.some.inj ei3
  obtain ⟨m0, r0⟩ := and_e hn
  obtain ⟨m1, r1⟩ := and_e r0
  obtain ⟨m2, r2⟩ := and_e r1
  obtain ⟨m3, r3⟩ := and_e r2
  obtain ⟨m4, r4⟩ := and_e r3
  obtain ⟨m5, r5⟩ := and_e r4
  obtain ⟨m6, r6⟩ := and_e r5
  have m7 := r6
  obtain ⟨w_YEAR, e_YEAR⟩ := exa_v m0
  have S_YEAR := Sta.start e_YEAR (Or.inr ⟨(hw _ (List.mem_of_getElem? (i := 6) rfl)), (hw _ (List.mem_of_getElem? (i := 7) rfl))⟩)
  have X_YEAR := Exa.start e_YEAR m0
  obtain ⟨w_WEEK, e_WEEK⟩ := exa_v m1
  have S_WEEK := Sta.start e_WEEK (Or.inr ⟨(hw _ (List.mem_of_getElem? (i := 6) rfl)), (hw _ (List.mem_of_getElem? (i := 9) rfl))⟩)
  have X_WEEK := Exa.start e_WEEK m1
  obtain ⟨w_MONTH, e_MONTH⟩ := exa_v m2
  have S_MONTH := Sta.start e_MONTH (Or.inr ⟨(hw _ (List.mem_of_getElem? (i := 6) rfl)), (hw _ (List.mem_of_getElem? (i := 55) rfl))⟩)
  have X_MONTH := Exa.start e_MONTH m2
  obtain ⟨w_DAY, e_DAY⟩ := exa_v m3
  have S_DAY := Sta.start e_DAY (Or.inr ⟨(hw _ (List.mem_of_getElem? (i := 6) rfl)), (hw _ (List.mem_of_getElem? (i := 57) rfl))⟩)
  have X_DAY := Exa.start e_DAY m3
  have f_WEEK_ordinal := Fld.start ((fld_at e_WEEK).symm.trans (eqv_i (Term.int_eval (1)) m4))
  have f_DAY_ordinal := Fld.start ((fld_at e_DAY).symm.trans (eqv_i (Term.int_eval (0)) m5))
  have f_YEAR_ordinal := Fld.start ((fld_at e_YEAR).symm.trans (eqv_i (Term.int_eval (3)) m6))
  have f_MONTH_ordinal := Fld.start ((fld_at e_MONTH).symm.trans (eqv_i (Term.int_eval (2)) m7))
  obtain ⟨n, o, h1, h2, h3, _, L, rfl, ⟨N, rfl⟩, -, hq⟩ := (ct0 l s _ hw EW.nil i0 i1 i2 i3 w_DAY w_WEEK w_MONTH w_YEAR s.heap ⟨Nat.le_refl _, fun _ _ q => q⟩ S_DAY S_WEEK S_MONTH S_YEAR) p e ha hc hk s m _ below hf ((Spec.applies_iff_loose hf).mp happ).1 ⟨rfl, State.Warmed39.refl s, rfl, (fun p hp => nomatch hp), fun x hx => nomatch hx⟩ trivial
  refine ⟨n, _, h1, h2, h3, hpost _ _ _ _ _ _ ⟨Cond.after_iff.mpr rfl, Cond.after_iff.mpr (eq_i res_at (Term.int_eval (1)) rfl), trivial⟩ ⟨hq.1.1, hq.1.2.1, hq.1.2.2.1, (hq.1.2.2.2.sift fun y hy => Or.inr ((N y hy).resolve_left (fun q => nomatch q))).mono (by decide) (by decide)⟩⟩
theorem main_1_1 : Claimed_1_1 := comes_1 fun _ _ _ _ _ _ h hF => ⟨h.1, hF⟩
theorem main_1_2 : Claimed_1_2 := comes_1 fun _ _ _ _ _ _ h hF => ⟨h.2.1, hF⟩
end Jvm.Pilot.@@N@@
namespace Jvm.Pilot.@@N@@
open Jvm Jvm.ClassFile Sem Op Lib Jvm.Free Jvm.Stand Jvm.Pilot.@@N@@.Jvm.D
/-! MADE BY PROGRAM (witnessworld.py) out of the Statement's table words and the real class files: 17 classes; the members and pool entries that the words name. The judged class is class 1, her method 2. -/
namespace start1
open Jvm.ClassFile
def u (s : String) : CpInfo := .utf8 (stringToUtf16 s)
/-- a pool by its gaps: so many unusable entries, then the entry; so many at the end -/
def gap : Nat → List CpInfo → List CpInfo
  | 0, r => r
  | n + 1, r => .unusable :: gap n r
def poolList (es : List (Nat × CpInfo)) (last : Nat) : List CpInfo := es.foldr (fun e r => gap e.1 (e.2 :: r)) (gap last [])
def pool (es : List (Nat × CpInfo)) (last : Nat) : Array CpInfo := ⟨poolList es last⟩
def fileOf (pool : Array CpInfo) (this : Nat) (attrs : Array Attribute := #[]) (ms : Array MethodInfo := #[]) (fl : Nat := 33) (sup : Nat := 0) (ifs : Array Nat := #[]) (fds : Array FieldInfo := #[]) : ClassFile where
  minorVersion := 0
  majorVersion := 65
  constantPool := pool
  accessFlags := fl
  thisClass := this
  superClass := sup
  interfaces := ifs
  fields := fds
  methods := ms
  attributes := attrs
def plain (name : String) (sup : Option ClassId) : Class where
  name := name
  kind := .ordinary
  loader := none
  accessFlags := 33
  super := sup
  interfaces := #[]
  cf := none
  fields := #[]
  methods := #[]
  instanceTypes := #[]
  staticTypes := #[]
  resolved := #[]
  callSites := []
  init := .initialized
  statics := none
  mirror := none

def pool0 : Array CpInfo := pool [(5, u "<init>"), (0, u "()V"), (1, .class_ 10), (1, u "java/lang/Object")] 113

def k0c0 : Code := { maxStack := 0, maxLocals := 1, code := object_method_1_code, exceptionTable := #[], attributes := #[] }
def k0m0 : Method := { name := "<init>", desc := "()V", sig := { parameters := [], returnType := none }, accessFlags := 1, code := some k0c0 }
/-- java/lang/Object -/
def k0 : Class := { plain "java/lang/Object" none with
  accessFlags := 33
  interfaces := #[]
  cf := some (fileOf pool0 8 #[] #[{ accessFlags := 1, nameIndex := 5, descriptorIndex := 6, attributes := #[] }] 33 0 #[] #[])
  fields := #[]
  methods := #[k0m0]
  instanceTypes := #[]
  staticTypes := #[]
  resolved := Array.replicate 124 none
  statics := none }

def pool1 : Array CpInfo := pool [(2, .class_ 4), (1, u "java/lang/Object"), (0, u "<init>"), (0, u "()V"), (0, .fieldref 8 9), (0, .class_ 10), (0, .nameAndType 11 12), (0, u "com/example/package_pricing/packagepricing/catalog/BillingPeriod$Unit"), (0, u "DAY"), (0, u "Lcom/example/package_pricing/packagepricing/catalog/BillingPeriod$Unit;"), (0, .fieldref 8 14), (0, .nameAndType 15 12), (0, u "WEEK"), (0, .fieldref 8 17), (0, .nameAndType 18 12), (0, u "MONTH"), (0, .fieldref 8 20), (0, .nameAndType 21 12), (0, u "YEAR"), (0, .integer 2147483647), (0, .methodref 24 25), (0, .class_ 26), (0, .nameAndType 27 28), (0, u "com/example/package_pricing/packagepricing/catalog/BillingPeriodOfPinLaw"), (0, u "unitOf"), (0, u "(I)Lcom/example/package_pricing/packagepricing/catalog/BillingPeriod$Unit;"), (0, .methodref 30 31), (0, .class_ 32), (0, .nameAndType 33 34), (0, u "com/example/package_pricing/packagepricing/catalog/BillingPeriod"), (0, u "of"), (0, u "(ILcom/example/package_pricing/packagepricing/catalog/BillingPeriod$Unit;)Lcom/example/package_pricing/packagepricing/catalog/BillingPeriod;"), (0, .methodref 30 36), (0, .nameAndType 37 38), (0, u "getCount"), (0, u "()I"), (0, .methodref 30 40), (0, .nameAndType 41 42), (0, u "getUnit"), (0, u "()Lcom/example/package_pricing/packagepricing/catalog/BillingPeriod$Unit;"), (0, .methodref 30 44), (0, .nameAndType 45 46), (0, u "equals"), (0, u "(Ljava/lang/Object;)Z"), (3, u "law"), (0, u "(IIII)Z")] 4

def k1m0 : Method := { name := "<init>", desc := "()V", sig := { parameters := [], returnType := none }, accessFlags := 2, code := none }
def k1c1 : Code := { maxStack := 2, maxLocals := 2, code := method_2_code, exceptionTable := #[], attributes := #[] }
def k1m1 : Method := { name := "unitOf", desc := "(I)Lcom/example/package_pricing/packagepricing/catalog/BillingPeriod$Unit;", sig := { parameters := [.int], returnType := some (.object "com/example/package_pricing/packagepricing/catalog/BillingPeriod$Unit") }, accessFlags := 10, code := some k1c1 }
def k1c2 : Code := { maxStack := 2, maxLocals := 12, code := code, exceptionTable := #[], attributes := #[] }
def k1m2 : Method := { name := "law", desc := "(IIII)Z", sig := { parameters := [.int, .int, .int, .int], returnType := some .boolean }, accessFlags := 9, code := some k1c2 }
/-- com/example/package_pricing/packagepricing/catalog/BillingPeriodOfPinLaw -/
def k1 : Class := { plain "com/example/package_pricing/packagepricing/catalog/BillingPeriodOfPinLaw" (some 0) with
  accessFlags := 49
  interfaces := #[]
  cf := some (fileOf pool1 24 #[] #[{ accessFlags := 2, nameIndex := 5, descriptorIndex := 6, attributes := #[] }, { accessFlags := 10, nameIndex := 27, descriptorIndex := 28, attributes := #[] }, { accessFlags := 9, nameIndex := 50, descriptorIndex := 51, attributes := #[] }] 49 2 #[] #[])
  fields := #[]
  methods := #[k1m0, k1m1, k1m2]
  instanceTypes := #[]
  staticTypes := #[]
  resolved := Array.replicate 56 none
  statics := none }

def pool2 : Array CpInfo := pool [(1, .class_ 2), (0, u "java/lang/constant/Constable"), (0, .class_ 4), (0, u "java/lang/Object")] 6

/-- java/lang/constant/Constable -/
def k2 : Class := { plain "java/lang/constant/Constable" (some 0) with
  accessFlags := 1537
  interfaces := #[]
  cf := some (fileOf pool2 1 #[] #[] 1537 3 #[] #[])
  fields := #[]
  methods := #[]
  instanceTypes := #[]
  staticTypes := #[]
  resolved := Array.replicate 11 none
  statics := none }

def pool3 : Array CpInfo := pool [(1, .class_ 2), (0, u "java/lang/Comparable"), (0, .class_ 4), (0, u "java/lang/Object")] 7

/-- java/lang/Comparable -/
def k3 : Class := { plain "java/lang/Comparable" (some 0) with
  accessFlags := 1537
  interfaces := #[]
  cf := some (fileOf pool3 1 #[] #[] 1537 3 #[] #[])
  fields := #[]
  methods := #[]
  instanceTypes := #[]
  staticTypes := #[]
  resolved := Array.replicate 12 none
  statics := none }

def pool4 : Array CpInfo := pool [(1, .class_ 2), (0, u "java/io/Serializable"), (0, .class_ 4), (0, u "java/lang/Object")] 2

/-- java/io/Serializable -/
def k4 : Class := { plain "java/io/Serializable" (some 0) with
  accessFlags := 1537
  interfaces := #[]
  cf := some (fileOf pool4 1 #[] #[] 1537 3 #[] #[])
  fields := #[]
  methods := #[]
  instanceTypes := #[]
  staticTypes := #[]
  resolved := Array.replicate 7 none
  statics := none }

def pool5 : Array CpInfo := pool [(2, .class_ 4), (1, u "java/lang/Enum"), (0, u "name"), (0, u "Ljava/lang/String;"), (2, u "ordinal"), (0, u "I"), (1, .class_ 14), (1, u "java/lang/Object"), (4, u "hash"), (86, .class_ 108), (1, u "java/lang/Enum$EnumDesc"), (2, .class_ 112), (0, u "java/lang/constant/Constable"), (0, .class_ 114), (0, u "java/lang/Comparable"), (0, .class_ 116), (0, u "java/io/Serializable")] 87

/-- java/lang/Enum -/
def k5 : Class := { plain "java/lang/Enum" (some 0) with
  accessFlags := 1057
  interfaces := #[2, 3, 4]
  cf := some (fileOf pool5 2 #[.nestMembers #[106]] #[] 1057 12 #[111, 113, 115] #[{ accessFlags := 18, nameIndex := 5, descriptorIndex := 6, attributes := #[] }, { accessFlags := 18, nameIndex := 9, descriptorIndex := 10, attributes := #[] }, { accessFlags := 2, nameIndex := 19, descriptorIndex := 10, attributes := #[] }])
  fields := #[{ name := "name", type := (.object "java/lang/String"), accessFlags := 18, slot := 0, constantValue := 0 }, { name := "ordinal", type := .int, accessFlags := 18, slot := 1, constantValue := 0 }, { name := "hash", type := .int, accessFlags := 2, slot := 2, constantValue := 0 }]
  methods := #[]
  instanceTypes := #[(.object "java/lang/String"), .int, .int]
  staticTypes := #[]
  resolved := Array.replicate 204 none
  statics := none }

def pool6 : Array CpInfo := pool [(1, .class_ 2), (0, u "com/example/package_pricing/packagepricing/catalog/BillingPeriod$Unit"), (2, u "DAY"), (0, u "Lcom/example/package_pricing/packagepricing/catalog/BillingPeriod$Unit;"), (2, u "WEEK"), (2, u "MONTH"), (2, u "YEAR"), (2, u "$VALUES"), (0, u "[Lcom/example/package_pricing/packagepricing/catalog/BillingPeriod$Unit;"), (6, .class_ 28), (1, u "java/lang/Enum"), (8, u "designator"), (0, u "C"), (29, .class_ 69), (0, u "com/example/package_pricing/packagepricing/catalog/BillingPeriod")] 2

/-- com/example/package_pricing/packagepricing/catalog/BillingPeriod$Unit -/
def k6 : Class := { plain "com/example/package_pricing/packagepricing/catalog/BillingPeriod$Unit" (some 5) with
  accessFlags := 16433
  interfaces := #[]
  cf := some (fileOf pool6 1 #[.nestHost 68] #[] 16433 26 #[] #[{ accessFlags := 16409, nameIndex := 5, descriptorIndex := 6, attributes := #[] }, { accessFlags := 16409, nameIndex := 9, descriptorIndex := 6, attributes := #[] }, { accessFlags := 16409, nameIndex := 12, descriptorIndex := 6, attributes := #[] }, { accessFlags := 16409, nameIndex := 15, descriptorIndex := 6, attributes := #[] }, { accessFlags := 18, nameIndex := 37, descriptorIndex := 38, attributes := #[] }, { accessFlags := 4122, nameIndex := 18, descriptorIndex := 19, attributes := #[] }])
  fields := #[{ name := "DAY", type := (.object "com/example/package_pricing/packagepricing/catalog/BillingPeriod$Unit"), accessFlags := 16409, slot := 0, constantValue := 0 }, { name := "WEEK", type := (.object "com/example/package_pricing/packagepricing/catalog/BillingPeriod$Unit"), accessFlags := 16409, slot := 1, constantValue := 0 }, { name := "MONTH", type := (.object "com/example/package_pricing/packagepricing/catalog/BillingPeriod$Unit"), accessFlags := 16409, slot := 2, constantValue := 0 }, { name := "YEAR", type := (.object "com/example/package_pricing/packagepricing/catalog/BillingPeriod$Unit"), accessFlags := 16409, slot := 3, constantValue := 0 }, { name := "designator", type := .char, accessFlags := 18, slot := 3, constantValue := 0 }, { name := "$VALUES", type := (.array (.object "com/example/package_pricing/packagepricing/catalog/BillingPeriod$Unit")), accessFlags := 4122, slot := 4, constantValue := 0 }]
  methods := #[]
  instanceTypes := #[(.object "java/lang/String"), .int, .int, .char]
  staticTypes := #[(.object "com/example/package_pricing/packagepricing/catalog/BillingPeriod$Unit"), (.object "com/example/package_pricing/packagepricing/catalog/BillingPeriod$Unit"), (.object "com/example/package_pricing/packagepricing/catalog/BillingPeriod$Unit"), (.object "com/example/package_pricing/packagepricing/catalog/BillingPeriod$Unit"), (.array (.object "com/example/package_pricing/packagepricing/catalog/BillingPeriod$Unit"))]
  resolved := Array.replicate 72 none
  statics := some 0 }

def pool7 : Array CpInfo := pool [(1, .methodref 2 3), (0, .class_ 4), (0, .nameAndType 5 6), (0, u "java/lang/Object"), (0, u "<init>"), (0, u "()V"), (0, .fieldref 8 9), (0, .class_ 10), (0, .nameAndType 11 12), (0, u "com/example/package_pricing/packagepricing/catalog/BillingPeriod"), (0, u "count"), (0, u "I"), (0, .fieldref 8 14), (0, .nameAndType 15 16), (0, u "unit"), (0, u "Lcom/example/package_pricing/packagepricing/catalog/BillingPeriod$Unit;"), (0, .string 15), (0, .methodref 19 20), (0, .class_ 21), (0, .nameAndType 22 23), (0, u "java/util/Objects"), (0, u "requireNonNull"), (0, u "(Ljava/lang/Object;Ljava/lang/String;)Ljava/lang/Object;"), (9, .methodref 8 34), (0, .nameAndType 5 35), (0, u "(ILcom/example/package_pricing/packagepricing/catalog/BillingPeriod$Unit;)V"), (4, u "SPELLING"), (0, u "Ljava/util/regex/Pattern;"), (22, .class_ 66), (1, u "com/example/package_pricing/packagepricing/catalog/BillingPeriod$Unit"), (37, u "MIN_COUNT"), (2, u "MAX_COUNT"), (3, u "of"), (0, u "(ILcom/example/package_pricing/packagepricing/catalog/BillingPeriod$Unit;)Lcom/example/package_pricing/packagepricing/catalog/BillingPeriod;"), (3, u "getCount"), (0, u "()I"), (0, u "getUnit"), (0, u "()Lcom/example/package_pricing/packagepricing/catalog/BillingPeriod$Unit;"), (2, u "equals"), (0, u "(Ljava/lang/Object;)Z")] 25

def k7c0 : Code := { maxStack := 2, maxLocals := 3, code := prog_1_method_1_code, exceptionTable := #[], attributes := #[] }
def k7m0 : Method := { name := "<init>", desc := "(ILcom/example/package_pricing/packagepricing/catalog/BillingPeriod$Unit;)V", sig := { parameters := [.int, (.object "com/example/package_pricing/packagepricing/catalog/BillingPeriod$Unit")], returnType := none }, accessFlags := 2, code := some k7c0 }
def k7c1 : Code := { maxStack := 4, maxLocals := 2, code := prog_1_method_2_code, exceptionTable := #[], attributes := #[] }
def k7m1 : Method := { name := "of", desc := "(ILcom/example/package_pricing/packagepricing/catalog/BillingPeriod$Unit;)Lcom/example/package_pricing/packagepricing/catalog/BillingPeriod;", sig := { parameters := [.int, (.object "com/example/package_pricing/packagepricing/catalog/BillingPeriod$Unit")], returnType := some (.object "com/example/package_pricing/packagepricing/catalog/BillingPeriod") }, accessFlags := 9, code := some k7c1 }
def k7c2 : Code := { maxStack := 1, maxLocals := 1, code := prog_1_method_4_code, exceptionTable := #[], attributes := #[] }
def k7m2 : Method := { name := "getCount", desc := "()I", sig := { parameters := [], returnType := some .int }, accessFlags := 1, code := some k7c2 }
def k7c3 : Code := { maxStack := 1, maxLocals := 1, code := prog_1_method_5_code, exceptionTable := #[], attributes := #[] }
def k7m3 : Method := { name := "getUnit", desc := "()Lcom/example/package_pricing/packagepricing/catalog/BillingPeriod$Unit;", sig := { parameters := [], returnType := some (.object "com/example/package_pricing/packagepricing/catalog/BillingPeriod$Unit") }, accessFlags := 1, code := some k7c3 }
def k7c4 : Code := { maxStack := 2, maxLocals := 3, code := prog_1_method_7_code, exceptionTable := #[], attributes := #[] }
def k7m4 : Method := { name := "equals", desc := "(Ljava/lang/Object;)Z", sig := { parameters := [(.object "java/lang/Object")], returnType := some .boolean }, accessFlags := 1, code := some k7c4 }
/-- com/example/package_pricing/packagepricing/catalog/BillingPeriod -/
def k7 : Class := { plain "com/example/package_pricing/packagepricing/catalog/BillingPeriod" (some 0) with
  accessFlags := 33
  interfaces := #[]
  cf := some (fileOf pool7 8 #[.nestMembers #[64]] #[{ accessFlags := 2, nameIndex := 5, descriptorIndex := 35, attributes := #[] }, { accessFlags := 9, nameIndex := 111, descriptorIndex := 112, attributes := #[] }, { accessFlags := 1, nameIndex := 116, descriptorIndex := 117, attributes := #[] }, { accessFlags := 1, nameIndex := 118, descriptorIndex := 119, attributes := #[] }, { accessFlags := 1, nameIndex := 122, descriptorIndex := 123, attributes := #[] }] 33 2 #[] #[{ accessFlags := 26, nameIndex := 104, descriptorIndex := 12, attributes := #[] }, { accessFlags := 26, nameIndex := 107, descriptorIndex := 12, attributes := #[] }, { accessFlags := 26, nameIndex := 40, descriptorIndex := 41, attributes := #[] }, { accessFlags := 18, nameIndex := 11, descriptorIndex := 12, attributes := #[] }, { accessFlags := 18, nameIndex := 15, descriptorIndex := 16, attributes := #[] }])
  fields := #[{ name := "MIN_COUNT", type := .int, accessFlags := 26, slot := 0, constantValue := 0 }, { name := "MAX_COUNT", type := .int, accessFlags := 26, slot := 1, constantValue := 0 }, { name := "SPELLING", type := (.object "java/util/regex/Pattern"), accessFlags := 26, slot := 2, constantValue := 0 }, { name := "count", type := .int, accessFlags := 18, slot := 0, constantValue := 0 }, { name := "unit", type := (.object "com/example/package_pricing/packagepricing/catalog/BillingPeriod$Unit"), accessFlags := 18, slot := 1, constantValue := 0 }]
  methods := #[k7m0, k7m1, k7m2, k7m3, k7m4]
  instanceTypes := #[.int, (.object "com/example/package_pricing/packagepricing/catalog/BillingPeriod$Unit")]
  staticTypes := #[.int, .int, (.object "java/util/regex/Pattern")]
  resolved := Array.replicate 149 none
  statics := none }

def pool8 : Array CpInfo := pool [(2, .class_ 4), (1, u "java/lang/CharSequence"), (42, .class_ 48), (0, u "java/lang/CharSequence$1CodePointIterator"), (10, .class_ 60), (0, u "java/lang/CharSequence$1CharIterator"), (5, .class_ 67), (0, u "java/lang/Object")] 63

/-- java/lang/CharSequence -/
def k8 : Class := { plain "java/lang/CharSequence" (some 0) with
  accessFlags := 1537
  interfaces := #[]
  cf := some (fileOf pool8 2 #[.nestMembers #[47, 59]] #[] 1537 66 #[] #[])
  fields := #[]
  methods := #[]
  instanceTypes := #[]
  staticTypes := #[]
  resolved := Array.replicate 131 none
  statics := none }

def pool9 : Array CpInfo := pool [(1, .class_ 2), (0, u "java/lang/constant/ConstantDesc"), (0, .class_ 4), (0, u "java/lang/Object")] 32

/-- java/lang/constant/ConstantDesc -/
def k9 : Class := { plain "java/lang/constant/ConstantDesc" (some 0) with
  accessFlags := 1537
  interfaces := #[]
  cf := some (fileOf pool9 1 #[] #[] 1537 3 #[] #[])
  fields := #[]
  methods := #[]
  instanceTypes := #[]
  staticTypes := #[]
  resolved := Array.replicate 37 none
  statics := none }

def pool10 : Array CpInfo := pool [(2, .class_ 4), (1, u "java/lang/Object"), (0, u "<init>"), (0, u "()V"), (3, .class_ 12), (1, u "java/lang/String"), (0, u "value"), (0, u "[B"), (2, u "coder"), (0, u "B"), (2, u "hash"), (0, u "I"), (2, u "hashIsZero"), (0, u "Z"), (13, u "COMPACT_STRINGS"), (534, .class_ 576), (0, u "java/lang/CharSequence"), (22, u "CASE_INSENSITIVE_ORDER"), (0, u "Ljava/util/Comparator;"), (500, u "serialPersistentFields"), (0, u "[Ljava/io/ObjectStreamField;"), (0, .class_ 1104), (0, u "java/lang/String$CaseInsensitiveComparator"), (1, .class_ 1107), (0, u "java/io/Serializable"), (0, .class_ 1109), (0, u "java/lang/Comparable"), (0, .class_ 1111), (0, u "java/lang/constant/Constable"), (0, .class_ 1113), (0, u "java/lang/constant/ConstantDesc"), (2, u "serialVersionUID"), (0, u "J"), (3, u "REPL"), (0, u "C"), (2, u "LATIN1"), (1, u "UTF16")] 323

def k10m0 : Method := { name := "<init>", desc := "()V", sig := { parameters := [], returnType := none }, accessFlags := 1, code := none }
/-- java/lang/String -/
def k10 : Class := { plain "java/lang/String" (some 0) with
  accessFlags := 49
  interfaces := #[4, 3, 8, 2, 9]
  cf := some (fileOf pool10 10 #[.nestMembers #[1103]] #[{ accessFlags := 1, nameIndex := 5, descriptorIndex := 6, attributes := #[] }] 49 2 #[1106, 1108, 575, 1110, 1112] #[{ accessFlags := 18, nameIndex := 13, descriptorIndex := 14, attributes := #[] }, { accessFlags := 18, nameIndex := 17, descriptorIndex := 18, attributes := #[] }, { accessFlags := 2, nameIndex := 21, descriptorIndex := 22, attributes := #[] }, { accessFlags := 2, nameIndex := 25, descriptorIndex := 26, attributes := #[] }, { accessFlags := 26, nameIndex := 1116, descriptorIndex := 1117, attributes := #[] }, { accessFlags := 24, nameIndex := 40, descriptorIndex := 26, attributes := #[] }, { accessFlags := 26, nameIndex := 1101, descriptorIndex := 1102, attributes := #[] }, { accessFlags := 26, nameIndex := 1121, descriptorIndex := 1122, attributes := #[] }, { accessFlags := 25, nameIndex := 599, descriptorIndex := 600, attributes := #[] }, { accessFlags := 24, nameIndex := 1125, descriptorIndex := 18, attributes := #[] }, { accessFlags := 24, nameIndex := 1127, descriptorIndex := 18, attributes := #[] }])
  fields := #[{ name := "value", type := (.array .byte), accessFlags := 18, slot := 0, constantValue := 0 }, { name := "coder", type := .byte, accessFlags := 18, slot := 1, constantValue := 0 }, { name := "hash", type := .int, accessFlags := 2, slot := 2, constantValue := 0 }, { name := "hashIsZero", type := .boolean, accessFlags := 2, slot := 3, constantValue := 0 }, { name := "serialVersionUID", type := .long, accessFlags := 26, slot := 0, constantValue := 0 }, { name := "COMPACT_STRINGS", type := .boolean, accessFlags := 24, slot := 1, constantValue := 0 }, { name := "serialPersistentFields", type := (.array (.object "java/io/ObjectStreamField")), accessFlags := 26, slot := 2, constantValue := 0 }, { name := "REPL", type := .char, accessFlags := 26, slot := 3, constantValue := 0 }, { name := "CASE_INSENSITIVE_ORDER", type := (.object "java/util/Comparator"), accessFlags := 25, slot := 4, constantValue := 0 }, { name := "LATIN1", type := .byte, accessFlags := 24, slot := 5, constantValue := 0 }, { name := "UTF16", type := .byte, accessFlags := 24, slot := 6, constantValue := 0 }]
  methods := #[k10m0]
  instanceTypes := #[(.array .byte), .byte, .int, .boolean]
  staticTypes := #[.long, .boolean, (.array (.object "java/io/ObjectStreamField")), .char, (.object "java/util/Comparator"), .byte, .byte]
  resolved := Array.replicate 1451 none
  statics := none }

def pool11 : Array CpInfo := pool [(2, .class_ 4), (1, u "java/lang/Object"), (0, u "<init>"), (0, u "()V"), (35, .class_ 44), (1, u "java/util/Objects"), (0, u "requireNonNull"), (48, u "(Ljava/lang/Object;Ljava/lang/String;)Ljava/lang/Object;")] 89

def k11m0 : Method := { name := "<init>", desc := "()V", sig := { parameters := [], returnType := none }, accessFlags := 2, code := none }
def k11c1 : Code := { maxStack := 3, maxLocals := 2, code := jdk_31_method_11_code, exceptionTable := #[], attributes := #[] }
def k11m1 : Method := { name := "requireNonNull", desc := "(Ljava/lang/Object;Ljava/lang/String;)Ljava/lang/Object;", sig := { parameters := [(.object "java/lang/Object"), (.object "java/lang/String")], returnType := some (.object "java/lang/Object") }, accessFlags := 9, code := some k11c1 }
/-- java/util/Objects -/
def k11 : Class := { plain "java/util/Objects" (some 0) with
  accessFlags := 49
  interfaces := #[]
  cf := some (fileOf pool11 42 #[] #[{ accessFlags := 2, nameIndex := 5, descriptorIndex := 6, attributes := #[] }, { accessFlags := 9, nameIndex := 45, descriptorIndex := 94, attributes := #[] }] 49 2 #[] #[])
  fields := #[]
  methods := #[k11m0, k11m1]
  instanceTypes := #[]
  staticTypes := #[]
  resolved := Array.replicate 184 none
  statics := none }

def pool12 : Array CpInfo := pool [(1, u "java/lang/Cloneable"), (0, .class_ 1), (0, u "java/lang/Object"), (0, .class_ 3)] 3

/-- java/lang/Cloneable -/
def k12 : Class := { plain "java/lang/Cloneable" (some 0) with
  accessFlags := 1537
  interfaces := #[]
  cf := some (fileOf pool12 2 #[] #[] 1537 4 #[] #[])
  fields := #[]
  methods := #[]
  instanceTypes := #[]
  staticTypes := #[]
  resolved := Array.replicate 8 none
  statics := none }

/-- the primitive byte -/
def k13 : Class := { plain "byte" none with kind := .primitive 'B', accessFlags := 0x411 }
/-- [B -/
def k14 : Class := { plain "[B" (some 0) with kind := .array 13 .byte, interfaces := #[12, 4], accessFlags := 1041 }

/-- the primitive int -/
def k15 : Class := { plain "int" none with kind := .primitive 'I', accessFlags := 0x411 }
/-- [I -/
def k16 : Class := { plain "[I" (some 0) with kind := .array 15 .int, interfaces := #[12, 4], accessFlags := 1041 }

def heap : Heap := #[{ cls := 6, slots := #[.ref 1, .ref 2, .ref 3, .ref 4, .null], vm := .statics 6 },
  { cls := 6, slots := #[.null, .int 0, .int 0, .int 68], vm := .none },
  { cls := 6, slots := #[.null, .int 1, .int 0, .int 87], vm := .none },
  { cls := 6, slots := #[.null, .int 2, .int 0, .int 77], vm := .none },
  { cls := 6, slots := #[.null, .int 3, .int 0, .int 89], vm := .none }]
def classes : Array Class := #[k0, k1, k2, k3, k4, k5, k6, k7, k8, k9, k10, k11, k12, k13, k14, k15, k16]
def interned : List (Array UInt16 × Addr) := []
def slotsUsed : Nat := 21
def theMethod : MethodId := ⟨1, 2⟩
def args0 : Array Value := #[.int 5, .int 6, .int 7, .int 8]
def aboutOver (below : List Frame) : State where
  vm := { classes := classes, interned := interned.toArray }
  heap := heap
  slotsUsed := slotsUsed
  threads := #[{ frames := .invoking theMethod args0 :: below }]
def below0 : List Frame := [.native { method := ⟨0, 0⟩, args := #[] }]
def about1 : State := aboutOver below0
def p0 : Program := .bare "" "" ""
def e0 : Env := launch0.env 0 0 0
theorem w_frames : about1.frames = Frame.invoking theMethod args0 :: below0 := rfl
set_option maxRecDepth 65536 in
theorem w_args : argsFit about1.vm theMethod args0 = true := by decide +kernel
set_option maxRecDepth 65536 in
theorem w_heap : heapFits about1 = true := by decide +kernel
set_option maxRecDepth 65536 in
theorem w_runnable : about1.curStatus? = some .runnable := by decide +kernel
set_option maxRecDepth 65536 in
theorem w_alone : about1.alone = true := by decide +kernel
set_option maxRecDepth 65536 in
theorem w_named : about1.methodNamed? x = some theMethod := by decide +kernel
set_option maxRecDepth 65536 in
theorem w_hears : about1.hears theMethod below0 = true := by decide +kernel
set_option maxRecDepth 65536 in
theorem w_ripe : about1.ripe theMethod args0 below0 = true := by decide +kernel
theorem w_running : about1.status = .running := rfl
set_option maxRecDepth 65536 in
theorem w_room : about1.hasRoom e0.platform room_1 = true :=
  launch0.hasRoom_least _ room_1 (by decide +kernel) (by decide +kernel) (by decide +kernel) (by decide +kernel) (by decide +kernel) (by decide +kernel)
theorem allAtoms_all (ts : List Jvm.Cond) (a : Array Jvm.Value) (st : Jvm.State) : (allAtoms ts).before a st = ts.all (fun c => c.before a st) := by
  induction ts with
  | nil => rfl
  | cons c t ih =>
    show (Jvm.Cond.and c (allAtoms t)).before a st = _
    rw [Jvm.Cond.before_and, ih, List.all_cons]
def words1 : List Jvm.Cond := Jvm.Cond.code x code maxLocals ret :: tables_1
/-- a 'code' word, met by the world's own term for the bytes: nothing is compared byte by byte -/
theorem code_word {y : MethodName} {bytes : ByteArray} {mx : Nat} {rt : Option FieldType} {a : Array Value} {s : State} {m : MethodId} {meth : Method} {c : Code} (h1 : s.methodNamed? y = some m) (h2 : s.vm.method? m = some meth) (h3 : meth.code = some c) (h4 : c.code = bytes)
    (h5 : (c.maxLocals == mx && c.exceptionTable.isEmpty && decide (c.maxStack ≤ mostOperands) && decide (meth.sig.returnType = rt) && !meth.locks && decide (parseMethodDescriptor y.desc = some meth.sig)) = true) : (Jvm.Cond.code y bytes mx rt).before a s = true := by
  simp only [Bool.and_eq_true, beq_iff_eq, Bool.not_eq_true', decide_eq_true_eq] at h5
  obtain ⟨⟨⟨⟨⟨g1, g2⟩, g3⟩, g4⟩, g5⟩, g6⟩ := h5
  simp [Cond.before, Cond.holds, Cond.value, h1, h2, h3, h4, g1, g2, g3, g4, g5, g6]
def isCode : Jvm.Cond → Bool
  | .code _ _ _ _ => true
  | _ => false
theorem all_split {L : List Jvm.Cond} {P : Jvm.Cond → Bool} (h1 : L.all (fun c => isCode c || P c) = true) (h2 : ∀ c ∈ L.filter isCode, P c = true) : L.all P = true := by
  refine List.all_eq_true.mpr fun c hc => ?_
  have h := List.all_eq_true.mp h1 c hc
  rcases Bool.eq_false_or_eq_true (isCode c) with hi | hi
  · exact h2 c (List.mem_filter.mpr ⟨hc, hi⟩)
  · simpa [hi] using h
set_option maxRecDepth 65536 in
theorem w_c0 : (Jvm.Cond.code x code maxLocals ret).before args0 about1 = true := code_word (m := ⟨1, 2⟩) (meth := k1m2) (c := k1c2) (by decide +kernel) rfl rfl rfl (by decide +kernel)
set_option maxRecDepth 65536 in
theorem w_c1 : (Jvm.Cond.code ({ cls := "com/example/package_pricing/packagepricing/catalog/BillingPeriodOfPinLaw", name := "unitOf", desc := "(I)Lcom/example/package_pricing/packagepricing/catalog/BillingPeriod$Unit;" } : Jvm.MethodName) method_2_code (2 : Nat) (Option.some (Jvm.ClassFile.FieldType.object "com/example/package_pricing/packagepricing/catalog/BillingPeriod$Unit"))).before args0 about1 = true := code_word (m := ⟨1, 1⟩) (meth := k1m1) (c := k1c1) (by decide +kernel) rfl rfl rfl (by decide +kernel)
set_option maxRecDepth 65536 in
theorem w_c2 : (Jvm.Cond.code ({ cls := "com/example/package_pricing/packagepricing/catalog/BillingPeriod", name := "of", desc := "(ILcom/example/package_pricing/packagepricing/catalog/BillingPeriod$Unit;)Lcom/example/package_pricing/packagepricing/catalog/BillingPeriod;" } : Jvm.MethodName) prog_1_method_2_code (2 : Nat) (Option.some (Jvm.ClassFile.FieldType.object "com/example/package_pricing/packagepricing/catalog/BillingPeriod"))).before args0 about1 = true := code_word (m := ⟨7, 1⟩) (meth := k7m1) (c := k7c1) (by decide +kernel) rfl rfl rfl (by decide +kernel)
set_option maxRecDepth 65536 in
theorem w_c3 : (Jvm.Cond.code ({ cls := "java/util/Objects", name := "requireNonNull", desc := "(Ljava/lang/Object;Ljava/lang/String;)Ljava/lang/Object;" } : Jvm.MethodName) jdk_31_method_11_code (2 : Nat) (Option.some (Jvm.ClassFile.FieldType.object "java/lang/Object"))).before args0 about1 = true := code_word (m := ⟨11, 1⟩) (meth := k11m1) (c := k11c1) (by decide +kernel) rfl rfl rfl (by decide +kernel)
set_option maxRecDepth 65536 in
theorem w_c4 : (Jvm.Cond.code ({ cls := "com/example/package_pricing/packagepricing/catalog/BillingPeriod", name := "<init>", desc := "(ILcom/example/package_pricing/packagepricing/catalog/BillingPeriod$Unit;)V" } : Jvm.MethodName) prog_1_method_1_code (3 : Nat) (Option.none : Option Jvm.ClassFile.FieldType)).before args0 about1 = true := code_word (m := ⟨7, 0⟩) (meth := k7m0) (c := k7c0) (by decide +kernel) rfl rfl rfl (by decide +kernel)
set_option maxRecDepth 65536 in
theorem w_c5 : (Jvm.Cond.code ({ cls := "java/lang/Object", name := "<init>", desc := "()V" } : Jvm.MethodName) object_method_1_code (1 : Nat) (Option.none : Option Jvm.ClassFile.FieldType)).before args0 about1 = true := code_word (m := ⟨0, 0⟩) (meth := k0m0) (c := k0c0) (by decide +kernel) rfl rfl rfl (by decide +kernel)
set_option maxRecDepth 65536 in
theorem w_c6 : (Jvm.Cond.code ({ cls := "com/example/package_pricing/packagepricing/catalog/BillingPeriod", name := "getCount", desc := "()I" } : Jvm.MethodName) prog_1_method_4_code (1 : Nat) (Option.some Jvm.ClassFile.FieldType.int)).before args0 about1 = true := code_word (m := ⟨7, 2⟩) (meth := k7m2) (c := k7c2) (by decide +kernel) rfl rfl rfl (by decide +kernel)
set_option maxRecDepth 65536 in
theorem w_c7 : (Jvm.Cond.code ({ cls := "com/example/package_pricing/packagepricing/catalog/BillingPeriod", name := "getUnit", desc := "()Lcom/example/package_pricing/packagepricing/catalog/BillingPeriod$Unit;" } : Jvm.MethodName) prog_1_method_5_code (1 : Nat) (Option.some (Jvm.ClassFile.FieldType.object "com/example/package_pricing/packagepricing/catalog/BillingPeriod$Unit"))).before args0 about1 = true := code_word (m := ⟨7, 3⟩) (meth := k7m3) (c := k7c3) (by decide +kernel) rfl rfl rfl (by decide +kernel)
set_option maxRecDepth 65536 in
theorem w_c8 : (Jvm.Cond.code ({ cls := "com/example/package_pricing/packagepricing/catalog/BillingPeriod", name := "equals", desc := "(Ljava/lang/Object;)Z" } : Jvm.MethodName) prog_1_method_7_code (3 : Nat) (Option.some Jvm.ClassFile.FieldType.boolean)).before args0 about1 = true := code_word (m := ⟨7, 4⟩) (meth := k7m4) (c := k7c4) (by decide +kernel) rfl rfl rfl (by decide +kernel)
def codes1 : List Jvm.Cond := [Jvm.Cond.code x code maxLocals ret, Jvm.Cond.code ({ cls := "com/example/package_pricing/packagepricing/catalog/BillingPeriodOfPinLaw", name := "unitOf", desc := "(I)Lcom/example/package_pricing/packagepricing/catalog/BillingPeriod$Unit;" } : Jvm.MethodName) method_2_code (2 : Nat) (Option.some (Jvm.ClassFile.FieldType.object "com/example/package_pricing/packagepricing/catalog/BillingPeriod$Unit")), Jvm.Cond.code ({ cls := "com/example/package_pricing/packagepricing/catalog/BillingPeriod", name := "of", desc := "(ILcom/example/package_pricing/packagepricing/catalog/BillingPeriod$Unit;)Lcom/example/package_pricing/packagepricing/catalog/BillingPeriod;" } : Jvm.MethodName) prog_1_method_2_code (2 : Nat) (Option.some (Jvm.ClassFile.FieldType.object "com/example/package_pricing/packagepricing/catalog/BillingPeriod")), Jvm.Cond.code ({ cls := "java/util/Objects", name := "requireNonNull", desc := "(Ljava/lang/Object;Ljava/lang/String;)Ljava/lang/Object;" } : Jvm.MethodName) jdk_31_method_11_code (2 : Nat) (Option.some (Jvm.ClassFile.FieldType.object "java/lang/Object")), Jvm.Cond.code ({ cls := "com/example/package_pricing/packagepricing/catalog/BillingPeriod", name := "<init>", desc := "(ILcom/example/package_pricing/packagepricing/catalog/BillingPeriod$Unit;)V" } : Jvm.MethodName) prog_1_method_1_code (3 : Nat) (Option.none : Option Jvm.ClassFile.FieldType), Jvm.Cond.code ({ cls := "java/lang/Object", name := "<init>", desc := "()V" } : Jvm.MethodName) object_method_1_code (1 : Nat) (Option.none : Option Jvm.ClassFile.FieldType), Jvm.Cond.code ({ cls := "com/example/package_pricing/packagepricing/catalog/BillingPeriod", name := "getCount", desc := "()I" } : Jvm.MethodName) prog_1_method_4_code (1 : Nat) (Option.some Jvm.ClassFile.FieldType.int), Jvm.Cond.code ({ cls := "com/example/package_pricing/packagepricing/catalog/BillingPeriod", name := "getUnit", desc := "()Lcom/example/package_pricing/packagepricing/catalog/BillingPeriod$Unit;" } : Jvm.MethodName) prog_1_method_5_code (1 : Nat) (Option.some (Jvm.ClassFile.FieldType.object "com/example/package_pricing/packagepricing/catalog/BillingPeriod$Unit")), Jvm.Cond.code ({ cls := "com/example/package_pricing/packagepricing/catalog/BillingPeriod", name := "equals", desc := "(Ljava/lang/Object;)Z" } : Jvm.MethodName) prog_1_method_7_code (3 : Nat) (Option.some Jvm.ClassFile.FieldType.boolean)]
set_option maxRecDepth 65536 in
theorem codes_eq : words1.filter isCode = codes1 := rfl
theorem w_codes : ∀ c ∈ words1.filter isCode, c.before args0 about1 = true := by
  rw [codes_eq]
  intro c hc
  simp only [codes1, List.mem_cons, List.not_mem_nil, or_false] at hc
  rcases hc with rfl | rfl | rfl | rfl | rfl | rfl | rfl | rfl | rfl
  · exact w_c0
  · exact w_c1
  · exact w_c2
  · exact w_c3
  · exact w_c4
  · exact w_c5
  · exact w_c6
  · exact w_c7
  · exact w_c8
set_option maxRecDepth 65536 in
theorem w_t1 : (words1.take 24).all (fun c => isCode c || c.before args0 about1) = true := by decide +kernel
set_option maxRecDepth 65536 in
theorem w_t2 : ((words1.drop 24).take 24).all (fun c => isCode c || c.before args0 about1) = true := by decide +kernel
set_option maxRecDepth 65536 in
theorem w_t3 : ((words1.drop 24).drop 24).all (fun c => isCode c || c.before args0 about1) = true := by decide +kernel
theorem w_tables : (allAtoms (Jvm.Cond.code x code maxLocals ret :: tables_1)).before args0 about1 = true := by
  rw [allAtoms_all]
  show words1.all (fun c => c.before args0 about1) = true
  refine all_split ?_ w_codes
  rw [← List.take_append_drop 24 words1, List.all_append, w_t1, ← List.take_append_drop 24 (words1.drop 24), List.all_append, w_t2, w_t3]
  rfl
set_option maxRecDepth 65536 in
theorem w_case : (Jvm.Cond.and given_1 narrow_1).before args0 about1 = true := by decide +kernel
theorem w_applies : (headSpec (Jvm.Cond.code x code maxLocals ret :: tables_1) room_1).applies x e0.platform about1 = true :=
  (Spec.applies_iff w_frames).mpr ⟨w_running, w_runnable, w_alone, w_named, w_hears, w_ripe, w_room, w_tables⟩
theorem atStart : AtStart classFile x code maxLocals ret World_1 tables_1 room_1 Calls_1 rest_1 Pre_1 launch0 p0 e0 about1 theMethod args0 below0 :=
  ⟨lists_1, trivial, launch0.admits_env _ _ _, launch0.least_env, fairChoices_fair.cas, fairChoices_fair.clock, w_frames, w_args, w_heap, w_applies, trivial, trivial, w_case⟩
end start1
theorem witness_1 : WitnessClaimed_1 := ⟨start1.p0, start1.e0, start1.about1, start1.theMethod, start1.args0, start1.below0, start1.atStart⟩
end Jvm.Pilot.@@N@@
