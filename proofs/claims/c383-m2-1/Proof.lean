import JvmDerived
import JvmDerived.Pilot.@@N@@Statement
import JvmDerived.Pilot.@@N@@Code
set_option linter.unusedVariables false
set_option linter.unusedSimpArgs false
namespace Jvm.Own
open Sem ClassFile Op Lib Jvm.Stand Jvm.Free Jvm.LawKit Jvm.RoadKit
/-! A small logic of walks: 'Wp' says of a point of a body (pc, locals, stack, heap) that from every state that stands there the run ends with Q; one rule an instruction. 'Ct' is a body's contract. -/
def Fen (wd : Bool) (U : State) (o : Outcome) (U' : State) (L : List Loc) (k n : Nat) : Prop := ReturnedEndW U o U' L k n ∧ (wd = false → U.WarmedH U'.vm)
def Wh (hs : Heap) (ws : List Addr) (L : List Loc) : Prop := ∀ y ∈ L, y.base ∈ ws ∨ hs.size ≤ y.base
def Sf (Z : State) (EL : List (String × Nat)) (vm : Vm) (h : Heap) (F : List Addr) : Prop := ∀ x ∈ F, x < h.size ∧ Safe Z EL vm h x
def Sfe (Z : State) (EL : List (String × Nat)) (h : Heap) (F : List Addr) (a : Addr) : Prop := ∀ vm, Z.vm.Alike vm → Sf Z EL vm h F → Safe Z EL vm h a
def Ct (wd : Bool) (l : Launch) (Z : State) (EL : List (String × Nat)) (cw : List Cond) (y : MethodName) (bytes : ByteArray) (maxL : Nat) (ret : Option FieldType) (rm : Room) (as : Array Value) (h : Heap) (F ws : List Addr) (Q : Option Value → Heap → Prop) : Prop :=
  MetFree l y (head1 (Cond.code y bytes maxL ret :: cw) rm)
    (fun a U => a = as ∧ Z.Warmed39 U.vm ∧ U.heap = h ∧ CHv Z EL U.vm h ∧ Sf Z EL U.vm h F) (fun _ _ _ _ _ => True)
    (fun _ U o U' => ∃ v L, o = .returned v ∧ (Wh U.heap ws L ∧ Q v U'.heap) ∧ CHr Z EL U.vm U.heap U'.vm U'.heap ∧ Fen wd U o U' L rm.cells rm.slots)
def Inv (wd : Bool) (l : Launch) (Z : State) (a0 : Array Value) (EL : List (String × Nat)) (R : Room) (y : MethodName) (bytes : ByteArray) (maxL : Nat) (ret : Option FieldType) (hs : Heap) (ws : List Addr) (h : Heap) (F : List Addr) (k n : Nat)
    (p : Program) (e : Env) (s : State) (m : MethodId) (args : Array Value) (below : List Frame) (meth : Method) (c : Code) (vm0 : Vm) (k0 : Nat) (T : State) (locs : List Loc) : Prop :=
  (EW Z a0 EL ∧ p.tables.exec = Jvm.exec ∧ c.code = bytes ∧ c.maxLocals = maxL ∧ meth.sig.returnType = ret ∧ meth.name = y.name ∧ meth.locks = false) ∧
  (s.heap = hs ∧ (∀ x ∈ ws, Z.heap.size ≤ x) ∧ Z.heap.size ≤ hs.size ∧ Wh hs ws locs ∧ Ext Z.heap h) ∧
  (vm0.findClass y.cls = some m.cls ∧ s.Since vm0 k0 ∧ k0 ≤ h.size ∧ (wd = false → s.WarmedH vm0) ∧ Z.Warmed39 vm0 ∧ CHr Z EL s.vm hs vm0 h ∧ Sf Z EL vm0 h F) ∧
  Stand p l e R (s.setVm vm0) m args below meth c T locs k n ∧ T.heap = h
def Out (wd : Bool) (Z : State) (EL : List (String × Nat)) (R : Room) (hs : Heap) (ws : List Addr) (Q : Option Value → Heap → Prop) (p : Program) (e : Env) (s : State) (below : List Frame) (st : State) : Prop :=
  ∃ (v : Option Value) (t : State), Steps p.tables e below st t ∧ t.status = .running ∧ Ended t below (.returned v) ∧ ∃ L, Wh hs ws L ∧ Q v t.heap ∧ CHr Z EL s.vm hs t.vm t.heap ∧ Fen wd s (.returned v) t L R.cells R.slots
def Wp (wd : Bool) (l : Launch) (Z : State) (a0 : Array Value) (EL : List (String × Nat)) (R : Room) (y : MethodName) (bytes : ByteArray) (maxL : Nat) (ret : Option FieldType) (hs : Heap) (ws : List Addr) (Q : Option Value → Heap → Prop) (h : Heap) (F : List Addr) (k n pc : Nat) (Ls : Array Slot) (S : List Value) : Prop :=
  ∀ (p : Program) (e : Env) (s : State) (m : MethodId) (args : Array Value) (below : List Frame) (meth : Method) (c : Code) (vm0 : Vm) (k0 : Nat) (T : State) (locs : List Loc),
    Inv wd l Z a0 EL R y bytes maxL ret hs ws h F k n p e s m args below meth c vm0 k0 T locs → Out wd Z EL R hs ws Q p e s below (T.setTop (mkF m pc Ls S))
section Kit
variable {wd : Bool} {l : Launch} {Z : State} {EL : List (String × Nat)} {R : Room} {y : MethodName} {bytes : ByteArray} {maxL : Nat} {ret : Option FieldType} {hs : Heap} {ws : List Addr} {Q : Option Value → Heap → Prop} {h h' : Heap} {F F' : List Addr} {k n k' n' pc pc' pc1 : Nat} {Ls Ls' : Array Slot} {S S' : List Value}
variable {a0 : Array Value} {a b : Addr} {C O nm d : String} {v w : Value} {sl : Nat} {cl : Cell} {ty : FieldType}
theorem Sfe.mem (q : a ∈ F) : Sfe Z EL h F a := fun _ _ S => (S a q).2
theorem Sfe.exa (E : Exa Z h a C) (h1 : C ≠ "java/lang/String") (h2 : C ≠ "[B") : Sfe Z EL h F a := fun _ hal _ => Safe.exa hal E h1 h2
theorem Sfe.arr (A : Arr Z h a cl ty) (ht : ty ≠ .byte) : Sfe Z EL h F a := fun _ hal _ => Safe.arr hal A ht
theorem Out.back {p : Program} {e : Env} {s : State} {below : List Frame} {st st' : State} (o : Out wd Z EL R hs ws Q p e s below st') (f : ∀ t, Steps p.tables e below st' t → Steps p.tables e below st t) : Out wd Z EL R hs ws Q p e s below st := by
  obtain ⟨v, t, h1, r⟩ := o; exact ⟨v, t, f t h1, r⟩
theorem Wp.lift (f : ∀ (p : Program) (e : Env) (m : MethodId) (below : List Frame) (c : Code) (T t : State), At T m c below → p.tables.exec = Jvm.exec → c.code = bytes → Steps p.tables e below (T.setTop (mkF m pc' Ls' S')) t → Steps p.tables e below (T.setTop (mkF m pc Ls S)) t)
    (K : Wp wd l Z a0 EL R y bytes maxL ret hs ws Q h F k n pc' Ls' S') : Wp wd l Z a0 EL R y bytes maxL ret hs ws Q h F k n pc Ls S :=
  fun p e s m args below meth c vm0 k0 T locs I => (K p e s m args below meth c vm0 k0 T locs I).back fun t st => f p e m below c T t I.2.2.2.1.here I.1.2.1 I.1.2.2.1 st
theorem Wp.old (K : Ext Z.heap h → Wp wd l Z a0 EL R y bytes maxL ret hs ws Q h F k n pc Ls S) : Wp wd l Z a0 EL R y bytes maxL ret hs ws Q h F k n pc Ls S :=
  fun p e s m args below meth c vm0 k0 T locs I => K I.2.1.2.2.2.2 p e s m args below meth c vm0 k0 T locs I
theorem Wp.eqS (q : S = S') (K : Wp wd l Z a0 EL R y bytes maxL ret hs ws Q h F k n pc Ls S') : Wp wd l Z a0 EL R y bytes maxL ret hs ws Q h F k n pc Ls S := q ▸ K
theorem Wp.more (hk : k ≤ k') (hn : n ≤ n') (K : Wp wd l Z a0 EL R y bytes maxL ret hs ws Q h F k' n' pc Ls S) : Wp wd l Z a0 EL R y bytes maxL ret hs ws Q h F k n pc Ls S :=
  fun p e s m args below meth c vm0 k0 T locs I => K p e s m args below meth c vm0 k0 T locs ⟨I.1, I.2.1, I.2.2.1, I.2.2.2.1.mono hk hn, I.2.2.2.2⟩
theorem Wp.less (hF : ∀ x ∈ F', x ∈ F) (K : Wp wd l Z a0 EL R y bytes maxL ret hs ws Q h F' k n pc Ls S) : Wp wd l Z a0 EL R y bytes maxL ret hs ws Q h F k n pc Ls S :=
  fun p e s m args below meth c vm0 k0 T locs I => K p e s m args below meth c vm0 k0 T locs ⟨I.1, I.2.1, ⟨I.2.2.1.1, I.2.2.1.2.1, I.2.2.1.2.2.1, I.2.2.1.2.2.2.1, I.2.2.1.2.2.2.2.1, I.2.2.1.2.2.2.2.2.1, fun x hx => I.2.2.1.2.2.2.2.2.2 x (hF x hx)⟩, I.2.2.2⟩
/-- the cells of the start stand, but for the listed -/
theorem keep_of {s T : State} {locs : List Loc} {kk nn : Nat} (hsm : s.sameButNew T locs kk nn) (hL : Wh s.heap ws locs) : Keep s.heap T.heap ws := by
  refine ⟨hsm.2.1, fun x c hx hn => ?_, fun x c hx => ?_⟩
  · obtain ⟨c', h1, h2, -, h4⟩ := hsm.2.2.2.2.2 x c hx
    have hb := (Array.getElem?_eq_some_iff.mp hx).1
    have hsl : c'.slots = c.slots := Array.ext_getElem? fun i => h4 i fun hm => (hL _ hm).elim hn fun q => absurd q (Nat.not_le.mpr hb)
    have hcc : c' = c := by rw [h2, hsl]
    rw [← hcc]; exact h1
  · obtain ⟨c', h1, h2, h3, -⟩ := hsm.2.2.2.2.2 x c hx
    exact ⟨c', h1, by rw [h2], by rw [h2], h3⟩
theorem Ext.trans {h1 h2 h3 : Heap} (A : Ext h1 h2) (B : Ext h2 h3) : Ext h1 h3 := ⟨Nat.le_trans A.1 B.1, fun x c q => B.2 x c (A.2 x c q)⟩
theorem ext_wr (O : Ext Z.heap h) (W : Wr h h' a sl v) (q : Z.heap.size ≤ a) : Ext Z.heap h' := ⟨by rw [W.size]; exact O.1, fun x c hx => by
  obtain ⟨c', h1, -, -, -, h5, -⟩ := wr_at W (O.2 x c hx)
  rw [← h5 (Nat.ne_of_lt (Nat.lt_of_lt_of_le (Array.getElem?_eq_some_iff.mp hx).1 q))]; exact h1⟩
theorem ext_keep {wc : List Addr} (O : Ext Z.heap h) (K : Keep h h' wc) (q : ∀ x ∈ wc, Z.heap.size ≤ x) : Ext Z.heap h' := ⟨Nat.le_trans O.1 K.1, fun x c hx => K.2.1 x c (O.2 x c hx) fun hm => absurd (Array.getElem?_eq_some_iff.mp hx).1 (Nat.not_lt.mpr (q x hm))⟩
/-- a step that reads the tables or the heap and moves neither but by resolving -/
theorem Wp.tab (law : ∀ (p : Program) (e : Env) (s : State) (m : MethodId) (args : Array Value) (below : List Frame) (meth : Method) (c : Code) (T : State) (locs : List Loc), Stand p l e R s m args below meth c T locs k n → p.tables.exec = Jvm.exec → Z.Warmed39 s.vm → s.vm.findClass y.cls = some m.cls → c.code = bytes → c.maxLocals = maxL → s.heap = hs → T.heap = h → Ext Z.heap h →
      ∃ T', Stand p l e R s m args below meth c T' locs k n ∧ T'.heap = h ∧ ∀ t, Steps p.tables e below (T'.setTop (mkF m pc' Ls' S')) t → Steps p.tables e below (T.setTop (mkF m pc Ls S)) t)
    (K : Wp wd l Z a0 EL R y bytes maxL ret hs ws Q h F k n pc' Ls' S') : Wp wd l Z a0 EL R y bytes maxL ret hs ws Q h F k n pc Ls S := fun p e s m args below meth c vm0 k0 T locs I => by
  obtain ⟨⟨i1, i2, i3, i4, i5⟩, J, ⟨j1, j2, j3, j4, j5, j6⟩, X, eT⟩ := I
  obtain ⟨T', X', eT', st⟩ := law p e (s.setVm vm0) m args below meth c T locs X i2 j5 j1 i3 i4 J.1 eT J.2.2.2.2
  exact (K p e s m args below meth c vm0 k0 T' locs ⟨⟨i1, i2, i3, i4, i5⟩, J, ⟨j1, j2, j3, j4, j5, j6⟩, X', eT'⟩).back st
/-- a step that writes one place -/
theorem Wp.put (hw : a ∈ ws ∨ hs.size ≤ a) (sf : Sfe Z EL h F a) (law : ∀ (p : Program) (e : Env) (s : State) (m : MethodId) (args : Array Value) (below : List Frame) (meth : Method) (c : Code) (T : State) (locs : List Loc), Stand p l e R s m args below meth c T locs k n → p.tables.exec = Jvm.exec → Z.Warmed39 s.vm → s.vm.findClass y.cls = some m.cls → c.code = bytes → meth.name = y.name → T.heap = h →
      ∃ T' h', Stand p l e R s m args below meth c T' (locs ++ [⟨a, sl⟩]) k n ∧ T'.heap = h' ∧ Wr h h' a sl v ∧ ∀ t, Steps p.tables e below (T'.setTop (mkF m pc' Ls' S')) t → Steps p.tables e below (T.setTop (mkF m pc Ls S)) t)
    (K : ∀ h', Wr h h' a sl v → Wp wd l Z a0 EL R y bytes maxL ret hs ws Q h' F k n pc' Ls' S') : Wp wd l Z a0 EL R y bytes maxL ret hs ws Q h F k n pc Ls S := fun p e s m args below meth c vm0 k0 T locs I => by
  obtain ⟨⟨i1, i2, i3, i4, i5, i6, i7⟩, ⟨q1, q2, q3, q4, q5⟩, ⟨j1, j2, j3, j4, j5, j6, j7⟩, X, eT⟩ := I
  obtain ⟨T', h', X', eT', W, st⟩ := law p e (s.setVm vm0) m args below meth c T locs X i2 j5 j1 i3 i6 eT
  have S := sf vm0 j5.alike j7
  refine (K h' W p e s m args below meth c vm0 k0 T' _ ⟨⟨i1, i2, i3, i4, i5, i6, i7⟩, ⟨q1, q2, q3, fun z hz => ?_, ext_wr q5 W (hw.elim (q2 a) (Nat.le_trans q3))⟩, ⟨j1, j2, by rw [W.size]; exact j3, j4, j5, j6.trans (CHr.wr W S j6.1), fun x hx => ⟨by rw [W.size]; exact (j7 x hx).1, Safe.wr W S j6.1 (j7 x hx).2⟩⟩, X', eT'⟩).back st
  rcases List.mem_append.mp hz with hz | hz
  · exact q4 z hz
  · cases List.mem_singleton.mp hz; exact hw
/-- a step that makes one cell -/
theorem Wp.mk (P : Heap → Prop) (hlt : ∀ h', P h' → h.size < h'.size) (law : ∀ (p : Program) (e : Env) (s : State) (m : MethodId) (args : Array Value) (below : List Frame) (meth : Method) (c : Code) (T : State) (locs : List Loc), Stand p l e R s m args below meth c T locs k n → p.tables.exec = Jvm.exec → Z.Warmed39 s.vm → s.vm.findClass y.cls = some m.cls → c.code = bytes → T.heap = h →
      ∃ T' h', Stand p l e R s m args below meth c T' locs k' n' ∧ T'.heap = h' ∧ Ext h h' ∧ P h' ∧ ∀ t, Steps p.tables e below (T'.setTop (mkF m pc' Ls' S')) t → Steps p.tables e below (T.setTop (mkF m pc Ls S)) t)
    (K : ∀ h', hs.size ≤ h.size → Ext h h' → P h' → Wp wd l Z a0 EL R y bytes maxL ret hs ws Q h' (h.size :: F) k' n' pc' Ls' S') : Wp wd l Z a0 EL R y bytes maxL ret hs ws Q h F k n pc Ls S := fun p e s m args below meth c vm0 k0 T locs I => by
  obtain ⟨⟨i1, i2, i3, i4, i5⟩, ⟨q1, q2, q3, q4, q5⟩, ⟨j1, j2, j3, j4, j5, j6, j7⟩, X, eT⟩ := I
  obtain ⟨T', h', X', eT', E, hP, st⟩ := law p e (s.setVm vm0) m args below meth c T locs X i2 j5 j1 i3 eT
  refine (K h' j6.2.1 E hP p e s m args below meth c vm0 k0 T' _ ⟨⟨i1, i2, i3, i4, i5⟩, ⟨q1, q2, q3, q4, Ext.trans q5 E⟩, ⟨j1, j2, Nat.le_trans j3 E.1, j4, j5, j6.trans (CHr.ext E j6.1), fun x hx => ?_⟩, X', eT'⟩).back st
  rcases List.mem_cons.mp hx with rfl | hx
  · exact ⟨hlt h' hP, Safe.ext E j6.1 (Safe.new (Nat.le_refl _))⟩
  · exact ⟨Nat.lt_of_lt_of_le (j7 x hx).1 E.1, Safe.ext E j6.1 (j7 x hx).2⟩
/-- the return -/
theorem Wp.leave (hk : k ≤ R.cells) (hn : n ≤ R.slots) {v' : Option Value} (hv : ret = none → v' = none) (hQ : Q v' h) (law : ∀ (p : Program) (e : Env) (s : State) (m : MethodId) (args : Array Value) (below : List Frame) (meth : Method) (c : Code) (T : State) (locs : List Loc) (fs : List Frame), Stand p l e R s m args below meth c T locs k n → p.tables.exec = Jvm.exec → c.code = bytes → meth.sig.returnType = ret →
      (∀ (f : JFrame) (acts : List Action), f.method = m → f.locked = none → f.entered = [] → (doReturn e (T.setTop f) acts v').1 = T.setFrames fs) → Steps p.tables e below (T.setTop (mkF m pc Ls S)) (T.setFrames fs)) :
    Wp wd l Z a0 EL R y bytes maxL ret hs ws Q h F k n pc Ls S := fun p e s m args below meth c vm0 k0 T locs I => by
  obtain ⟨⟨i1, i2, i3, i4, i5, i6, i7⟩, ⟨q1, q2, q3, q4, q5⟩, ⟨j1, j2, j3, j4, j5, j6, j7⟩, X, eT⟩ := I
  subst eT
  obtain ⟨fs, hr, hrun, hended, hE⟩ := X.leaveW j2 j3 (v := v') (by rw [i5]; exact hv) i7
  refine ⟨v', _, law p e (s.setVm vm0) m args below meth c T locs fs X i2 i3 i5 hr, hrun, hended, locs, q4, hQ, j6.trans (show CHr Z EL vm0 T.heap T.vm T.heap from CHv.at X j5 i1 j6.1), ⟨hE.1, hE.2.1, hE.2.2.1, hE.2.2.2.mono hk hn⟩, fun z => ?_⟩
  exact State.WarmedH.trans (t := s.setVm vm0) (j4 z) X.warmed
end Kit
end Jvm.Own
namespace Jvm.Own
open Sem ClassFile Op Lib Jvm.Stand Jvm.Free Jvm.LawKit Jvm.RoadKit
section Rules
variable {wd : Bool} {l : Launch} {Z : State} {EL : List (String × Nat)} {R : Room} {y : MethodName} {bytes : ByteArray} {maxL : Nat} {ret : Option FieldType} {hs : Heap} {ws : List Addr} {Q : Option Value → Heap → Prop} {h h' : Heap} {F F' : List Addr} {k n k' n' pc pc' pc1 : Nat} {Ls Ls' : Array Slot} {S S' : List Value}
variable {a0 : Array Value} {a b : Addr} {C O nm d : String} {v w : Value} {sl : Nat} {cl : Cell} {ty : FieldType}
theorem Wp.iloadN {i : Fin 4} {x : Int32} (hd : decode bytes pc = .ok (.iload_n i, 1)) (hp : pc + 1 = pc') (hl : Ls[i.val]? = some (.val (.int x))) (K : Wp wd l Z a0 EL R y bytes maxL ret hs ws Q h F k n pc' Ls (.int x :: S)) : Wp wd l Z a0 EL R y bytes maxL ret hs ws Q h F k n pc Ls S := by
  subst hp; exact Wp.lift (fun p e m below c T t A hx hby st => XS.iloadN A hx rfl (hb hby hd) hl st) K
theorem Wp.iload {i : Nat} {x : Int32} (hd : decode bytes pc = .ok (.iload i, 2)) (hp : pc + 2 = pc') (hl : Ls[i]? = some (.val (.int x))) (K : Wp wd l Z a0 EL R y bytes maxL ret hs ws Q h F k n pc' Ls (.int x :: S)) : Wp wd l Z a0 EL R y bytes maxL ret hs ws Q h F k n pc Ls S := by
  subst hp; exact Wp.lift (fun p e m below c T t A hx hby st => XS.iload A hx rfl (hb hby hd) hl st) K
theorem Wp.istoreN {i : Fin 4} {x : Int32} {l' : Array Slot} (hd : decode bytes pc = .ok (.istore_n i, 1)) (hp : pc + 1 = pc') (hl : storeLocals Ls i.val (.int x) = some l') (K : Wp wd l Z a0 EL R y bytes maxL ret hs ws Q h F k n pc' l' S) : Wp wd l Z a0 EL R y bytes maxL ret hs ws Q h F k n pc Ls (.int x :: S) := by
  subst hp; exact Wp.lift (fun p e m below c T t A hx hby st => XS.istoreN A hx rfl (hb hby hd) rfl hl st) K
theorem Wp.istore {i : Nat} {x : Int32} {l' : Array Slot} (hd : decode bytes pc = .ok (.istore i, 2)) (hp : pc + 2 = pc') (hl : storeLocals Ls i (.int x) = some l') (K : Wp wd l Z a0 EL R y bytes maxL ret hs ws Q h F k n pc' l' S) : Wp wd l Z a0 EL R y bytes maxL ret hs ws Q h F k n pc Ls (.int x :: S) := by
  subst hp; exact Wp.lift (fun p e m below c T t A hx hby st => XS.istore A hx rfl (hb hby hd) rfl hl st) K
theorem Wp.lloadN {i : Fin 4} {x : Int64} (hd : decode bytes pc = .ok (.lload_n i, 1)) (hp : pc + 1 = pc') (hl : Ls[i.val]? = some (.val (.long x))) (K : Wp wd l Z a0 EL R y bytes maxL ret hs ws Q h F k n pc' Ls (.long x :: S)) : Wp wd l Z a0 EL R y bytes maxL ret hs ws Q h F k n pc Ls S := by
  subst hp; exact Wp.lift (fun p e m below c T t A hx hby st => XS.lloadN A hx rfl (hb hby hd) hl st) K
theorem Wp.lload {i : Nat} {x : Int64} (hd : decode bytes pc = .ok (.lload i, 2)) (hp : pc + 2 = pc') (hl : Ls[i]? = some (.val (.long x))) (K : Wp wd l Z a0 EL R y bytes maxL ret hs ws Q h F k n pc' Ls (.long x :: S)) : Wp wd l Z a0 EL R y bytes maxL ret hs ws Q h F k n pc Ls S := by
  subst hp; exact Wp.lift (fun p e m below c T t A hx hby st => XS.lload A hx rfl (hb hby hd) hl st) K
theorem Wp.lstoreN {i : Fin 4} {x : Int64} {l' : Array Slot} (hd : decode bytes pc = .ok (.lstore_n i, 1)) (hp : pc + 1 = pc') (hl : storeLocals Ls i.val (.long x) = some l') (K : Wp wd l Z a0 EL R y bytes maxL ret hs ws Q h F k n pc' l' S) : Wp wd l Z a0 EL R y bytes maxL ret hs ws Q h F k n pc Ls (.long x :: S) := by
  subst hp; exact Wp.lift (fun p e m below c T t A hx hby st => XS.lstoreN A hx rfl (hb hby hd) rfl hl st) K
theorem Wp.lstore {i : Nat} {x : Int64} {l' : Array Slot} (hd : decode bytes pc = .ok (.lstore i, 2)) (hp : pc + 2 = pc') (hl : storeLocals Ls i (.long x) = some l') (K : Wp wd l Z a0 EL R y bytes maxL ret hs ws Q h F k n pc' l' S) : Wp wd l Z a0 EL R y bytes maxL ret hs ws Q h F k n pc Ls (.long x :: S) := by
  subst hp; exact Wp.lift (fun p e m below c T t A hx hby st => XS.lstore A hx rfl (hb hby hd) rfl hl st) K
theorem Wp.aloadN {i : Fin 4} {v : Value} (hd : decode bytes pc = .ok (.aload_n i, 1)) (hp : pc + 1 = pc') (hl : Ls[i.val]? = some (.val v)) (hv : v.isRef = true) (K : Wp wd l Z a0 EL R y bytes maxL ret hs ws Q h F k n pc' Ls (v :: S)) : Wp wd l Z a0 EL R y bytes maxL ret hs ws Q h F k n pc Ls S := by
  subst hp; exact Wp.lift (fun p e m below c T t A hx hby st => XS.aloadN A hx rfl (hb hby hd) hl hv st) K
theorem Wp.aload {i : Nat} {v : Value} (hd : decode bytes pc = .ok (.aload i, 2)) (hp : pc + 2 = pc') (hl : Ls[i]? = some (.val v)) (hv : v.isRef = true) (K : Wp wd l Z a0 EL R y bytes maxL ret hs ws Q h F k n pc' Ls (v :: S)) : Wp wd l Z a0 EL R y bytes maxL ret hs ws Q h F k n pc Ls S := by
  subst hp; exact Wp.lift (fun p e m below c T t A hx hby st => XS.aload A hx rfl (hb hby hd) hl hv st) K
theorem Wp.astoreN {i : Fin 4} {v : Value} {l' : Array Slot} (hd : decode bytes pc = .ok (.astore_n i, 1)) (hp : pc + 1 = pc') (hv : v.isRef = true) (hl : storeLocals Ls i.val v = some l') (K : Wp wd l Z a0 EL R y bytes maxL ret hs ws Q h F k n pc' l' S) : Wp wd l Z a0 EL R y bytes maxL ret hs ws Q h F k n pc Ls (v :: S) := by
  subst hp; exact Wp.lift (fun p e m below c T t A hx hby st => XS.astoreN A hx rfl (hb hby hd) rfl hv hl st) K
theorem Wp.astore {i : Nat} {v : Value} {l' : Array Slot} (hd : decode bytes pc = .ok (.astore i, 2)) (hp : pc + 2 = pc') (hv : v.isRef = true) (hl : storeLocals Ls i v = some l') (K : Wp wd l Z a0 EL R y bytes maxL ret hs ws Q h F k n pc' l' S) : Wp wd l Z a0 EL R y bytes maxL ret hs ws Q h F k n pc Ls (v :: S) := by
  subst hp; exact Wp.lift (fun p e m below c T t A hx hby st => XS.astore A hx rfl (hb hby hd) rfl hv hl st) K
theorem Wp.iconst {i : Int} {x : Int32} (hd : decode bytes pc = .ok (.iconst i, 1)) (hp : pc + 1 = pc') (hi : Int32.ofInt i = x) (K : Wp wd l Z a0 EL R y bytes maxL ret hs ws Q h F k n pc' Ls (.int x :: S)) : Wp wd l Z a0 EL R y bytes maxL ret hs ws Q h F k n pc Ls S := by
  subst hp; exact Wp.lift (fun p e m below c T t A hx hby st => XS.iconst A hx rfl (hb hby hd) (hi ▸ st)) K
theorem Wp.bipush {i : Int} {x : Int32} (hd : decode bytes pc = .ok (.bipush i, 2)) (hp : pc + 2 = pc') (hi : (Int8.ofInt i).toInt32 = x) (K : Wp wd l Z a0 EL R y bytes maxL ret hs ws Q h F k n pc' Ls (.int x :: S)) : Wp wd l Z a0 EL R y bytes maxL ret hs ws Q h F k n pc Ls S := by
  subst hp; exact Wp.lift (fun p e m below c T t A hx hby st => XS.bipush A hx rfl (hb hby hd) (hi ▸ st)) K
theorem Wp.sipush {i : Int} {x : Int32} (hd : decode bytes pc = .ok (.sipush i, 3)) (hp : pc + 3 = pc') (hi : (Int16.ofInt i).toInt32 = x) (K : Wp wd l Z a0 EL R y bytes maxL ret hs ws Q h F k n pc' Ls (.int x :: S)) : Wp wd l Z a0 EL R y bytes maxL ret hs ws Q h F k n pc Ls S := by
  subst hp; exact Wp.lift (fun p e m below c T t A hx hby st => XS.sipush A hx rfl (hb hby hd) (hi ▸ st)) K
theorem Wp.lconst {i : Fin 2} {x : Int64} (hd : decode bytes pc = .ok (.lconst i, 1)) (hp : pc + 1 = pc') (hi : Int64.ofNat i = x) (K : Wp wd l Z a0 EL R y bytes maxL ret hs ws Q h F k n pc' Ls (.long x :: S)) : Wp wd l Z a0 EL R y bytes maxL ret hs ws Q h F k n pc Ls S := by
  subst hp; exact Wp.lift (fun p e m below c T t A hx hby st => XS.lconst A hx rfl (hb hby hd) (hi ▸ st)) K
theorem Wp.aconstNull  (hd : decode bytes pc = .ok (.aconst_null, 1)) (hp : pc + 1 = pc') (K : Wp wd l Z a0 EL R y bytes maxL ret hs ws Q h F k n pc' Ls (.null :: S)) : Wp wd l Z a0 EL R y bytes maxL ret hs ws Q h F k n pc Ls S := by
  subst hp; exact Wp.lift (fun p e m below c T t A hx hby st => XS.aconstNull A hx rfl (hb hby hd) st) K
theorem Wp.iadd {x z : Int32} (hd : decode bytes pc = .ok (.iadd, 1)) (hp : pc + 1 = pc') (K : Wp wd l Z a0 EL R y bytes maxL ret hs ws Q h F k n pc' Ls (.int (x + z) :: S)) : Wp wd l Z a0 EL R y bytes maxL ret hs ws Q h F k n pc Ls (.int z :: .int x :: S) := by
  subst hp; exact Wp.lift (fun p e m below c T t A hx hby st => XS.iadd A hx rfl (hb hby hd) rfl st) K
theorem Wp.ladd {x z : Int64} (hd : decode bytes pc = .ok (.ladd, 1)) (hp : pc + 1 = pc') (K : Wp wd l Z a0 EL R y bytes maxL ret hs ws Q h F k n pc' Ls (.long (x + z) :: S)) : Wp wd l Z a0 EL R y bytes maxL ret hs ws Q h F k n pc Ls (.long z :: .long x :: S) := by
  subst hp; exact Wp.lift (fun p e m below c T t A hx hby st => XS.ladd A hx rfl (hb hby hd) rfl st) K
theorem Wp.isub {x z : Int32} (hd : decode bytes pc = .ok (.isub, 1)) (hp : pc + 1 = pc') (K : Wp wd l Z a0 EL R y bytes maxL ret hs ws Q h F k n pc' Ls (.int (x - z) :: S)) : Wp wd l Z a0 EL R y bytes maxL ret hs ws Q h F k n pc Ls (.int z :: .int x :: S) := by
  subst hp; exact Wp.lift (fun p e m below c T t A hx hby st => XS.isub A hx rfl (hb hby hd) rfl st) K
theorem Wp.lsub {x z : Int64} (hd : decode bytes pc = .ok (.lsub, 1)) (hp : pc + 1 = pc') (K : Wp wd l Z a0 EL R y bytes maxL ret hs ws Q h F k n pc' Ls (.long (x - z) :: S)) : Wp wd l Z a0 EL R y bytes maxL ret hs ws Q h F k n pc Ls (.long z :: .long x :: S) := by
  subst hp; exact Wp.lift (fun p e m below c T t A hx hby st => XS.lsub A hx rfl (hb hby hd) rfl st) K
theorem Wp.imul {x z : Int32} (hd : decode bytes pc = .ok (.imul, 1)) (hp : pc + 1 = pc') (K : Wp wd l Z a0 EL R y bytes maxL ret hs ws Q h F k n pc' Ls (.int (x * z) :: S)) : Wp wd l Z a0 EL R y bytes maxL ret hs ws Q h F k n pc Ls (.int z :: .int x :: S) := by
  subst hp; exact Wp.lift (fun p e m below c T t A hx hby st => XS.imul A hx rfl (hb hby hd) rfl st) K
theorem Wp.lmul {x z : Int64} (hd : decode bytes pc = .ok (.lmul, 1)) (hp : pc + 1 = pc') (K : Wp wd l Z a0 EL R y bytes maxL ret hs ws Q h F k n pc' Ls (.long (x * z) :: S)) : Wp wd l Z a0 EL R y bytes maxL ret hs ws Q h F k n pc Ls (.long z :: .long x :: S) := by
  subst hp; exact Wp.lift (fun p e m below c T t A hx hby st => XS.lmul A hx rfl (hb hby hd) rfl st) K
theorem Wp.iand {x z : Int32} (hd : decode bytes pc = .ok (.iand, 1)) (hp : pc + 1 = pc') (K : Wp wd l Z a0 EL R y bytes maxL ret hs ws Q h F k n pc' Ls (.int (x &&& z) :: S)) : Wp wd l Z a0 EL R y bytes maxL ret hs ws Q h F k n pc Ls (.int z :: .int x :: S) := by
  subst hp; exact Wp.lift (fun p e m below c T t A hx hby st => XS.iand A hx rfl (hb hby hd) rfl st) K
theorem Wp.land {x z : Int64} (hd : decode bytes pc = .ok (.land, 1)) (hp : pc + 1 = pc') (K : Wp wd l Z a0 EL R y bytes maxL ret hs ws Q h F k n pc' Ls (.long (x &&& z) :: S)) : Wp wd l Z a0 EL R y bytes maxL ret hs ws Q h F k n pc Ls (.long z :: .long x :: S) := by
  subst hp; exact Wp.lift (fun p e m below c T t A hx hby st => XS.land A hx rfl (hb hby hd) rfl st) K
theorem Wp.ior {x z : Int32} (hd : decode bytes pc = .ok (.ior, 1)) (hp : pc + 1 = pc') (K : Wp wd l Z a0 EL R y bytes maxL ret hs ws Q h F k n pc' Ls (.int (x ||| z) :: S)) : Wp wd l Z a0 EL R y bytes maxL ret hs ws Q h F k n pc Ls (.int z :: .int x :: S) := by
  subst hp; exact Wp.lift (fun p e m below c T t A hx hby st => XS.ior A hx rfl (hb hby hd) rfl st) K
theorem Wp.lor {x z : Int64} (hd : decode bytes pc = .ok (.lor, 1)) (hp : pc + 1 = pc') (K : Wp wd l Z a0 EL R y bytes maxL ret hs ws Q h F k n pc' Ls (.long (x ||| z) :: S)) : Wp wd l Z a0 EL R y bytes maxL ret hs ws Q h F k n pc Ls (.long z :: .long x :: S) := by
  subst hp; exact Wp.lift (fun p e m below c T t A hx hby st => XS.lor A hx rfl (hb hby hd) rfl st) K
theorem Wp.ixor {x z : Int32} (hd : decode bytes pc = .ok (.ixor, 1)) (hp : pc + 1 = pc') (K : Wp wd l Z a0 EL R y bytes maxL ret hs ws Q h F k n pc' Ls (.int (x ^^^ z) :: S)) : Wp wd l Z a0 EL R y bytes maxL ret hs ws Q h F k n pc Ls (.int z :: .int x :: S) := by
  subst hp; exact Wp.lift (fun p e m below c T t A hx hby st => XS.ixor A hx rfl (hb hby hd) rfl st) K
theorem Wp.lxor {x z : Int64} (hd : decode bytes pc = .ok (.lxor, 1)) (hp : pc + 1 = pc') (K : Wp wd l Z a0 EL R y bytes maxL ret hs ws Q h F k n pc' Ls (.long (x ^^^ z) :: S)) : Wp wd l Z a0 EL R y bytes maxL ret hs ws Q h F k n pc Ls (.long z :: .long x :: S) := by
  subst hp; exact Wp.lift (fun p e m below c T t A hx hby st => XS.lxor A hx rfl (hb hby hd) rfl st) K
theorem Wp.ineg {x : Int32} (hd : decode bytes pc = .ok (.ineg, 1)) (hp : pc + 1 = pc') (K : Wp wd l Z a0 EL R y bytes maxL ret hs ws Q h F k n pc' Ls (.int (-x) :: S)) : Wp wd l Z a0 EL R y bytes maxL ret hs ws Q h F k n pc Ls (.int x :: S) := by
  subst hp; exact Wp.lift (fun p e m below c T t A hx hby st => XS.ineg A hx rfl (hb hby hd) rfl st) K
theorem Wp.i2l {x : Int32} (hd : decode bytes pc = .ok (.i2l, 1)) (hp : pc + 1 = pc') (K : Wp wd l Z a0 EL R y bytes maxL ret hs ws Q h F k n pc' Ls (.long (x.toInt64) :: S)) : Wp wd l Z a0 EL R y bytes maxL ret hs ws Q h F k n pc Ls (.int x :: S) := by
  subst hp; exact Wp.lift (fun p e m below c T t A hx hby st => XS.i2l A hx rfl (hb hby hd) rfl st) K
theorem Wp.l2i {x : Int64} (hd : decode bytes pc = .ok (.l2i, 1)) (hp : pc + 1 = pc') (K : Wp wd l Z a0 EL R y bytes maxL ret hs ws Q h F k n pc' Ls (.int (x.toInt32) :: S)) : Wp wd l Z a0 EL R y bytes maxL ret hs ws Q h F k n pc Ls (.long x :: S) := by
  subst hp; exact Wp.lift (fun p e m below c T t A hx hby st => XS.l2i A hx rfl (hb hby hd) rfl st) K
theorem Wp.i2b {x : Int32} (hd : decode bytes pc = .ok (.i2b, 1)) (hp : pc + 1 = pc') (K : Wp wd l Z a0 EL R y bytes maxL ret hs ws Q h F k n pc' Ls (.int (x.toInt8.toInt32) :: S)) : Wp wd l Z a0 EL R y bytes maxL ret hs ws Q h F k n pc Ls (.int x :: S) := by
  subst hp; exact Wp.lift (fun p e m below c T t A hx hby st => XS.i2b A hx rfl (hb hby hd) rfl st) K
theorem Wp.i2s {x : Int32} (hd : decode bytes pc = .ok (.i2s, 1)) (hp : pc + 1 = pc') (K : Wp wd l Z a0 EL R y bytes maxL ret hs ws Q h F k n pc' Ls (.int (x.toInt16.toInt32) :: S)) : Wp wd l Z a0 EL R y bytes maxL ret hs ws Q h F k n pc Ls (.int x :: S) := by
  subst hp; exact Wp.lift (fun p e m below c T t A hx hby st => XS.i2s A hx rfl (hb hby hd) rfl st) K
theorem Wp.i2c {x : Int32} (hd : decode bytes pc = .ok (.i2c, 1)) (hp : pc + 1 = pc') (K : Wp wd l Z a0 EL R y bytes maxL ret hs ws Q h F k n pc' Ls (.int (x.toUInt32.toUInt16.toUInt32.toInt32) :: S)) : Wp wd l Z a0 EL R y bytes maxL ret hs ws Q h F k n pc Ls (.int x :: S) := by
  subst hp; exact Wp.lift (fun p e m below c T t A hx hby st => XS.i2c A hx rfl (hb hby hd) rfl st) K
theorem Wp.ishl {x : Int32} {z : Int32} (hd : decode bytes pc = .ok (.ishl, 1)) (hp : pc + 1 = pc') (K : Wp wd l Z a0 EL R y bytes maxL ret hs ws Q h F k n pc' Ls (.int (x <<< (z &&& 31)) :: S)) : Wp wd l Z a0 EL R y bytes maxL ret hs ws Q h F k n pc Ls (.int z :: .int x :: S) := by
  subst hp; exact Wp.lift (fun p e m below c T t A hx hby st => XS.ishl A hx rfl (hb hby hd) rfl st) K
theorem Wp.ishr {x : Int32} {z : Int32} (hd : decode bytes pc = .ok (.ishr, 1)) (hp : pc + 1 = pc') (K : Wp wd l Z a0 EL R y bytes maxL ret hs ws Q h F k n pc' Ls (.int (x >>> (z &&& 31)) :: S)) : Wp wd l Z a0 EL R y bytes maxL ret hs ws Q h F k n pc Ls (.int z :: .int x :: S) := by
  subst hp; exact Wp.lift (fun p e m below c T t A hx hby st => XS.ishr A hx rfl (hb hby hd) rfl st) K
theorem Wp.iushr {x : Int32} {z : Int32} (hd : decode bytes pc = .ok (.iushr, 1)) (hp : pc + 1 = pc') (K : Wp wd l Z a0 EL R y bytes maxL ret hs ws Q h F k n pc' Ls (.int ((x.toUInt32 >>> (z &&& 31).toUInt32).toInt32) :: S)) : Wp wd l Z a0 EL R y bytes maxL ret hs ws Q h F k n pc Ls (.int z :: .int x :: S) := by
  subst hp; exact Wp.lift (fun p e m below c T t A hx hby st => XS.iushr A hx rfl (hb hby hd) rfl st) K
theorem Wp.lshl {x : Int64} {z : Int32} (hd : decode bytes pc = .ok (.lshl, 1)) (hp : pc + 1 = pc') (K : Wp wd l Z a0 EL R y bytes maxL ret hs ws Q h F k n pc' Ls (.long (x <<< (z &&& 0x3f).toInt64) :: S)) : Wp wd l Z a0 EL R y bytes maxL ret hs ws Q h F k n pc Ls (.int z :: .long x :: S) := by
  subst hp; exact Wp.lift (fun p e m below c T t A hx hby st => XS.lshl A hx rfl (hb hby hd) rfl st) K
theorem Wp.lshr {x : Int64} {z : Int32} (hd : decode bytes pc = .ok (.lshr, 1)) (hp : pc + 1 = pc') (K : Wp wd l Z a0 EL R y bytes maxL ret hs ws Q h F k n pc' Ls (.long (x >>> (z &&& 0x3f).toInt64) :: S)) : Wp wd l Z a0 EL R y bytes maxL ret hs ws Q h F k n pc Ls (.int z :: .long x :: S) := by
  subst hp; exact Wp.lift (fun p e m below c T t A hx hby st => XS.lshr A hx rfl (hb hby hd) rfl st) K
theorem Wp.lushr {x : Int64} {z : Int32} (hd : decode bytes pc = .ok (.lushr, 1)) (hp : pc + 1 = pc') (K : Wp wd l Z a0 EL R y bytes maxL ret hs ws Q h F k n pc' Ls (.long ((x.toUInt64 >>> (z &&& 0x3f).toInt64.toUInt64).toInt64) :: S)) : Wp wd l Z a0 EL R y bytes maxL ret hs ws Q h F k n pc Ls (.int z :: .long x :: S) := by
  subst hp; exact Wp.lift (fun p e m below c T t A hx hby st => XS.lushr A hx rfl (hb hby hd) rfl st) K
theorem Wp.lcmp {x z : Int64} (hd : decode bytes pc = .ok (.lcmp, 1)) (hp : pc + 1 = pc') (K : Wp wd l Z a0 EL R y bytes maxL ret hs ws Q h F k n pc' Ls (.int (lcmpW x z) :: S)) : Wp wd l Z a0 EL R y bytes maxL ret hs ws Q h F k n pc Ls (.long z :: .long x :: S) := by
  subst hp; exact Wp.lift (fun p e m below c T t A hx hby st => XS.lcmp A hx rfl (hb hby hd) rfl st) K
theorem Wp.idiv {x z : Int32} (hd : decode bytes pc = .ok (.idiv, 1)) (hp : pc + 1 = pc') (hz : z ≠ 0) (K : Wp wd l Z a0 EL R y bytes maxL ret hs ws Q h F k n pc' Ls (.int (x / z) :: S)) : Wp wd l Z a0 EL R y bytes maxL ret hs ws Q h F k n pc Ls (.int z :: .int x :: S) := by
  subst hp; exact Wp.lift (fun p e m below c T t A hx hby st => XS.idiv A hx rfl (hb hby hd) rfl hz st) K
theorem Wp.irem {x z : Int32} (hd : decode bytes pc = .ok (.irem, 1)) (hp : pc + 1 = pc') (hz : z ≠ 0) (K : Wp wd l Z a0 EL R y bytes maxL ret hs ws Q h F k n pc' Ls (.int (x % z) :: S)) : Wp wd l Z a0 EL R y bytes maxL ret hs ws Q h F k n pc Ls (.int z :: .int x :: S) := by
  subst hp; exact Wp.lift (fun p e m below c T t A hx hby st => XS.irem A hx rfl (hb hby hd) rfl hz (by rw [irem_eq_mod]; exact st)) K
theorem Wp.ldiv {x z : Int64} (hd : decode bytes pc = .ok (.ldiv, 1)) (hp : pc + 1 = pc') (hz : z ≠ 0) (K : Wp wd l Z a0 EL R y bytes maxL ret hs ws Q h F k n pc' Ls (.long (x / z) :: S)) : Wp wd l Z a0 EL R y bytes maxL ret hs ws Q h F k n pc Ls (.long z :: .long x :: S) := by
  subst hp; exact Wp.lift (fun p e m below c T t A hx hby st => XS.ldiv A hx rfl (hb hby hd) rfl hz st) K
theorem Wp.lrem {x z : Int64} (hd : decode bytes pc = .ok (.lrem, 1)) (hp : pc + 1 = pc') (hz : z ≠ 0) (K : Wp wd l Z a0 EL R y bytes maxL ret hs ws Q h F k n pc' Ls (.long (x - (x / z) * z) :: S)) : Wp wd l Z a0 EL R y bytes maxL ret hs ws Q h F k n pc Ls (.long z :: .long x :: S) := by
  subst hp; exact Wp.lift (fun p e m below c T t A hx hby st => XS.lrem A hx rfl (hb hby hd) rfl hz st) K
theorem Wp.dup {v : Value} (hd : decode bytes pc = .ok (.dup, 1)) (hp : pc + 1 = pc') (hc : v.category = 1) (K : Wp wd l Z a0 EL R y bytes maxL ret hs ws Q h F k n pc' Ls (v :: v :: S)) : Wp wd l Z a0 EL R y bytes maxL ret hs ws Q h F k n pc Ls (v :: S) := by
  subst hp; exact Wp.lift (fun p e m below c T t A hx hby st => XS.dup A hx rfl (hb hby hd) rfl hc st) K
theorem Wp.pop {v : Value} (hd : decode bytes pc = .ok (.pop, 1)) (hp : pc + 1 = pc') (hc : v.category = 1) (K : Wp wd l Z a0 EL R y bytes maxL ret hs ws Q h F k n pc' Ls S) : Wp wd l Z a0 EL R y bytes maxL ret hs ws Q h F k n pc Ls (v :: S) := by
  subst hp; exact Wp.lift (fun p e m below c T t A hx hby st => XS.pop A hx rfl (hb hby hd) rfl hc st) K
theorem Wp.dupX1 {v w : Value} (hd : decode bytes pc = .ok (.dup_x1, 1)) (hp : pc + 1 = pc') (hc : v.category = 1) (hc' : w.category = 1) (K : Wp wd l Z a0 EL R y bytes maxL ret hs ws Q h F k n pc' Ls (v :: w :: v :: S)) : Wp wd l Z a0 EL R y bytes maxL ret hs ws Q h F k n pc Ls (v :: w :: S) := by
  subst hp; exact Wp.lift (fun p e m below c T t A hx hby st => XS.dupX1 A hx rfl (hb hby hd) rfl hc hc' st) K
theorem Wp.dup2 {v w : Value} (hd : decode bytes pc = .ok (.dup2, 1)) (hp : pc + 1 = pc') (hc : v.category = 1) (hc' : w.category = 1) (K : Wp wd l Z a0 EL R y bytes maxL ret hs ws Q h F k n pc' Ls (v :: w :: v :: w :: S)) : Wp wd l Z a0 EL R y bytes maxL ret hs ws Q h F k n pc Ls (v :: w :: S) := by
  subst hp; exact Wp.lift (fun p e m below c T t A hx hby st => XT.dup2 A hx rfl (hb hby hd) rfl hc hc' st) K
theorem Wp.iinc {i : Nat} {q : Int} {x : Int32} {l' : Array Slot} (hd : decode bytes pc = .ok (.iinc i q, 3)) (hp : pc + 3 = pc') (hl : Ls[i]? = some (.val (.int x))) (hs' : storeLocals Ls i (.int (x + Int32.ofInt q)) = some l') (K : Wp wd l Z a0 EL R y bytes maxL ret hs ws Q h F k n pc' l' S) : Wp wd l Z a0 EL R y bytes maxL ret hs ws Q h F k n pc Ls S := by
  subst hp; exact Wp.lift (fun p e m below c T t A hx hby st => XS.iinc A hx rfl (hb hby hd) hl hs' st) K
theorem Wp.goto {q : Int} (hd : decode bytes pc = .ok (.goto q, 3)) (h0 : 0 ≤ (pc : Int) + q) (hp : ((pc : Int) + q).toNat = pc') (K : Wp wd l Z a0 EL R y bytes maxL ret hs ws Q h F k n pc' Ls S) : Wp wd l Z a0 EL R y bytes maxL ret hs ws Q h F k n pc Ls S :=
  Wp.lift (fun p e m below c T t A hx hby st => XS.goto A hx rfl rfl (hb hby hd) h0 hp st) K
theorem Wp.tswOut {dflt low high : Int} {offs : Array Int} {len : Nat} {x : Int32} (hd : decode bytes pc = .ok (.tableswitch dflt low high offs, len)) (hout : x.toInt < low ∨ x.toInt > high) (h0 : 0 ≤ (pc : Int) + dflt) (hp : ((pc : Int) + dflt).toNat = pc') (K : Wp wd l Z a0 EL R y bytes maxL ret hs ws Q h F k n pc' Ls S) : Wp wd l Z a0 EL R y bytes maxL ret hs ws Q h F k n pc Ls (.int x :: S) :=
  Wp.lift (fun p e m below c T t A hx hby st => XS.tswOut A hx rfl rfl (hb hby hd) rfl hout h0 hp st) K
theorem Wp.tswIn {dflt low high q : Int} {offs : Array Int} {len : Nat} {x : Int32} (hd : decode bytes pc = .ok (.tableswitch dflt low high offs, len)) (hin : ¬ (x.toInt < low ∨ x.toInt > high)) (hoff : offs[(x.toInt - low).toNat]? = some q) (h0 : 0 ≤ (pc : Int) + q) (hp : ((pc : Int) + q).toNat = pc') (K : Wp wd l Z a0 EL R y bytes maxL ret hs ws Q h F k n pc' Ls S) : Wp wd l Z a0 EL R y bytes maxL ret hs ws Q h F k n pc Ls (.int x :: S) :=
  Wp.lift (fun p e m below c T t A hx hby st => XS.tswIn A hx rfl rfl (hb hby hd) rfl hin hoff h0 hp st) K
theorem Wp.icmp_lt {x z : Int32} {q : Int} (hd : decode bytes pc = .ok (.if_icmp .lt q, 3)) (h0 : 0 ≤ (pc : Int) + q) (h1 : ((pc : Int) + q).toNat = pc1) (hp : pc + 3 = pc') (K1 : x < z → Wp wd l Z a0 EL R y bytes maxL ret hs ws Q h F k n pc1 Ls S) (K2 : ¬ (x < z) → Wp wd l Z a0 EL R y bytes maxL ret hs ws Q h F k n pc' Ls S) : Wp wd l Z a0 EL R y bytes maxL ret hs ws Q h F k n pc Ls (.int z :: .int x :: S) := by
  subst hp
  exact (Classical.em (x < z)).elim (fun hc => Wp.lift (fun p e m below c T t A hx hby st => XS.icmpYes A hx rfl rfl (hb hby hd) rfl (tlt hc).1 h0 h1 st) (K1 hc)) (fun hc => Wp.lift (fun p e m below c T t A hx hby st => XS.icmpNo A hx rfl (hb hby hd) rfl (flt hc).1 st) (K2 hc))
theorem Wp.if_lt {x : Int32} {q : Int} (hd : decode bytes pc = .ok (.ifCond .lt q, 3)) (h0 : 0 ≤ (pc : Int) + q) (h1 : ((pc : Int) + q).toNat = pc1) (hp : pc + 3 = pc') (K1 : x < (0 : Int32) → Wp wd l Z a0 EL R y bytes maxL ret hs ws Q h F k n pc1 Ls S) (K2 : ¬ (x < (0 : Int32)) → Wp wd l Z a0 EL R y bytes maxL ret hs ws Q h F k n pc' Ls S) : Wp wd l Z a0 EL R y bytes maxL ret hs ws Q h F k n pc Ls (.int x :: S) := by
  subst hp
  exact (Classical.em (x < (0 : Int32))).elim (fun hc => Wp.lift (fun p e m below c T t A hx hby st => XS.ifYes A hx rfl rfl (hb hby hd) rfl ((if0 _ _).trans (tlt hc).1) h0 h1 st) (K1 hc)) (fun hc => Wp.lift (fun p e m below c T t A hx hby st => XS.ifNo A hx rfl (hb hby hd) rfl ((if0 _ _).trans (flt hc).1) st) (K2 hc))
theorem Wp.icmp_ge {x z : Int32} {q : Int} (hd : decode bytes pc = .ok (.if_icmp .ge q, 3)) (h0 : 0 ≤ (pc : Int) + q) (h1 : ((pc : Int) + q).toNat = pc1) (hp : pc + 3 = pc') (K1 : ¬ (x < z) → Wp wd l Z a0 EL R y bytes maxL ret hs ws Q h F k n pc1 Ls S) (K2 : x < z → Wp wd l Z a0 EL R y bytes maxL ret hs ws Q h F k n pc' Ls S) : Wp wd l Z a0 EL R y bytes maxL ret hs ws Q h F k n pc Ls (.int z :: .int x :: S) := by
  subst hp
  exact (Classical.em (x < z)).elim (fun hc => Wp.lift (fun p e m below c T t A hx hby st => XS.icmpNo A hx rfl (hb hby hd) rfl (tlt hc).2.1 st) (K2 hc)) (fun hc => Wp.lift (fun p e m below c T t A hx hby st => XS.icmpYes A hx rfl rfl (hb hby hd) rfl (flt hc).2.1 h0 h1 st) (K1 hc))
theorem Wp.if_ge {x : Int32} {q : Int} (hd : decode bytes pc = .ok (.ifCond .ge q, 3)) (h0 : 0 ≤ (pc : Int) + q) (h1 : ((pc : Int) + q).toNat = pc1) (hp : pc + 3 = pc') (K1 : ¬ (x < (0 : Int32)) → Wp wd l Z a0 EL R y bytes maxL ret hs ws Q h F k n pc1 Ls S) (K2 : x < (0 : Int32) → Wp wd l Z a0 EL R y bytes maxL ret hs ws Q h F k n pc' Ls S) : Wp wd l Z a0 EL R y bytes maxL ret hs ws Q h F k n pc Ls (.int x :: S) := by
  subst hp
  exact (Classical.em (x < (0 : Int32))).elim (fun hc => Wp.lift (fun p e m below c T t A hx hby st => XS.ifNo A hx rfl (hb hby hd) rfl ((if0 _ _).trans (tlt hc).2.1) st) (K2 hc)) (fun hc => Wp.lift (fun p e m below c T t A hx hby st => XS.ifYes A hx rfl rfl (hb hby hd) rfl ((if0 _ _).trans (flt hc).2.1) h0 h1 st) (K1 hc))
theorem Wp.icmp_gt {x z : Int32} {q : Int} (hd : decode bytes pc = .ok (.if_icmp .gt q, 3)) (h0 : 0 ≤ (pc : Int) + q) (h1 : ((pc : Int) + q).toNat = pc1) (hp : pc + 3 = pc') (K1 : z < x → Wp wd l Z a0 EL R y bytes maxL ret hs ws Q h F k n pc1 Ls S) (K2 : ¬ (z < x) → Wp wd l Z a0 EL R y bytes maxL ret hs ws Q h F k n pc' Ls S) : Wp wd l Z a0 EL R y bytes maxL ret hs ws Q h F k n pc Ls (.int z :: .int x :: S) := by
  subst hp
  exact (Classical.em (z < x)).elim (fun hc => Wp.lift (fun p e m below c T t A hx hby st => XS.icmpYes A hx rfl rfl (hb hby hd) rfl (tlt hc).2.2.1 h0 h1 st) (K1 hc)) (fun hc => Wp.lift (fun p e m below c T t A hx hby st => XS.icmpNo A hx rfl (hb hby hd) rfl (flt hc).2.2.1 st) (K2 hc))
theorem Wp.if_gt {x : Int32} {q : Int} (hd : decode bytes pc = .ok (.ifCond .gt q, 3)) (h0 : 0 ≤ (pc : Int) + q) (h1 : ((pc : Int) + q).toNat = pc1) (hp : pc + 3 = pc') (K1 : (0 : Int32) < x → Wp wd l Z a0 EL R y bytes maxL ret hs ws Q h F k n pc1 Ls S) (K2 : ¬ ((0 : Int32) < x) → Wp wd l Z a0 EL R y bytes maxL ret hs ws Q h F k n pc' Ls S) : Wp wd l Z a0 EL R y bytes maxL ret hs ws Q h F k n pc Ls (.int x :: S) := by
  subst hp
  exact (Classical.em ((0 : Int32) < x)).elim (fun hc => Wp.lift (fun p e m below c T t A hx hby st => XS.ifYes A hx rfl rfl (hb hby hd) rfl ((if0 _ _).trans (tlt hc).2.2.1) h0 h1 st) (K1 hc)) (fun hc => Wp.lift (fun p e m below c T t A hx hby st => XS.ifNo A hx rfl (hb hby hd) rfl ((if0 _ _).trans (flt hc).2.2.1) st) (K2 hc))
theorem Wp.icmp_le {x z : Int32} {q : Int} (hd : decode bytes pc = .ok (.if_icmp .le q, 3)) (h0 : 0 ≤ (pc : Int) + q) (h1 : ((pc : Int) + q).toNat = pc1) (hp : pc + 3 = pc') (K1 : ¬ (z < x) → Wp wd l Z a0 EL R y bytes maxL ret hs ws Q h F k n pc1 Ls S) (K2 : z < x → Wp wd l Z a0 EL R y bytes maxL ret hs ws Q h F k n pc' Ls S) : Wp wd l Z a0 EL R y bytes maxL ret hs ws Q h F k n pc Ls (.int z :: .int x :: S) := by
  subst hp
  exact (Classical.em (z < x)).elim (fun hc => Wp.lift (fun p e m below c T t A hx hby st => XS.icmpNo A hx rfl (hb hby hd) rfl (tlt hc).2.2.2 st) (K2 hc)) (fun hc => Wp.lift (fun p e m below c T t A hx hby st => XS.icmpYes A hx rfl rfl (hb hby hd) rfl (flt hc).2.2.2 h0 h1 st) (K1 hc))
theorem Wp.if_le {x : Int32} {q : Int} (hd : decode bytes pc = .ok (.ifCond .le q, 3)) (h0 : 0 ≤ (pc : Int) + q) (h1 : ((pc : Int) + q).toNat = pc1) (hp : pc + 3 = pc') (K1 : ¬ ((0 : Int32) < x) → Wp wd l Z a0 EL R y bytes maxL ret hs ws Q h F k n pc1 Ls S) (K2 : (0 : Int32) < x → Wp wd l Z a0 EL R y bytes maxL ret hs ws Q h F k n pc' Ls S) : Wp wd l Z a0 EL R y bytes maxL ret hs ws Q h F k n pc Ls (.int x :: S) := by
  subst hp
  exact (Classical.em ((0 : Int32) < x)).elim (fun hc => Wp.lift (fun p e m below c T t A hx hby st => XS.ifNo A hx rfl (hb hby hd) rfl ((if0 _ _).trans (tlt hc).2.2.2) st) (K2 hc)) (fun hc => Wp.lift (fun p e m below c T t A hx hby st => XS.ifYes A hx rfl rfl (hb hby hd) rfl ((if0 _ _).trans (flt hc).2.2.2) h0 h1 st) (K1 hc))
theorem Wp.icmp_eq {x z : Int32} {q : Int} (hd : decode bytes pc = .ok (.if_icmp .eq q, 3)) (h0 : 0 ≤ (pc : Int) + q) (h1 : ((pc : Int) + q).toNat = pc1) (hp : pc + 3 = pc') (K1 : x = z → Wp wd l Z a0 EL R y bytes maxL ret hs ws Q h F k n pc1 Ls S) (K2 : ¬ (x = z) → Wp wd l Z a0 EL R y bytes maxL ret hs ws Q h F k n pc' Ls S) : Wp wd l Z a0 EL R y bytes maxL ret hs ws Q h F k n pc Ls (.int z :: .int x :: S) := by
  subst hp
  exact (Classical.em (x = z)).elim (fun hc => Wp.lift (fun p e m below c T t A hx hby st => XS.icmpYes A hx rfl rfl (hb hby hd) rfl (teq hc).1 h0 h1 st) (K1 hc)) (fun hc => Wp.lift (fun p e m below c T t A hx hby st => XS.icmpNo A hx rfl (hb hby hd) rfl (feq hc).1 st) (K2 hc))
theorem Wp.if_eq {x : Int32} {q : Int} (hd : decode bytes pc = .ok (.ifCond .eq q, 3)) (h0 : 0 ≤ (pc : Int) + q) (h1 : ((pc : Int) + q).toNat = pc1) (hp : pc + 3 = pc') (K1 : x = (0 : Int32) → Wp wd l Z a0 EL R y bytes maxL ret hs ws Q h F k n pc1 Ls S) (K2 : ¬ (x = (0 : Int32)) → Wp wd l Z a0 EL R y bytes maxL ret hs ws Q h F k n pc' Ls S) : Wp wd l Z a0 EL R y bytes maxL ret hs ws Q h F k n pc Ls (.int x :: S) := by
  subst hp
  exact (Classical.em (x = (0 : Int32))).elim (fun hc => Wp.lift (fun p e m below c T t A hx hby st => XS.ifYes A hx rfl rfl (hb hby hd) rfl ((if0 _ _).trans (teq hc).1) h0 h1 st) (K1 hc)) (fun hc => Wp.lift (fun p e m below c T t A hx hby st => XS.ifNo A hx rfl (hb hby hd) rfl ((if0 _ _).trans (feq hc).1) st) (K2 hc))
theorem Wp.icmp_ne {x z : Int32} {q : Int} (hd : decode bytes pc = .ok (.if_icmp .ne q, 3)) (h0 : 0 ≤ (pc : Int) + q) (h1 : ((pc : Int) + q).toNat = pc1) (hp : pc + 3 = pc') (K1 : ¬ (x = z) → Wp wd l Z a0 EL R y bytes maxL ret hs ws Q h F k n pc1 Ls S) (K2 : x = z → Wp wd l Z a0 EL R y bytes maxL ret hs ws Q h F k n pc' Ls S) : Wp wd l Z a0 EL R y bytes maxL ret hs ws Q h F k n pc Ls (.int z :: .int x :: S) := by
  subst hp
  exact (Classical.em (x = z)).elim (fun hc => Wp.lift (fun p e m below c T t A hx hby st => XS.icmpNo A hx rfl (hb hby hd) rfl (teq hc).2 st) (K2 hc)) (fun hc => Wp.lift (fun p e m below c T t A hx hby st => XS.icmpYes A hx rfl rfl (hb hby hd) rfl (feq hc).2 h0 h1 st) (K1 hc))
theorem Wp.if_ne {x : Int32} {q : Int} (hd : decode bytes pc = .ok (.ifCond .ne q, 3)) (h0 : 0 ≤ (pc : Int) + q) (h1 : ((pc : Int) + q).toNat = pc1) (hp : pc + 3 = pc') (K1 : ¬ (x = (0 : Int32)) → Wp wd l Z a0 EL R y bytes maxL ret hs ws Q h F k n pc1 Ls S) (K2 : x = (0 : Int32) → Wp wd l Z a0 EL R y bytes maxL ret hs ws Q h F k n pc' Ls S) : Wp wd l Z a0 EL R y bytes maxL ret hs ws Q h F k n pc Ls (.int x :: S) := by
  subst hp
  exact (Classical.em (x = (0 : Int32))).elim (fun hc => Wp.lift (fun p e m below c T t A hx hby st => XS.ifNo A hx rfl (hb hby hd) rfl ((if0 _ _).trans (teq hc).2) st) (K2 hc)) (fun hc => Wp.lift (fun p e m below c T t A hx hby st => XS.ifYes A hx rfl rfl (hb hby hd) rfl ((if0 _ _).trans (feq hc).2) h0 h1 st) (K1 hc))
theorem Wp.ifnullYes {q : Int} (hd : decode bytes pc = .ok (.ifnull q, 3)) (h0 : 0 ≤ (pc : Int) + q) (h1 : ((pc : Int) + q).toNat = pc') (K : Wp wd l Z a0 EL R y bytes maxL ret hs ws Q h F k n pc' Ls S) : Wp wd l Z a0 EL R y bytes maxL ret hs ws Q h F k n pc Ls (.null :: S) :=
  Wp.lift (fun p e m below c T t A hx hby st => XS.ifnullYes A hx rfl rfl (hb hby hd) rfl h0 h1 st) K
theorem Wp.ifnullNo {q : Int} (hd : decode bytes pc = .ok (.ifnull q, 3)) (hp : pc + 3 = pc') (K : Wp wd l Z a0 EL R y bytes maxL ret hs ws Q h F k n pc' Ls S) : Wp wd l Z a0 EL R y bytes maxL ret hs ws Q h F k n pc Ls ((.ref a) :: S) := by
  subst hp; exact Wp.lift (fun p e m below c T t A hx hby st => XS.ifnullNo A hx rfl (hb hby hd) rfl st) K
theorem Wp.ifnonnullYes {q : Int} (hd : decode bytes pc = .ok (.ifnonnull q, 3)) (h0 : 0 ≤ (pc : Int) + q) (h1 : ((pc : Int) + q).toNat = pc') (K : Wp wd l Z a0 EL R y bytes maxL ret hs ws Q h F k n pc' Ls S) : Wp wd l Z a0 EL R y bytes maxL ret hs ws Q h F k n pc Ls ((.ref a) :: S) :=
  Wp.lift (fun p e m below c T t A hx hby st => XS.ifnonnullYes A hx rfl rfl (hb hby hd) rfl h0 h1 st) K
theorem Wp.ifnonnullNo {q : Int} (hd : decode bytes pc = .ok (.ifnonnull q, 3)) (hp : pc + 3 = pc') (K : Wp wd l Z a0 EL R y bytes maxL ret hs ws Q h F k n pc' Ls S) : Wp wd l Z a0 EL R y bytes maxL ret hs ws Q h F k n pc Ls (.null :: S) := by
  subst hp; exact Wp.lift (fun p e m below c T t A hx hby st => XS.ifnonnullNo A hx rfl (hb hby hd) rfl st) K
theorem Wp.acmp_eq {q : Int} (hv : v.isRef = true) (hw : w.isRef = true) (hd : decode bytes pc = .ok (.if_acmp .eq q, 3)) (h0 : 0 ≤ (pc : Int) + q) (h1 : ((pc : Int) + q).toNat = pc1) (hp : pc + 3 = pc') (K1 : v = w → Wp wd l Z a0 EL R y bytes maxL ret hs ws Q h F k n pc1 Ls S) (K2 : ¬ v = w → Wp wd l Z a0 EL R y bytes maxL ret hs ws Q h F k n pc' Ls S) : Wp wd l Z a0 EL R y bytes maxL ret hs ws Q h F k n pc Ls (w :: v :: S) := by
  by_cases hc : v = w
  · exact Wp.tab (fun p e s m args below meth c T locs X hx hZ hown hby hml hsh eT hO => ⟨T, X, eT, fun t st => Jvm.RoadKit.acmp (g := mkF m pc Ls (w :: v :: S)) X hx rfl hv hw (same := true) rfl (hb hby hd) rfl (decide_eq_true hc) h0 (by simp [acV]; omega) st⟩) (K1 hc)
  · exact Wp.tab (fun p e s m args below meth c T locs X hx hZ hown hby hml hsh eT hO => ⟨T, X, eT, fun t st => Jvm.RoadKit.acmp (g := mkF m pc Ls (w :: v :: S)) X hx rfl hv hw (same := false) rfl (hb hby hd) rfl (decide_eq_false hc) h0 (by simp [acV]; omega) st⟩) (K2 hc)
theorem Wp.acmp_ne {q : Int} (hv : v.isRef = true) (hw : w.isRef = true) (hd : decode bytes pc = .ok (.if_acmp .ne q, 3)) (h0 : 0 ≤ (pc : Int) + q) (h1 : ((pc : Int) + q).toNat = pc1) (hp : pc + 3 = pc') (K1 : ¬ v = w → Wp wd l Z a0 EL R y bytes maxL ret hs ws Q h F k n pc1 Ls S) (K2 : v = w → Wp wd l Z a0 EL R y bytes maxL ret hs ws Q h F k n pc' Ls S) : Wp wd l Z a0 EL R y bytes maxL ret hs ws Q h F k n pc Ls (w :: v :: S) := by
  by_cases hc : v = w
  · exact Wp.tab (fun p e s m args below meth c T locs X hx hZ hown hby hml hsh eT hO => ⟨T, X, eT, fun t st => Jvm.RoadKit.acmp (g := mkF m pc Ls (w :: v :: S)) X hx rfl hv hw (same := true) rfl (hb hby hd) rfl (decide_eq_true hc) h0 (by simp [acV]; omega) st⟩) (K2 hc)
  · exact Wp.tab (fun p e s m args below meth c T locs X hx hZ hown hby hml hsh eT hO => ⟨T, X, eT, fun t st => Jvm.RoadKit.acmp (g := mkF m pc Ls (w :: v :: S)) X hx rfl hv hw (same := false) rfl (hb hby hd) rfl (decide_eq_false hc) h0 (by simp [acV]; omega) st⟩) (K1 hc)
theorem Wp.getF {own host : String} {index : Nat} (hown0 : y.cls = own) (lk : (Cond.fieldLink own index C nm d).before a0 Z = true ∨ (Cond.fieldLinkNest own index C nm d host).before a0 Z = true) (via : Via Z C O nm d) (Fl : Fld Z h a O nm d v) (hd : decode bytes pc = .ok (.getfield index, 3)) (hp : pc + 3 = pc') (K : Wp wd l Z a0 EL R y bytes maxL ret hs ws Q h F k n pc' Ls (v :: S)) : Wp wd l Z a0 EL R y bytes maxL ret hs ws Q h F k n pc Ls (.ref a :: S) := by
  subst hp hown0
  exact Wp.tab (fun p e s m args below meth c T locs X hx hZ hown hby hml hsh eT hO => Jvm.RoadKit.getF X hx hZ hown lk via eT Fl (g := mkF m pc Ls (.ref a :: S)) rfl rfl (hb hby hd)) K
theorem Wp.getS {own host : String} {index : Nat} (hown0 : y.cls = own) (lk : (Cond.fieldLink own index C nm d).before a0 Z = true ∨ (Cond.fieldLinkNest own index C nm d host).before a0 Z = true) (via : Via Z C O nm d) (Sv : Sta Z Z.heap O nm d v) (hd : decode bytes pc = .ok (.getstatic index, 3)) (hp : pc + 3 = pc') (K : Wp wd l Z a0 EL R y bytes maxL ret hs ws Q h F k n pc' Ls (v :: S)) : Wp wd l Z a0 EL R y bytes maxL ret hs ws Q h F k n pc Ls S := by
  subst hp hown0
  exact Wp.tab (fun p e s m args below meth c T locs X hx hZ hown hby hml hsh eT hO => Jvm.RoadKit.getS2 X hx hZ hown lk via eT (Sv.ext hO) (g := mkF m pc Ls S) rfl (hb hby hd)) K
theorem Wp.castY {own : String} {index : Nat} (hown0 : y.cls = own) (lk : (Cond.classLink own index C).before a0 Z = true) (I : Ins Z h a C true) (hd : decode bytes pc = .ok (.checkcast index, 3)) (hp : pc + 3 = pc') (K : Wp wd l Z a0 EL R y bytes maxL ret hs ws Q h F k n pc' Ls (.ref a :: S)) : Wp wd l Z a0 EL R y bytes maxL ret hs ws Q h F k n pc Ls (.ref a :: S) := by
  subst hp hown0
  exact Wp.tab (fun p e s m args below meth c T locs X hx hZ hown hby hml hsh eT hO => Jvm.RoadKit.castY X hx hZ hown lk eT I (g := mkF m pc Ls (.ref a :: S)) rfl rfl (hb hby hd)) K
theorem Wp.instY {own : String} {index : Nat} (hown0 : y.cls = own) (lk : (Cond.classLink own index C).before a0 Z = true) (I : Ins Z h a C true) (hd : decode bytes pc = .ok (.instanceof index, 3)) (hp : pc + 3 = pc') (K : Wp wd l Z a0 EL R y bytes maxL ret hs ws Q h F k n pc' Ls (.int 1 :: S)) : Wp wd l Z a0 EL R y bytes maxL ret hs ws Q h F k n pc Ls (.ref a :: S) := by
  subst hp hown0
  exact Wp.tab (fun p e s m args below meth c T locs X hx hZ hown hby hml hsh eT hO => Jvm.RoadKit.instY X hx hZ hown lk eT I (g := mkF m pc Ls (.ref a :: S)) rfl rfl (hb hby hd)) K
theorem Wp.instN {own D : String} {index : Nat} (hown0 : y.cls = own) (lk : (Cond.classLink own index C).before a0 Z = true) (I : Ins Z hs a C false) (E : Exa Z hs a D) (hd : decode bytes pc = .ok (.instanceof index, 3)) (hp : pc + 3 = pc') (K : Wp wd l Z a0 EL R y bytes maxL ret hs ws Q h F k n pc' Ls (.int 0 :: S)) : Wp wd l Z a0 EL R y bytes maxL ret hs ws Q h F k n pc Ls (.ref a :: S) := by
  subst hp hown0
  exact Wp.tab (fun p e s m args below meth c T locs X hx hZ hown hby hml hsh eT hO => Jvm.RoadKit.instN X hx hZ hown lk eT (hsh ▸ I) (hsh ▸ E) (g := mkF m pc Ls (.ref a :: S)) rfl rfl (hb hby hd)) K
theorem Wp.instNo {own D : String} {index : Nat} (hown0 : y.cls = own) (lk : (Cond.classLink own index C).before a0 Z = true) (E : Exa Z h a D) (hno : ∃ c t, Z.vm.findClass D = some c ∧ Z.vm.findClass C = some t ∧ Z.vm.assignable c t = false) (hd : decode bytes pc = .ok (.instanceof index, 3)) (hp : pc + 3 = pc') (K : Wp wd l Z a0 EL R y bytes maxL ret hs ws Q h F k n pc' Ls (.int 0 :: S)) : Wp wd l Z a0 EL R y bytes maxL ret hs ws Q h F k n pc Ls (.ref a :: S) := by
  subst hp hown0
  exact Wp.tab (fun p e s m args below meth c T locs X hx hZ hown hby hml hsh eT hO => Jvm.RoadKit.instNo X hx hZ hown lk eT E hno (g := mkF m pc Ls (.ref a :: S)) rfl rfl (hb hby hd)) K
theorem Wp.instNull {index : Nat} (hd : decode bytes pc = .ok (.instanceof index, 3)) (hp : pc + 3 = pc') (K : Wp wd l Z a0 EL R y bytes maxL ret hs ws Q h F k n pc' Ls (.int 0 :: S)) : Wp wd l Z a0 EL R y bytes maxL ret hs ws Q h F k n pc Ls (.null :: S) := by
  subst hp
  exact Wp.tab (fun p e s m args below meth c T locs X hx hZ hown hby hml hsh eT hO => ⟨T, X, eT, fun t st => X.instanceofNull hx (g := mkF m pc Ls (.null :: S)) rfl rfl (hb hby hd) t st⟩) K
theorem Wp.castNull {index : Nat} (hd : decode bytes pc = .ok (.checkcast index, 3)) (hp : pc + 3 = pc') (K : Wp wd l Z a0 EL R y bytes maxL ret hs ws Q h F k n pc' Ls (.null :: S)) : Wp wd l Z a0 EL R y bytes maxL ret hs ws Q h F k n pc Ls (.null :: S) := by
  subst hp
  exact Wp.tab (fun p e s m args below meth c T locs X hx hZ hown hby hml hsh eT hO => ⟨T, X, eT, fun t st => X.checkcastNull hx (g := mkF m pc Ls (.null :: S)) rfl rfl (hb hby hd) t st⟩) K
theorem Wp.initO {own : String} {idx : Nat} {W : Nat} (hown0 : y.cls = own) (w1 : (Cond.methodLink own idx Lib.objectInit).before a0 Z = true) (w2 : (Cond.instanceMethod Lib.objectInit).before a0 Z = true) (w3 : (Cond.code Lib.objectInit ⟨#[0xb1]⟩ 1 none).before a0 Z = true) (hd : decode bytes pc = .ok (.invokespecial idx, 3)) (hp : pc + 3 = pc') (hsz : Ls.size = maxL)
    (hf : 1 ≤ R.frames) (hW : (S.map fun v => v.category).sum ≤ W) (hl : W + 12 ≤ R.locals) (K : Wp wd l Z a0 EL R y bytes maxL ret hs ws Q h F k n pc' Ls S) : Wp wd l Z a0 EL R y bytes maxL ret hs ws Q h F k n pc Ls (.ref a :: S) := by
  subst hp hown0
  exact Wp.tab (fun p e s m args below meth c T locs X hx hZ hown hby hml hsh eT hO => Jvm.RoadKit.initO X hx hZ hown w1 w2 w3 eT (g := mkF m pc Ls (.ref a :: S)) rfl (by rw [hml]; exact hsz) rfl (hb hby hd) hf (W := W) (by show 2 * 0 + _ ≤ _; omega) hl) K
theorem Wp.ldcI {own : String} {index : Nat} {x : Int32} (hown0 : y.cls = own) (wc : (Cond.constant own index x).before a0 Z = true) (hd : decode bytes pc = .ok (.ldc index, 2)) (hp : pc + 2 = pc') (K : Wp wd l Z a0 EL R y bytes maxL ret hs ws Q h F k n pc' Ls (.int x :: S)) : Wp wd l Z a0 EL R y bytes maxL ret hs ws Q h F k n pc Ls S := by
  subst hp hown0
  exact Wp.tab (fun p e s m args below meth c T locs X hx hZ hown hby hml hsh eT hO => ⟨T, X, eT, fun t st => X.ldcInt hx hown (mvT hZ wc) (g := mkF m pc Ls S) rfl (hb hby hd) t st⟩) K
theorem Wp.ldcL {own : String} {index : Nat} {x : Int64} (hown0 : y.cls = own) (wc : (Cond.constantLong own index x).before a0 Z = true) (hd : decode bytes pc = .ok (.ldc2_w index, 3)) (hp : pc + 3 = pc') (K : Wp wd l Z a0 EL R y bytes maxL ret hs ws Q h F k n pc' Ls (.long x :: S)) : Wp wd l Z a0 EL R y bytes maxL ret hs ws Q h F k n pc Ls S := by
  subst hp hown0
  exact Wp.tab (fun p e s m args below meth c T locs X hx hZ hown hby hml hsh eT hO => ⟨T, X, eT, fun t st => X.ldc2Long hx hown (mvT hZ wc) (g := mkF m pc Ls S) rfl (hb hby hd) t st⟩) K
theorem Wp.alen {kA : ClassId} {z : Int32} {vs : List Value} {dv : Value} (V : Arv Z h a kA ty z vs dv) (hd : decode bytes pc = .ok (.arraylength, 1)) (hp : pc + 1 = pc') (K : Wp wd l Z a0 EL R y bytes maxL ret hs ws Q h F k n pc' Ls (.int z :: S)) : Wp wd l Z a0 EL R y bytes maxL ret hs ws Q h F k n pc Ls (.ref a :: S) := by
  subst hp
  obtain ⟨cl, A, -, hz1, hz2, -⟩ := V
  have e1 := len_of hz1 hz2
  exact Wp.tab (fun p e s m args below meth c T locs X hx hZ hown hby hml hsh eT hO => ⟨T, X, eT, fun t st => X.arraylength hx (by rw [eT]; exact A.1) (State.isArrayOf_alike hZ.alike A.2.1) (g := mkF m pc Ls (.ref a :: S)) rfl rfl (hb hby hd) t (by rw [e1]; exact st)⟩) K
theorem Wp.caload {kA : ClassId} {z j : Int32} {vs : List Value} {dv : Value} (V : Arv Z h a kA .char z vs dv) (h1 : ¬ j < 0) (h2 : j < z) (hv : vs.getD j.toNatClampNeg dv = v) (hd : decode bytes pc = .ok (.caload, 1)) (hp : pc + 1 = pc') (K : Wp wd l Z a0 EL R y bytes maxL ret hs ws Q h F k n pc' Ls (v :: S)) : Wp wd l Z a0 EL R y bytes maxL ret hs ws Q h F k n pc Ls (.int j :: .ref a :: S) := by
  subst hp
  obtain ⟨cl, A, -, hz1, hz2, H, -⟩ := V
  have hin := inb_of hz1 ⟨h1, h2⟩
  have hat := H.at hin hv
  exact Wp.tab (fun p e s m args below meth c T locs X hx hZ hown hby hml hsh eT hO => ⟨T, X, eT, fun t st => X.caload hx (by rw [eT]; exact A.1) (State.isArrayOf_alike hZ.alike A.2.1) A.2.2 hin hat (g := mkF m pc Ls (.int j :: .ref a :: S)) rfl rfl (hb hby hd) t st⟩) K
theorem Wp.iaload {kA : ClassId} {z j : Int32} {vs : List Value} {dv : Value} (V : Arv Z h a kA .int z vs dv) (h1 : ¬ j < 0) (h2 : j < z) (hv : vs.getD j.toNatClampNeg dv = v) (hd : decode bytes pc = .ok (.iaload, 1)) (hp : pc + 1 = pc') (K : Wp wd l Z a0 EL R y bytes maxL ret hs ws Q h F k n pc' Ls (v :: S)) : Wp wd l Z a0 EL R y bytes maxL ret hs ws Q h F k n pc Ls (.int j :: .ref a :: S) := by
  subst hp
  obtain ⟨cl, A, -, hz1, hz2, H, -⟩ := V
  have hin := inb_of hz1 ⟨h1, h2⟩
  have hat := H.at hin hv
  exact Wp.tab (fun p e s m args below meth c T locs X hx hZ hown hby hml hsh eT hO => ⟨T, X, eT, fun t st => X.iaload hx (by rw [eT]; exact A.1) (State.isArrayOf_alike hZ.alike A.2.1) A.2.2 hin hat (g := mkF m pc Ls (.int j :: .ref a :: S)) rfl rfl (hb hby hd) t st⟩) K
theorem Wp.laload {kA : ClassId} {z j : Int32} {vs : List Value} {dv : Value} (V : Arv Z h a kA .long z vs dv) (h1 : ¬ j < 0) (h2 : j < z) (hv : vs.getD j.toNatClampNeg dv = v) (hd : decode bytes pc = .ok (.laload, 1)) (hp : pc + 1 = pc') (K : Wp wd l Z a0 EL R y bytes maxL ret hs ws Q h F k n pc' Ls (v :: S)) : Wp wd l Z a0 EL R y bytes maxL ret hs ws Q h F k n pc Ls (.int j :: .ref a :: S) := by
  subst hp
  obtain ⟨cl, A, -, hz1, hz2, H, -⟩ := V
  have hin := inb_of hz1 ⟨h1, h2⟩
  have hat := H.at hin hv
  exact Wp.tab (fun p e s m args below meth c T locs X hx hZ hown hby hml hsh eT hO => ⟨T, X, eT, fun t st => X.laload hx (by rw [eT]; exact A.1) (State.isArrayOf_alike hZ.alike A.2.1) A.2.2 hin hat (g := mkF m pc Ls (.int j :: .ref a :: S)) rfl rfl (hb hby hd) t st⟩) K
theorem Wp.baload {kA : ClassId} {z j : Int32} {vs : List Value} {dv : Value} (V : Arv Z h a kA .byte z vs dv) (h1 : ¬ j < 0) (h2 : j < z) (hv : vs.getD j.toNatClampNeg dv = v) (hd : decode bytes pc = .ok (.baload, 1)) (hp : pc + 1 = pc') (K : Wp wd l Z a0 EL R y bytes maxL ret hs ws Q h F k n pc' Ls (v :: S)) : Wp wd l Z a0 EL R y bytes maxL ret hs ws Q h F k n pc Ls (.int j :: .ref a :: S) := by
  subst hp
  obtain ⟨cl, A, -, hz1, hz2, H, -⟩ := V
  have hin := inb_of hz1 ⟨h1, h2⟩
  have hat := H.at hin hv
  exact Wp.tab (fun p e s m args below meth c T locs X hx hZ hown hby hml hsh eT hO => ⟨T, X, eT, fun t st => X.baloadBytes hx (by rw [eT]; exact A.1) (State.isArrayOf_alike hZ.alike A.2.1) A.2.2 hin hat (g := mkF m pc Ls (.int j :: .ref a :: S)) rfl rfl (hb hby hd) t st⟩) K
theorem Wp.aaload {kA : ClassId} {z j : Int32} {vs : List Value} {dv : Value} (V : Arv Z h a kA ty z vs dv) (hty : ty.isReference = true) (h1 : ¬ j < 0) (h2 : j < z) (hv : vs.getD j.toNatClampNeg dv = v) (hd : decode bytes pc = .ok (.aaload, 1)) (hp : pc + 1 = pc') (K : Wp wd l Z a0 EL R y bytes maxL ret hs ws Q h F k n pc' Ls (v :: S)) : Wp wd l Z a0 EL R y bytes maxL ret hs ws Q h F k n pc Ls (.int j :: .ref a :: S) := by
  subst hp
  obtain ⟨cl, A, -, hz1, hz2, H, -⟩ := V
  have hin := inb_of hz1 ⟨h1, h2⟩
  have hat := H.at hin hv
  exact Wp.tab (fun p e s m args below meth c T locs X hx hZ hown hby hml hsh eT hO => ⟨T, X, eT, fun t st => X.aaload hx (by rw [eT]; exact A.1) (State.isArrayOf_alike hZ.alike A.2.1) hty A.2.2 hin hat (g := mkF m pc Ls (.int j :: .ref a :: S)) rfl rfl (hb hby hd) t st⟩) K
theorem Wp.putF {own host : String} {index kk : Nat} {C0 : String} {old : Value} (hown0 : y.cls = own) (lk : (Cond.fieldLink own index C0 nm d).before a0 Z = true ∨ (Cond.fieldLinkNest own index C0 nm d host).before a0 Z = true) (via : Via Z C0 O nm d) (Fl : Fld Z h a O nm d old) (E : Exa Z h a C)
    (L : (Cond.lays C O nm d).before a0 Z = true ∨ ((Cond.laysFinal C O nm d).before a0 Z = true ∧ own = O ∧ y.name = "<init>")) (wi : (Cond.instantiable C kk).before a0 Z = true) (hty : parseFieldDescriptor d = some ty) (hn : narrow ty v = v) (hf : fits ty v = true) (hd : decode bytes pc = .ok (.putfield index, 3)) (hp : pc + 3 = pc')
    (hw : a ∈ ws ∨ hs.size ≤ a) (sf : Sfe Z EL h F a) (K : ∀ h', Wr h h' a (Jvm.RoadKit.slotOf Z O nm d) v → Fld Z h' a O nm d v → Wp wd l Z a0 EL R y bytes maxL ret hs ws Q h' F k n pc' Ls S) : Wp wd l Z a0 EL R y bytes maxL ret hs ws Q h F k n pc Ls (v :: .ref a :: S) := by
  subst hp hown0
  exact Wp.put hw sf (fun p e s m args below meth c T locs X hx hZ hown hby hnm eT => Jvm.RoadKit.putF X hx hZ hown lk via eT Fl E (L.imp id fun q => ⟨q.1, q.2.1, hnm.trans q.2.2⟩) wi hty hn hf (g := mkF m pc Ls (v :: .ref a :: S)) rfl rfl (hb hby hd)) (fun h' W => K h' W (Fl.same W))
theorem Wp.putFN {own : String} {index kk : Nat} {C0 : String} {old v' : Value} (hown0 : y.cls = own) (lk : (Cond.fieldLink own index C0 nm d).before a0 Z = true) (via : Via Z C0 O nm d) (Fl : Fld Z h a O nm d old) (E : Exa Z h a C)
    (L : (Cond.lays C O nm d).before a0 Z = true ∨ ((Cond.laysFinal C O nm d).before a0 Z = true ∧ own = O ∧ y.name = "<init>")) (wi : (Cond.instantiable C kk).before a0 Z = true) (hty : parseFieldDescriptor d = some ty) (hn : narrow ty v = v') (hf : fits ty v' = true) (hd : decode bytes pc = .ok (.putfield index, 3)) (hp : pc + 3 = pc')
    (hw : a ∈ ws ∨ hs.size ≤ a) (sf : Sfe Z EL h F a) (K : ∀ h', Wr h h' a (Jvm.RoadKit.slotOf Z O nm d) v' → Fld Z h' a O nm d v' → Wp wd l Z a0 EL R y bytes maxL ret hs ws Q h' F k n pc' Ls S) : Wp wd l Z a0 EL R y bytes maxL ret hs ws Q h F k n pc Ls (v :: .ref a :: S) := by
  subst hp hown0
  exact Wp.put hw sf (fun p e s m args below meth c T locs X hx hZ hown hby hnm eT => Jvm.RoadKit.putFN X hx hZ hown lk via eT Fl E (L.imp id fun q => ⟨q.1, q.2.1, hnm.trans q.2.2⟩) wi hty hn hf (g := mkF m pc Ls (v :: .ref a :: S)) rfl rfl (hb hby hd)) (fun h' W => K h' W (Fl.same W))
theorem Wp.castore {kA : ClassId} {z j x : Int32} {vs : List Value} {dv : Value} {i : Nat} (V : Arv Z h a kA .char z vs dv) (h1 : ¬ j < 0) (h2 : j < z) (hj : j.toNatClampNeg = i) (hi : i < vs.length) (hd : decode bytes pc = .ok (.castore, 1)) (hp : pc + 1 = pc')
    (hw : a ∈ ws ∨ hs.size ≤ a) (K : ∀ h', Wr h h' a j.toNatClampNeg (.int (nar .char x)) → Arv Z h' a kA .char z (vs.set i (.int (nar .char x))) dv → Wp wd l Z a0 EL R y bytes maxL ret hs ws Q h' F k n pc' Ls S) : Wp wd l Z a0 EL R y bytes maxL ret hs ws Q h F k n pc Ls (.int x :: .int j :: .ref a :: S) := by
  subst hp
  obtain ⟨cl, A, hz0, hz1, hz2, H, G⟩ := V
  have hin := inb_of hz1 ⟨h1, h2⟩
  exact Wp.put hw (Sfe.arr A (by decide)) (fun p e s m args below meth c T locs X hx hZ hown hby hnm eT => Jvm.RoadKit.stC X hx hZ eT A hin (g := mkF m pc Ls (.int x :: .int j :: .ref a :: S)) rfl rfl (hb hby hd)) (fun h' W => K h' W (Arv.set A hz0 hz1 hz2 H G (fits_nar_char _) W i hj hi))
theorem Wp.bastore {kA : ClassId} {z j x : Int32} {vs : List Value} {dv : Value} {i : Nat} (V : Arv Z h a kA .byte z vs dv) (h1 : ¬ j < 0) (h2 : j < z) (hj : j.toNatClampNeg = i) (hi : i < vs.length) (hd : decode bytes pc = .ok (.bastore, 1)) (hp : pc + 1 = pc')
    (hw : a ∈ ws ∨ hs.size ≤ a) (sf : Sfe Z EL h F a) (K : ∀ h', Wr h h' a j.toNatClampNeg (.int (nar .byte x)) → Arv Z h' a kA .byte z (vs.set i (.int (nar .byte x))) dv → Wp wd l Z a0 EL R y bytes maxL ret hs ws Q h' F k n pc' Ls S) : Wp wd l Z a0 EL R y bytes maxL ret hs ws Q h F k n pc Ls (.int x :: .int j :: .ref a :: S) := by
  subst hp
  obtain ⟨cl, A, hz0, hz1, hz2, H, G⟩ := V
  have hin := inb_of hz1 ⟨h1, h2⟩
  exact Wp.put hw sf (fun p e s m args below meth c T locs X hx hZ hown hby hnm eT => Jvm.RoadKit.stB X hx hZ eT A hin (g := mkF m pc Ls (.int x :: .int j :: .ref a :: S)) rfl rfl (hb hby hd)) (fun h' W => K h' W (Arv.set A hz0 hz1 hz2 H G (fits_nar_byte _) W i hj hi))
theorem Wp.iastore {kA : ClassId} {z j x : Int32} {vs : List Value} {dv : Value} {i : Nat} (V : Arv Z h a kA .int z vs dv) (h1 : ¬ j < 0) (h2 : j < z) (hj : j.toNatClampNeg = i) (hi : i < vs.length) (hd : decode bytes pc = .ok (.iastore, 1)) (hp : pc + 1 = pc')
    (hw : a ∈ ws ∨ hs.size ≤ a) (K : ∀ h', Wr h h' a j.toNatClampNeg (.int x) → Arv Z h' a kA .int z (vs.set i (.int x)) dv → Wp wd l Z a0 EL R y bytes maxL ret hs ws Q h' F k n pc' Ls S) : Wp wd l Z a0 EL R y bytes maxL ret hs ws Q h F k n pc Ls (.int x :: .int j :: .ref a :: S) := by
  subst hp
  obtain ⟨cl, A, hz0, hz1, hz2, H, G⟩ := V
  have hin := inb_of hz1 ⟨h1, h2⟩
  exact Wp.put hw (Sfe.arr A (by decide)) (fun p e s m args below meth c T locs X hx hZ hown hby hnm eT => Jvm.RoadKit.stI X hx hZ eT A hin (g := mkF m pc Ls (.int x :: .int j :: .ref a :: S)) rfl rfl (hb hby hd)) (fun h' W => K h' W (Arv.set A hz0 hz1 hz2 H G rfl W i hj hi))
theorem Wp.lastore {kA : ClassId} {z j : Int32} {x : Int64} {vs : List Value} {dv : Value} {i : Nat} (V : Arv Z h a kA .long z vs dv) (h1 : ¬ j < 0) (h2 : j < z) (hj : j.toNatClampNeg = i) (hi : i < vs.length) (hd : decode bytes pc = .ok (.lastore, 1)) (hp : pc + 1 = pc')
    (hw : a ∈ ws ∨ hs.size ≤ a) (K : ∀ h', Wr h h' a j.toNatClampNeg (.long x) → Arv Z h' a kA .long z (vs.set i (.long x)) dv → Wp wd l Z a0 EL R y bytes maxL ret hs ws Q h' F k n pc' Ls S) : Wp wd l Z a0 EL R y bytes maxL ret hs ws Q h F k n pc Ls (.long x :: .int j :: .ref a :: S) := by
  subst hp
  obtain ⟨cl, A, hz0, hz1, hz2, H, G⟩ := V
  have hin := inb_of hz1 ⟨h1, h2⟩
  exact Wp.put hw (Sfe.arr A (by decide)) (fun p e s m args below meth c T locs X hx hZ hown hby hnm eT => Jvm.RoadKit.stJ X hx hZ eT A hin (g := mkF m pc Ls (.long x :: .int j :: .ref a :: S)) rfl rfl (hb hby hd)) (fun h' W => K h' W (Arv.set A hz0 hz1 hz2 H G rfl W i hj hi))
theorem Wp.aastore {kA : ClassId} {z j : Int32} {vs : List Value} {dv : Value} {i : Nat} (V : Arv Z h a kA ty z vs dv) (hty : ty.isReference = true) (hby0 : ty ≠ .byte) (hfit : fits ty v = true) (St : v = .null ∨ ∃ D y', v = .ref y' ∧ Ovr Z kA D ∧ Ins Z h y' D true) (h1 : ¬ j < 0) (h2 : j < z) (hj : j.toNatClampNeg = i) (hi : i < vs.length) (hd : decode bytes pc = .ok (.aastore, 1)) (hp : pc + 1 = pc')
    (hw : a ∈ ws ∨ hs.size ≤ a) (K : ∀ h', Wr h h' a j.toNatClampNeg v → Arv Z h' a kA ty z (vs.set i v) dv → Wp wd l Z a0 EL R y bytes maxL ret hs ws Q h' F k n pc' Ls S) : Wp wd l Z a0 EL R y bytes maxL ret hs ws Q h F k n pc Ls (v :: .int j :: .ref a :: S) := by
  subst hp
  obtain ⟨cl, A, hz0, hz1, hz2, H, G⟩ := V
  have hin := inb_of hz1 ⟨h1, h2⟩
  have hSt : Sto Z h a v := by
    rcases St with rfl | ⟨D, y', rfl, Ov, I⟩
    · exact Or.inl rfl
    · exact Sto.ofV A hz0 Ov I
  exact Wp.put hw (Sfe.arr A hby0) (fun p e s m args below meth c T locs X hx hZ hown hby hnm eT => Jvm.RoadKit.stR X hx hZ eT A hin hty hSt (g := mkF m pc Ls (v :: .int j :: .ref a :: S)) rfl rfl (hb hby hd)) (fun h' W => K h' W (Arv.set A hz0 hz1 hz2 H G hfit W i hj hi))
theorem Wp.new {own : String} {index : Nat} (hown0 : y.cls = own) (lk : (Cond.classLink own index C).before a0 Z = true) (wi : (Cond.instantiable C sl).before a0 Z = true) (wz : (Cond.initialized C).before a0 Z = true) (hd : decode bytes pc = .ok (.new index, 3)) (hp : pc + 3 = pc') (hk : k + 1 = k') (hn : n + sl = n') (hk' : k' ≤ R.cells) (hn' : n' ≤ R.slots)
    (K : ∀ h' b, b = h.size → hs.size ≤ b → Ext h h' → Exa Z h' b C → (∀ {O nm d : String} {ty : FieldType}, Laid Z a0 C O nm d → parseFieldDescriptor d = some ty → Fld Z h' b O nm d (defaultValue ty)) → Wp wd l Z a0 EL R y bytes maxL ret hs ws Q h' (b :: F) k' n' pc' Ls (.ref b :: S)) : Wp wd l Z a0 EL R y bytes maxL ret hs ws Q h F k n pc Ls S := by
  subst hp hown0 hk hn
  exact Wp.mk (fun h' => Exa Z h' h.size C ∧ ∀ {O nm d : String} {ty : FieldType}, Laid Z a0 C O nm d → parseFieldDescriptor d = some ty → Fld Z h' h.size O nm d (defaultValue ty)) (fun h' q => q.1.lt)
    (fun p e s m args below meth c T locs X hx hZ hown hby eT => by obtain ⟨T', h', X', e', E, A, D, -, st⟩ := Jvm.RoadKit.newO X hx hZ hown lk wi wz eT (g := mkF m pc Ls S) rfl (hb hby hd) hk' hn'; exact ⟨T', h', X', e', E, ⟨A, D⟩, st⟩) (fun h' z E q => K h' _ rfl z E q.1 q.2)
theorem Wp.newP {aty : ArrayType} {z : Int32} {cap : Nat} (wa : (Cond.arrayClass (newarray.typeOf aty)).before a0 Z = true) (hz : ¬ z < 0) (hcap : z.toNatClampNeg ≤ cap) (hb8 : cap * 8 ≤ 536870912) (hd : decode bytes pc = .ok (.newarray aty, 2)) (hp : pc + 2 = pc') (hk : k + 1 = k') (hn : n + cap = n') (hk' : k' ≤ R.cells) (hn' : n' ≤ R.slots)
    (K : ∀ h' b kA, b = h.size → hs.size ≤ b → Ext h h' → Arv Z h' b kA (newarray.typeOf aty) z [] (defaultValue (newarray.typeOf aty)) → Wp wd l Z a0 EL R y bytes maxL ret hs ws Q h' (b :: F) k' n' pc' Ls (.ref b :: S)) : Wp wd l Z a0 EL R y bytes maxL ret hs ws Q h F k n pc Ls (.int z :: S) := by
  subst hp hk hn
  exact Wp.mk (fun h' => ∃ kA, Arv Z h' h.size kA (newarray.typeOf aty) z [] (defaultValue (newarray.typeOf aty))) (fun h' q => q.elim fun _ A => A.lt)
    (fun p e s m args below meth c T locs X hx hZ hown hby eT => by obtain ⟨T', h', kA, X', e', E, A, st⟩ := Jvm.RoadKit.newP X hx hZ wa eT (g := mkF m pc Ls (.int z :: S)) rfl (hb hby hd) rfl hz hcap hb8 hk' hn'; exact ⟨T', h', X', e', E, ⟨kA, Arv.new A hz⟩, st⟩) (fun h' z E q => q.elim fun kA A => K h' _ kA rfl z E A)
theorem Wp.newR {own : String} {index : Nat} {z : Int32} {cap : Nat} (hown0 : y.cls = own) (lk : (Cond.classLink own index C).before a0 Z = true) (wa : (Cond.arrayOver (.object C)).before a0 Z = true) (hz : ¬ z < 0) (hcap : z.toNatClampNeg ≤ cap) (hb8 : cap * 8 ≤ 536870912) (hd : decode bytes pc = .ok (.anewarray index, 3)) (hp : pc + 3 = pc') (hk : k + 1 = k') (hn : n + cap = n') (hk' : k' ≤ R.cells) (hn' : n' ≤ R.slots)
    (K : ∀ h' b kA, b = h.size → hs.size ≤ b → Ext h h' → Arv Z h' b kA (.object C) z [] .null → Ovr Z kA C → Wp wd l Z a0 EL R y bytes maxL ret hs ws Q h' (b :: F) k' n' pc' Ls (.ref b :: S)) : Wp wd l Z a0 EL R y bytes maxL ret hs ws Q h F k n pc Ls (.int z :: S) := by
  subst hp hk hn hown0
  exact Wp.mk (fun h' => ∃ kA, Arv Z h' h.size kA (.object C) z [] .null ∧ Ovr Z kA C) (fun h' q => q.elim fun _ A => A.1.lt)
    (fun p e s m args below meth c T locs X hx hZ hown hby eT => by obtain ⟨T', h', kA, X', e', E, A, Ov, st⟩ := Jvm.RoadKit.newR X hx hZ hown lk wa eT (g := mkF m pc Ls (.int z :: S)) rfl (hb hby hd) rfl hz hcap hb8 hk' hn'; exact ⟨T', h', X', e', E, ⟨kA, Arv.new A hz, Ov⟩, st⟩) (fun h' z E q => q.elim fun kA A => K h' _ kA rfl z E A.1 A.2)
theorem Wp.retn (hr : ret = none) (hd : decode bytes pc = .ok (.return_, 1)) (hk : k ≤ R.cells) (hn : n ≤ R.slots) (hQ : Q none h) : Wp wd l Z a0 EL R y bytes maxL ret hs ws Q h F k n pc Ls [] :=
  Wp.leave hk hn (fun _ => rfl) hQ (fun p e s m args below meth c T locs fs X hx hby hret hl => X.returnOut hx (hret.trans hr) (hb hby hd) hl)
theorem Wp.retN {t : FieldType} {x x' : Int32} (hr : ret = some t) (ht : t = .boolean ∨ t = .byte ∨ t = .char ∨ t = .short) (hx' : nar t x = x') (hd : decode bytes pc = .ok (.ireturn, 1)) (hk : k ≤ R.cells) (hn : n ≤ R.slots) (hQ : Q (some (.int x')) h) : Wp wd l Z a0 EL R y bytes maxL ret hs ws Q h F k n pc Ls (.int x :: S) := by
  subst hx'
  exact Wp.leave hk hn (fun q => by rw [hr] at q; cases q) hQ (fun p e s m args below meth c T locs fs X hx hby hret hl => Jvm.RoadKit.retN X hx (hret.trans hr) ht (hb hby hd) hl)
theorem Wp.retV {i : Instr} {t : FieldType} (hr : ret = some t) (hn' : narrow t v = v) (hi : (i = .ireturn ∧ (t = .int ∨ t = .boolean ∨ t = .byte ∨ t = .char ∨ t = .short) ∧ ∃ z, v = .int z) ∨ (i = .lreturn ∧ t = .long ∧ ∃ z, v = .long z) ∨ (i = .dreturn ∧ t = .double ∧ ∃ z, v = .double z) ∨ (i = .freturn ∧ t = .float ∧ ∃ z, v = .float z) ∨ (i = .areturn ∧ t.isReference = true ∧ v.isRef = true))
    (hd : decode bytes pc = .ok (i, 1)) (hk : k ≤ R.cells) (hn : n ≤ R.slots) (hQ : Q (some v) h) : Wp wd l Z a0 EL R y bytes maxL ret hs ws Q h F k n pc Ls (v :: S) :=
  Wp.leave hk hn (fun q => by rw [hr] at q; cases q) hQ (fun p e s m args below meth c T locs fs X hx hby hret hl => Jvm.RoadKit.retOut X hx (hret.trans hr) hn' hi (hb hby hd) hl)
theorem Wp.retI {x : Int32} (hr : ret = some .int) (hd : decode bytes pc = .ok (.ireturn, 1)) (hk : k ≤ R.cells) (hn : n ≤ R.slots) (hQ : Q (some (.int x)) h) : Wp wd l Z a0 EL R y bytes maxL ret hs ws Q h F k n pc Ls (.int x :: S) :=
  Wp.retV hr rfl (Or.inl ⟨rfl, Or.inl rfl, _, rfl⟩) hd hk hn hQ
theorem Wp.retL {x : Int64} (hr : ret = some .long) (hd : decode bytes pc = .ok (.lreturn, 1)) (hk : k ≤ R.cells) (hn : n ≤ R.slots) (hQ : Q (some (.long x)) h) : Wp wd l Z a0 EL R y bytes maxL ret hs ws Q h F k n pc Ls (.long x :: S) :=
  Wp.retV hr rfl (Or.inr (Or.inl ⟨rfl, rfl, _, rfl⟩)) hd hk hn hQ
theorem Wp.retA {t : FieldType} (hr : ret = some t) (ht : t.isReference = true) (hv : v.isRef = true) (hd : decode bytes pc = .ok (.areturn, 1)) (hk : k ≤ R.cells) (hn : n ≤ R.slots) (hQ : Q (some v) h) : Wp wd l Z a0 EL R y bytes maxL ret hs ws Q h F k n pc Ls (v :: S) :=
  Wp.retV hr (by cases t <;> first | rfl | cases ht) (Or.inr (Or.inr (Or.inr (Or.inr ⟨rfl, ht, hv⟩)))) hd hk hn hQ
end Rules
end Jvm.Own
namespace Jvm.Own
open Sem ClassFile Op Lib Jvm.Stand Jvm.Free Jvm.LawKit Jvm.RoadKit
section Calls
variable {wd : Bool} {l : Launch} {Z : State} {EL : List (String × Nat)} {R : Room} {y : MethodName} {bytes : ByteArray} {maxL : Nat} {ret : Option FieldType} {hs : Heap} {ws : List Addr} {Q : Option Value → Heap → Prop} {h h' : Heap} {F F' : List Addr} {k n k' n' pc pc' pc1 : Nat} {Ls Ls' : Array Slot} {S S' : List Value}
variable {a0 : Array Value} {a b : Addr} {C O nm d : String} {v w : Value} {sl : Nat} {cl : Cell} {ty : FieldType}
variable {y' : MethodName} {bytes' : ByteArray} {maxL' : Nat} {ret' : Option FieldType} {rm : Room} {as : Array Value} {Fc wc : List Addr} {Qc : Option Value → Heap → Prop}
theorem mvMN {s : State} {args : Array Value} {own host : String} {idx : Nat} (hZ : Z.Warmed39 s.vm) (w : (Cond.methodLinkNest own idx y' host).before a0 Z = true) : (Cond.methodLinkNest own idx y' host).before args s = true := (Cond.methodLinkNest_wide hZ w :)
/-- a body's contract, from its walk -/
theorem Ct.of_wp {cw : List Cond} (hpl : plainFor y = true) (hE : EW Z a0 EL) (hO : Ext Z.heap h) (hws : ∀ x ∈ ws, Z.heap.size ≤ x) (hef : ∀ m, entryFrame m as maxL = mkF m 0 Ls []) (K : Wp wd l Z a0 EL rm y bytes maxL ret h ws Q h F 0 0 0 Ls []) : Ct wd l Z EL cw y bytes maxL ret rm as h F ws Q := by
  refine MetFree.of_bodySF (code := bytes) (maxLocals := maxL) (ret := ret) hpl hisR ?_
  intro p e s m args below meth c s₁ Bd hml0 hP hK
  obtain ⟨rfl, hZ, rfl, hC, hF⟩ := hP
  have e0 : s₁.heap = s.heap := by rw [Bd.state]; rfl
  obtain ⟨v, t, h1, h2, h3, L, r1, r2, r3, r4⟩ := K p e s m args below meth c s.vm s.heap.size s₁ [] ⟨⟨hE, Bd.exec, Bd.bytes, hml0, Bd.returns, (name_of_methodNamed Bd.named Bd.method).1, Bd.notSynchronized⟩, ⟨rfl, hws, hO.1, (fun _ q => nomatch q), hO⟩, ⟨findClass_of_methodNamed Bd.named, (State.WarmedH.refl s).since _, Nat.le_refl _, fun _ => State.WarmedH.refl s, hZ, CHr.refl hC, hF⟩, Stand.of_body Bd, e0⟩
  exact ⟨t, _, castTop (hef m) h1, h2, h3, v, L, rfl, ⟨r1, r2⟩, r3, r4⟩
/-- a contract pays a call -/
theorem Ct.pays {p : Program} {e : Env} {below : List Frame} {s : State} {args : Array Value} {vm0 : Vm} {len W : Nat} (hM : Ct wd l Z EL [] y' bytes' maxL' ret' rm as h Fc wc Qc) (hE : EW Z a0 EL) (hZ : Z.Warmed39 vm0) (wcode : (Cond.code y' bytes' maxL' ret').before a0 Z = true) (wz : (Cond.initialized y'.cls).before a0 Z = true) (hf : rm.frames + 1 ≤ R.frames) (hl : W + (maxL' + 11) + rm.locals ≤ R.locals) (H : CHv Z EL vm0 h) (HF : Sf Z EL vm0 h Fc) :
    BackS l R p e below (s.setVm vm0) args y' len W (fun A a => a = as ∧ A.U.heap = h ∧ A.cells + rm.cells ≤ R.cells ∧ A.slots + rm.slots ≤ R.slots)
      (fun A _ v B => ∃ L, (Wh h wc L ∧ Qc v B.U.heap) ∧ B.locs = A.locs ++ L ∧ B.cells = A.cells + rm.cells ∧ B.slots = A.slots + rm.slots ∧ CHr Z EL vm0 h B.U.vm B.U.heap ∧ Keep h B.U.heap wc ∧ (wd = false → (s.setVm vm0).WarmedH B.U.vm)) :=
  BackS.of_freeW (bytes := bytes') (maxL := maxL') (ret := ret') (E := fun _ first o t L k n => k = rm.cells ∧ n = rm.slots ∧ (∃ v, o = .returned v ∧ Wh first.heap wc L ∧ Qc v t.heap) ∧ CHr Z EL first.vm first.heap t.vm t.heap ∧ Keep first.heap t.heap wc ∧ (wd = false → first.WarmedH t.vm)) hM hf hl
    (fun m meth c A a Y hp => have hU : Z.Warmed39 A.U.vm := wtrans (s := s.setVm vm0) hZ Y.warmed
      ⟨by show (Cond.and _ .tt).before a A.U = true; rw [Cond.before_and, mv hU wcode]; rfl, mv hU wcode, mv hU wz, hp.2.2.1, hp.2.2.2⟩)
    (fun m meth c A a g mk Y hp => ⟨hp.1, wtrans (s := s.setVm vm0) hZ Y.warmed, hp.2.1, (CHv.at Y hZ hE H).1, fun x hx => ⟨(HF x hx).1, CHr.safe (CHv.at Y hZ hE H) (HF x hx).1 (HF x hx).2⟩⟩) (fun _ _ _ _ _ _ _ _ _ => trivial)
    (fun _ first _ t ⟨v, L, h1, h2, h3, h4⟩ => ⟨L, _, _, h4.1, rfl, rfl, ⟨v, h1, h2⟩, h3, (show Keep first.heap t.heap wc from keep_of (T := ({ t with vm := first.vm } : State)) h4.1.2.2.2 h2.1), h4.2⟩)
    (fun m meth c A a g mk v t L k n Y hp _ _ ⟨e1, e2, ⟨v', e3, e4, e5⟩, e6, e7, e8⟩ => by
      cases e3; subst e1 e2
      have eh : (A.U.calling g mk a).heap = h := hp.2.1
      rw [eh] at e4 e6 e7
      exact ⟨L, ⟨e4, e5⟩, rfl, rfl, rfl, (CHv.at Y hZ hE H).trans e6, e7, fun z => State.WarmedH.trans (t := A.U) Y.warmed (e8 z)⟩)
/-- a call, whatever its kind -/
theorem Wp.call {len W : Nat} {rest : List Value} (Cc : Ct wd l Z EL [] y' bytes' maxL' ret' rm as h Fc wc Qc) (wcode : (Cond.code y' bytes' maxL' ret').before a0 Z = true) (wz : (Cond.initialized y'.cls).before a0 Z = true) (hFc : ∀ x ∈ Fc, x ∈ F) (hwc : ∀ x ∈ wc, x ∈ ws ∨ hs.size ≤ x) (hf : rm.frames + 1 ≤ R.frames) (hl : W + (maxL' + 11) + rm.locals ≤ R.locals) (hk : k + rm.cells = k') (hn : n + rm.slots = n') (hk' : k' ≤ R.cells) (hn' : n' ≤ R.slots)
    (law : ∀ (p : Program) (e : Env) (s : State) (m : MethodId) (args : Array Value) (below : List Frame) (meth : Method) (c : Code) (T : State) (locs : List Loc) (Pre : Pt → Array Value → Prop) (Post : Pt → Array Value → Option Value → Pt → Prop), Stand p l e R s m args below meth c T locs k n → p.tables.exec = Jvm.exec → Z.Warmed39 s.vm → s.vm.findClass y.cls = some m.cls → c.code = bytes → c.maxLocals = maxL → T.heap = h →
      BackS l R p e below s args y' len W Pre Post → (∀ vm₁, s.WarmedH vm₁ → Pre ⟨T.setVm vm₁, locs, k, n⟩ as) →
      ∃ (v : Option Value) (vm₁ : Vm) (B : Pt), s.WarmedH vm₁ ∧ Stand p l e R (s.setVm B.U.vm) m args below meth c B.U B.locs B.cells B.slots ∧ s.Since B.U.vm B.U.heap.size ∧ T.heap.size ≤ B.U.heap.size ∧ Post ⟨T.setVm vm₁, locs, k, n⟩ as v B ∧
        Steps p.tables e below (T.setTop (mkF m pc Ls S)) (B.U.setTop (mkF m pc' Ls (v.toList ++ rest))))
    (K : ∀ v h', hs.size ≤ h.size → Keep h h' wc → Qc v h' → Wp wd l Z a0 EL R y bytes maxL ret hs ws Q h' F k' n' pc' Ls (v.toList ++ rest)) : Wp wd l Z a0 EL R y bytes maxL ret hs ws Q h F k n pc Ls S := fun p e s m args below meth c vm0 k0 T locs I => by
  obtain ⟨⟨i1, i2, i3, i4, i5⟩, ⟨q1, q2, q3, q4, q5⟩, ⟨j1, j2, j3, j4, j5, j6, j7⟩, X, eT⟩ := I
  subst hk hn
  obtain ⟨v, vm₁, ⟨U, L', kk, nn⟩, hW₁, X', hS', hgr, ⟨L, ⟨c1, c2⟩, c3, c4, c5, c6, c7, c8⟩, st⟩ := law p e (s.setVm vm0) m args below meth c T locs _ _ X i2 j5 j1 i3 i4 eT (Ct.pays Cc i1 j5 wcode wz hf hl j6.1 fun x hx => j7 x (hFc x hx)) (fun _ _ => ⟨rfl, eT, hk', hn'⟩)
  dsimp only [Pt.U, Pt.locs, Pt.cells, Pt.slots] at X' hS' hgr c2 c3 c4 c5 c6 c7 c8 st
  subst c3 c4 c5
  have hhs : hs.size ≤ h.size := j6.2.1
  have hSin : s.Since U.vm U.heap.size := j2.trans hS' (Nat.le_trans j3 (by rw [← eT]; exact hgr))
  refine (K v U.heap hhs c7 c2 p e s m args below meth c U.vm U.heap.size U _ ⟨⟨i1, i2, i3, i4, i5⟩, ⟨q1, q2, q3, fun z hz => ?_, ext_keep q5 c7 fun x hx => (hwc x hx).elim (q2 x) (Nat.le_trans q3)⟩, ⟨(hS'.1.alike.findClass _ _).trans j1, hSin, Nat.le_refl _, fun z => State.WarmedH.trans (t := s.setVm vm0) (j4 z) (c8 z), State.Warmed39.trans (t := s.setVm vm0) j5 hS'.1, j6.trans c6, fun x hx => ⟨Nat.lt_of_lt_of_le (j7 x hx).1 c7.1, CHr.safe c6 (j7 x hx).1 (j7 x hx).2⟩⟩, X', rfl⟩).back fun t => st.trans
  rcases List.mem_append.mp hz with hz | hz
  · exact q4 z hz
  · rcases c1 z hz with q | q
    · exact hwc _ q
    · exact Or.inr (Nat.le_trans hhs q)

theorem Wp.callS {own : String} {idx W : Nat} {argsL rest : List Value} (hown0 : y.cls = own) (Cc : Ct wd l Z EL [] y' bytes' maxL' ret' rm as h Fc wc Qc) (wl : (Cond.methodLink own idx y').before a0 Z = true) (wst : (Cond.static y').before a0 Z = true) (wcode : (Cond.code y' bytes' maxL' ret').before a0 Z = true) (wz : (Cond.initialized y'.cls).before a0 Z = true) (hy : y'.cls ≠ "java/lang/invoke/MethodHandle" ∧ y'.cls ≠ "java/lang/invoke/VarHandle") (hlen : ∀ sig, parseMethodDescriptor y'.desc = some sig → argsL.length = sig.parameters.length) (hd : decode bytes pc = .ok (.invokestatic idx, 3))
    (hsz : Ls.size = maxL) (hst : S = argsL.reverse ++ rest) (has : argsL.toArray = as) (hW : (rest.map fun v => v.category).sum ≤ W) (hp : pc + 3 = pc') (hFc : ∀ x ∈ Fc, x ∈ F) (hwc : ∀ x ∈ wc, x ∈ ws ∨ hs.size ≤ x) (hf : rm.frames + 1 ≤ R.frames) (hl : W + (maxL' + 11) + rm.locals ≤ R.locals) (hk : k + rm.cells = k') (hn : n + rm.slots = n') (hk' : k' ≤ R.cells) (hn' : n' ≤ R.slots)
    (K : ∀ v h', hs.size ≤ h.size → Keep h h' wc → Qc v h' → Wp wd l Z a0 EL R y bytes maxL ret hs ws Q h' F k' n' pc' Ls (v.toList ++ rest)) : Wp wd l Z a0 EL R y bytes maxL ret hs ws Q h F k n pc Ls S := by
  subst hown0 hst has hp
  exact Wp.call Cc wcode wz hFc hwc hf hl hk hn hk' hn' (fun p e s m args below meth c T locs Pre Post X hx hZ hown hby hml eT hK hpre => callSS X hx hown (mvT hZ wl) (mvT hZ wst) (mvT hZ wz) (mvT hZ wcode) hy hK (g := mkF m pc Ls (argsL.reverse ++ rest)) rfl (by rw [hml]; exact hsz) hlen rfl (by show 2 * 0 + _ ≤ _; omega) (hb hby hd) hpre) K
theorem Wp.callI {own : String} {idx W : Nat} {argsL rest : List Value} (hown0 : y.cls = own) (Cc : Ct wd l Z EL [] y' bytes' maxL' ret' rm as h Fc wc Qc) (hy1 : y'.name = "<init>") (hr' : ret' = none) (wl : (Cond.methodLink own idx y').before a0 Z = true) (wi : (Cond.instanceMethod y').before a0 Z = true) (wcode : (Cond.code y' bytes' maxL' ret').before a0 Z = true) (wz : (Cond.initialized y'.cls).before a0 Z = true) (hy : y'.cls ≠ "java/lang/invoke/MethodHandle" ∧ y'.cls ≠ "java/lang/invoke/VarHandle") (hlen : ∀ sig, parseMethodDescriptor y'.desc = some sig → argsL.length = sig.parameters.length) (hd : decode bytes pc = .ok (.invokespecial idx, 3))
    (hsz : Ls.size = maxL) (hst : S = argsL.reverse ++ .ref a :: rest) (has : (Value.ref a :: argsL).toArray = as) (hW : (rest.map fun v => v.category).sum ≤ W) (hp : pc + 3 = pc') (hFc : ∀ x ∈ Fc, x ∈ F) (hwc : ∀ x ∈ wc, x ∈ ws ∨ hs.size ≤ x) (hf : rm.frames + 1 ≤ R.frames) (hl : W + (maxL' + 11) + rm.locals ≤ R.locals) (hk : k + rm.cells = k') (hn : n + rm.slots = n') (hk' : k' ≤ R.cells) (hn' : n' ≤ R.slots)
    (K : ∀ v h', hs.size ≤ h.size → Keep h h' wc → Qc v h' → Wp wd l Z a0 EL R y bytes maxL ret hs ws Q h' F k' n' pc' Ls (v.toList ++ rest)) : Wp wd l Z a0 EL R y bytes maxL ret hs ws Q h F k n pc Ls S := by
  subst hown0 hst has hp hr'
  exact Wp.call Cc wcode wz hFc hwc hf hl hk hn hk' hn' (fun p e s m args below meth c T locs Pre Post X hx hZ hown hby hml eT hK hpre => X.specialBackS hx hy1 hown (mvT hZ wl) (mvT hZ wi) (mvT hZ wcode) hy hK (g := mkF m pc Ls (argsL.reverse ++ .ref a :: rest)) rfl (by rw [hml]; exact hsz) (Steps.refl _) hlen rfl (by show 2 * 0 + _ ≤ _; omega) (hb hby hd) hpre) K
theorem Wp.callIN {host : String} {own : String} {idx W : Nat} {argsL rest : List Value} (hown0 : y.cls = own) (Cc : Ct wd l Z EL [] y' bytes' maxL' ret' rm as h Fc wc Qc) (hy1 : y'.name = "<init>") (hr' : ret' = none) (wl : (Cond.methodLinkNest own idx y' host).before a0 Z = true) (wi : (Cond.instanceMethod y').before a0 Z = true) (wcode : (Cond.code y' bytes' maxL' ret').before a0 Z = true) (wz : (Cond.initialized y'.cls).before a0 Z = true) (hy : y'.cls ≠ "java/lang/invoke/MethodHandle" ∧ y'.cls ≠ "java/lang/invoke/VarHandle") (hlen : ∀ sig, parseMethodDescriptor y'.desc = some sig → argsL.length = sig.parameters.length) (hd : decode bytes pc = .ok (.invokespecial idx, 3))
    (hsz : Ls.size = maxL) (hst : S = argsL.reverse ++ .ref a :: rest) (has : (Value.ref a :: argsL).toArray = as) (hW : (rest.map fun v => v.category).sum ≤ W) (hp : pc + 3 = pc') (hFc : ∀ x ∈ Fc, x ∈ F) (hwc : ∀ x ∈ wc, x ∈ ws ∨ hs.size ≤ x) (hf : rm.frames + 1 ≤ R.frames) (hl : W + (maxL' + 11) + rm.locals ≤ R.locals) (hk : k + rm.cells = k') (hn : n + rm.slots = n') (hk' : k' ≤ R.cells) (hn' : n' ≤ R.slots)
    (K : ∀ v h', hs.size ≤ h.size → Keep h h' wc → Qc v h' → Wp wd l Z a0 EL R y bytes maxL ret hs ws Q h' F k' n' pc' Ls (v.toList ++ rest)) : Wp wd l Z a0 EL R y bytes maxL ret hs ws Q h F k n pc Ls S := by
  subst hown0 hst has hp hr'
  exact Wp.call Cc wcode wz hFc hwc hf hl hk hn hk' hn' (fun p e s m args below meth c T locs Pre Post X hx hZ hown hby hml eT hK hpre => X.specialBackNestS hx hy1 hown (mvMN hZ wl) (mvT hZ wi) (mvT hZ wcode) hy hK (g := mkF m pc Ls (argsL.reverse ++ .ref a :: rest)) rfl (by rw [hml]; exact hsz) (Steps.refl _) hlen rfl (by show 2 * 0 + _ ≤ _; omega) (hb hby hd) hpre) K
theorem Wp.callV {x' : MethodName} {own : String} {idx W : Nat} {argsL rest : List Value} (hown0 : y.cls = own) (Cc : Ct wd l Z EL [] y' bytes' maxL' ret' rm as h Fc wc Qc) (wl : (Cond.methodLink own idx x').before a0 Z = true) (wd' : (Cond.declares x').before a0 Z = true) (wsel : (Cond.selects C x' y').before a0 Z = true) (wi : (Cond.instanceMethod y').before a0 Z = true) (wcode : (Cond.code y' bytes' maxL' ret').before a0 Z = true) (wz : (Cond.initialized y'.cls).before a0 Z = true) (nf : ∀ s : State, Z.Warmed39 s.vm → NotFace s x') (E : Exa Z h a C) (hy : x'.cls ≠ "java/lang/invoke/MethodHandle" ∧ x'.cls ≠ "java/lang/invoke/VarHandle") (hlen : ∀ sig, parseMethodDescriptor x'.desc = some sig → argsL.length = sig.parameters.length) (hd : decode bytes pc = .ok (.invokevirtual idx, 3))
    (hsz : Ls.size = maxL) (hst : S = argsL.reverse ++ .ref a :: rest) (has : (Value.ref a :: argsL).toArray = as) (hW : (rest.map fun v => v.category).sum ≤ W) (hp : pc + 3 = pc') (hFc : ∀ x ∈ Fc, x ∈ F) (hwc : ∀ x ∈ wc, x ∈ ws ∨ hs.size ≤ x) (hf : rm.frames + 1 ≤ R.frames) (hl : W + (maxL' + 11) + rm.locals ≤ R.locals) (hk : k + rm.cells = k') (hn : n + rm.slots = n') (hk' : k' ≤ R.cells) (hn' : n' ≤ R.slots)
    (K : ∀ v h', hs.size ≤ h.size → Keep h h' wc → Qc v h' → Wp wd l Z a0 EL R y bytes maxL ret hs ws Q h' F k' n' pc' Ls (v.toList ++ rest)) : Wp wd l Z a0 EL R y bytes maxL ret hs ws Q h F k n pc Ls S := by
  subst hown0 hst has hp
  exact Wp.call Cc wcode wz hFc hwc hf hl hk hn hk' hn' (fun p e s m args below meth c T locs Pre Post X hx hZ hown hby hml eT hK hpre => by
    obtain ⟨cq, kq, qa, qb, qc⟩ := isOf (T := T) hZ eT E
    exact X.virtualBackS hx hown (mvT hZ wl) (mvT hZ wd') (nf s hZ) (mvT hZ wsel) (mvT hZ wi) hy hK qa qc (g := mkF m pc Ls (argsL.reverse ++ .ref a :: rest)) rfl (by rw [hml]; exact hsz) (Steps.refl _) hlen rfl (by show 2 * 0 + _ ≤ _; omega) (hb hby hd) hpre) K
theorem nf_sel {x' y'' : MethodName} (hc : C = x'.cls) (wsel : (Cond.selects C x' y'').before a0 Z = true) (s : State) (hZ : Z.Warmed39 s.vm) (h1 : x' = y'') : NotFace s x' := by
  subst h1 hc; exact notFace_of_selects (args := #[]) (mvT hZ wsel)
theorem Wp.callF {x' : MethodName} {count : Nat} {own : String} {idx W : Nat} {argsL rest : List Value} (hown0 : y.cls = own) (Cc : Ct wd l Z EL [] y' bytes' maxL' ret' rm as h Fc wc Qc) (wl : (Cond.methodLink own idx x').before a0 Z = true) (wd' : (Cond.declares x').before a0 Z = true) (wf : (Cond.interfaceMethod x'.cls x'.cls x'.name x'.desc).before a0 Z = true) (wsel : (Cond.selects C x' y').before a0 Z = true) (wi : (Cond.instanceMethod y').before a0 Z = true) (wp : (Cond.publicMethod y').before a0 Z = true) (hfa : ((Cond.interfaceMethod x'.cls x'.cls x'.name x'.desc).onTables && (Cond.interfaceMethod x'.cls x'.cls x'.name x'.desc).keepsFace) = true) (wu : (Cond.unhidden C x'.name x'.desc).before a0 Z = true) (wca : (Cond.castable C x'.cls).before a0 Z = true) (wcode : (Cond.code y' bytes' maxL' ret').before a0 Z = true) (wz : (Cond.initialized y'.cls).before a0 Z = true) (E : Exa Z h a C) (hy : x'.cls ≠ "java/lang/invoke/MethodHandle" ∧ x'.cls ≠ "java/lang/invoke/VarHandle") (hlen : ∀ sig, parseMethodDescriptor x'.desc = some sig → argsL.length = sig.parameters.length) (hd : decode bytes pc = .ok (.invokeinterface idx count, 5))
    (hsz : Ls.size = maxL) (hst : S = argsL.reverse ++ .ref a :: rest) (has : (Value.ref a :: argsL).toArray = as) (hW : (rest.map fun v => v.category).sum ≤ W) (hp : pc + 5 = pc') (hFc : ∀ x ∈ Fc, x ∈ F) (hwc : ∀ x ∈ wc, x ∈ ws ∨ hs.size ≤ x) (hf : rm.frames + 1 ≤ R.frames) (hl : W + (maxL' + 11) + rm.locals ≤ R.locals) (hk : k + rm.cells = k') (hn : n + rm.slots = n') (hk' : k' ≤ R.cells) (hn' : n' ≤ R.slots)
    (K : ∀ v h', hs.size ≤ h.size → Keep h h' wc → Qc v h' → Wp wd l Z a0 EL R y bytes maxL ret hs ws Q h' F k' n' pc' Ls (v.toList ++ rest)) : Wp wd l Z a0 EL R y bytes maxL ret hs ws Q h F k n pc Ls S := by
  subst hown0 hst has hp
  exact Wp.call Cc wcode wz hFc hwc hf hl hk hn hk' hn' (fun p e s m args below meth c T locs Pre Post X hx hZ hown hby hml eT hK hpre => by
    obtain ⟨cq, kq, qa, qb, qc⟩ := isOf (T := T) hZ eT E
    exact X.interfaceBackS hx hown (mvT hZ wl) (mvT hZ wd') (mvT hZ wf hfa) (mvT hZ wsel) (mvT hZ wi) (mvT hZ wp) (mvT hZ wu) (mvT hZ wca) hy hK qa qb qc (g := mkF m pc Ls (argsL.reverse ++ .ref a :: rest)) rfl (by rw [hml]; exact hsz) (Steps.refl _) hlen rfl (by show 2 * 0 + _ ≤ _; omega) (hb hby hd) hpre) K
/-- ldc of a String constant, opaque -/
theorem Wp.ldcO {own text : String} {idx nn : Nat} (hwd : wd = true) (hown0 : y.cls = own) (lk : (Cond.stringLink own idx text).before a0 Z = true) (wS : ∀ d ∈ Bundle.stringAtoms, d.before a0 Z = true) (hd : decode bytes pc = .ok (.ldc idx, 2)) (hp : pc + 2 = pc') (hnn : 4 * text.toList.length ≤ nn) (hbig : nn ≤ 536870912) (hk : k + 2 = k') (hn : n + (nn + 4) = n') (hk' : k' ≤ R.cells) (hn' : n' ≤ R.slots)
    (K : ∀ h' b, Ext h h' → Wp wd l Z a0 EL R y bytes maxL ret hs ws Q h' F k' n' pc' Ls (.ref b :: S)) : Wp wd l Z a0 EL R y bytes maxL ret hs ws Q h F k n pc Ls S := fun p e s m args below meth c vm0 k0 T locs I => by
  obtain ⟨⟨i1, i2, i3, i4, i5⟩, ⟨q1, q2, q3, q4, q5⟩, ⟨j1, j2, j3, j4, j5, j6, j7⟩, X, eT⟩ := I
  subst hk hn hp hown0
  obtain ⟨b, T', h', k1, X', e', E, hS, hk1, hW, hf, hC, -, st⟩ := ldcOH X i2 j5 j1 lk wS eT j2 j3 i1 j6.1 (g := mkF m pc Ls S) rfl (hb i3 hd) hnn hbig hk' hn'
  exact (K h' b E p e s m args below meth c T'.vm k1 T' locs ⟨⟨i1, i2, i3, i4, i5⟩, ⟨q1, q2, q3, q4, Ext.trans q5 E⟩, ⟨hf, hS, hk1, (fun z => by rw [hwd] at z; cases z), hW, j6.trans hC, fun x hx => ⟨Nat.lt_of_lt_of_le (j7 x hx).1 E.1, CHr.safe hC (j7 x hx).1 (j7 x hx).2⟩⟩, X', e'⟩).back st
/-- ldc of a String constant whose text is read -/
theorem Wp.ldcC {own text : String} {idx nn : Nat} {vs : List Value} {z : Int32} (hwd : wd = true) (hown0 : y.cls = own) (lk : (Cond.stringLink own idx text).before a0 Z = true) (wS : ∀ d ∈ Bundle.stringAtoms, d.before a0 Z = true) (hmem : (own, idx) ∈ EL) (ht : (∀ c ∈ text.toList, c.toNat < 256) ∧ text.toList.map (fun c => Value.int (Jvm.Lit.byteI c.toNat.toUInt16)) = vs) (hz : ¬ z < 0) (hl : z.toNatClampNeg = vs.length)
    (hd : decode bytes pc = .ok (.ldc idx, 2)) (hp : pc + 2 = pc') (hnn : 4 * text.toList.length ≤ nn) (hbig : nn ≤ 536870912) (hk : k + 2 = k') (hn : n + (nn + 4) = n') (hk' : k' ≤ R.cells) (hn' : n' ≤ R.slots)
    (K : ∀ h' b c kA, Ext h h' → Exa Z h' b "java/lang/String" → Fld Z h' b "java/lang/String" "coder" "B" (.int 0) → Fld Z h' b "java/lang/String" "value" "[B" (.ref c) → Arv Z h' c kA .byte z vs (.int 0) → (∀ x ∈ F, x ≠ b ∧ x ≠ c) → Wp wd l Z a0 EL R y bytes maxL ret hs ws Q h' F k' n' pc' Ls (.ref b :: S)) : Wp wd l Z a0 EL R y bytes maxL ret hs ws Q h F k n pc Ls S := fun p e s m args below meth c vm0 k0 T locs I => by
  obtain ⟨⟨i1, i2, i3, i4, i5⟩, ⟨q1, q2, q3, q4, q5⟩, ⟨j1, j2, j3, j4, j5, j6, j7⟩, X, eT⟩ := I
  subst hk hn hp hown0
  obtain ⟨b, T', h', k1, cc, kA, X', e', E, hS, hk1, hW, hf, r1, r2, r3, r4, -, -, hC, -, hne, st⟩ := ldcCH X i2 j5 j1 lk wS eT j2 j3 i1 hmem j6.1 ht hz hl (g := mkF m pc Ls S) rfl (hb i3 hd) hnn hbig hk' hn'
  have hSf : Sf Z EL T'.vm h' F := fun x hx => ⟨Nat.lt_of_lt_of_le (j7 x hx).1 E.1, CHr.safe hC (j7 x hx).1 (j7 x hx).2⟩
  exact (K h' b cc kA E r1 r2 r3 r4 (fun x hx => hne x (hSf x hx).2) p e s m args below meth c T'.vm k1 T' locs ⟨⟨i1, i2, i3, i4, i5⟩, ⟨q1, q2, q3, q4, Ext.trans q5 E⟩, ⟨hf, hS, hk1, (fun z => by rw [hwd] at z; cases z), hW, j6.trans hC, hSf⟩, X', e'⟩).back st
end Calls
end Jvm.Own
namespace Jvm.Own
open Sem ClassFile Op Lib Jvm.Stand Jvm.Free Jvm.LawKit Jvm.RoadKit
/-! small naturals as ints -/
theorem on_toInt {i : Nat} (h : i < 2147483648) : (Int32.ofNat i).toInt = i := Int32.toInt_ofNat_of_lt h
theorem on_lt {i n : Nat} (hn : n < 2147483648) (h : i < n) : Int32.ofNat i < Int32.ofNat n := by rw [Int32.lt_iff_toInt_lt, on_toInt (by omega), on_toInt hn]; omega
theorem on_nlt {i n : Nat} (hi : i < 2147483648) (h : n ≤ i) : ¬ Int32.ofNat i < Int32.ofNat n := by rw [Int32.lt_iff_toInt_lt, on_toInt hi, on_toInt (i := n) (by omega)]; omega
theorem on_nneg {i : Nat} (hi : i < 2147483648) : ¬ Int32.ofNat i < 0 := by rw [Int32.lt_iff_toInt_lt, on_toInt hi]; show ¬ ((i : Int) < 0); omega
theorem on_clamp {i : Nat} (hi : i < 2147483648) : (Int32.ofNat i).toNatClampNeg = i := by simp only [Int32.toNatClampNeg, on_toInt hi]; omega
theorem on_succ (i : Nat) : Int32.ofNat i + (1 : Int32) = Int32.ofNat (i + 1) := (Int32.ofNat_add i 1).symm
theorem on_eq {i n : Nat} (hi : i < 2147483648) (hn : n < 2147483648) : Int32.ofNat i = Int32.ofNat n ↔ i = n := by
  rw [← Int32.toInt_inj, on_toInt hi, on_toInt hn]; omega
/-- what the low byte of a char is, as the JVM keeps it -/
def lb (c : Int32) : Int32 := c.toInt8.toInt32
theorem nar_lb (c : Int32) : nar .byte c.toInt8.toInt32 = lb c := by show (c.toInt8.toInt32).toInt8.toInt32 = _; rw [Int8.toInt8_toInt32]; rfl
theorem set_step {f : Int32 → Value} {cs : List Int32} {i j : Nat} {c : Int32} {z v : Value} (hc : cs[i]? = some c) (hv : v = f c) : ((cs.take i).map f ++ List.replicate (j + 1) z).set i v = (cs.take (i + 1)).map f ++ List.replicate j z := by
  obtain ⟨hi, rfl⟩ := List.getElem?_eq_some_iff.mp hc
  have hl : ((cs.take i).map f).length = i := by simp; omega
  rw [List.set_append_right _ _ (by omega), hl, Nat.sub_self, List.replicate_succ, List.set_cons_zero, List.take_add_one, List.map_append, hv, hc]
  simp
/-- an object of C is none of K: neither C nor its only superclass O is K -/
theorem ns_no {Z : State} {a0 : Array Value} {C O K : String} {n : Nat} (w : (Cond.superclass C O).before a0 Z = true) (wr : (Cond.noSuperclass O).before a0 Z = true) (wk : (Cond.instantiable K n).before a0 Z = true) (hn : C ≠ K) (hn2 : O ≠ K) : ∃ c t, Z.vm.findClass C = some c ∧ Z.vm.findClass K = some t ∧ Z.vm.assignable c t = false := by
  obtain ⟨t, kt, g1, g2, g3, g4, -⟩ := Cond.instantiable_spec wk
  have hN : NS Z O K := by
    obtain ⟨c, k, h1, h2, h3, -, -⟩ := Cond.noSuperclass_spec wr
    have ne := ids_ne h1 g1 hn2
    refine ⟨c, t, h1, g1, fun fuel => ?_⟩
    cases fuel with
    | zero => rfl
    | succ f => simp [Vm.isSubclassAux, ne, h2, h3]
  obtain ⟨c, t', h0, g0, n3⟩ := NS.step w hN hn
  cases g1.symm.trans g0
  obtain ⟨p, k, kp, h1, h2, h3, h4, h5, -, h7⟩ := Cond.superclass_spec h0 w
  have ne := ids_ne h0 g0 hn
  have g5 : kt.isInterface = false := (Bool.or_eq_false_iff.mp g4).1
  refine ⟨c, t, h0, g1, ?_⟩
  show Z.vm.assignableAux (255 + 1) c t = false
  simp [Vm.assignableAux, ne, h2, g2, h5, g3, g5, Vm.isSubclass, n3]
section Str
variable {Z : State} {a0 : Array Value} {h h' : Heap} {s w : Addr} {bs : List Int32} {C : String} {n sl : Nat} {v : Value} {k : ClassId} {ty : FieldType} {z : Int32} {vs : List Value} {d : Value}
/-- a Latin-1 String: its bytes, as ints -/
def SL (Z : State) (h : Heap) (s : Addr) (bs : List Int32) : Prop := Exa Z h s "java/lang/String" ∧ Fld Z h s "java/lang/String" "coder" "B" (.int 0) ∧ ∃ b k, Fld Z h s "java/lang/String" "value" "[B" (.ref b) ∧ Arv Z h b k .byte (Int32.ofNat bs.length) (bs.map Value.int) (.int 0)
theorem SL.lt (S : SL Z h s bs) : s < h.size := S.1.lt
theorem SL.ext (S : SL Z h s bs) (E : Ext h h') : SL Z h' s bs := by
  obtain ⟨A, B, b, k, D, G⟩ := S; exact ⟨A.ext E, B.ext E, b, k, D.ext E, G.ext E⟩
theorem SL.keep0 (S : SL Z h s bs) (K : Keep h h' []) : SL Z h' s bs := by
  obtain ⟨A, B, b, k, D, G⟩ := S; exact ⟨A.keep K, B.keep K nin0, b, k, D.keep K nin0, G.keep K nin0⟩
theorem SL.keep1 (S : SL Z h s bs) (K : Keep h h' [w]) (q : s ≠ w) (E : Exa Z h w C) (wi : (Cond.instantiable C n).before a0 Z = true) : SL Z h' s bs := by
  obtain ⟨A, B, b, k, D, G⟩ := S; exact ⟨A.keep K, B.keep K (ninS q nin0), b, k, D.keep K (ninS q nin0), G.keep K (ninS (Ne.symm (Exa.neArv E G wi)) nin0)⟩
theorem SL.wr (S : SL Z h s bs) (W : Wr h h' w sl v) (q : s ≠ w) (E : Exa Z h w C) (wi : (Cond.instantiable C n).before a0 Z = true) : SL Z h' s bs := S.keep1 (Keep.of_wr W) q E wi
theorem Arv.neTy {a b : Addr} {k' : ClassId} {ty' : FieldType} {z' : Int32} {vs' : List Value} {d' : Value} (A : Arv Z h a k ty z vs d) (B : Arv Z h b k' ty' z' vs' d') (q : ty ≠ ty') : a ≠ b := fun e => by
  subst e
  obtain ⟨c, ⟨h1, ⟨-, kk, h2, cm, h3⟩, -⟩, -⟩ := A
  obtain ⟨c', ⟨g1, ⟨-, kk', g2, cm', g3⟩, -⟩, -⟩ := B
  cases h1.symm.trans g1
  cases h2.symm.trans g2
  rw [h3] at g3; injection g3 with _ g3; exact q g3
theorem SL.keepA (S : SL Z h s bs) (K : Keep h h' [w]) (V : Arv Z h w k ty z vs d) (ht : ty ≠ .byte) (wi : (Cond.instantiable "java/lang/String" n).before a0 Z = true) : SL Z h' s bs := by
  obtain ⟨A, B, b, k, D, G⟩ := S
  have q : s ≠ w := Exa.neArv A V wi
  exact ⟨A.keep K, B.keep K (ninS q nin0), b, k, D.keep K (ninS q nin0), G.keep K (ninS (Arv.neTy G V (Ne.symm ht)) nin0)⟩
theorem SL.wrA (S : SL Z h s bs) (W : Wr h h' w sl v) (V : Arv Z h w k ty z vs d) (ht : ty ≠ .byte) (wi : (Cond.instantiable "java/lang/String" n).before a0 Z = true) : SL Z h' s bs := S.keepA (Keep.of_wr W) V ht wi
end Str
end Jvm.Own
namespace Jvm.Own
/-- two lists of one length that are alike up to i, and at i .. -/
theorem take_step {α : Type} {xs ys : List α} {i : Nat} {x y : α} (hx : xs[i]? = some x) (hy : ys[i]? = some y) (h : xs.take i = ys.take i) : (xs.take (i + 1) = ys.take (i + 1)) ↔ x = y := by
  rw [List.take_add_one, List.take_add_one, hx, hy, h]; simp
theorem ne_at {α : Type} {xs ys : List α} {i : Nat} {x y : α} (hx : xs[i]? = some x) (hy : ys[i]? = some y) (h : ¬ x = y) : ¬ xs = ys := fun e => by
  rw [e, hy] at hx; exact h (Option.some.inj hx).symm
theorem ne_len {α : Type} {xs ys : List α} (hx : xs.length < 2147483647) (hy : ys.length < 2147483647) (h : ¬ Int32.ofNat xs.length = Int32.ofNat ys.length) : ¬ xs = ys := fun e => h (by rw [e])
theorem all_take {α : Type} {xs ys : List α} (hl : xs.length = ys.length) (h : xs.take xs.length = ys.take xs.length) : xs = ys := by
  rw [List.take_length] at h; rw [hl, List.take_length] at h; exact h
end Jvm.Own
namespace Jvm.Own
open Sem ClassFile Op Lib Jvm.Stand Jvm.Free Jvm.LawKit Jvm.RoadKit
/-! chars of 16 bits, kept as two bytes; Strings of either coder -/
def hbt (c : Int32) : Int32 := lb (c >>> ((8 : Int32) &&& 31))
theorem i2c_bv (x : Int32) : x.toUInt32.toUInt16.toUInt32.toInt32.toBitVec = BitVec.setWidth 32 (BitVec.setWidth 16 x.toBitVec) := by
  show (x.toUInt32.toUInt16.toUInt32).toBitVec = _
  rw [UInt16.toBitVec_toUInt32, UInt32.toBitVec_toUInt16]; rfl
theorem join16 (c : Int32) : (((lb c &&& (255 : Int32)) <<< ((0:Int32) &&& 31)) ||| ((hbt c &&& (255 : Int32)) <<< ((8:Int32) &&& 31))).toUInt32.toUInt16.toUInt32.toInt32 = c.toUInt32.toUInt16.toUInt32.toInt32 := by
  apply Int32.toBitVec_inj.mp
  simp only [lb, hbt]
  rw [i2c_bv, i2c_bv]
  have e0 : ((0 : Int32) &&& 31) = 0 := rfl
  have e8 : ((8 : Int32) &&& 31) = 8 := rfl
  rw [e0, e8]
  simp only [Int32.toBitVec_or, Int32.toBitVec_shiftLeft, Int32.toBitVec_and, Int8.toBitVec_toInt32, Int32.toBitVec_toInt8, Int32.toBitVec_shiftRight]
  have s0 : BitVec.smod (Int32.toBitVec 0) 32 = 0#32 := by decide
  have s8 : BitVec.smod (Int32.toBitVec 8) 32 = 8#32 := by decide
  have s255 : Int32.toBitVec 255 = 255#32 := rfl
  rw [s0, s8, s255]
  generalize c.toBitVec = b
  ext i hi
  rcases (by omega : i = 0 ∨ i = 1 ∨ i = 2 ∨ i = 3 ∨ i = 4 ∨ i = 5 ∨ i = 6 ∨ i = 7 ∨ i = 8 ∨ i = 9 ∨ i = 10 ∨ i = 11 ∨ i = 12 ∨ i = 13 ∨ i = 14 ∨ i = 15 ∨ i = 16 ∨ i = 17 ∨ i = 18 ∨ i = 19 ∨ i = 20 ∨ i = 21 ∨ i = 22 ∨ i = 23 ∨ i = 24 ∨ i = 25 ∨ i = 26 ∨ i = 27 ∨ i = 28 ∨ i = 29 ∨ i = 30 ∨ i = 31) with rfl | rfl | rfl | rfl | rfl | rfl | rfl | rfl | rfl | rfl | rfl | rfl | rfl | rfl | rfl | rfl | rfl | rfl | rfl | rfl | rfl | rfl | rfl | rfl | rfl | rfl | rfl | rfl | rfl | rfl | rfl | rfl <;> simp [BitVec.getElem_sshiftRight, BitVec.getElem_signExtend, BitVec.getElem_setWidth, BitVec.sshiftRight']

theorem on_shr0 (x : Int32) : x >>> ((0 : Int32) &&& 31) = x := by
  apply Int32.toBitVec_inj.mp; simp
theorem on_shl0 (x : Int32) : x <<< ((0 : Int32) &&& 31) = x := by
  apply Int32.toBitVec_inj.mp; simp
theorem on_shl1 {k : Nat} (hk : k < 1073741824) : Int32.ofNat k <<< ((1 : Int32) &&& 31) = Int32.ofNat (2 * k) := by
  have e1 : ((1 : Int32) &&& 31) = 1 := rfl
  have s1 : BitVec.smod (Int32.toBitVec 1) 32 = 1#32 := by decide
  apply Int32.toBitVec_inj.mp
  rw [e1, Int32.toBitVec_shiftLeft, s1]
  apply BitVec.eq_of_toNat_eq
  simp [Nat.shiftLeft_eq, Nat.mul_comm]
theorem on_shr1 {k : Nat} (hk : k < 1073741824) : Int32.ofNat (2 * k) >>> ((1 : Int32) &&& 31) = Int32.ofNat k := by
  have e1 : ((1 : Int32) &&& 31) = 1 := rfl
  have s1 : BitVec.smod (Int32.toBitVec 1) 32 = 1#32 := by decide
  apply Int32.toBitVec_inj.mp
  rw [e1, Int32.toBitVec_shiftRight, s1]
  apply BitVec.eq_of_toInt_eq
  rw [BitVec.sshiftRight', BitVec.toInt_sshiftRight]
  show (Int32.ofNat (2 * k)).toInt >>> 1 = (Int32.ofNat k).toInt
  rw [on_toInt (by omega), on_toInt (by omega), Int.shiftRight_eq_div_pow]
  omega
theorem on_cfa {n : Nat} (h0 : 0 < n) (hn : n < 1073741824) : ((Int32.ofNat n - Int32.ofNat (2 * n)).toUInt32 >>> ((31 : Int32) &&& 31).toUInt32).toInt32.toInt8.toInt32 = 1 := by
  have e : ((Int32.ofNat n - Int32.ofNat (2 * n)).toUInt32 >>> ((31 : Int32) &&& 31).toUInt32) = 1 := by
    apply UInt32.toNat_inj.mp
    have e31 : ((31 : Int32) &&& 31).toUInt32.toNat % 32 = 31 := by decide
    rw [UInt32.toNat_shiftRight, e31, Nat.shiftRight_eq_div_pow]
    have hb : (Int32.ofNat n - Int32.ofNat (2 * n)).toUInt32.toNat = (2 ^ 32 - n) := by
      show (Int32.ofNat n - Int32.ofNat (2 * n)).toBitVec.toNat = _
      rw [Int32.toBitVec_sub, BitVec.toNat_sub]
      show (2 ^ 32 - (BitVec.ofNat 32 (2 * n)).toNat + (BitVec.ofNat 32 n).toNat) % 2 ^ 32 = _
      simp only [BitVec.toNat_ofNat]
      omega
    rw [hb]
    show _ = 1
    omega
  rw [e]; rfl

def utf : List Int32 → List Value
  | [] => []
  | c :: cs => .int (lb c) :: .int (hbt c) :: utf cs
theorem utf_len (cs : List Int32) : (utf cs).length = 2 * cs.length := by
  induction cs with
  | nil => rfl
  | cons c cs ih => simp [utf, ih]; omega
theorem utf_app (xs ys : List Int32) : utf (xs ++ ys) = utf xs ++ utf ys := by
  induction xs with
  | nil => rfl
  | cons c cs ih => simp [utf, ih]
theorem utf_at {cs : List Int32} {i : Nat} {c : Int32} (h : cs[i]? = some c) : (utf cs)[2 * i]? = some (Value.int (lb c)) ∧ (utf cs)[2 * i + 1]? = some (.int (hbt c)) := by
  induction cs generalizing i with
  | nil => cases h
  | cons d ds ih =>
    cases i with
    | zero => cases h; exact ⟨rfl, rfl⟩
    | succ j =>
      have h' : ds[j]? = some c := h
      have e : 2 * (j + 1) = 2 * j + 1 + 1 := by omega
      rw [e]; exact ih h'
theorem set_two {α : Type} (A R : List α) (x y u v : α) : ((A ++ x :: y :: R).set A.length u).set (A.length + 1) v = A ++ u :: v :: R := by
  induction A with
  | nil => rfl
  | cons a A ih => simp
theorem utf_step {cs : List Int32} {i j : Nat} {c : Int32} (h : cs[i]? = some c) : ((utf (cs.take i) ++ List.replicate (2 * (j + 1)) (Value.int 0)).set (2 * i) (Value.int (lb c))).set (2 * i + 1) (Value.int (hbt c)) = utf (cs.take (i + 1)) ++ List.replicate (2 * j) (Value.int 0) := by
  have hl : (utf (cs.take i)).length = 2 * i := by
    have hi := (List.getElem?_eq_some_iff.mp h).1
    rw [utf_len, List.length_take]; omega
  have e : List.replicate (2 * (j + 1)) (Value.int 0) = .int 0 :: .int 0 :: List.replicate (2 * j) (Value.int 0) := by
    rw [show 2 * (j + 1) = 2 * j + 1 + 1 by omega, List.replicate_succ, List.replicate_succ]
  rw [e, ← hl, set_two, List.take_add_one, h, utf_app, List.append_assoc]; rfl
/-- how a String's fields hold a text: its coder, its array's length, its bytes -/
def Enc (cs : List Int32) (w zz : Int32) (vs : List Value) : Prop := (w = 0 ∧ zz = Int32.ofNat cs.length ∧ vs = cs.map (fun c => Value.int (lb c)) ∧ ∀ c ∈ cs, ¬ (255 : Int32) < c) ∨ (w = 1 ∧ zz = Int32.ofNat (2 * cs.length) ∧ vs = utf cs ∧ ∃ c ∈ cs, (255 : Int32) < c)
theorem Enc.w01 {cs : List Int32} {w zz : Int32} {vs : List Value} (e : Enc cs w zz vs) : w = 0 ∨ w = 1 := e.elim (fun q => Or.inl q.1) fun q => Or.inr q.1
theorem nar_w {w : Int32} (h : w = 0 ∨ w = 1) : nar .byte w = w := by rcases h with rfl | rfl <;> rfl
theorem fit_w {w : Int32} (h : w = 0 ∨ w = 1) : fits .byte (.int w) = true := by rcases h with rfl | rfl <;> rfl
theorem Enc.len {cs : List Int32} {w zz : Int32} {vs : List Value} (e : Enc cs w zz vs) (hn : cs.length < 1073741824) : zz >>> (w &&& 31) = Int32.ofNat cs.length := by
  rcases e with ⟨rfl, rfl, -⟩ | ⟨rfl, rfl, -⟩
  · exact on_shr0 _
  · exact on_shr1 hn
theorem Enc.cfa {cs : List Int32} {w zz : Int32} {vs : List Value} (e : Enc cs w zz vs) (hn : cs.length < 1073741824) : nar .byte ((Int32.ofNat cs.length - zz).toUInt32 >>> ((31 : Int32) &&& 31).toUInt32).toInt32.toInt8.toInt32 = w := by
  rcases e with ⟨rfl, rfl, -⟩ | ⟨rfl, rfl, -, c, hc, -⟩
  · rw [Int32.sub_self]; rfl
  · rw [on_cfa (List.length_pos_of_mem hc) hn]; rfl
def ST (Z : State) (h : Heap) (s : Addr) (cs : List Int32) : Prop := ∃ b k w zz vs, Exa Z h s "java/lang/String" ∧ Fld Z h s "java/lang/String" "coder" "B" (.int w) ∧ Fld Z h s "java/lang/String" "value" "[B" (.ref b) ∧ Arv Z h b k .byte zz vs (.int 0) ∧ Enc cs w zz vs
theorem ST.exa {Z : State} {h : Heap} {s : Addr} {cs : List Int32} (S : ST Z h s cs) : Exa Z h s "java/lang/String" := by obtain ⟨b, k, w, zz, vs, A, -⟩ := S; exact A
theorem ST.lt {Z : State} {h : Heap} {s : Addr} {cs : List Int32} (S : ST Z h s cs) : s < h.size := S.exa.lt
theorem ST.ext {Z : State} {h h' : Heap} {s : Addr} {cs : List Int32} (S : ST Z h s cs) (E : Ext h h') : ST Z h' s cs := by
  obtain ⟨b, k, w, zz, vs, A, B, C, D, G⟩ := S; exact ⟨b, k, w, zz, vs, A.ext E, B.ext E, C.ext E, D.ext E, G⟩
theorem ST.keep0 {Z : State} {h h' : Heap} {s : Addr} {cs : List Int32} (S : ST Z h s cs) (K : Keep h h' []) : ST Z h' s cs := by
  obtain ⟨b, k, w, zz, vs, A, B, C, D, G⟩ := S; exact ⟨b, k, w, zz, vs, A.keep K, B.keep K nin0, C.keep K nin0, D.keep K nin0, G⟩
theorem ch_nar (x : Int32) : nar .char (nar .char x) = nar .char x := by
  show x.toUInt32.toUInt16.toUInt32.toInt32.toUInt32.toUInt16.toUInt32.toInt32 = x.toUInt32.toUInt16.toUInt32.toInt32
  apply Int32.toBitVec_inj.mp
  rw [i2c_bv, i2c_bv]
  apply BitVec.eq_of_toNat_eq
  simp
theorem ch_nn {c : Int32} (h : nar .char c = c) : ¬ c < 0 ∧ c.toInt < 65536 := by
  rw [← h]
  have h2 := (c.toUInt32.toUInt16).toNat_lt
  have e : (nar .char c).toInt = c.toUInt32.toUInt16.toNat := by
    show ((c.toUInt32.toUInt16.toUInt32).toBitVec).toInt = _
    have hm : (c.toUInt32.toUInt16.toUInt32).toBitVec.toNat = c.toUInt32.toUInt16.toNat := by
      show (c.toUInt32.toUInt16.toUInt32).toNat = _
      simp
    rw [BitVec.toInt_eq_toNat_cond, hm, if_pos (by omega)]
  have e2 : (0 : Int32).toInt = 0 := rfl
  rw [Int32.lt_iff_toInt_lt, e, e2]; omega
end Jvm.Own
namespace Jvm.Own
open Sem ClassFile Op Lib Jvm.Stand Jvm.Free Jvm.LawKit Jvm.RoadKit
section Calls
variable {wd : Bool} {l : Launch} {Z : State} {EL : List (String × Nat)} {R : Room} {y : MethodName} {bytes : ByteArray} {maxL : Nat} {ret : Option FieldType} {hs : Heap} {ws : List Addr} {Q : Option Value → Heap → Prop} {h h' : Heap} {F F' : List Addr} {k n k' n' pc pc' pc1 : Nat} {Ls Ls' : Array Slot} {S S' : List Value}
variable {a0 : Array Value} {a b : Addr} {C O nm d : String} {v w : Value} {sl : Nat} {cl : Cell} {ty : FieldType}
variable {y' : MethodName} {bytes' : ByteArray} {maxL' : Nat} {ret' : Option FieldType} {rm : Room} {as : Array Value} {Fc wc : List Addr} {Qc : Option Value → Heap → Prop}
/-- a call of a body that interns nothing and writes nothing old: what it made may be written -/
theorem Wp.callN {len W : Nat} {rest : List Value} (Cc : Ct false l Z EL [] y' bytes' maxL' ret' rm as h [] [] Qc) (wcode : (Cond.code y' bytes' maxL' ret').before a0 Z = true) (wz : (Cond.initialized y'.cls).before a0 Z = true) (hf : rm.frames + 1 ≤ R.frames) (hl : W + (maxL' + 11) + rm.locals ≤ R.locals) (hk : k + rm.cells = k') (hn : n + rm.slots = n') (hk' : k' ≤ R.cells) (hn' : n' ≤ R.slots)
    (law : ∀ (p : Program) (e : Env) (s : State) (m : MethodId) (args : Array Value) (below : List Frame) (meth : Method) (c : Code) (T : State) (locs : List Loc) (Pre : Pt → Array Value → Prop) (Post : Pt → Array Value → Option Value → Pt → Prop), Stand p l e R s m args below meth c T locs k n → p.tables.exec = Jvm.exec → Z.Warmed39 s.vm → s.vm.findClass y.cls = some m.cls → c.code = bytes → c.maxLocals = maxL → T.heap = h →
      BackS l R p e below s args y' len W Pre Post → (∀ vm₁, s.WarmedH vm₁ → Pre ⟨T.setVm vm₁, locs, k, n⟩ as) →
      ∃ (v : Option Value) (vm₁ : Vm) (B : Pt), s.WarmedH vm₁ ∧ Stand p l e R (s.setVm B.U.vm) m args below meth c B.U B.locs B.cells B.slots ∧ s.Since B.U.vm B.U.heap.size ∧ T.heap.size ≤ B.U.heap.size ∧ Post ⟨T.setVm vm₁, locs, k, n⟩ as v B ∧
        Steps p.tables e below (T.setTop (mkF m pc Ls S)) (B.U.setTop (mkF m pc' Ls (v.toList ++ rest))))
    (K : ∀ v h', hs.size ≤ h.size → Keep h h' [] → Qc v h' → ∃ d, h.size ≤ d ∧ d < h'.size ∧ Wp wd l Z a0 EL R y bytes maxL ret hs ws Q h' (d :: F) k' n' pc' Ls (v.toList ++ rest)) : Wp wd l Z a0 EL R y bytes maxL ret hs ws Q h F k n pc Ls S := fun p e s m args below meth c vm0 k0 T locs I => by
  obtain ⟨⟨i1, i2, i3, i4, i5⟩, ⟨q1, q2, q3, q4, q5⟩, ⟨j1, j2, j3, j4, j5, j6, j7⟩, X, eT⟩ := I
  subst hk hn
  obtain ⟨v, vm₁, ⟨U, L', kk, nn⟩, hW₁, X', hS', hgr, ⟨L, ⟨c1, c2⟩, c3, c4, c5, c6, c7, c8⟩, st⟩ := law p e (s.setVm vm0) m args below meth c T locs _ _ X i2 j5 j1 i3 i4 eT (Ct.pays Cc i1 j5 wcode wz hf hl j6.1 (fun x hx => nomatch hx)) (fun _ _ => ⟨rfl, eT, hk', hn'⟩)
  dsimp only [Pt.U, Pt.locs, Pt.cells, Pt.slots] at X' hS' hgr c2 c3 c4 c5 c6 c7 c8 st
  subst c3 c4 c5
  have hhs : hs.size ≤ h.size := j6.2.1
  have hSin : s.Since U.vm U.heap.size := j2.trans hS' (Nat.le_trans j3 (by rw [← eT]; exact hgr))
  obtain ⟨d, hd1, hd2, Kd⟩ := K v U.heap hhs c7 c2
  have hE0 : Ext h U.heap := ⟨c7.1, fun x c hx => c7.2.1 x c hx nin0⟩
  have hW := c8 rfl
  have q := CHv.later (h' := U.heap) j5 (hW := (show (Wst Z vm0 U.heap).Warmed39 U.vm from hW.wide)) i1 ⟨Nat.le_refl _, fun _ _ q => q⟩ (Or.inl hW.interned_eq) (CHv.ext hE0 j6.1)
  have hsd : Safe Z EL U.vm U.heap d := CHr.safe (show CHr Z EL vm0 U.heap U.vm U.heap from ⟨q.1, Nat.le_refl _, q.2⟩) hd2 (Safe.ext hE0 j6.1 (Safe.new hd1))
  refine (Kd p e s m args below meth c U.vm U.heap.size U _ ⟨⟨i1, i2, i3, i4, i5⟩, ⟨q1, q2, q3, fun z hz => ?_, Ext.trans q5 hE0⟩, ⟨(hS'.1.alike.findClass _ _).trans j1, hSin, Nat.le_refl _, fun z => State.WarmedH.trans (t := s.setVm vm0) (j4 z) hW, State.Warmed39.trans (t := s.setVm vm0) j5 hS'.1, j6.trans c6, fun x hx => ?_⟩, X', rfl⟩).back fun t => st.trans
  · rcases List.mem_append.mp hz with hz | hz
    · exact q4 z hz
    · rcases c1 z hz with q | q
      · cases q
      · exact Or.inr (Nat.le_trans hhs q)
  · rcases List.mem_cons.mp hx with rfl | hx
    · exact ⟨hd2, hsd⟩
    · exact ⟨Nat.lt_of_lt_of_le (j7 x hx).1 c7.1, CHr.safe c6 (j7 x hx).1 (j7 x hx).2⟩
theorem Wp.callSF {own : String} {idx W : Nat} {argsL rest : List Value} (hown0 : y.cls = own) (Cc : Ct false l Z EL [] y' bytes' maxL' ret' rm as h [] [] Qc) (wl : (Cond.methodLink own idx y').before a0 Z = true) (wst : (Cond.static y').before a0 Z = true) (wcode : (Cond.code y' bytes' maxL' ret').before a0 Z = true) (wz : (Cond.initialized y'.cls).before a0 Z = true) (hy : y'.cls ≠ "java/lang/invoke/MethodHandle" ∧ y'.cls ≠ "java/lang/invoke/VarHandle") (hlen : ∀ sig, parseMethodDescriptor y'.desc = some sig → argsL.length = sig.parameters.length) (hd : decode bytes pc = .ok (.invokestatic idx, 3))
    (hsz : Ls.size = maxL) (hst : S = argsL.reverse ++ rest) (has : argsL.toArray = as) (hW : (rest.map fun v => v.category).sum ≤ W) (hp : pc + 3 = pc') (hf : rm.frames + 1 ≤ R.frames) (hl : W + (maxL' + 11) + rm.locals ≤ R.locals) (hk : k + rm.cells = k') (hn : n + rm.slots = n') (hk' : k' ≤ R.cells) (hn' : n' ≤ R.slots)
    (K : ∀ v h', hs.size ≤ h.size → Keep h h' [] → Qc v h' → ∃ d, h.size ≤ d ∧ d < h'.size ∧ Wp wd l Z a0 EL R y bytes maxL ret hs ws Q h' (d :: F) k' n' pc' Ls (v.toList ++ rest)) : Wp wd l Z a0 EL R y bytes maxL ret hs ws Q h F k n pc Ls S := by
  subst hown0 hst has hp
  exact Wp.callN Cc wcode wz hf hl hk hn hk' hn' (fun p e s m args below meth c T locs Pre Post X hx hZ hown hby hml eT hK hpre => callSS X hx hown (mvT hZ wl) (mvT hZ wst) (mvT hZ wz) (mvT hZ wcode) hy hK (g := mkF m pc Ls (argsL.reverse ++ rest)) rfl (by rw [hml]; exact hsz) hlen rfl (by show 2 * 0 + _ ≤ _; omega) (hb hby hd) hpre) K
end Calls
end Jvm.Own
@@BLOCK:NumsL.lean.txt@@
namespace Jvm.Pilot.@@N@@
open Jvm Jvm.ClassFile Sem Op Lib Jvm.Free Jvm.Stand Jvm.LawKit Jvm.RoadKit Bundle Jvm.Own Jvm.Pilot.@@N@@.Jvm.D
def own_f : Int64 → List Int32 → Int64
  | acc, [] => acc
  | acc, c :: r => if c < (48 : Int32) ∨ (57 : Int32) < c then (-1 : Int64) else own_f ((10 : Int64) * acc + (c - (48 : Int32)).toInt64) r
def own_st (acc : Int64) (c k s e : Int32) : Int64 := if acc < 0 ∨ k < s ∨ ¬ k < e then acc else if c < (48 : Int32) ∨ (57 : Int32) < c then (-1 : Int64) else acc * (10 : Int64) + (c - (48 : Int32)).toInt64
theorem ol_toInt {n : Nat} (h : n < 9223372036854775808) : (Int64.ofNat n).toInt = n := Int64.toInt_ofNat_of_lt h
theorem own_d1 {d : Nat} (hd : d < 10) : ¬ Int32.ofNat (48 + d) < (48 : Int32) ∧ ¬ (57 : Int32) < Int32.ofNat (48 + d) ∧ (Int32.ofNat (48 + d) - (48 : Int32)).toInt64 = Int64.ofNat d := by
  have e1 : (48 : Int32).toInt = 48 := rfl
  have e2 : (57 : Int32).toInt = 57 := rfl
  have e3 := on_toInt (i := 48 + d) (by omega)
  refine ⟨by rw [Int32.lt_iff_toInt_lt]; omega, by rw [Int32.lt_iff_toInt_lt]; omega, ?_⟩
  apply Int64.toInt_inj.mp
  rw [Int32.toInt_toInt64, Jvm.Kit.i32_sub (by omega) (by omega), ol_toInt (by omega)]; omega
theorem own_d2 {c : Int32} (h1 : ¬ c < (48 : Int32)) (h2 : ¬ (57 : Int32) < c) : ∃ d : Nat, d < 10 ∧ (c - (48 : Int32)).toInt64 = Int64.ofNat d := by
  have e1 : (48 : Int32).toInt = 48 := rfl
  have e2 : (57 : Int32).toInt = 57 := rfl
  rw [Int32.lt_iff_toInt_lt] at h1 h2
  refine ⟨(c.toInt - 48).toNat, by omega, ?_⟩
  apply Int64.toInt_inj.mp
  rw [Int32.toInt_toInt64, Jvm.Kit.i32_sub (by omega) (by omega), ol_toInt (by omega)]; omega
theorem own_a1 (A d : Nat) : (10 : Int64) * Int64.ofNat A + Int64.ofNat d = Int64.ofNat (10 * A + d) := by
  rw [Int64.ofNat_add, Int64.ofNat_mul]; rfl
theorem own_a2 (A d : Nat) : Int64.ofNat A * (10 : Int64) + Int64.ofNat d = Int64.ofNat (10 * A + d) := by
  rw [Int64.mul_comm]; exact own_a1 A d
theorem own_md (N a j : Nat) : 10 * ((N / 10 ^ (a + 1)) % 10 ^ j) + (N / 10 ^ a) % 10 = (N / 10 ^ a) % 10 ^ (j + 1) := by
  rw [Nat.pow_succ 10 j, Nat.mul_comm (10 ^ j) 10, Nat.mod_mul, Nat.pow_succ, ← Nat.div_div_eq_div_mul]; omega
theorem own_fd {N : Nat} {t : List Int32} (ht : ∀ i, i < 14 → t[i]? = some (Int32.ofNat (48 + N / 10 ^ (13 - i) % 10))) (s : Nat) : ∀ j, s + j ≤ 14 → ∀ r, own_f 0 ((t.drop s).take j ++ r) = own_f (Int64.ofNat ((N / 10 ^ (14 - (s + j))) % 10 ^ j)) r := by
  intro j
  induction j with
  | zero => intro _ r; simp [Nat.mod_one]
  | succ j ih =>
    intro hj r
    have hc := ht (s + j) (by omega)
    rw [List.take_add_one, List.getElem?_drop, hc, List.append_assoc, ih (by omega)]
    obtain ⟨q1, q2, q3⟩ := own_d1 (d := N / 10 ^ (13 - (s + j)) % 10) (Nat.mod_lt _ (by decide))
    show own_f _ (Int32.ofNat (48 + N / 10 ^ (13 - (s + j)) % 10) :: r) = _
    rw [own_f, if_neg (by rintro (q | q); exact q1 q; exact q2 q), q3, own_a1]
    have e1 : 14 - (s + j) = (13 - (s + j)) + 1 := by omega
    have e2 : 14 - (s + (j + 1)) = 13 - (s + j) := by omega
    rw [e1, e2, own_md]
def own_G (t : List Int32) (s e k : Nat) (X : Int64) : Int64 := if X < 0 then X else own_f X ((t.drop (max k s)).take (e - max k s))
def own_I (k : Nat) (X : Int64) : Prop := X < 0 ∨ ∃ A : Nat, X = Int64.ofNat A ∧ A < 10 ^ k
theorem own_nn {A k : Nat} (hA : A < 10 ^ k) (hk : k ≤ 18) : ¬ Int64.ofNat A < 0 := by
  have : (10 : Nat) ^ k ≤ 10 ^ 18 := Nat.pow_le_pow_right (by decide) hk
  have h18 : (10 : Nat) ^ 18 = 1000000000000000000 := by decide
  have e0 : (0 : Int64).toInt = 0 := rfl
  rw [Int64.lt_iff_toInt_lt, ol_toInt (by omega), e0]; omega
theorem own_Gs {t : List Int32} {s e k : Nat} {c : Int32} {X : Int64} (hk : k ≤ 17) (hs : s ≤ 18) (he : e ≤ 18) (hc : t[k]? = some c) (hX : own_I k X) : own_G t s e k X = own_G t s e (k + 1) (own_st X c (Int32.ofNat k) (Int32.ofNat s) (Int32.ofNat e)) ∧ own_I (k + 1) (own_st X c (Int32.ofNat k) (Int32.ofNat s) (Int32.ofNat e)) := by
  have hp : (10 : Nat) ^ (k + 1) = 10 * 10 ^ k := by rw [Nat.pow_succ, Nat.mul_comm]
  rcases hX with hX | ⟨A, rfl, hA⟩
  · have e1 : own_st X c (Int32.ofNat k) (Int32.ofNat s) (Int32.ofNat e) = X := if_pos (Or.inl hX)
    rw [e1]; exact ⟨by rw [own_G, own_G, if_pos hX, if_pos hX], Or.inl hX⟩
  have hn := own_nn hA (by omega)
  by_cases h1 : k < s
  · have e1 : own_st (Int64.ofNat A) c (Int32.ofNat k) (Int32.ofNat s) (Int32.ofNat e) = Int64.ofNat A := if_pos (Or.inr (Or.inl (on_lt (by omega) h1)))
    rw [e1]
    refine ⟨?_, Or.inr ⟨A, rfl, by omega⟩⟩
    rw [own_G, own_G, if_neg hn, if_neg hn, Nat.max_eq_right (by omega : k ≤ s), Nat.max_eq_right (by omega : k + 1 ≤ s)]
  by_cases h2 : k < e
  rotate_left
  · have e1 : own_st (Int64.ofNat A) c (Int32.ofNat k) (Int32.ofNat s) (Int32.ofNat e) = Int64.ofNat A := if_pos (Or.inr (Or.inr (on_nlt (by omega) (by omega))))
    rw [e1]
    refine ⟨?_, Or.inr ⟨A, rfl, by omega⟩⟩
    rw [own_G, own_G, if_neg hn, if_neg hn, show e - max k s = 0 by omega, show e - max (k + 1) s = 0 by omega]; rfl
  have e0 : ¬ (Int64.ofNat A < 0 ∨ Int32.ofNat k < Int32.ofNat s ∨ ¬ Int32.ofNat k < Int32.ofNat e) := by
    rintro (q | q | q)
    · exact hn q
    · exact on_nlt (by omega) (by omega) q
    · exact q (on_lt (by omega) h2)
  have hL : own_G t s e k (Int64.ofNat A) = own_f (Int64.ofNat A) (c :: (t.drop (k + 1)).take (e - (k + 1))) := by
    rw [own_G, if_neg hn, Nat.max_eq_left (by omega : s ≤ k)]
    obtain ⟨hl, rfl⟩ := List.getElem?_eq_some_iff.mp hc
    rw [List.drop_eq_getElem_cons hl, show e - k = (e - (k + 1)) + 1 by omega, List.take_succ_cons]
  rw [hL, own_st, if_neg e0, own_f]
  by_cases hd : c < (48 : Int32) ∨ (57 : Int32) < c
  · rw [if_pos hd, if_pos hd]; exact ⟨rfl, Or.inl (by decide)⟩
  · rw [if_neg hd, if_neg hd]
    obtain ⟨d, hd1, hd2⟩ := own_d2 (fun q => hd (Or.inl q)) (fun q => hd (Or.inr q))
    rw [hd2, own_a1, own_a2]
    have hb : 10 * A + d < 10 ^ (k + 1) := by omega
    refine ⟨?_, Or.inr ⟨_, rfl, hb⟩⟩
    rw [own_G, if_neg (own_nn hb (by omega)), Nat.max_eq_left (by omega : s ≤ k + 1)]
def own_E (N s e : Nat) : Int64 := if s < min e 14 then Int64.ofNat ((N / 10 ^ (14 - min e 14)) % 10 ^ (min e 14 - s)) else 0
theorem own_main {N s e : Nat} {t : List Int32} {a b c d : Int32} (ht : ∀ i, i < 14 → t[i]? = some (Int32.ofNat (48 + N / 10 ^ (13 - i) % 10))) (h14 : t[14]? = some a) (h15 : t[15]? = some b) (h16 : t[16]? = some c) (h17 : t[17]? = some d) (hse : s ≤ e) (he : e ≤ 18) :
    own_f 0 ((t.drop s).take (e - s)) = own_st (own_st (own_st (own_st (own_E N s e) a (14 : Int32) (Int32.ofNat s) (Int32.ofNat e)) b (15 : Int32) (Int32.ofNat s) (Int32.ofNat e)) c (16 : Int32) (Int32.ofNat s) (Int32.ofNat e)) d (17 : Int32) (Int32.ofNat s) (Int32.ofNat e) := by
  have hI : own_I 14 (own_E N s e) := by
    right; unfold own_E; split
    · rename_i h
      refine ⟨_, rfl, Nat.lt_of_lt_of_le (Nat.mod_lt _ (Nat.pow_pos (by decide))) (Nat.pow_le_pow_right (by decide) (by omega))⟩
    · exact ⟨0, rfl, by decide⟩
  have hnn : ¬ own_E N s e < 0 := by
    rcases hI with q | ⟨A, q, hA⟩
    · exfalso; revert q; unfold own_E; split
      · rename_i h
        exact own_nn (k := min e 14 - s) (Nat.mod_lt _ (Nat.pow_pos (by decide))) (by omega)
      · decide
    · rw [q]; exact own_nn hA (by decide)
  obtain ⟨q1, i1⟩ := own_Gs (t := t) (s := s) (e := e) (k := 14) (by omega) (by omega) he h14 hI
  obtain ⟨q2, i2⟩ := own_Gs (t := t) (s := s) (e := e) (k := 15) (by omega) (by omega) he h15 i1
  obtain ⟨q3, i3⟩ := own_Gs (t := t) (s := s) (e := e) (k := 16) (by omega) (by omega) he h16 i2
  obtain ⟨q4, i4⟩ := own_Gs (t := t) (s := s) (e := e) (k := 17) (by omega) (by omega) he h17 i3
  have hend : ∀ X, own_G t s e 18 X = X := fun X => by
    rw [own_G, show e - max 18 s = 0 by omega]; split
    · rfl
    · rfl
  have h0 : own_f 0 ((t.drop s).take (e - s)) = own_G t s e 14 (own_E N s e) := by
    rw [own_G, if_neg hnn]
    by_cases h1 : s < min e 14
    · have hE : own_E N s e = Int64.ofNat ((N / 10 ^ (14 - (s + (min e 14 - s)))) % 10 ^ (min e 14 - s)) := by
        rw [own_E, if_pos h1, show s + (min e 14 - s) = min e 14 by omega]
      have hl : (t.drop s).take (e - s) = (t.drop s).take (min e 14 - s) ++ (t.drop 14).take (e - 14) := by
        by_cases h2 : e ≤ 14
        · rw [show e - 14 = 0 by omega, Nat.min_eq_left h2]; simp
        · rw [Nat.min_eq_right (by omega : 14 ≤ e), show e - s = (14 - s) + (e - 14) by omega, List.take_add, List.drop_drop, show s + (14 - s) = 14 by omega]
      rw [hl, own_fd ht s (min e 14 - s) (by omega), hE, Nat.max_eq_left (by omega : s ≤ 14)]
    · have hE : own_E N s e = 0 := if_neg h1
      rw [hE]
      by_cases h2 : s < 14
      · rw [show e - s = 0 by omega, show e - max 14 s = 0 by omega]; rfl
      · rw [Nat.max_eq_right (by omega : 14 ≤ s)]
  rw [h0, q1, q2, q3, q4, hend]; rfl

theorem own_N (p : Int64) : ∃ N : Nat, N < 100000000000000 ∧ ((p &&& (9223372036854775807 : Int64)) - ((p &&& (9223372036854775807 : Int64)) / (100000000000000 : Int64)) * (100000000000000 : Int64)) = Int64.ofNat N := by
  have e := Jvm.Kit.i64_mask p 9223372036854775807 (k := 63) (by decide) (by decide)
  have e2 : (100000000000000 : Int64).toInt = 100000000000000 := rfl
  have h := Jvm.Kit.i64_rem_nonneg (x := p &&& (9223372036854775807 : Int64)) (y := 100000000000000) (by rw [e]; omega)
  rw [e2] at h
  refine ⟨((p &&& (9223372036854775807 : Int64)).toInt % 100000000000000).toNat, by omega, Int64.toInt_inj.mp ?_⟩
  rw [h, ol_toInt (by omega)]; omega
theorem own_dv {a b : Nat} (ha : a < 9223372036854775808) (hb : b < 9223372036854775808) : Int64.ofNat a / Int64.ofNat b = Int64.ofNat (a / b) := by
  have hd : a / b ≤ a := Nat.div_le_self a b
  apply Int64.toInt_inj.mp
  rw [Jvm.Kit.i64_div (by rw [ol_toInt ha]; omega), ol_toInt ha, ol_toInt hb, ol_toInt (by omega), Int.tdiv_eq_ediv_of_nonneg (by omega)]; rfl
theorem own_rm {a b : Nat} (ha : a < 9223372036854775808) (hb : b < 9223372036854775808) (h0 : 0 < b) : Int64.ofNat a - (Int64.ofNat a / Int64.ofNat b) * Int64.ofNat b = Int64.ofNat (a % b) := by
  have hd : a % b < b := Nat.mod_lt _ h0
  apply Int64.toInt_inj.mp
  rw [Jvm.Kit.i64_rem_nonneg (by rw [ol_toInt ha]; omega), ol_toInt ha, ol_toInt hb, ol_toInt (by omega)]; rfl
theorem own_c16 {k : Nat} (h : k < 65536) : nar .char (Int32.ofNat k) = Int32.ofNat k := by
  show (Int32.ofNat k).toUInt32.toUInt16.toUInt32.toInt32 = _
  apply Int32.toBitVec_inj.mp
  rw [i2c_bv]
  apply BitVec.eq_of_toNat_eq
  show ((BitVec.ofNat 32 k).setWidth 16 |>.setWidth 32).toNat = (BitVec.ofNat 32 k).toNat
  simp; omega
theorem own_dig {N q : Nat} (hN : N < 100000000000000) (hq : 0 < q ∧ q < 9223372036854775808) : nar .char (((48 : Int32) + (((Int64.ofNat N) / (Int64.ofNat q)) - (((Int64.ofNat N) / (Int64.ofNat q)) / (10 : Int64)) * (10 : Int64)).toInt32).toUInt32.toUInt16.toUInt32.toInt32) = Int32.ofNat (48 + N / q % 10) := by
  have h1 : N / q ≤ N := Nat.div_le_self N q
  have h2 : N / q % 10 < 10 := Nat.mod_lt _ (by decide)
  have e := own_rm (a := N / q) (b := 10) (by omega) (by decide) (by decide)
  rw [own_dv (by omega) hq.2, show ((10 : Int64)) = Int64.ofNat 10 from rfl, e]
  have e3 : (Int64.ofNat (N / q % 10)).toInt32 = Int32.ofNat (N / q % 10) := by
    apply Int32.toInt_inj.mp
    rw [Jvm.Kit.i32_of_i64 (by rw [ol_toInt (by omega)]; omega) (by rw [ol_toInt (by omega)]; omega), ol_toInt (by omega), on_toInt (by omega)]
  rw [e3, show (48 : Int32) + Int32.ofNat (N / q % 10) = Int32.ofNat (48 + N / q % 10) from (Int32.ofNat_add 48 _).symm]
  exact (congrArg (nar .char) (own_c16 (by omega))).trans (own_c16 (by omega))
theorem own_x (p : Int32) : ∃ m : Nat, m < 19 ∧ ((p &&& (65535 : Int32)) % (19 : Int32)) = Int32.ofNat m := by
  have e := Jvm.Kit.i32_mask p 65535 (k := 16) (by decide) (by decide)
  have e2 : (19 : Int32).toInt = 19 := rfl
  have h := Jvm.Kit.i32_rem_nonneg (x := p &&& (65535 : Int32)) (y := 19) (by rw [e]; omega)
  rw [e2] at h
  refine ⟨((p &&& (65535 : Int32)).toInt % 19).toNat, by omega, Int32.toInt_inj.mp ?_⟩
  rw [h, on_toInt (by omega)]; omega
theorem own_y (p : Int32) : ∃ m : Nat, m < 19 ∧ (((p.toUInt32 >>> ((16 : Int32) &&& 31).toUInt32).toInt32) % (19 : Int32)) = Int32.ofNat m := by
  have h31 : ((16 : Int32) &&& 31).toUInt32.toNat % 32 = 16 := by decide
  have e : ((p.toUInt32 >>> ((16 : Int32) &&& 31).toUInt32).toInt32).toInt = ((p.toUInt32.toNat / 65536 : Nat) : Int) := by
    have h1 : (p.toUInt32 >>> ((16 : Int32) &&& 31).toUInt32).toNat = p.toUInt32.toNat / 65536 := by rw [UInt32.toNat_shiftRight, h31, Nat.shiftRight_eq_div_pow]
    have h2 := p.toUInt32.toNat_lt
    show ((p.toUInt32 >>> ((16 : Int32) &&& 31).toUInt32).toBitVec).toInt = _
    have h3 : (p.toUInt32 >>> ((16 : Int32) &&& 31).toUInt32).toBitVec.toNat = p.toUInt32.toNat / 65536 := h1
    rw [BitVec.toInt_eq_toNat_cond, h3, if_pos (by omega)]
  have e2 : (19 : Int32).toInt = 19 := rfl
  have h := Jvm.Kit.i32_rem_nonneg (x := (p.toUInt32 >>> ((16 : Int32) &&& 31).toUInt32).toInt32) (y := 19) (by rw [e]; omega)
  rw [e2] at h
  refine ⟨(((p.toUInt32 >>> ((16 : Int32) &&& 31).toUInt32).toInt32).toInt % 19).toNat, by omega, Int32.toInt_inj.mp ?_⟩
  rw [h, on_toInt (by omega)]; omega
theorem own_mn {a b : Nat} (ha : a < 2147483648) (hb : b < 2147483648) : (if Int32.ofNat b < Int32.ofNat a then Int32.ofNat b else Int32.ofNat a) = Int32.ofNat (min a b) := by
  by_cases h : b < a
  · rw [if_pos (on_lt ha h), Nat.min_eq_right (by omega)]
  · rw [if_neg (on_nlt hb (by omega)), Nat.min_eq_left (by omega)]
theorem own_mx {a b : Nat} (ha : a < 2147483648) (hb : b < 2147483648) : (if Int32.ofNat a < Int32.ofNat b then Int32.ofNat b else Int32.ofNat a) = Int32.ofNat (max a b) := by
  by_cases h : a < b
  · rw [if_pos (on_lt hb h), Nat.max_eq_right (by omega)]
  · rw [if_neg (on_nlt ha (by omega)), Nat.max_eq_left (by omega)]
theorem own_sb {a b : Nat} (h : b ≤ a) (ha : a < 2147483648) : Int32.ofNat a - Int32.ofNat b = Int32.ofNat (a - b) := by
  apply Int32.toInt_inj.mp
  rw [Jvm.Kit.i32_sub (by rw [on_toInt ha, on_toInt (by omega)]; omega) (by rw [on_toInt ha, on_toInt (by omega)]; omega), on_toInt ha, on_toInt (by omega), on_toInt (by omega)]; omega
theorem own_pw {i : Nat} (h : i ≤ 14) : [Value.long 1, Value.long 10, Value.long 100, Value.long 1000, Value.long 10000, Value.long 100000, Value.long 1000000, Value.long 10000000, Value.long 100000000, Value.long 1000000000, Value.long 10000000000, Value.long 100000000000, Value.long 1000000000000, Value.long 10000000000000, Value.long 100000000000000].getD i (Value.long 0) = Value.long (Int64.ofNat (10 ^ i)) := by
  rcases (by omega : i = 0 ∨ i = 1 ∨ i = 2 ∨ i = 3 ∨ i = 4 ∨ i = 5 ∨ i = 6 ∨ i = 7 ∨ i = 8 ∨ i = 9 ∨ i = 10 ∨ i = 11 ∨ i = 12 ∨ i = 13 ∨ i = 14) with rfl | rfl | rfl | rfl | rfl | rfl | rfl | rfl | rfl | rfl | rfl | rfl | rfl | rfl | rfl <;> rfl
theorem own_pnz {i : Nat} (h : i ≤ 14) : Int64.ofNat (10 ^ i) ≠ 0 := by
  rcases (by omega : i = 0 ∨ i = 1 ∨ i = 2 ∨ i = 3 ∨ i = 4 ∨ i = 5 ∨ i = 6 ∨ i = 7 ∨ i = 8 ∨ i = 9 ∨ i = 10 ∨ i = 11 ∨ i = 12 ∨ i = 13 ∨ i = 14) with rfl | rfl | rfl | rfl | rfl | rfl | rfl | rfl | rfl | rfl | rfl | rfl | rfl | rfl | rfl <;> decide
theorem own_p63 {i : Nat} (h : i ≤ 14) : 10 ^ i < 9223372036854775808 := Nat.lt_of_le_of_lt (Nat.pow_le_pow_right (by decide) h) (by decide)
theorem own_lat {c : Int32} (h : ¬ (255 : Int32) < c) (h0 : ¬ c < 0) : (lb c &&& (255 : Int32)).toUInt32.toUInt16.toUInt32.toInt32 = c := by
  rw [i2c_mask]
  apply Int32.toInt_inj.mp
  rw [Jvm.Kit.i32_mask (lb c) 255 (k := 8) (by decide) (by decide)]
  have e1 : (255 : Int32).toInt = 255 := rfl
  have e2 : (0 : Int32).toInt = 0 := rfl
  rw [Int32.lt_iff_toInt_lt] at h h0
  simp only [lb, Int8.toInt_toInt32, Int32.toInt_toInt8, Int.bmod_def]
  omega
theorem d10_0 : decode jdk_52_method_21_code 0 = .ok (.iconst 0, 1) := by decide +kernel
theorem d10_1 : decode jdk_52_method_21_code 1 = .ok (.istore 5, 2) := by decide +kernel
theorem d10_3 : decode jdk_52_method_21_code 3 = .ok (.iload 5, 2) := by decide +kernel
theorem d10_5 : decode jdk_52_method_21_code 5 = .ok (.iload 4, 2) := by decide +kernel
theorem d10_7 : decode jdk_52_method_21_code 7 = .ok (.if_icmp .ge 37, 3) := by decide +kernel
theorem d10_10 : decode jdk_52_method_21_code 10 = .ok (.aload_n 0, 1) := by decide +kernel
theorem d10_11 : decode jdk_52_method_21_code 11 = .ok (.iload_n 1, 1) := by decide +kernel
theorem d10_12 : decode jdk_52_method_21_code 12 = .ok (.caload, 1) := by decide +kernel
theorem d10_13 : decode jdk_52_method_21_code 13 = .ok (.istore 6, 2) := by decide +kernel
theorem d10_15 : decode jdk_52_method_21_code 15 = .ok (.iload 6, 2) := by decide +kernel
theorem d10_17 : decode jdk_52_method_21_code 17 = .ok (.sipush 255, 3) := by decide +kernel
theorem d10_20 : decode jdk_52_method_21_code 20 = .ok (.if_icmp .le 6, 3) := by decide +kernel
theorem d10_23 : decode jdk_52_method_21_code 23 = .ok (.iload 5, 2) := by decide +kernel
theorem d10_25 : decode jdk_52_method_21_code 25 = .ok (.ireturn, 1) := by decide +kernel
theorem d10_26 : decode jdk_52_method_21_code 26 = .ok (.aload_n 2, 1) := by decide +kernel
theorem d10_27 : decode jdk_52_method_21_code 27 = .ok (.iload_n 3, 1) := by decide +kernel
theorem d10_28 : decode jdk_52_method_21_code 28 = .ok (.iload 6, 2) := by decide +kernel
theorem d10_30 : decode jdk_52_method_21_code 30 = .ok (.i2b, 1) := by decide +kernel
theorem d10_31 : decode jdk_52_method_21_code 31 = .ok (.bastore, 1) := by decide +kernel
theorem d10_32 : decode jdk_52_method_21_code 32 = .ok (.iinc 1 1, 3) := by decide +kernel
theorem d10_35 : decode jdk_52_method_21_code 35 = .ok (.iinc 3 1, 3) := by decide +kernel
theorem d10_38 : decode jdk_52_method_21_code 38 = .ok (.iinc 5 1, 3) := by decide +kernel
theorem d10_41 : decode jdk_52_method_21_code 41 = .ok (.goto (-38), 3) := by decide +kernel
theorem d10_44 : decode jdk_52_method_21_code 44 = .ok (.iload 4, 2) := by decide +kernel
theorem d10_46 : decode jdk_52_method_21_code 46 = .ok (.ireturn, 1) := by decide +kernel
set_option maxRecDepth 65536 in
set_option maxHeartbeats 40000000 in
theorem own_lpC (l : Launch) (Z : State) (a0 : Array Value) (hw : ∀ d ∈ tables_1, d.before a0 Z = true) (hE : EW Z a0 []) (a d : Addr) (ka kd : ClassId) (cs : List Int32) (hn : cs.length < 2147483647) (hs : Heap) :
    ∀ (j i : Nat) (h : Heap) (s6 : Slot), i + j = cs.length → (s6 = .unset ∨ ∃ x : Int32, s6 = .val (.int x)) → (∀ c ∈ cs.take i, ¬ (255 : Int32) < c) → Arv Z h a ka .char (Int32.ofNat cs.length) (cs.map Value.int) (.int 0) → Arv Z h d kd .byte (Int32.ofNat cs.length) ((cs.take i).map (fun c => Value.int (lb c)) ++ List.replicate j (.int 0)) (.int 0) → a ≠ d →
      Wp false l Z a0 [] ({ frames := 0, cells := 0, slots := 0, locals := 0 } : Room) (⟨"java/lang/StringUTF16", "compress", "([CI[BII)I"⟩ : MethodName) jdk_52_method_21_code 7 (some .int) hs [d] (fun v h => (v = some (.int (Int32.ofNat cs.length)) ∧ (∀ c ∈ cs, ¬ (255 : Int32) < c) ∧ Arv Z h d kd .byte (Int32.ofNat cs.length) (cs.map fun c => Value.int (lb c)) (.int 0)) ∨ ∃ t c, t < cs.length ∧ cs[t]? = some c ∧ (255 : Int32) < c ∧ v = some (.int (Int32.ofNat t))) h [d] 0 0 3 #[.val (.ref a), .val (.int (Int32.ofNat i)), .val (.ref d), .val (.int (Int32.ofNat i)), .val (.int (Int32.ofNat cs.length)), .val (.int (Int32.ofNat i)), s6] [] := by
  intro j
  induction j with
  | zero =>
    intro i h s6 hi h6 hall V_a V_d ne_a_d
    have ei : i = cs.length := by omega
    subst ei
    rw [List.take_length] at hall V_d
    refine Wp.iload d10_3 (pc' := 5) rfl rfl ?_
    refine Wp.iload d10_5 (pc' := 7) rfl rfl ?_
    refine Wp.icmp_ge (pc1 := 44) (pc' := 10) d10_7 (by decide) (by decide) rfl (fun hc101 => ?_) (fun hc101 => by exact absurd hc101 Int32.lt_irrefl)
    refine Wp.iload d10_44 (pc' := 46) rfl rfl ?_
    refine Wp.retI rfl d10_46 (by decide) (by decide) ?_
    exact Or.inl ⟨rfl, hall, by simpa using V_d⟩
  | succ j ih =>
    intro i h s6 hi h6 hall V_a V_d ne_a_d
    have hin : i < cs.length := by omega
    obtain ⟨c, hc⟩ : ∃ c, cs[i]? = some c := ⟨_, List.getElem?_eq_getElem hin⟩
    refine Wp.iload d10_3 (pc' := 5) rfl rfl ?_
    refine Wp.iload d10_5 (pc' := 7) rfl rfl ?_
    refine Wp.icmp_ge (pc1 := 44) (pc' := 10) d10_7 (by decide) (by decide) rfl (fun hc101 => by exact absurd (on_lt (by omega) hin) hc101) (fun hc101 => ?_)
    refine Wp.aloadN d10_10 (pc' := 11) rfl rfl rfl ?_
    refine Wp.iloadN d10_11 (pc' := 12) rfl rfl ?_
    refine Wp.caload V_a (on_nneg (by omega)) (on_lt (by omega) hin) (v := .int c) (by rw [on_clamp (by omega)]; simp [List.getD_eq_getElem?_getD, hc]) d10_12 (pc' := 13) rfl ?_
    refine Wp.istore (l' := #[.val (.ref a), .val (.int (Int32.ofNat i)), .val (.ref d), .val (.int (Int32.ofNat i)), .val (.int (Int32.ofNat cs.length)), .val (.int (Int32.ofNat i)), .val (.int c)]) d10_13 (pc' := 15) rfl (by rcases h6 with rfl | ⟨_, rfl⟩ <;> rfl) ?_
    refine Wp.iload d10_15 (pc' := 17) rfl rfl ?_
    refine Wp.sipush (x := (255 : Int32)) d10_17 (pc' := 20) rfl rfl ?_
    refine Wp.icmp_le (pc1 := 26) (pc' := 23) d10_20 (by decide) (by decide) rfl (fun hc102 => ?_) (fun hc102 => ?_)
    · have hcc : ¬ ((255 : Int32) < c) := hc102
      refine Wp.aloadN d10_26 (pc' := 27) rfl rfl rfl ?_
      refine Wp.iloadN d10_27 (pc' := 28) rfl rfl ?_
      refine Wp.iload d10_28 (pc' := 30) rfl rfl ?_
      refine Wp.i2b d10_30 (pc' := 31) rfl ?_
      refine Wp.bastore V_d (on_nneg (by omega)) (on_lt (by omega) hin) (i := i) (on_clamp (by omega)) (by simp; omega) d10_31 (pc' := 32) rfl (Or.inl (by simp)) (Sfe.mem (by simp)) (fun h2 W2 V2 => ?_)
      replace V_a := V_a.other W2 ne_a_d
      rw [nar_lb, set_step (f := fun c => Value.int (lb c)) hc rfl] at V2
      refine Wp.iinc (l' := #[.val (.ref a), .val (.int ((Int32.ofNat i) + (1 : Int32))), .val (.ref d), .val (.int (Int32.ofNat i)), .val (.int (Int32.ofNat cs.length)), .val (.int (Int32.ofNat i)), .val (.int c)]) d10_32 (pc' := 35) rfl rfl rfl ?_
      refine Wp.iinc (l' := #[.val (.ref a), .val (.int ((Int32.ofNat i) + (1 : Int32))), .val (.ref d), .val (.int ((Int32.ofNat i) + (1 : Int32))), .val (.int (Int32.ofNat cs.length)), .val (.int (Int32.ofNat i)), .val (.int c)]) d10_35 (pc' := 38) rfl rfl rfl ?_
      refine Wp.iinc (l' := #[.val (.ref a), .val (.int ((Int32.ofNat i) + (1 : Int32))), .val (.ref d), .val (.int ((Int32.ofNat i) + (1 : Int32))), .val (.int (Int32.ofNat cs.length)), .val (.int ((Int32.ofNat i) + (1 : Int32))), .val (.int c)]) d10_38 (pc' := 41) rfl rfl rfl ?_
      refine Wp.goto (pc' := 3) d10_41 (by decide) (by decide) ?_
      rw [on_succ]
      refine ih (i + 1) h2 _ (by omega) (Or.inr ⟨c, rfl⟩) (fun x hx => ?_) V_a V2 ne_a_d
      rw [List.take_add_one, hc] at hx
      rcases List.mem_append.mp hx with hx | hx
      · exact hall x hx
      · simp at hx; subst hx; exact hcc
    · have hc102 : (255 : Int32) < c := hc102
      refine Wp.iload d10_23 (pc' := 25) rfl rfl ?_
      refine Wp.retI rfl d10_25 (by decide) (by decide) ?_
      exact Or.inr ⟨i, c, hin, hc, hc102, rfl⟩
theorem pn_java_lang_StringUTF16 : plainName "java/lang/StringUTF16" = true := by first | (simp [plainName, overriddenIn]; done) | decide +kernel
theorem ef_ctCMP5 (m : MethodId) (x0 : Addr) (x1 : Int32) (x2 : Addr) (x3 : Int32) (x4 : Int32) : entryFrame m #[(.ref x0), (.int x1), (.ref x2), (.int x3), (.int x4)] 7 = mkF m 0 #[.val (.ref x0), .val (.int x1), .val (.ref x2), .val (.int x3), .val (.int x4), .unset, .unset] [] := by first | (simp [entryFrame, mkF, argsToLocals, Value.category]; done) | rfl
set_option maxRecDepth 65536 in
set_option maxHeartbeats 40000000 in
theorem ctCMP5 (l : Launch) (Z : State) (a0 : Array Value) (hw : ∀ d ∈ tables_1, d.before a0 Z = true) (hE : EW Z a0 []) (a d : Addr) (ka kd : ClassId) (cs : List Int32) (h0 : Heap) (hO : Ext Z.heap h0) (hn : cs.length < 2147483647) (V_a : Arv Z h0 a ka .char (Int32.ofNat cs.length) (cs.map Value.int) (.int 0)) (V_d : Arv Z h0 d kd .byte (Int32.ofNat cs.length) (List.replicate cs.length (.int 0)) (.int 0)) (ne_a_d : a ≠ d) (hd0 : Z.heap.size ≤ d) :
    Ct false l Z [] [] (⟨"java/lang/StringUTF16", "compress", "([CI[BII)I"⟩ : MethodName) jdk_52_method_21_code 7 (some .int) ({ frames := 0, cells := 0, slots := 0, locals := 0 } : Room) #[(.ref a), (.int (0 : Int32)), (.ref d), (.int (0 : Int32)), (.int (Int32.ofNat cs.length))] h0 [d] [d] (fun v h => (v = some (.int (Int32.ofNat cs.length)) ∧ (∀ c ∈ cs, ¬ (255 : Int32) < c) ∧ Arv Z h d kd .byte (Int32.ofNat cs.length) (cs.map fun c => Value.int (lb c)) (.int 0)) ∨ ∃ t c, t < cs.length ∧ cs[t]? = some c ∧ (255 : Int32) < c ∧ v = some (.int (Int32.ofNat t))) := by
  refine Ct.of_wp (a0 := a0) (Ls := #[.val (.ref a), .val (.int (0 : Int32)), .val (.ref d), .val (.int (0 : Int32)), .val (.int (Int32.ofNat cs.length)), .unset, .unset]) (plainFor_of_name pn_java_lang_StringUTF16) hE hO (by intro x hx; cases List.mem_singleton.mp hx; exact hd0) (fun m => ef_ctCMP5 m a (0 : Int32) d (0 : Int32) (Int32.ofNat cs.length)) ?_
  refine Wp.iconst (x := (0 : Int32)) d10_0 (pc' := 1) rfl rfl ?_
  refine Wp.istore (l' := #[.val (.ref a), .val (.int (0 : Int32)), .val (.ref d), .val (.int (0 : Int32)), .val (.int (Int32.ofNat cs.length)), .val (.int (0 : Int32)), .unset]) d10_1 (pc' := 3) rfl rfl ?_
  exact own_lpC l Z a0 hw hE a d ka kd cs hn h0 cs.length 0 h0 _ (by omega) (Or.inl rfl) (by simp) V_a (by simpa using V_d) ne_a_d
def own_U (Z : State) : Prop := Sta Z Z.heap "java/lang/StringUTF16" "$assertionsDisabled" "Z" (.int 1) ∧ Sta Z Z.heap "java/lang/StringUTF16" "HI_BYTE_SHIFT" "I" (.int 0) ∧ Sta Z Z.heap "java/lang/StringUTF16" "LO_BYTE_SHIFT" "I" (.int 8)
theorem d20_0 : decode jdk_52_method_3_code 0 = .ok (.iload_n 0, 1) := by decide +kernel
theorem d20_1 : decode jdk_52_method_3_code 1 = .ok (.ifCond .ge 11, 3) := by decide +kernel
theorem d20_4 : decode jdk_52_method_3_code 4 = .ok (.new 17, 3) := by decide +kernel
theorem d20_7 : decode jdk_52_method_3_code 7 = .ok (.dup, 1) := by decide +kernel
theorem d20_8 : decode jdk_52_method_3_code 8 = .ok (.invokespecial 19, 3) := by decide +kernel
theorem d20_11 : decode jdk_52_method_3_code 11 = .ok (.athrow, 1) := by decide +kernel
theorem d20_12 : decode jdk_52_method_3_code 12 = .ok (.iload_n 0, 1) := by decide +kernel
theorem d20_13 : decode jdk_52_method_3_code 13 = .ok (.ldc 20, 2) := by decide +kernel
theorem d20_15 : decode jdk_52_method_3_code 15 = .ok (.if_icmp .lt 40, 3) := by decide +kernel
theorem d20_18 : decode jdk_52_method_3_code 18 = .ok (.new 21, 3) := by decide +kernel
theorem d20_21 : decode jdk_52_method_3_code 21 = .ok (.dup, 1) := by decide +kernel
theorem d20_22 : decode jdk_52_method_3_code 22 = .ok (.new 23, 3) := by decide +kernel
theorem d20_25 : decode jdk_52_method_3_code 25 = .ok (.dup, 1) := by decide +kernel
theorem d20_26 : decode jdk_52_method_3_code 26 = .ok (.invokespecial 25, 3) := by decide +kernel
theorem d20_29 : decode jdk_52_method_3_code 29 = .ok (.ldc 26, 2) := by decide +kernel
theorem d20_31 : decode jdk_52_method_3_code 31 = .ok (.invokevirtual 28, 3) := by decide +kernel
theorem d20_34 : decode jdk_52_method_3_code 34 = .ok (.iload_n 0, 1) := by decide +kernel
theorem d20_35 : decode jdk_52_method_3_code 35 = .ok (.invokevirtual 32, 3) := by decide +kernel
theorem d20_38 : decode jdk_52_method_3_code 38 = .ok (.ldc 35, 2) := by decide +kernel
theorem d20_40 : decode jdk_52_method_3_code 40 = .ok (.invokevirtual 28, 3) := by decide +kernel
theorem d20_43 : decode jdk_52_method_3_code 43 = .ok (.ldc 20, 2) := by decide +kernel
theorem d20_45 : decode jdk_52_method_3_code 45 = .ok (.invokevirtual 32, 3) := by decide +kernel
theorem d20_48 : decode jdk_52_method_3_code 48 = .ok (.invokevirtual 37, 3) := by decide +kernel
theorem d20_51 : decode jdk_52_method_3_code 51 = .ok (.invokespecial 41, 3) := by decide +kernel
theorem d20_54 : decode jdk_52_method_3_code 54 = .ok (.athrow, 1) := by decide +kernel
theorem d20_55 : decode jdk_52_method_3_code 55 = .ok (.iload_n 0, 1) := by decide +kernel
theorem d20_56 : decode jdk_52_method_3_code 56 = .ok (.iconst 1, 1) := by decide +kernel
theorem d20_57 : decode jdk_52_method_3_code 57 = .ok (.ishl, 1) := by decide +kernel
theorem d20_58 : decode jdk_52_method_3_code 58 = .ok (.ireturn, 1) := by decide +kernel
theorem ef_ctNBL (m : MethodId) (x0 : Int32) : entryFrame m #[(.int x0)] 1 = mkF m 0 #[.val (.int x0)] [] := by first | (simp [entryFrame, mkF, argsToLocals, Value.category]; done) | rfl
set_option maxRecDepth 65536 in
set_option maxHeartbeats 40000000 in
theorem ctNBL (l : Launch) (Z : State) (a0 : Array Value) (hw : ∀ d ∈ tables_1, d.before a0 Z = true) (hE : EW Z a0 []) (n : Nat) (h0 : Heap) (hO : Ext Z.heap h0) (hn : n < 1073741823) :
    Ct false l Z [] [] (⟨"java/lang/StringUTF16", "newBytesLength", "(I)I"⟩ : MethodName) jdk_52_method_3_code 1 (some .int) ({ frames := 0, cells := 0, slots := 0, locals := 0 } : Room) #[(.int (Int32.ofNat n))] h0 [] [] (fun v h => v = some (.int (Int32.ofNat (2 * n)))) := by
  refine Ct.of_wp (a0 := a0) (Ls := #[.val (.int (Int32.ofNat n))]) (plainFor_of_name pn_java_lang_StringUTF16) hE hO nofun (fun m => ef_ctNBL m (Int32.ofNat n)) ?_
  refine Wp.iloadN d20_0 (pc' := 1) rfl rfl ?_
  refine Wp.if_ge (pc1 := 12) (pc' := 4) d20_1 (by decide) (by decide) rfl (fun hc1 => ?_) (fun hc1 => by exact absurd hc1 (on_nneg (by omega)))
  refine Wp.iloadN d20_12 (pc' := 13) rfl rfl ?_
  refine Wp.ldcI rfl (hw _ (List.mem_of_getElem? (i := 102) rfl)) d20_13 (pc' := 15) rfl ?_
  refine Wp.icmp_lt (pc1 := 55) (pc' := 18) d20_15 (by decide) (by decide) rfl (fun hc2 => ?_) (fun hc2 => by exact absurd (on_lt (n := 1073741823) (by omega) hn) hc2)
  refine Wp.iloadN d20_55 (pc' := 56) rfl rfl ?_
  refine Wp.iconst (x := (1 : Int32)) d20_56 (pc' := 57) rfl rfl ?_
  refine Wp.ishl d20_57 (pc' := 58) rfl ?_
  refine Wp.retI rfl d20_58 (by decide) (by decide) ?_
  rw [on_shl1 (by omega)]
theorem d19_0 : decode jdk_52_method_2_code 0 = .ok (.iload_n 0, 1) := by decide +kernel
theorem d19_1 : decode jdk_52_method_2_code 1 = .ok (.invokestatic 11, 3) := by decide +kernel
theorem d19_4 : decode jdk_52_method_2_code 4 = .ok (.newarray .byte, 2) := by decide +kernel
theorem d19_6 : decode jdk_52_method_2_code 6 = .ok (.areturn, 1) := by decide +kernel
theorem ef_ctNBF (m : MethodId) (x0 : Int32) : entryFrame m #[(.int x0)] 1 = mkF m 0 #[.val (.int x0)] [] := by first | (simp [entryFrame, mkF, argsToLocals, Value.category]; done) | rfl
theorem pd__I_I : parseMethodDescriptor "(I)I" = some ⟨[.int], some .int⟩ := by decide +kernel
set_option maxRecDepth 65536 in
set_option maxHeartbeats 40000000 in
theorem ctNBF (l : Launch) (Z : State) (a0 : Array Value) (hw : ∀ d ∈ tables_1, d.before a0 Z = true) (hE : EW Z a0 []) (n : Nat) (h0 : Heap) (hO : Ext Z.heap h0) (hn : n < 1073741823) (hcap : n ≤ 18) :
    Ct false l Z [] [] (⟨"java/lang/StringUTF16", "newBytesFor", "(I)[B"⟩ : MethodName) jdk_52_method_2_code 1 (some (.array .byte)) ({ frames := 1, cells := 1, slots := 36, locals := 12 } : Room) #[(.int (Int32.ofNat n))] h0 [] [] (fun v h => ∃ d kd, v = some (.ref d) ∧ h0.size ≤ d ∧ Arv Z h d kd .byte (Int32.ofNat (2 * n)) (List.replicate (2 * n) (.int 0)) (.int 0)) := by
  refine Ct.of_wp (a0 := a0) (Ls := #[.val (.int (Int32.ofNat n))]) (plainFor_of_name pn_java_lang_StringUTF16) hE hO nofun (fun m => ef_ctNBF m (Int32.ofNat n)) ?_
  refine Wp.iloadN d19_0 (pc' := 1) rfl rfl ?_
  refine Wp.old fun hOc => ?_
  refine Wp.callS (W := 0) (argsL := [(.int (Int32.ofNat n))]) (rest := []) rfl (ctNBL l Z a0 hw hE n h0 hOc hn) (hw _ (List.mem_of_getElem? (i := 99) rfl)) (hw _ (List.mem_of_getElem? (i := 100) rfl)) (hw _ (List.mem_of_getElem? (i := 101) rfl)) (hw _ (List.mem_of_getElem? (i := 51) rfl)) (by decide) (lenOf pd__I_I rfl) d19_1 rfl rfl rfl (Nat.le_of_eq rfl) (pc' := 4) rfl nofun nofun (by decide) (by decide) (k' := 0) (n' := 0) rfl rfl (by decide) (by decide) (fun vh1 h1 zh1 Kh1 qh1 => ?_)
  obtain rfl := qh1
  refine Wp.eqS (S' := [(.int (Int32.ofNat (2 * n)))]) rfl ?_
  refine Wp.newP (cap := 36) (hw _ (List.mem_of_getElem? (i := 53) rfl)) (on_nneg (by omega)) (by rw [on_clamp (by omega)]; omega) (by decide) d19_4 (pc' := 6) rfl (k' := 1) (n' := 36) rfl rfl (by decide) (by decide) (fun h2 b2 k_b2 g_b2 sz_b2 Xh2 V_b2 => ?_)
  replace V_b2 := V_b2.pad (pad_rep [] (.int (0 : Int32)) (2 * n))
  refine Wp.retA rfl rfl rfl d19_6 (by decide) (by decide) ?_
  exact ⟨_, k_b2, rfl, sz_b2, V_b2⟩
theorem d21_0 : decode jdk_52_method_4_code 0 = .ok (.getstatic 44, 3) := by decide +kernel
theorem d21_3 : decode jdk_52_method_4_code 3 = .ok (.ifCond .ne 25, 3) := by decide +kernel
theorem d21_6 : decode jdk_52_method_4_code 6 = .ok (.iload_n 1, 1) := by decide +kernel
theorem d21_7 : decode jdk_52_method_4_code 7 = .ok (.ifCond .lt 11, 3) := by decide +kernel
theorem d21_10 : decode jdk_52_method_4_code 10 = .ok (.iload_n 1, 1) := by decide +kernel
theorem d21_11 : decode jdk_52_method_4_code 11 = .ok (.aload_n 0, 1) := by decide +kernel
theorem d21_12 : decode jdk_52_method_4_code 12 = .ok (.invokestatic 48, 3) := by decide +kernel
theorem d21_15 : decode jdk_52_method_4_code 15 = .ok (.if_icmp .lt 13, 3) := by decide +kernel
theorem d21_18 : decode jdk_52_method_4_code 18 = .ok (.new 52, 3) := by decide +kernel
theorem d21_21 : decode jdk_52_method_4_code 21 = .ok (.dup, 1) := by decide +kernel
theorem d21_22 : decode jdk_52_method_4_code 22 = .ok (.ldc 54, 2) := by decide +kernel
theorem d21_24 : decode jdk_52_method_4_code 24 = .ok (.invokespecial 56, 3) := by decide +kernel
theorem d21_27 : decode jdk_52_method_4_code 27 = .ok (.athrow, 1) := by decide +kernel
theorem d21_28 : decode jdk_52_method_4_code 28 = .ok (.iload_n 1, 1) := by decide +kernel
theorem d21_29 : decode jdk_52_method_4_code 29 = .ok (.iconst 1, 1) := by decide +kernel
theorem d21_30 : decode jdk_52_method_4_code 30 = .ok (.ishl, 1) := by decide +kernel
theorem d21_31 : decode jdk_52_method_4_code 31 = .ok (.istore_n 1, 1) := by decide +kernel
theorem d21_32 : decode jdk_52_method_4_code 32 = .ok (.aload_n 0, 1) := by decide +kernel
theorem d21_33 : decode jdk_52_method_4_code 33 = .ok (.iload_n 1, 1) := by decide +kernel
theorem d21_34 : decode jdk_52_method_4_code 34 = .ok (.iinc 1 1, 3) := by decide +kernel
theorem d21_37 : decode jdk_52_method_4_code 37 = .ok (.iload_n 2, 1) := by decide +kernel
theorem d21_38 : decode jdk_52_method_4_code 38 = .ok (.getstatic 59, 3) := by decide +kernel
theorem d21_41 : decode jdk_52_method_4_code 41 = .ok (.ishr, 1) := by decide +kernel
theorem d21_42 : decode jdk_52_method_4_code 42 = .ok (.i2b, 1) := by decide +kernel
theorem d21_43 : decode jdk_52_method_4_code 43 = .ok (.bastore, 1) := by decide +kernel
theorem d21_44 : decode jdk_52_method_4_code 44 = .ok (.aload_n 0, 1) := by decide +kernel
theorem d21_45 : decode jdk_52_method_4_code 45 = .ok (.iload_n 1, 1) := by decide +kernel
theorem d21_46 : decode jdk_52_method_4_code 46 = .ok (.iload_n 2, 1) := by decide +kernel
theorem d21_47 : decode jdk_52_method_4_code 47 = .ok (.getstatic 63, 3) := by decide +kernel
theorem d21_50 : decode jdk_52_method_4_code 50 = .ok (.ishr, 1) := by decide +kernel
theorem d21_51 : decode jdk_52_method_4_code 51 = .ok (.i2b, 1) := by decide +kernel
theorem d21_52 : decode jdk_52_method_4_code 52 = .ok (.bastore, 1) := by decide +kernel
theorem d21_53 : decode jdk_52_method_4_code 53 = .ok (.return_, 1) := by decide +kernel
theorem ef_ctPUT (m : MethodId) (x0 : Addr) (x1 : Int32) (x2 : Int32) : entryFrame m #[(.ref x0), (.int x1), (.int x2)] 3 = mkF m 0 #[.val (.ref x0), .val (.int x1), .val (.int x2)] [] := by first | (simp [entryFrame, mkF, argsToLocals, Value.category]; done) | rfl
set_option maxRecDepth 65536 in
set_option maxHeartbeats 40000000 in
theorem ctPUT (l : Launch) (Z : State) (a0 : Array Value) (hw : ∀ d ∈ tables_1, d.before a0 Z = true) (hE : EW Z a0 []) (d : Addr) (kd : ClassId) (i m_ : Nat) (c : Int32) (vs : List Value) (h0 : Heap) (hO : Ext Z.heap h0) (hU : own_U Z) (V_d : Arv Z h0 d kd .byte (Int32.ofNat m_) vs (.int 0)) (hm : vs.length = m_) (hi : 2 * i + 1 < m_) (hm2 : m_ < 2147483647) (hd0 : Z.heap.size ≤ d) :
    Ct false l Z [] [] (⟨"java/lang/StringUTF16", "putChar", "([BII)V"⟩ : MethodName) jdk_52_method_4_code 3 none ({ frames := 0, cells := 0, slots := 0, locals := 0 } : Room) #[(.ref d), (.int (Int32.ofNat i)), (.int c)] h0 [d] [d] (fun v h => v = none ∧ Arv Z h d kd .byte (Int32.ofNat m_) ((vs.set (2 * i) (.int (lb c))).set (2 * i + 1) (.int (hbt c))) (.int 0)) := by
  refine Ct.of_wp (a0 := a0) (Ls := #[.val (.ref d), .val (.int (Int32.ofNat i)), .val (.int c)]) (plainFor_of_name pn_java_lang_StringUTF16) hE hO (by intro x hx; cases List.mem_singleton.mp hx; exact hd0) (fun m => ef_ctPUT m d (Int32.ofNat i) c) ?_
  refine Wp.getS rfl (host := "") (Or.inl (hw _ (List.mem_of_getElem? (i := 106) rfl))) Via.refl hU.1 d21_0 (pc' := 3) rfl ?_
  refine Wp.if_ne (pc1 := 28) (pc' := 6) d21_3 (by decide) (by decide) rfl (fun hc1 => ?_) (fun hc1 => by exact absurd hc1 (by decide))
  refine Wp.iloadN d21_28 (pc' := 29) rfl rfl ?_
  refine Wp.iconst (x := (1 : Int32)) d21_29 (pc' := 30) rfl rfl ?_
  refine Wp.ishl d21_30 (pc' := 31) rfl ?_
  rw [on_shl1 (by omega)]
  refine Wp.istoreN (l' := #[.val (.ref d), .val (.int (Int32.ofNat (2 * i))), .val (.int c)]) d21_31 (pc' := 32) rfl rfl ?_
  refine Wp.aloadN d21_32 (pc' := 33) rfl rfl rfl ?_
  refine Wp.iloadN d21_33 (pc' := 34) rfl rfl ?_
  refine Wp.iinc (l' := #[.val (.ref d), .val (.int ((Int32.ofNat (2 * i)) + (1 : Int32))), .val (.int c)]) d21_34 (pc' := 37) rfl rfl rfl ?_
  rw [on_succ]
  refine Wp.iloadN d21_37 (pc' := 38) rfl rfl ?_
  refine Wp.getS rfl (host := "") (Or.inl (hw _ (List.mem_of_getElem? (i := 107) rfl))) Via.refl hU.2.1 d21_38 (pc' := 41) rfl ?_
  refine Wp.ishr d21_41 (pc' := 42) rfl ?_
  refine Wp.i2b d21_42 (pc' := 43) rfl ?_
  refine Wp.bastore V_d (on_nneg (by omega)) (on_lt (by omega) (by omega : 2 * i < m_)) (i := 2 * i) (on_clamp (by omega)) (by omega) d21_43 (pc' := 44) rfl (Or.inl (by simp)) (Sfe.mem (by simp)) (fun h2 W2 V2 => ?_)
  rw [nar_lb, on_shr0] at V2
  refine Wp.aloadN d21_44 (pc' := 45) rfl rfl rfl ?_
  refine Wp.iloadN d21_45 (pc' := 46) rfl rfl ?_
  refine Wp.iloadN d21_46 (pc' := 47) rfl rfl ?_
  refine Wp.getS rfl (host := "") (Or.inl (hw _ (List.mem_of_getElem? (i := 108) rfl))) Via.refl hU.2.2 d21_47 (pc' := 50) rfl ?_
  refine Wp.ishr d21_50 (pc' := 51) rfl ?_
  refine Wp.i2b d21_51 (pc' := 52) rfl ?_
  refine Wp.bastore V2 (on_nneg (by omega)) (on_lt (by omega) hi) (i := 2 * i + 1) (on_clamp (by omega)) (by simp; omega) d21_52 (pc' := 53) rfl (Or.inl (by simp)) (Sfe.mem (by simp)) (fun h3 W3 V3 => ?_)
  rw [nar_lb] at V3
  refine Wp.retn rfl d21_53 (by decide) (by decide) ?_
  exact ⟨rfl, V3⟩
theorem d22_0 : decode jdk_52_method_5_code 0 = .ok (.getstatic 44, 3) := by decide +kernel
theorem d22_3 : decode jdk_52_method_5_code 3 = .ok (.ifCond .ne 25, 3) := by decide +kernel
theorem d22_6 : decode jdk_52_method_5_code 6 = .ok (.iload_n 1, 1) := by decide +kernel
theorem d22_7 : decode jdk_52_method_5_code 7 = .ok (.ifCond .lt 11, 3) := by decide +kernel
theorem d22_10 : decode jdk_52_method_5_code 10 = .ok (.iload_n 1, 1) := by decide +kernel
theorem d22_11 : decode jdk_52_method_5_code 11 = .ok (.aload_n 0, 1) := by decide +kernel
theorem d22_12 : decode jdk_52_method_5_code 12 = .ok (.invokestatic 48, 3) := by decide +kernel
theorem d22_15 : decode jdk_52_method_5_code 15 = .ok (.if_icmp .lt 13, 3) := by decide +kernel
theorem d22_18 : decode jdk_52_method_5_code 18 = .ok (.new 52, 3) := by decide +kernel
theorem d22_21 : decode jdk_52_method_5_code 21 = .ok (.dup, 1) := by decide +kernel
theorem d22_22 : decode jdk_52_method_5_code 22 = .ok (.ldc 54, 2) := by decide +kernel
theorem d22_24 : decode jdk_52_method_5_code 24 = .ok (.invokespecial 56, 3) := by decide +kernel
theorem d22_27 : decode jdk_52_method_5_code 27 = .ok (.athrow, 1) := by decide +kernel
theorem d22_28 : decode jdk_52_method_5_code 28 = .ok (.iload_n 1, 1) := by decide +kernel
theorem d22_29 : decode jdk_52_method_5_code 29 = .ok (.iconst 1, 1) := by decide +kernel
theorem d22_30 : decode jdk_52_method_5_code 30 = .ok (.ishl, 1) := by decide +kernel
theorem d22_31 : decode jdk_52_method_5_code 31 = .ok (.istore_n 1, 1) := by decide +kernel
theorem d22_32 : decode jdk_52_method_5_code 32 = .ok (.aload_n 0, 1) := by decide +kernel
theorem d22_33 : decode jdk_52_method_5_code 33 = .ok (.iload_n 1, 1) := by decide +kernel
theorem d22_34 : decode jdk_52_method_5_code 34 = .ok (.iinc 1 1, 3) := by decide +kernel
theorem d22_37 : decode jdk_52_method_5_code 37 = .ok (.baload, 1) := by decide +kernel
theorem d22_38 : decode jdk_52_method_5_code 38 = .ok (.sipush 255, 3) := by decide +kernel
theorem d22_41 : decode jdk_52_method_5_code 41 = .ok (.iand, 1) := by decide +kernel
theorem d22_42 : decode jdk_52_method_5_code 42 = .ok (.getstatic 59, 3) := by decide +kernel
theorem d22_45 : decode jdk_52_method_5_code 45 = .ok (.ishl, 1) := by decide +kernel
theorem d22_46 : decode jdk_52_method_5_code 46 = .ok (.aload_n 0, 1) := by decide +kernel
theorem d22_47 : decode jdk_52_method_5_code 47 = .ok (.iload_n 1, 1) := by decide +kernel
theorem d22_48 : decode jdk_52_method_5_code 48 = .ok (.baload, 1) := by decide +kernel
theorem d22_49 : decode jdk_52_method_5_code 49 = .ok (.sipush 255, 3) := by decide +kernel
theorem d22_52 : decode jdk_52_method_5_code 52 = .ok (.iand, 1) := by decide +kernel
theorem d22_53 : decode jdk_52_method_5_code 53 = .ok (.getstatic 63, 3) := by decide +kernel
theorem d22_56 : decode jdk_52_method_5_code 56 = .ok (.ishl, 1) := by decide +kernel
theorem d22_57 : decode jdk_52_method_5_code 57 = .ok (.ior, 1) := by decide +kernel
theorem d22_58 : decode jdk_52_method_5_code 58 = .ok (.i2c, 1) := by decide +kernel
theorem d22_59 : decode jdk_52_method_5_code 59 = .ok (.ireturn, 1) := by decide +kernel
theorem ef_ctGET (m : MethodId) (x0 : Addr) (x1 : Int32) : entryFrame m #[(.ref x0), (.int x1)] 2 = mkF m 0 #[.val (.ref x0), .val (.int x1)] [] := by first | (simp [entryFrame, mkF, argsToLocals, Value.category]; done) | rfl
set_option maxRecDepth 65536 in
set_option maxHeartbeats 40000000 in
theorem ctGET (l : Launch) (Z : State) (a0 : Array Value) (hw : ∀ d ∈ tables_1, d.before a0 Z = true) (hE : EW Z a0 []) (d : Addr) (kd : ClassId) (i : Nat) (c : Int32) (cs : List Int32) (h0 : Heap) (hO : Ext Z.heap h0) (hU : own_U Z) (V_d : Arv Z h0 d kd .byte (Int32.ofNat (2 * cs.length)) (utf cs) (.int 0)) (hc : cs[i]? = some c) (hn : cs.length < 1073741823) (h16 : nar .char c = c) :
    Ct false l Z [] [] (⟨"java/lang/StringUTF16", "getChar", "([BI)C"⟩ : MethodName) jdk_52_method_5_code 2 (some .char) ({ frames := 0, cells := 0, slots := 0, locals := 0 } : Room) #[(.ref d), (.int (Int32.ofNat i))] h0 [] [] (fun v h => v = some (.int c)) := by
  refine Ct.of_wp (a0 := a0) (Ls := #[.val (.ref d), .val (.int (Int32.ofNat i))]) (plainFor_of_name pn_java_lang_StringUTF16) hE hO nofun (fun m => ef_ctGET m d (Int32.ofNat i)) ?_
  have hin : i < cs.length := (List.getElem?_eq_some_iff.mp hc).1
  refine Wp.getS rfl (host := "") (Or.inl (hw _ (List.mem_of_getElem? (i := 106) rfl))) Via.refl hU.1 d22_0 (pc' := 3) rfl ?_
  refine Wp.if_ne (pc1 := 28) (pc' := 6) d22_3 (by decide) (by decide) rfl (fun hc1 => ?_) (fun hc1 => by exact absurd hc1 (by decide))
  refine Wp.iloadN d22_28 (pc' := 29) rfl rfl ?_
  refine Wp.iconst (x := (1 : Int32)) d22_29 (pc' := 30) rfl rfl ?_
  refine Wp.ishl d22_30 (pc' := 31) rfl ?_
  rw [on_shl1 (by omega)]
  refine Wp.istoreN (l' := #[.val (.ref d), .val (.int (Int32.ofNat (2 * i)))]) d22_31 (pc' := 32) rfl rfl ?_
  refine Wp.aloadN d22_32 (pc' := 33) rfl rfl rfl ?_
  refine Wp.iloadN d22_33 (pc' := 34) rfl rfl ?_
  refine Wp.iinc (l' := #[.val (.ref d), .val (.int ((Int32.ofNat (2 * i)) + (1 : Int32)))]) d22_34 (pc' := 37) rfl rfl rfl ?_
  rw [on_succ]
  refine Wp.baload V_d (on_nneg (by omega)) (on_lt (by omega) (by omega : 2 * i < 2 * cs.length)) (v := .int (lb c)) (by rw [on_clamp (by omega)]; simp [List.getD_eq_getElem?_getD, (utf_at hc).1]) d22_37 (pc' := 38) rfl ?_
  refine Wp.sipush (x := (255 : Int32)) d22_38 (pc' := 41) rfl rfl ?_
  refine Wp.iand d22_41 (pc' := 42) rfl ?_
  refine Wp.getS rfl (host := "") (Or.inl (hw _ (List.mem_of_getElem? (i := 107) rfl))) Via.refl hU.2.1 d22_42 (pc' := 45) rfl ?_
  refine Wp.ishl d22_45 (pc' := 46) rfl ?_
  refine Wp.aloadN d22_46 (pc' := 47) rfl rfl rfl ?_
  refine Wp.iloadN d22_47 (pc' := 48) rfl rfl ?_
  refine Wp.baload V_d (on_nneg (by omega)) (on_lt (by omega) (by omega : 2 * i + 1 < 2 * cs.length)) (v := .int (hbt c)) (by rw [on_clamp (by omega)]; simp [List.getD_eq_getElem?_getD, (utf_at hc).2]) d22_48 (pc' := 49) rfl ?_
  refine Wp.sipush (x := (255 : Int32)) d22_49 (pc' := 52) rfl rfl ?_
  refine Wp.iand d22_52 (pc' := 53) rfl ?_
  refine Wp.getS rfl (host := "") (Or.inl (hw _ (List.mem_of_getElem? (i := 108) rfl))) Via.refl hU.2.2 d22_53 (pc' := 56) rfl ?_
  refine Wp.ishl d22_56 (pc' := 57) rfl ?_
  refine Wp.ior d22_57 (pc' := 58) rfl ?_
  refine Wp.i2c d22_58 (pc' := 59) rfl ?_
  refine Wp.retN (t := .char) rfl (by simp) rfl d22_59 (by decide) (by decide) ?_
  rw [(join16 c).trans h16, h16]
theorem pd___BII_V : parseMethodDescriptor "([BII)V" = some ⟨[(.array .byte), .int, .int], none⟩ := by decide +kernel
theorem pd___BI_C : parseMethodDescriptor "([BI)C" = some ⟨[(.array .byte), .int], some .char⟩ := by decide +kernel
theorem d18_0 : decode jdk_52_method_14_code 0 = .ok (.iload_n 2, 1) := by decide +kernel
theorem d18_1 : decode jdk_52_method_14_code 1 = .ok (.invokestatic 107, 3) := by decide +kernel
theorem d18_4 : decode jdk_52_method_14_code 4 = .ok (.astore_n 3, 1) := by decide +kernel
theorem d18_5 : decode jdk_52_method_14_code 5 = .ok (.iconst 0, 1) := by decide +kernel
theorem d18_6 : decode jdk_52_method_14_code 6 = .ok (.istore 4, 2) := by decide +kernel
theorem d18_8 : decode jdk_52_method_14_code 8 = .ok (.iload 4, 2) := by decide +kernel
theorem d18_10 : decode jdk_52_method_14_code 10 = .ok (.iload_n 2, 1) := by decide +kernel
theorem d18_11 : decode jdk_52_method_14_code 11 = .ok (.if_icmp .ge 21, 3) := by decide +kernel
theorem d18_14 : decode jdk_52_method_14_code 14 = .ok (.aload_n 3, 1) := by decide +kernel
theorem d18_15 : decode jdk_52_method_14_code 15 = .ok (.iload 4, 2) := by decide +kernel
theorem d18_17 : decode jdk_52_method_14_code 17 = .ok (.aload_n 0, 1) := by decide +kernel
theorem d18_18 : decode jdk_52_method_14_code 18 = .ok (.iload_n 1, 1) := by decide +kernel
theorem d18_19 : decode jdk_52_method_14_code 19 = .ok (.caload, 1) := by decide +kernel
theorem d18_20 : decode jdk_52_method_14_code 20 = .ok (.invokestatic 111, 3) := by decide +kernel
theorem d18_23 : decode jdk_52_method_14_code 23 = .ok (.iinc 1 1, 3) := by decide +kernel
theorem d18_26 : decode jdk_52_method_14_code 26 = .ok (.iinc 4 1, 3) := by decide +kernel
theorem d18_29 : decode jdk_52_method_14_code 29 = .ok (.goto (-21), 3) := by decide +kernel
theorem d18_32 : decode jdk_52_method_14_code 32 = .ok (.aload_n 3, 1) := by decide +kernel
theorem d18_33 : decode jdk_52_method_14_code 33 = .ok (.areturn, 1) := by decide +kernel
set_option maxRecDepth 65536 in
set_option maxHeartbeats 40000000 in
theorem own_lpU (l : Launch) (Z : State) (a0 : Array Value) (hw : ∀ d ∈ tables_1, d.before a0 Z = true) (hE : EW Z a0 []) (hU : own_U Z) (a d : Addr) (ka kd : ClassId) (cs : List Int32) (hn : cs.length < 1073741823) (hs : Heap) (sz_d : hs.size ≤ d) (hd0 : Z.heap.size ≤ d) :
    ∀ (j i : Nat) (h : Heap), i + j = cs.length → Arv Z h a ka .char (Int32.ofNat cs.length) (cs.map Value.int) (.int 0) → Arv Z h d kd .byte (Int32.ofNat (2 * cs.length)) (utf (cs.take i) ++ List.replicate (2 * j) (.int 0)) (.int 0) → a ≠ d →
      Wp false l Z a0 [] ({ frames := 2, cells := 1, slots := 36, locals := 24 } : Room) (⟨"java/lang/StringUTF16", "toBytes", "([CII)[B"⟩ : MethodName) jdk_52_method_14_code 5 (some (.array .byte)) hs [] (fun v h => ∃ d kd, v = some (.ref d) ∧ hs.size ≤ d ∧ Arv Z h d kd .byte (Int32.ofNat (2 * cs.length)) (utf cs) (.int 0)) h [d] 1 36 8 #[.val (.ref a), .val (.int (Int32.ofNat i)), .val (.int (Int32.ofNat cs.length)), .val (.ref d), .val (.int (Int32.ofNat i))] [] := by
  intro j
  induction j with
  | zero =>
    intro i h hi V_a V_d ne_a_d
    have ei : i = cs.length := by omega
    subst ei
    rw [List.take_length] at V_d
    refine Wp.iload d18_8 (pc' := 10) rfl rfl ?_
    refine Wp.iloadN d18_10 (pc' := 11) rfl rfl ?_
    refine Wp.icmp_ge (pc1 := 32) (pc' := 14) d18_11 (by decide) (by decide) rfl (fun hc101 => ?_) (fun hc101 => by exact absurd hc101 Int32.lt_irrefl)
    refine Wp.aloadN d18_32 (pc' := 33) rfl rfl rfl ?_
    refine Wp.retA rfl rfl rfl d18_33 (by decide) (by decide) ?_
    exact ⟨_, kd, rfl, sz_d, by simpa using V_d⟩
  | succ j ih =>
    intro i h hi V_a V_d ne_a_d
    have hin : i < cs.length := by omega
    obtain ⟨c, hc⟩ : ∃ c, cs[i]? = some c := ⟨_, List.getElem?_eq_getElem hin⟩
    refine Wp.iload d18_8 (pc' := 10) rfl rfl ?_
    refine Wp.iloadN d18_10 (pc' := 11) rfl rfl ?_
    refine Wp.icmp_ge (pc1 := 32) (pc' := 14) d18_11 (by decide) (by decide) rfl (fun hc101 => by exact absurd (on_lt (by omega) hin) hc101) (fun hc101 => ?_)
    refine Wp.aloadN d18_14 (pc' := 15) rfl rfl rfl ?_
    refine Wp.iload d18_15 (pc' := 17) rfl rfl ?_
    refine Wp.aloadN d18_17 (pc' := 18) rfl rfl rfl ?_
    refine Wp.iloadN d18_18 (pc' := 19) rfl rfl ?_
    refine Wp.caload V_a (on_nneg (by omega)) (on_lt (by omega) hin) (v := .int c) (by rw [on_clamp (by omega)]; simp [List.getD_eq_getElem?_getD, hc]) d18_19 (pc' := 20) rfl ?_
    refine Wp.old fun hOc => ?_
    refine Wp.callS (W := 0) (argsL := [(.ref d), (.int (Int32.ofNat i)), (.int c)]) (rest := []) rfl (ctPUT l Z a0 hw hE d kd i (2 * cs.length) c _ h hOc hU V_d (by simp [utf_len]; omega) (by omega) (by omega) hd0) (hw _ (List.mem_of_getElem? (i := 103) rfl)) (hw _ (List.mem_of_getElem? (i := 104) rfl)) (hw _ (List.mem_of_getElem? (i := 105) rfl)) (hw _ (List.mem_of_getElem? (i := 51) rfl)) (by decide) (lenOf pd___BII_V rfl) d18_20 rfl rfl rfl (Nat.le_of_eq rfl) (pc' := 23) rfl (by simp) (by intro x hx; simp only [List.mem_cons, List.not_mem_nil, or_false] at hx; rcases hx with rfl; exact (Or.inr sz_d)) (by decide) (by decide) (k' := 1) (n' := 36) rfl rfl (by decide) (by decide) (fun vh102 h102 zh102 Kh102 qh102 => ?_)
    obtain ⟨rfl, V_d⟩ := qh102
    rw [utf_step hc] at V_d
    replace V_a := V_a.keep Kh102 (ninS ne_a_d nin0)
    refine Wp.eqS (S' := []) rfl ?_
    refine Wp.iinc (l' := #[.val (.ref a), .val (.int ((Int32.ofNat i) + (1 : Int32))), .val (.int (Int32.ofNat cs.length)), .val (.ref d), .val (.int (Int32.ofNat i))]) d18_23 (pc' := 26) rfl rfl rfl ?_
    refine Wp.iinc (l' := #[.val (.ref a), .val (.int ((Int32.ofNat i) + (1 : Int32))), .val (.int (Int32.ofNat cs.length)), .val (.ref d), .val (.int ((Int32.ofNat i) + (1 : Int32)))]) d18_26 (pc' := 29) rfl rfl rfl ?_
    refine Wp.goto (pc' := 8) d18_29 (by decide) (by decide) ?_
    rw [on_succ]
    exact ih (i + 1) h102 (by omega) V_a V_d ne_a_d
theorem ef_ctTB16 (m : MethodId) (x0 : Addr) (x1 : Int32) (x2 : Int32) : entryFrame m #[(.ref x0), (.int x1), (.int x2)] 5 = mkF m 0 #[.val (.ref x0), .val (.int x1), .val (.int x2), .unset, .unset] [] := by first | (simp [entryFrame, mkF, argsToLocals, Value.category]; done) | rfl
theorem pd__I__B : parseMethodDescriptor "(I)[B" = some ⟨[.int], some (.array .byte)⟩ := by decide +kernel
set_option maxRecDepth 65536 in
set_option maxHeartbeats 40000000 in
theorem ctTB16 (l : Launch) (Z : State) (a0 : Array Value) (hw : ∀ d ∈ tables_1, d.before a0 Z = true) (hE : EW Z a0 []) (a : Addr) (ka : ClassId) (cs : List Int32) (h0 : Heap) (hO : Ext Z.heap h0) (hU : own_U Z) (hn : cs.length < 1073741823) (hcap : cs.length ≤ 18) (V_a : Arv Z h0 a ka .char (Int32.ofNat cs.length) (cs.map Value.int) (.int 0)) :
    Ct false l Z [] [] (⟨"java/lang/StringUTF16", "toBytes", "([CII)[B"⟩ : MethodName) jdk_52_method_14_code 5 (some (.array .byte)) ({ frames := 2, cells := 1, slots := 36, locals := 24 } : Room) #[(.ref a), (.int (0 : Int32)), (.int (Int32.ofNat cs.length))] h0 [] [] (fun v h => ∃ d kd, v = some (.ref d) ∧ h0.size ≤ d ∧ Arv Z h d kd .byte (Int32.ofNat (2 * cs.length)) (utf cs) (.int 0)) := by
  refine Ct.of_wp (a0 := a0) (Ls := #[.val (.ref a), .val (.int (0 : Int32)), .val (.int (Int32.ofNat cs.length)), .unset, .unset]) (plainFor_of_name pn_java_lang_StringUTF16) hE hO nofun (fun m => ef_ctTB16 m a (0 : Int32) (Int32.ofNat cs.length)) ?_
  refine Wp.iloadN d18_0 (pc' := 1) rfl rfl ?_
  refine Wp.old fun hOc => ?_
  refine Wp.callSF (W := 0) (argsL := [(.int (Int32.ofNat cs.length))]) (rest := []) rfl (ctNBF l Z a0 hw hE cs.length h0 hOc (by omega) hcap) (hw _ (List.mem_of_getElem? (i := 96) rfl)) (hw _ (List.mem_of_getElem? (i := 97) rfl)) (hw _ (List.mem_of_getElem? (i := 98) rfl)) (hw _ (List.mem_of_getElem? (i := 51) rfl)) (by decide) (lenOf pd__I__B rfl) d18_1 rfl rfl rfl (Nat.le_of_eq rfl) (pc' := 4) rfl (by decide) (by decide) (k' := 1) (n' := 36) rfl rfl (by decide) (by decide) (fun vh1 h1 zh1 Kh1 qh1 => ?_)
  obtain ⟨d, kd, rfl, sb_d, V_d⟩ := qh1
  refine ⟨d, sb_d, V_d.lt, ?_⟩
  have ne_a_d : a ≠ d := Nat.ne_of_lt (Nat.lt_of_lt_of_le V_a.lt sb_d)
  replace V_a := V_a.keep Kh1 nin0
  refine Wp.eqS (S' := [(.ref d)]) rfl ?_
  have sz_d : h0.size ≤ d := Nat.le_trans zh1 sb_d
  refine Wp.astoreN (l' := #[.val (.ref a), .val (.int (0 : Int32)), .val (.int (Int32.ofNat cs.length)), .val (.ref d), .unset]) d18_4 (pc' := 5) rfl rfl rfl ?_
  refine Wp.iconst (x := (0 : Int32)) d18_5 (pc' := 6) rfl rfl ?_
  refine Wp.istore (l' := #[.val (.ref a), .val (.int (0 : Int32)), .val (.int (Int32.ofNat cs.length)), .val (.ref d), .val (.int (0 : Int32))]) d18_6 (pc' := 8) rfl rfl ?_
  exact own_lpU l Z a0 hw hE hU a d ka kd cs hn h0 sz_d (Nat.le_trans hO.1 sz_d) cs.length 0 _ (by omega) V_a (by simpa [utf] using V_d) ne_a_d
theorem d9_0 : decode jdk_52_method_16_code 0 = .ok (.iload_n 2, 1) := by decide +kernel
theorem d9_1 : decode jdk_52_method_16_code 1 = .ok (.newarray .byte, 2) := by decide +kernel
theorem d9_3 : decode jdk_52_method_16_code 3 = .ok (.astore_n 3, 1) := by decide +kernel
theorem d9_4 : decode jdk_52_method_16_code 4 = .ok (.aload_n 0, 1) := by decide +kernel
theorem d9_5 : decode jdk_52_method_16_code 5 = .ok (.iload_n 1, 1) := by decide +kernel
theorem d9_6 : decode jdk_52_method_16_code 6 = .ok (.aload_n 3, 1) := by decide +kernel
theorem d9_7 : decode jdk_52_method_16_code 7 = .ok (.iconst 0, 1) := by decide +kernel
theorem d9_8 : decode jdk_52_method_16_code 8 = .ok (.iload_n 2, 1) := by decide +kernel
theorem d9_9 : decode jdk_52_method_16_code 9 = .ok (.invokestatic 115, 3) := by decide +kernel
theorem d9_12 : decode jdk_52_method_16_code 12 = .ok (.istore 4, 2) := by decide +kernel
theorem d9_14 : decode jdk_52_method_16_code 14 = .ok (.iload 4, 2) := by decide +kernel
theorem d9_16 : decode jdk_52_method_16_code 16 = .ok (.iload_n 2, 1) := by decide +kernel
theorem d9_17 : decode jdk_52_method_16_code 17 = .ok (.if_icmp .eq 40, 3) := by decide +kernel
theorem d9_20 : decode jdk_52_method_16_code 20 = .ok (.aload_n 0, 1) := by decide +kernel
theorem d9_21 : decode jdk_52_method_16_code 21 = .ok (.iload_n 1, 1) := by decide +kernel
theorem d9_22 : decode jdk_52_method_16_code 22 = .ok (.iload_n 2, 1) := by decide +kernel
theorem d9_23 : decode jdk_52_method_16_code 23 = .ok (.invokestatic 119, 3) := by decide +kernel
theorem d9_26 : decode jdk_52_method_16_code 26 = .ok (.astore 5, 2) := by decide +kernel
theorem d9_28 : decode jdk_52_method_16_code 28 = .ok (.aload 5, 2) := by decide +kernel
theorem d9_30 : decode jdk_52_method_16_code 30 = .ok (.iload 4, 2) := by decide +kernel
theorem d9_32 : decode jdk_52_method_16_code 32 = .ok (.invokestatic 71, 3) := by decide +kernel
theorem d9_35 : decode jdk_52_method_16_code 35 = .ok (.sipush 255, 3) := by decide +kernel
theorem d9_38 : decode jdk_52_method_16_code 38 = .ok (.if_icmp .gt 16, 3) := by decide +kernel
theorem d9_41 : decode jdk_52_method_16_code 41 = .ok (.aload 5, 2) := by decide +kernel
theorem d9_43 : decode jdk_52_method_16_code 43 = .ok (.iconst 0, 1) := by decide +kernel
theorem d9_44 : decode jdk_52_method_16_code 44 = .ok (.aload_n 3, 1) := by decide +kernel
theorem d9_45 : decode jdk_52_method_16_code 45 = .ok (.iconst 0, 1) := by decide +kernel
theorem d9_46 : decode jdk_52_method_16_code 46 = .ok (.iload_n 2, 1) := by decide +kernel
theorem d9_47 : decode jdk_52_method_16_code 47 = .ok (.invokestatic 123, 3) := by decide +kernel
theorem d9_50 : decode jdk_52_method_16_code 50 = .ok (.iload_n 2, 1) := by decide +kernel
theorem d9_51 : decode jdk_52_method_16_code 51 = .ok (.if_icmp .eq 6, 3) := by decide +kernel
theorem d9_54 : decode jdk_52_method_16_code 54 = .ok (.aload 5, 2) := by decide +kernel
theorem d9_56 : decode jdk_52_method_16_code 56 = .ok (.areturn, 1) := by decide +kernel
theorem d9_57 : decode jdk_52_method_16_code 57 = .ok (.aload_n 3, 1) := by decide +kernel
theorem d9_58 : decode jdk_52_method_16_code 58 = .ok (.areturn, 1) := by decide +kernel
theorem ef_ctCMP3 (m : MethodId) (x0 : Addr) (x1 : Int32) (x2 : Int32) : entryFrame m #[(.ref x0), (.int x1), (.int x2)] 6 = mkF m 0 #[.val (.ref x0), .val (.int x1), .val (.int x2), .unset, .unset, .unset] [] := by first | (simp [entryFrame, mkF, argsToLocals, Value.category]; done) | rfl
theorem pd___CI_BII_I : parseMethodDescriptor "([CI[BII)I" = some ⟨[(.array .char), .int, (.array .byte), .int, .int], some .int⟩ := by decide +kernel
theorem pd___CII__B : parseMethodDescriptor "([CII)[B" = some ⟨[(.array .char), .int, .int], some (.array .byte)⟩ := by decide +kernel
set_option maxRecDepth 65536 in
set_option maxHeartbeats 40000000 in
theorem ctCMP3 (l : Launch) (Z : State) (a0 : Array Value) (hw : ∀ d ∈ tables_1, d.before a0 Z = true) (hE : EW Z a0 []) (a : Addr) (ka : ClassId) (cs : List Int32) (h0 : Heap) (hO : Ext Z.heap h0) (hU : own_U Z) (hn : cs.length < 1073741823) (hcap : cs.length ≤ 18) (h16 : ∀ c ∈ cs, nar .char c = c) (V_a : Arv Z h0 a ka .char (Int32.ofNat cs.length) (cs.map Value.int) (.int 0)) :
    Ct false l Z [] [] (⟨"java/lang/StringUTF16", "compress", "([CII)[B"⟩ : MethodName) jdk_52_method_16_code 6 (some (.array .byte)) ({ frames := 3, cells := 2, slots := 54, locals := 40 } : Room) #[(.ref a), (.int (0 : Int32)), (.int (Int32.ofNat cs.length))] h0 [] [] (fun v h => ∃ d kd w zz vs, v = some (.ref d) ∧ h0.size ≤ d ∧ Arv Z h d kd .byte zz vs (.int 0) ∧ Enc cs w zz vs) := by
  refine Ct.of_wp (a0 := a0) (Ls := #[.val (.ref a), .val (.int (0 : Int32)), .val (.int (Int32.ofNat cs.length)), .unset, .unset, .unset]) (plainFor_of_name pn_java_lang_StringUTF16) hE hO nofun (fun m => ef_ctCMP3 m a (0 : Int32) (Int32.ofNat cs.length)) ?_
  refine Wp.iloadN d9_0 (pc' := 1) rfl rfl ?_
  refine Wp.newP (cap := 18) (hw _ (List.mem_of_getElem? (i := 53) rfl)) (on_nneg (by omega)) (by rw [on_clamp (by omega)]; exact hcap) (by decide) d9_1 (pc' := 3) rfl (k' := 1) (n' := 18) rfl rfl (by decide) (by decide) (fun h1 b1 k_b1 g_b1 sz_b1 Xh1 V_b1 => ?_)
  have ne_a_b1 : a ≠ b1 := Nat.ne_of_lt (Nat.lt_of_lt_of_eq V_a.lt g_b1.symm)
  replace V_a := V_a.ext Xh1
  replace V_b1 := V_b1.pad (pad_rep [] (.int (0 : Int32)) cs.length)
  refine Wp.astoreN (l' := #[.val (.ref a), .val (.int (0 : Int32)), .val (.int (Int32.ofNat cs.length)), .val (.ref b1), .unset, .unset]) d9_3 (pc' := 4) rfl rfl rfl ?_
  refine Wp.aloadN d9_4 (pc' := 5) rfl rfl rfl ?_
  refine Wp.iloadN d9_5 (pc' := 6) rfl rfl ?_
  refine Wp.aloadN d9_6 (pc' := 7) rfl rfl rfl ?_
  refine Wp.iconst (x := (0 : Int32)) d9_7 (pc' := 8) rfl rfl ?_
  refine Wp.iloadN d9_8 (pc' := 9) rfl rfl ?_
  refine Wp.old fun hOc => ?_
  refine Wp.callS (W := 0) (argsL := [(.ref a), (.int (0 : Int32)), (.ref b1), (.int (0 : Int32)), (.int (Int32.ofNat cs.length))]) (rest := []) rfl (ctCMP5 l Z a0 hw hE a b1 ka k_b1 cs h1 hOc (by omega) V_a V_b1 ne_a_b1 (Nat.le_trans hO.1 sz_b1)) (hw _ (List.mem_of_getElem? (i := 54) rfl)) (hw _ (List.mem_of_getElem? (i := 55) rfl)) (hw _ (List.mem_of_getElem? (i := 56) rfl)) (hw _ (List.mem_of_getElem? (i := 51) rfl)) (by decide) (lenOf pd___CI_BII_I rfl) d9_9 rfl rfl rfl (Nat.le_of_eq rfl) (pc' := 12) rfl (by simp) (by intro x hx; simp only [List.mem_cons, List.not_mem_nil, or_false] at hx; rcases hx with rfl; exact (Or.inr sz_b1)) (by decide) (by decide) (k' := 1) (n' := 18) rfl rfl (by decide) (by decide) (fun vh2 h2 zh2 Kh2 qh2 => ?_)
  obtain ⟨t, rfl, hq⟩ : ∃ t : Nat, vh2 = some (.int (Int32.ofNat t)) ∧ ((t = cs.length ∧ (∀ c ∈ cs, ¬ (255 : Int32) < c) ∧ Arv Z h2 b1 k_b1 .byte (Int32.ofNat cs.length) (cs.map fun c => Value.int (lb c)) (.int 0)) ∨ (∃ c, t < cs.length ∧ cs[t]? = some c ∧ (255 : Int32) < c)) := by
    rcases qh2 with ⟨rfl, qa, qb⟩ | ⟨t, c, q1, q2, q3, rfl⟩
    · exact ⟨_, rfl, Or.inl ⟨rfl, qa, qb⟩⟩
    · exact ⟨t, rfl, Or.inr ⟨c, q1, q2, q3⟩⟩
  replace V_a := V_a.keep Kh2 (ninS ne_a_b1 nin0)
  refine Wp.eqS (S' := [(.int (Int32.ofNat t))]) rfl ?_
  refine Wp.istore (l' := #[.val (.ref a), .val (.int (0 : Int32)), .val (.int (Int32.ofNat cs.length)), .val (.ref b1), .val (.int (Int32.ofNat t)), .unset]) d9_12 (pc' := 14) rfl rfl ?_
  refine Wp.iload d9_14 (pc' := 16) rfl rfl ?_
  refine Wp.iloadN d9_16 (pc' := 17) rfl rfl ?_
  refine Wp.icmp_eq (pc1 := 57) (pc' := 20) d9_17 (by decide) (by decide) rfl (fun hc3 => ?_) (fun hc3 => ?_)
  · have hc3 : (Int32.ofNat t) = (Int32.ofNat cs.length) := hc3
    refine Wp.aloadN d9_57 (pc' := 58) rfl rfl rfl ?_
    refine Wp.retA rfl rfl rfl d9_58 (by decide) (by decide) ?_
    rcases hq with ⟨-, qa, qb⟩ | ⟨c, q1, q2, q3⟩
    · exact ⟨_, k_b1, 0, _, _, rfl, sz_b1, qb, Or.inl ⟨rfl, rfl, rfl, qa⟩⟩
    · exact absurd ((on_eq (by omega) (by omega)).mp hc3) (by omega)
  · have hc3 : ¬ ((Int32.ofNat t) = (Int32.ofNat cs.length)) := hc3
    obtain ⟨c, q1, q2, q3⟩ := hq.resolve_left (fun z => hc3 (by rw [z.1]))
    refine Wp.aloadN d9_20 (pc' := 21) rfl rfl rfl ?_
    refine Wp.iloadN d9_21 (pc' := 22) rfl rfl ?_
    refine Wp.iloadN d9_22 (pc' := 23) rfl rfl ?_
    refine Wp.old fun hOc => ?_
    refine Wp.callS (W := 0) (argsL := [(.ref a), (.int (0 : Int32)), (.int (Int32.ofNat cs.length))]) (rest := []) rfl (ctTB16 l Z a0 hw hE a ka cs h2 hOc hU hn hcap V_a) (hw _ (List.mem_of_getElem? (i := 93) rfl)) (hw _ (List.mem_of_getElem? (i := 94) rfl)) (hw _ (List.mem_of_getElem? (i := 95) rfl)) (hw _ (List.mem_of_getElem? (i := 51) rfl)) (by decide) (lenOf pd___CII__B rfl) d9_23 rfl rfl rfl (Nat.le_of_eq rfl) (pc' := 26) rfl nofun nofun (by decide) (by decide) (k' := 2) (n' := 54) rfl rfl (by decide) (by decide) (fun vh4 h4 zh4 Kh4 qh4 => ?_)
    obtain ⟨u, ku, rfl, sb_u, V_u⟩ := qh4
    have ne_a_u : a ≠ u := Nat.ne_of_lt (Nat.lt_of_lt_of_le V_a.lt sb_u)
    replace V_a := V_a.keep Kh4 nin0
    refine Wp.eqS (S' := [(.ref u)]) rfl ?_
    have sz_u : h0.size ≤ u := Nat.le_trans zh4 sb_u
    refine Wp.astore (l' := #[.val (.ref a), .val (.int (0 : Int32)), .val (.int (Int32.ofNat cs.length)), .val (.ref b1), .val (.int (Int32.ofNat t)), .val (.ref u)]) d9_26 (pc' := 28) rfl rfl rfl ?_
    refine Wp.aload d9_28 (pc' := 30) rfl rfl rfl ?_
    refine Wp.iload d9_30 (pc' := 32) rfl rfl ?_
    refine Wp.old fun hOc => ?_
    refine Wp.callS (W := 0) (argsL := [(.ref u), (.int (Int32.ofNat t))]) (rest := []) rfl (ctGET l Z a0 hw hE u ku t c cs h4 hOc hU V_u q2 hn (h16 c (List.mem_of_getElem? q2))) (hw _ (List.mem_of_getElem? (i := 109) rfl)) (hw _ (List.mem_of_getElem? (i := 110) rfl)) (hw _ (List.mem_of_getElem? (i := 111) rfl)) (hw _ (List.mem_of_getElem? (i := 51) rfl)) (by decide) (lenOf pd___BI_C rfl) d9_32 rfl rfl rfl (Nat.le_of_eq rfl) (pc' := 35) rfl nofun nofun (by decide) (by decide) (k' := 2) (n' := 54) rfl rfl (by decide) (by decide) (fun vh5 h5 zh5 Kh5 qh5 => ?_)
    obtain rfl := qh5
    replace V_a := V_a.keep Kh5 nin0
    replace V_u := V_u.keep Kh5 nin0
    refine Wp.eqS (S' := [(.int c)]) rfl ?_
    refine Wp.sipush (x := (255 : Int32)) d9_35 (pc' := 38) rfl rfl ?_
    refine Wp.icmp_gt (pc1 := 54) (pc' := 41) d9_38 (by decide) (by decide) rfl (fun hc6 => ?_) (fun hc6 => by exact absurd q3 hc6)
    refine Wp.aload d9_54 (pc' := 56) rfl rfl rfl ?_
    refine Wp.retA rfl rfl rfl d9_56 (by decide) (by decide) ?_
    exact ⟨u, ku, 1, _, _, rfl, sz_u, V_u, Or.inr ⟨rfl, rfl, rfl, c, List.mem_of_getElem? q2, q3⟩⟩
theorem d11_0 : decode jdk_52_method_15_code 0 = .ok (.iload_n 1, 1) := by decide +kernel
theorem d11_1 : decode jdk_52_method_15_code 1 = .ok (.aload_n 0, 1) := by decide +kernel
theorem d11_2 : decode jdk_52_method_15_code 2 = .ok (.arraylength, 1) := by decide +kernel
theorem d11_3 : decode jdk_52_method_15_code 3 = .ok (.isub, 1) := by decide +kernel
theorem d11_4 : decode jdk_52_method_15_code 4 = .ok (.bipush 31, 2) := by decide +kernel
theorem d11_6 : decode jdk_52_method_15_code 6 = .ok (.iushr, 1) := by decide +kernel
theorem d11_7 : decode jdk_52_method_15_code 7 = .ok (.i2b, 1) := by decide +kernel
theorem d11_8 : decode jdk_52_method_15_code 8 = .ok (.ireturn, 1) := by decide +kernel
theorem ef_ctCFA (m : MethodId) (x0 : Addr) (x1 : Int32) : entryFrame m #[(.ref x0), (.int x1)] 2 = mkF m 0 #[.val (.ref x0), .val (.int x1)] [] := by first | (simp [entryFrame, mkF, argsToLocals, Value.category]; done) | rfl
set_option maxRecDepth 65536 in
set_option maxHeartbeats 40000000 in
theorem ctCFA (l : Launch) (Z : State) (a0 : Array Value) (hw : ∀ d ∈ tables_1, d.before a0 Z = true) (hE : EW Z a0 []) (d : Addr) (kd : ClassId) (cs : List Int32) (w zz : Int32) (vs : List Value) (h0 : Heap) (hO : Ext Z.heap h0) (hn : cs.length < 1073741823) (V_d : Arv Z h0 d kd .byte zz vs (.int 0)) (hEn : Enc cs w zz vs) :
    Ct false l Z [] [] (⟨"java/lang/StringUTF16", "coderFromArrayLen", "([BI)B"⟩ : MethodName) jdk_52_method_15_code 2 (some .byte) ({ frames := 0, cells := 0, slots := 0, locals := 0 } : Room) #[(.ref d), (.int (Int32.ofNat cs.length))] h0 [] [] (fun v h => v = some (.int w)) := by
  refine Ct.of_wp (a0 := a0) (Ls := #[.val (.ref d), .val (.int (Int32.ofNat cs.length))]) (plainFor_of_name pn_java_lang_StringUTF16) hE hO nofun (fun m => ef_ctCFA m d (Int32.ofNat cs.length)) ?_
  refine Wp.iloadN d11_0 (pc' := 1) rfl rfl ?_
  refine Wp.aloadN d11_1 (pc' := 2) rfl rfl rfl ?_
  refine Wp.alen V_d d11_2 (pc' := 3) rfl ?_
  refine Wp.isub d11_3 (pc' := 4) rfl ?_
  refine Wp.bipush (x := (31 : Int32)) d11_4 (pc' := 6) rfl rfl ?_
  refine Wp.iushr d11_6 (pc' := 7) rfl ?_
  refine Wp.i2b d11_7 (pc' := 8) rfl ?_
  refine Wp.retN (t := .byte) rfl (by simp) rfl d11_8 (by decide) (by decide) ?_
  rw [hEn.cfa (by omega)]
theorem d7_0 : decode jdk_42_method_149_code 0 = .ok (.aload_n 0, 1) := by decide +kernel
theorem d7_1 : decode jdk_42_method_149_code 1 = .ok (.invokespecial 1, 3) := by decide +kernel
theorem d7_4 : decode jdk_42_method_149_code 4 = .ok (.iload_n 3, 1) := by decide +kernel
theorem d7_5 : decode jdk_42_method_149_code 5 = .ok (.ifCond .ne 22, 3) := by decide +kernel
theorem d7_8 : decode jdk_42_method_149_code 8 = .ok (.aload_n 0, 1) := by decide +kernel
theorem d7_9 : decode jdk_42_method_149_code 9 = .ok (.ldc 7, 2) := by decide +kernel
theorem d7_11 : decode jdk_42_method_149_code 11 = .ok (.getfield 9, 3) := by decide +kernel
theorem d7_14 : decode jdk_42_method_149_code 14 = .ok (.putfield 9, 3) := by decide +kernel
theorem d7_17 : decode jdk_42_method_149_code 17 = .ok (.aload_n 0, 1) := by decide +kernel
theorem d7_18 : decode jdk_42_method_149_code 18 = .ok (.ldc 7, 2) := by decide +kernel
theorem d7_20 : decode jdk_42_method_149_code 20 = .ok (.getfield 15, 3) := by decide +kernel
theorem d7_23 : decode jdk_42_method_149_code 23 = .ok (.putfield 15, 3) := by decide +kernel
theorem d7_26 : decode jdk_42_method_149_code 26 = .ok (.return_, 1) := by decide +kernel
theorem d7_27 : decode jdk_42_method_149_code 27 = .ok (.getstatic 38, 3) := by decide +kernel
theorem d7_30 : decode jdk_42_method_149_code 30 = .ok (.ifCond .eq 28, 3) := by decide +kernel
theorem d7_33 : decode jdk_42_method_149_code 33 = .ok (.aload_n 1, 1) := by decide +kernel
theorem d7_34 : decode jdk_42_method_149_code 34 = .ok (.iload_n 2, 1) := by decide +kernel
theorem d7_35 : decode jdk_42_method_149_code 35 = .ok (.iload_n 3, 1) := by decide +kernel
theorem d7_36 : decode jdk_42_method_149_code 36 = .ok (.invokestatic 177, 3) := by decide +kernel
theorem d7_39 : decode jdk_42_method_149_code 39 = .ok (.astore 5, 2) := by decide +kernel
theorem d7_41 : decode jdk_42_method_149_code 41 = .ok (.aload_n 0, 1) := by decide +kernel
theorem d7_42 : decode jdk_42_method_149_code 42 = .ok (.aload 5, 2) := by decide +kernel
theorem d7_44 : decode jdk_42_method_149_code 44 = .ok (.iload_n 3, 1) := by decide +kernel
theorem d7_45 : decode jdk_42_method_149_code 45 = .ok (.invokestatic 47, 3) := by decide +kernel
theorem d7_48 : decode jdk_42_method_149_code 48 = .ok (.putfield 15, 3) := by decide +kernel
theorem d7_51 : decode jdk_42_method_149_code 51 = .ok (.aload_n 0, 1) := by decide +kernel
theorem d7_52 : decode jdk_42_method_149_code 52 = .ok (.aload 5, 2) := by decide +kernel
theorem d7_54 : decode jdk_42_method_149_code 54 = .ok (.putfield 9, 3) := by decide +kernel
theorem d7_57 : decode jdk_42_method_149_code 57 = .ok (.return_, 1) := by decide +kernel
theorem d7_58 : decode jdk_42_method_149_code 58 = .ok (.aload_n 0, 1) := by decide +kernel
theorem d7_59 : decode jdk_42_method_149_code 59 = .ok (.iconst 1, 1) := by decide +kernel
theorem d7_60 : decode jdk_42_method_149_code 60 = .ok (.putfield 15, 3) := by decide +kernel
theorem d7_63 : decode jdk_42_method_149_code 63 = .ok (.aload_n 0, 1) := by decide +kernel
theorem d7_64 : decode jdk_42_method_149_code 64 = .ok (.aload_n 1, 1) := by decide +kernel
theorem d7_65 : decode jdk_42_method_149_code 65 = .ok (.iload_n 2, 1) := by decide +kernel
theorem d7_66 : decode jdk_42_method_149_code 66 = .ok (.iload_n 3, 1) := by decide +kernel
theorem d7_67 : decode jdk_42_method_149_code 67 = .ok (.invokestatic 180, 3) := by decide +kernel
theorem d7_70 : decode jdk_42_method_149_code 70 = .ok (.putfield 9, 3) := by decide +kernel
theorem d7_73 : decode jdk_42_method_149_code 73 = .ok (.return_, 1) := by decide +kernel
theorem pn_java_lang_String : plainName "java/lang/String" = true := by first | (simp [plainName, overriddenIn]; done) | decide +kernel
theorem ef_ctSI4 (m : MethodId) (x0 : Addr) (x1 : Addr) (x2 : Int32) (x3 : Int32) : entryFrame m #[(.ref x0), (.ref x1), (.int x2), (.int x3), .null] 6 = mkF m 0 #[.val (.ref x0), .val (.ref x1), .val (.int x2), .val (.int x3), .val .null, .unset] [] := by first | (simp [entryFrame, mkF, argsToLocals, Value.category]; done) | rfl
theorem pd___BI_B : parseMethodDescriptor "([BI)B" = some ⟨[(.array .byte), .int], some .byte⟩ := by decide +kernel
set_option maxRecDepth 65536 in
set_option maxHeartbeats 40000000 in
theorem ctSI4 (l : Launch) (Z : State) (a0 : Array Value) (hw : ∀ d ∈ tables_1, d.before a0 Z = true) (hE : EW Z a0 []) (s a : Addr) (ka : ClassId) (cs : List Int32) (cz : Int32) (h0 : Heap) (hO : Ext Z.heap h0) (hU : own_U Z) (hn : cs.length < 1073741823) (hcap : cs.length ≤ 18) (h16 : ∀ c ∈ cs, nar .char c = c) (V_a : Arv Z h0 a ka .char (Int32.ofNat cs.length) (cs.map Value.int) (.int 0)) (E_s : Exa Z h0 s "java/lang/String") (F_v : Fld Z h0 s "java/lang/String" "value" "[B" .null) (F_c : Fld Z h0 s "java/lang/String" "coder" "B" (.int 0)) (hs0 : Z.heap.size ≤ s) (ne_a_s : a ≠ s) (hco : Sta Z Z.heap "java/lang/String" "COMPACT_STRINGS" "Z" (.int cz)) (hcz : ¬ cz = 0) (hpos : 0 < cs.length) :
    Ct false l Z [] [] (⟨"java/lang/String", "<init>", "([CIILjava/lang/Void;)V"⟩ : MethodName) jdk_42_method_149_code 6 none ({ frames := 4, cells := 4, slots := 54, locals := 57 } : Room) #[(.ref s), (.ref a), (.int (0 : Int32)), (.int (Int32.ofNat cs.length)), .null] h0 [s] [s] (fun v h => v = none ∧ ST Z h s cs) := by
  refine Ct.of_wp (a0 := a0) (Ls := #[.val (.ref s), .val (.ref a), .val (.int (0 : Int32)), .val (.int (Int32.ofNat cs.length)), .val .null, .unset]) (plainFor_of_name pn_java_lang_String) hE hO (by intro x hx; cases List.mem_singleton.mp hx; exact hs0) (fun m => ef_ctSI4 m s a (0 : Int32) (Int32.ofNat cs.length)) ?_
  have ne_a_s := ne_a_s
  refine Wp.aloadN d7_0 (pc' := 1) rfl rfl rfl ?_
  refine Wp.initO (W := 0) rfl (hw _ (List.mem_of_getElem? (i := 45) rfl)) (hw _ (List.mem_of_getElem? (i := 46) rfl)) (hw _ (List.mem_of_getElem? (i := 47) rfl)) d7_1 (pc' := 4) rfl rfl (by decide) (Nat.le_of_eq rfl) (by decide) ?_
  refine Wp.iloadN d7_4 (pc' := 5) rfl rfl ?_
  refine Wp.if_ne (pc1 := 27) (pc' := 8) d7_5 (by decide) (by decide) rfl (fun hc1 => ?_) (fun hc1 => by exact absurd ((on_eq (n := 0) (by omega) (by decide)).mp hc1) (by omega))
  refine Wp.getS rfl (host := "") (Or.inl (hw _ (List.mem_of_getElem? (i := 48) rfl))) Via.refl hco d7_27 (pc' := 30) rfl ?_
  refine Wp.if_eq (pc1 := 58) (pc' := 33) d7_30 (by decide) (by decide) rfl (fun hc2 => by exact absurd hc2 hcz) (fun hc2 => ?_)
  refine Wp.aloadN d7_33 (pc' := 34) rfl rfl rfl ?_
  refine Wp.iloadN d7_34 (pc' := 35) rfl rfl ?_
  refine Wp.iloadN d7_35 (pc' := 36) rfl rfl ?_
  refine Wp.old fun hOc => ?_
  refine Wp.callS (W := 0) (argsL := [(.ref a), (.int (0 : Int32)), (.int (Int32.ofNat cs.length))]) (rest := []) rfl (ctCMP3 l Z a0 hw hE a ka cs h0 hOc hU hn hcap h16 V_a) (hw _ (List.mem_of_getElem? (i := 49) rfl)) (hw _ (List.mem_of_getElem? (i := 50) rfl)) (hw _ (List.mem_of_getElem? (i := 52) rfl)) (hw _ (List.mem_of_getElem? (i := 51) rfl)) (by decide) (lenOf pd___CII__B rfl) d7_36 rfl rfl rfl (Nat.le_of_eq rfl) (pc' := 39) rfl nofun nofun (by decide) (by decide) (k' := 2) (n' := 54) rfl rfl (by decide) (by decide) (fun vh3 h3 zh3 Kh3 qh3 => ?_)
  obtain ⟨d, kd, w, zz, vs, rfl, sb_d, V_d, hEn⟩ := qh3
  have ne_a_d : a ≠ d := Nat.ne_of_lt (Nat.lt_of_lt_of_le V_a.lt sb_d)
  have ne_s_d : s ≠ d := Nat.ne_of_lt (Nat.lt_of_lt_of_le E_s.lt sb_d)
  replace V_a := V_a.keep Kh3 nin0
  replace E_s := E_s.keep Kh3
  replace F_v := F_v.keep Kh3 nin0
  replace F_c := F_c.keep Kh3 nin0
  refine Wp.eqS (S' := [(.ref d)]) rfl ?_
  have sz_d : h0.size ≤ d := Nat.le_trans zh3 sb_d
  refine Wp.astore (l' := #[.val (.ref s), .val (.ref a), .val (.int (0 : Int32)), .val (.int (Int32.ofNat cs.length)), .val .null, .val (.ref d)]) d7_39 (pc' := 41) rfl rfl rfl ?_
  refine Wp.aloadN d7_41 (pc' := 42) rfl rfl rfl ?_
  refine Wp.aload d7_42 (pc' := 44) rfl rfl rfl ?_
  refine Wp.iloadN d7_44 (pc' := 45) rfl rfl ?_
  refine Wp.old fun hOc => ?_
  refine Wp.callS (W := 1) (argsL := [(.ref d), (.int (Int32.ofNat cs.length))]) (rest := [(.ref s)]) rfl (ctCFA l Z a0 hw hE d kd cs w _ _ h3 hOc hn V_d hEn) (hw _ (List.mem_of_getElem? (i := 57) rfl)) (hw _ (List.mem_of_getElem? (i := 58) rfl)) (hw _ (List.mem_of_getElem? (i := 59) rfl)) (hw _ (List.mem_of_getElem? (i := 51) rfl)) (by decide) (lenOf pd___BI_B rfl) d7_45 rfl rfl rfl (Nat.le_of_eq rfl) (pc' := 48) rfl nofun nofun (by decide) (by decide) (k' := 2) (n' := 54) rfl rfl (by decide) (by decide) (fun vh4 h4 zh4 Kh4 qh4 => ?_)
  obtain rfl := qh4
  replace V_a := V_a.keep Kh4 nin0
  replace E_s := E_s.keep Kh4
  replace F_v := F_v.keep Kh4 nin0
  replace F_c := F_c.keep Kh4 nin0
  replace V_d := V_d.keep Kh4 nin0
  refine Wp.eqS (S' := [(.int w), (.ref s)]) rfl ?_
  refine Wp.putFN rfl (hw _ (List.mem_of_getElem? (i := 60) rfl)) Via.refl F_c E_s (Or.inr ⟨(hw _ (List.mem_of_getElem? (i := 61) rfl)), rfl, rfl⟩) (hw _ (List.mem_of_getElem? (i := 36) rfl)) (ty := .byte) (v' := .int w) (by decide) (by rcases hEn.w01 with rfl | rfl <;> rfl) (fit_w hEn.w01) d7_48 (pc' := 51) rfl (Or.inl (by simp)) (Sfe.mem (by simp)) (fun h5 W5 Fh5 => ?_)
  replace V_a := V_a.other W5 (by omega : a ≠ s)
  replace E_s := E_s.wr W5
  replace F_v := F_v.other W5 (Or.inr (slot_ne (Or.inr (hw _ (List.mem_of_getElem? (i := 63) rfl))) (Or.inr (hw _ (List.mem_of_getElem? (i := 61) rfl))) (by decide) (t := (.array .byte)) (t' := .byte) (by decide) (by decide)))
  replace V_d := V_d.other W5 (Ne.symm ne_s_d)
  replace F_c := Fh5
  refine Wp.aloadN d7_51 (pc' := 52) rfl rfl rfl ?_
  refine Wp.aload d7_52 (pc' := 54) rfl rfl rfl ?_
  refine Wp.putF rfl (host := "") (Or.inl (hw _ (List.mem_of_getElem? (i := 62) rfl))) Via.refl F_v E_s (Or.inr ⟨(hw _ (List.mem_of_getElem? (i := 63) rfl)), rfl, rfl⟩) (hw _ (List.mem_of_getElem? (i := 36) rfl)) (ty := (.array .byte)) (by decide) rfl rfl d7_54 (pc' := 57) rfl (Or.inl (by simp)) (Sfe.mem (by simp)) (fun h6 W6 Fh6 => ?_)
  replace V_a := V_a.other W6 (by omega : a ≠ s)
  replace E_s := E_s.wr W6
  replace F_c := F_c.other W6 (Or.inr (slot_ne (Or.inr (hw _ (List.mem_of_getElem? (i := 61) rfl))) (Or.inr (hw _ (List.mem_of_getElem? (i := 63) rfl))) (by decide) (t := .byte) (t' := (.array .byte)) (by decide) (by decide)))
  replace V_d := V_d.other W6 (Ne.symm ne_s_d)
  replace F_v := Fh6
  refine Wp.retn rfl d7_57 (by decide) (by decide) ?_
  exact ⟨rfl, _, _, w, _, _, E_s, F_c, F_v, V_d, hEn⟩
theorem d6_0 : decode jdk_42_method_3_code 0 = .ok (.aload_n 0, 1) := by decide +kernel
theorem d6_1 : decode jdk_42_method_3_code 1 = .ok (.aload_n 1, 1) := by decide +kernel
theorem d6_2 : decode jdk_42_method_3_code 2 = .ok (.iconst 0, 1) := by decide +kernel
theorem d6_3 : decode jdk_42_method_3_code 3 = .ok (.aload_n 1, 1) := by decide +kernel
theorem d6_4 : decode jdk_42_method_3_code 4 = .ok (.arraylength, 1) := by decide +kernel
theorem d6_5 : decode jdk_42_method_3_code 5 = .ok (.aconst_null, 1) := by decide +kernel
theorem d6_6 : decode jdk_42_method_3_code 6 = .ok (.invokespecial 27, 3) := by decide +kernel
theorem d6_9 : decode jdk_42_method_3_code 9 = .ok (.return_, 1) := by decide +kernel
theorem ef_ctSI (m : MethodId) (x0 : Addr) (x1 : Addr) : entryFrame m #[(.ref x0), (.ref x1)] 2 = mkF m 0 #[.val (.ref x0), .val (.ref x1)] [] := by first | (simp [entryFrame, mkF, argsToLocals, Value.category]; done) | rfl
theorem pd___CIILjava_lang_Void__V : parseMethodDescriptor "([CIILjava/lang/Void;)V" = some ⟨[(.array .char), .int, .int, (.object "java/lang/Void")], none⟩ := by decide +kernel
set_option maxRecDepth 65536 in
set_option maxHeartbeats 40000000 in
theorem ctSI (l : Launch) (Z : State) (a0 : Array Value) (hw : ∀ d ∈ tables_1, d.before a0 Z = true) (hE : EW Z a0 []) (s a : Addr) (ka : ClassId) (cs : List Int32) (cz : Int32) (h0 : Heap) (hO : Ext Z.heap h0) (hU : own_U Z) (hn : cs.length < 1073741823) (hcap : cs.length ≤ 18) (h16 : ∀ c ∈ cs, nar .char c = c) (V_a : Arv Z h0 a ka .char (Int32.ofNat cs.length) (cs.map Value.int) (.int 0)) (E_s : Exa Z h0 s "java/lang/String") (F_v : Fld Z h0 s "java/lang/String" "value" "[B" .null) (F_c : Fld Z h0 s "java/lang/String" "coder" "B" (.int 0)) (hs0 : Z.heap.size ≤ s) (ne_a_s : a ≠ s) (hco : Sta Z Z.heap "java/lang/String" "COMPACT_STRINGS" "Z" (.int cz)) (hcz : ¬ cz = 0) (hpos : 0 < cs.length) :
    Ct false l Z [] [] (⟨"java/lang/String", "<init>", "([C)V"⟩ : MethodName) jdk_42_method_3_code 2 none ({ frames := 5, cells := 4, slots := 54, locals := 74 } : Room) #[(.ref s), (.ref a)] h0 [s] [s] (fun v h => v = none ∧ ST Z h s cs) := by
  refine Ct.of_wp (a0 := a0) (Ls := #[.val (.ref s), .val (.ref a)]) (plainFor_of_name pn_java_lang_String) hE hO (by intro x hx; cases List.mem_singleton.mp hx; exact hs0) (fun m => ef_ctSI m s a) ?_
  refine Wp.aloadN d6_0 (pc' := 1) rfl rfl rfl ?_
  refine Wp.aloadN d6_1 (pc' := 2) rfl rfl rfl ?_
  refine Wp.iconst (x := (0 : Int32)) d6_2 (pc' := 3) rfl rfl ?_
  refine Wp.aloadN d6_3 (pc' := 4) rfl rfl rfl ?_
  refine Wp.alen V_a d6_4 (pc' := 5) rfl ?_
  refine Wp.aconstNull d6_5 (pc' := 6) rfl ?_
  refine Wp.old fun hOc => ?_
  refine Wp.callI (a := s) (W := 0) (argsL := [(.ref a), (.int (0 : Int32)), (.int (Int32.ofNat cs.length)), .null]) (rest := []) rfl (ctSI4 l Z a0 hw hE s a ka cs cz h0 hOc hU hn hcap h16 V_a E_s F_v F_c hs0 ne_a_s hco hcz hpos) rfl rfl (hw _ (List.mem_of_getElem? (i := 41) rfl)) (hw _ (List.mem_of_getElem? (i := 42) rfl)) (hw _ (List.mem_of_getElem? (i := 44) rfl)) (hw _ (List.mem_of_getElem? (i := 37) rfl)) (by decide) (lenOf pd___CIILjava_lang_Void__V rfl) d6_6 rfl rfl rfl (Nat.le_of_eq rfl) (pc' := 9) rfl (by simp) (by intro x hx; simp only [List.mem_cons, List.not_mem_nil, or_false] at hx; rcases hx with rfl; exact (Or.inl (by simp))) (by decide) (by decide) (k' := 4) (n' := 54) rfl rfl (by decide) (by decide) (fun vh1 h1 zh1 Kh1 qh1 => ?_)
  obtain ⟨rfl, S_s⟩ := qh1
  replace V_a := V_a.keep Kh1 (ninS (by omega : a ≠ s) nin0)
  replace E_s := E_s.keep Kh1
  refine Wp.eqS (S' := []) rfl ?_
  refine Wp.retn rfl d6_9 (by decide) (by decide) ?_
  exact ⟨rfl, S_s⟩
theorem d14_0 : decode jdk_42_method_154_code 0 = .ok (.getstatic 38, 3) := by decide +kernel
theorem d14_3 : decode jdk_42_method_154_code 3 = .ok (.ifCond .eq 14, 3) := by decide +kernel
theorem d14_6 : decode jdk_42_method_154_code 6 = .ok (.aload_n 0, 1) := by decide +kernel
theorem d14_7 : decode jdk_42_method_154_code 7 = .ok (.getfield 15, 3) := by decide +kernel
theorem d14_10 : decode jdk_42_method_154_code 10 = .ok (.ifCond .ne 7, 3) := by decide +kernel
theorem d14_13 : decode jdk_42_method_154_code 13 = .ok (.iconst 1, 1) := by decide +kernel
theorem d14_14 : decode jdk_42_method_154_code 14 = .ok (.goto 4, 3) := by decide +kernel
theorem d14_17 : decode jdk_42_method_154_code 17 = .ok (.iconst 0, 1) := by decide +kernel
theorem d14_18 : decode jdk_42_method_154_code 18 = .ok (.ireturn, 1) := by decide +kernel
theorem ef_ctISL (m : MethodId) (x0 : Addr) : entryFrame m #[(.ref x0)] 1 = mkF m 0 #[.val (.ref x0)] [] := by first | (simp [entryFrame, mkF, argsToLocals, Value.category]; done) | rfl
set_option maxRecDepth 65536 in
set_option maxHeartbeats 40000000 in
theorem ctISL (l : Launch) (Z : State) (a0 : Array Value) (hw : ∀ d ∈ tables_1, d.before a0 Z = true) (hE : EW Z a0 []) (s : Addr) (w cz : Int32) (h0 : Heap) (hO : Ext Z.heap h0) (C_s : Fld Z h0 s "java/lang/String" "coder" "B" (.int w)) (hco : Sta Z Z.heap "java/lang/String" "COMPACT_STRINGS" "Z" (.int cz)) (hcz : ¬ cz = 0) :
    Ct false l Z [] [] (⟨"java/lang/String", "isLatin1", "()Z"⟩ : MethodName) jdk_42_method_154_code 1 (some .boolean) ({ frames := 0, cells := 0, slots := 0, locals := 0 } : Room) #[(.ref s)] h0 [] [] (fun v h => v = some (.int (if w = 0 then 1 else 0))) := by
  refine Ct.of_wp (a0 := a0) (Ls := #[.val (.ref s)]) (plainFor_of_name pn_java_lang_String) hE hO nofun (fun m => ef_ctISL m s) ?_
  refine Wp.getS rfl (host := "") (Or.inl (hw _ (List.mem_of_getElem? (i := 48) rfl))) Via.refl hco d14_0 (pc' := 3) rfl ?_
  refine Wp.if_eq (pc1 := 17) (pc' := 6) d14_3 (by decide) (by decide) rfl (fun hc1 => by exact absurd hc1 hcz) (fun hc1 => ?_)
  refine Wp.aloadN d14_6 (pc' := 7) rfl rfl rfl ?_
  refine Wp.getF rfl (host := "") (Or.inl (hw _ (List.mem_of_getElem? (i := 60) rfl))) Via.refl C_s d14_7 (pc' := 10) rfl ?_
  refine Wp.if_ne (pc1 := 17) (pc' := 13) d14_10 (by decide) (by decide) rfl (fun hc2 => ?_) (fun hc2 => ?_)
  · have hc2 : ¬ (w = (0 : Int32)) := hc2
    refine Wp.iconst (x := (0 : Int32)) d14_17 (pc' := 18) rfl rfl ?_
    refine Wp.retN (x' := (0 : Int32)) (t := .boolean) rfl (by simp) rfl d14_18 (by decide) (by decide) ?_
    rw [if_neg hc2]
  · have hc2 : w = (0 : Int32) := hc2
    refine Wp.iconst (x := (1 : Int32)) d14_13 (pc' := 14) rfl rfl ?_
    refine Wp.goto (pc' := 18) d14_14 (by decide) (by decide) ?_
    refine Wp.retN (x' := (1 : Int32)) (t := .boolean) rfl (by simp) rfl d14_18 (by decide) (by decide) ?_
    rw [if_pos hc2]
theorem d4_0 : decode jdk_29_method_65_code 0 = .ok (.iload_n 0, 1) := by decide +kernel
theorem d4_1 : decode jdk_29_method_65_code 1 = .ok (.iload_n 1, 1) := by decide +kernel
theorem d4_2 : decode jdk_29_method_65_code 2 = .ok (.if_icmp .lt 7, 3) := by decide +kernel
theorem d4_5 : decode jdk_29_method_65_code 5 = .ok (.iload_n 0, 1) := by decide +kernel
theorem d4_6 : decode jdk_29_method_65_code 6 = .ok (.goto 4, 3) := by decide +kernel
theorem d4_9 : decode jdk_29_method_65_code 9 = .ok (.iload_n 1, 1) := by decide +kernel
theorem d4_10 : decode jdk_29_method_65_code 10 = .ok (.ireturn, 1) := by decide +kernel
theorem ef_ctMAX (m : MethodId) (x0 : Int32) (x1 : Int32) : entryFrame m #[(.int x0), (.int x1)] 2 = mkF m 0 #[.val (.int x0), .val (.int x1)] [] := by first | (simp [entryFrame, mkF, argsToLocals, Value.category]; done) | rfl
set_option maxRecDepth 65536 in
set_option maxHeartbeats 40000000 in
theorem ctMAX (l : Launch) (Z : State) (a0 : Array Value) (hw : ∀ d ∈ tables_1, d.before a0 Z = true) (hE : EW Z a0 []) (x z : Int32) (h0 : Heap) (hO : Ext Z.heap h0) :
    Ct false l Z [] [] (⟨"java/lang/Math", "max", "(II)I"⟩ : MethodName) jdk_29_method_65_code 2 (some .int) ({ frames := 0, cells := 0, slots := 0, locals := 0 } : Room) #[(.int x), (.int z)] h0 [] [] (fun v h => v = some (.int (if x < z then z else x))) := by
  refine Ct.of_wp (a0 := a0) (Ls := #[.val (.int x), .val (.int z)]) (Jvm.Free.JP.mathPlain rfl (by decide +kernel)) hE hO nofun (fun m => ef_ctMAX m x z) ?_
  refine Wp.iloadN d4_0 (pc' := 1) rfl rfl ?_
  refine Wp.iloadN d4_1 (pc' := 2) rfl rfl ?_
  refine Wp.icmp_lt (pc1 := 9) (pc' := 5) d4_2 (by decide) (by decide) rfl (fun hc1 => ?_) (fun hc1 => ?_)
  · have hc1 : x < z := hc1
    refine Wp.iloadN d4_9 (pc' := 10) rfl rfl ?_
    refine Wp.retI rfl d4_10 (by decide) (by decide) ?_
    rw [if_pos hc1]
  · have hc1 : ¬ (x < z) := hc1
    refine Wp.iloadN d4_5 (pc' := 6) rfl rfl ?_
    refine Wp.goto (pc' := 10) d4_6 (by decide) (by decide) ?_
    refine Wp.retI rfl d4_10 (by decide) (by decide) ?_
    rw [if_neg hc1]
theorem d3_0 : decode jdk_29_method_69_code 0 = .ok (.iload_n 0, 1) := by decide +kernel
theorem d3_1 : decode jdk_29_method_69_code 1 = .ok (.iload_n 1, 1) := by decide +kernel
theorem d3_2 : decode jdk_29_method_69_code 2 = .ok (.if_icmp .gt 7, 3) := by decide +kernel
theorem d3_5 : decode jdk_29_method_69_code 5 = .ok (.iload_n 0, 1) := by decide +kernel
theorem d3_6 : decode jdk_29_method_69_code 6 = .ok (.goto 4, 3) := by decide +kernel
theorem d3_9 : decode jdk_29_method_69_code 9 = .ok (.iload_n 1, 1) := by decide +kernel
theorem d3_10 : decode jdk_29_method_69_code 10 = .ok (.ireturn, 1) := by decide +kernel
theorem ef_ctMIN (m : MethodId) (x0 : Int32) (x1 : Int32) : entryFrame m #[(.int x0), (.int x1)] 2 = mkF m 0 #[.val (.int x0), .val (.int x1)] [] := by first | (simp [entryFrame, mkF, argsToLocals, Value.category]; done) | rfl
set_option maxRecDepth 65536 in
set_option maxHeartbeats 40000000 in
theorem ctMIN (l : Launch) (Z : State) (a0 : Array Value) (hw : ∀ d ∈ tables_1, d.before a0 Z = true) (hE : EW Z a0 []) (x z : Int32) (h0 : Heap) (hO : Ext Z.heap h0) :
    Ct false l Z [] [] (⟨"java/lang/Math", "min", "(II)I"⟩ : MethodName) jdk_29_method_69_code 2 (some .int) ({ frames := 0, cells := 0, slots := 0, locals := 0 } : Room) #[(.int x), (.int z)] h0 [] [] (fun v h => v = some (.int (if z < x then z else x))) := by
  refine Ct.of_wp (a0 := a0) (Ls := #[.val (.int x), .val (.int z)]) (Jvm.Free.JP.mathPlain rfl (by decide +kernel)) hE hO nofun (fun m => ef_ctMIN m x z) ?_
  refine Wp.iloadN d3_0 (pc' := 1) rfl rfl ?_
  refine Wp.iloadN d3_1 (pc' := 2) rfl rfl ?_
  refine Wp.icmp_gt (pc1 := 9) (pc' := 5) d3_2 (by decide) (by decide) rfl (fun hc1 => ?_) (fun hc1 => ?_)
  · have hc1 : z < x := hc1
    refine Wp.iloadN d3_9 (pc' := 10) rfl rfl ?_
    refine Wp.retI rfl d3_10 (by decide) (by decide) ?_
    rw [if_pos hc1]
  · have hc1 : ¬ (z < x) := hc1
    refine Wp.iloadN d3_5 (pc' := 6) rfl rfl ?_
    refine Wp.goto (pc' := 10) d3_6 (by decide) (by decide) ?_
    refine Wp.retI rfl d3_10 (by decide) (by decide) ?_
    rw [if_neg hc1]
theorem d25_0 : decode jdk_52_method_6_code 0 = .ok (.aload_n 0, 1) := by decide +kernel
theorem d25_1 : decode jdk_52_method_6_code 1 = .ok (.arraylength, 1) := by decide +kernel
theorem d25_2 : decode jdk_52_method_6_code 2 = .ok (.iconst 1, 1) := by decide +kernel
theorem d25_3 : decode jdk_52_method_6_code 3 = .ok (.ishr, 1) := by decide +kernel
theorem d25_4 : decode jdk_52_method_6_code 4 = .ok (.ireturn, 1) := by decide +kernel
theorem ef_ctULEN (m : MethodId) (x0 : Addr) : entryFrame m #[(.ref x0)] 1 = mkF m 0 #[.val (.ref x0)] [] := by first | (simp [entryFrame, mkF, argsToLocals, Value.category]; done) | rfl
set_option maxRecDepth 65536 in
set_option maxHeartbeats 40000000 in
theorem ctULEN (l : Launch) (Z : State) (a0 : Array Value) (hw : ∀ d ∈ tables_1, d.before a0 Z = true) (hE : EW Z a0 []) (d : Addr) (kd : ClassId) (n : Nat) (vs : List Value) (h0 : Heap) (hO : Ext Z.heap h0) (V_d : Arv Z h0 d kd .byte (Int32.ofNat (2 * n)) vs (.int 0)) (hn : n < 1073741823) :
    Ct false l Z [] [] (⟨"java/lang/StringUTF16", "length", "([B)I"⟩ : MethodName) jdk_52_method_6_code 1 (some .int) ({ frames := 0, cells := 0, slots := 0, locals := 0 } : Room) #[(.ref d)] h0 [] [] (fun v h => v = some (.int (Int32.ofNat n))) := by
  refine Ct.of_wp (a0 := a0) (Ls := #[.val (.ref d)]) (plainFor_of_name pn_java_lang_StringUTF16) hE hO nofun (fun m => ef_ctULEN m d) ?_
  refine Wp.aloadN d25_0 (pc' := 1) rfl rfl rfl ?_
  refine Wp.alen V_d d25_1 (pc' := 2) rfl ?_
  refine Wp.iconst (x := (1 : Int32)) d25_2 (pc' := 3) rfl rfl ?_
  refine Wp.ishr d25_3 (pc' := 4) rfl ?_
  refine Wp.retI rfl d25_4 (by decide) (by decide) ?_
  rw [on_shr1 (by omega)]
def own_F (Z : State) : Prop := ∃ fv, Sta Z Z.heap "jdk/internal/util/Preconditions" "SIOOBE_FORMATTER" "Ljava/util/function/BiFunction;" fv ∧ (fv = .null ∨ ∃ fo, fv = .ref fo)
theorem d17_0 : decode jdk_41_method_11_code 0 = .ok (.iload_n 0, 1) := by decide +kernel
theorem d17_1 : decode jdk_41_method_11_code 1 = .ok (.ifCond .lt 8, 3) := by decide +kernel
theorem d17_4 : decode jdk_41_method_11_code 4 = .ok (.iload_n 0, 1) := by decide +kernel
theorem d17_5 : decode jdk_41_method_11_code 5 = .ok (.iload_n 1, 1) := by decide +kernel
theorem d17_6 : decode jdk_41_method_11_code 6 = .ok (.if_icmp .lt 10, 3) := by decide +kernel
theorem d17_9 : decode jdk_41_method_11_code 9 = .ok (.aload_n 2, 1) := by decide +kernel
theorem d17_10 : decode jdk_41_method_11_code 10 = .ok (.iload_n 0, 1) := by decide +kernel
theorem d17_11 : decode jdk_41_method_11_code 11 = .ok (.iload_n 1, 1) := by decide +kernel
theorem d17_12 : decode jdk_41_method_11_code 12 = .ok (.invokestatic 95, 3) := by decide +kernel
theorem d17_15 : decode jdk_41_method_11_code 15 = .ok (.athrow, 1) := by decide +kernel
theorem d17_16 : decode jdk_41_method_11_code 16 = .ok (.iload_n 0, 1) := by decide +kernel
theorem d17_17 : decode jdk_41_method_11_code 17 = .ok (.ireturn, 1) := by decide +kernel
theorem pn_jdk_internal_util_Preconditions : plainName "jdk/internal/util/Preconditions" = true := by first | (simp [plainName, overriddenIn]; done) | decide +kernel
theorem ef_ctCIXn (m : MethodId) (x0 : Int32) (x1 : Int32) : entryFrame m #[(.int x0), (.int x1), .null] 3 = mkF m 0 #[.val (.int x0), .val (.int x1), .val .null] [] := by first | (simp [entryFrame, mkF, argsToLocals, Value.category]; done) | rfl
set_option maxRecDepth 65536 in
set_option maxHeartbeats 40000000 in
theorem ctCIXn (l : Launch) (Z : State) (a0 : Array Value) (hw : ∀ d ∈ tables_1, d.before a0 Z = true) (hE : EW Z a0 []) (i m_ : Nat) (h0 : Heap) (hO : Ext Z.heap h0) (him : i < m_) (hm : m_ < 2147483648) :
    Ct false l Z [] [] (⟨"jdk/internal/util/Preconditions", "checkIndex", "(IILjava/util/function/BiFunction;)I"⟩ : MethodName) jdk_41_method_11_code 3 (some .int) ({ frames := 0, cells := 0, slots := 0, locals := 0 } : Room) #[(.int (Int32.ofNat i)), (.int (Int32.ofNat m_)), .null] h0 [] [] (fun v h => ∃ z : Int32, v = some (.int z)) := by
  refine Ct.of_wp (a0 := a0) (Ls := #[.val (.int (Int32.ofNat i)), .val (.int (Int32.ofNat m_)), .val .null]) (plainFor_of_name pn_jdk_internal_util_Preconditions) hE hO nofun (fun m => ef_ctCIXn m (Int32.ofNat i) (Int32.ofNat m_)) ?_
  refine Wp.iloadN d17_0 (pc' := 1) rfl rfl ?_
  refine Wp.if_lt (pc1 := 9) (pc' := 4) d17_1 (by decide) (by decide) rfl (fun hc1 => by exact absurd hc1 (on_nneg (by omega))) (fun hc1 => ?_)
  refine Wp.iloadN d17_4 (pc' := 5) rfl rfl ?_
  refine Wp.iloadN d17_5 (pc' := 6) rfl rfl ?_
  refine Wp.icmp_lt (pc1 := 16) (pc' := 9) d17_6 (by decide) (by decide) rfl (fun hc2 => ?_) (fun hc2 => by exact absurd (on_lt hm him) hc2)
  refine Wp.iloadN d17_16 (pc' := 17) rfl rfl ?_
  refine Wp.retI rfl d17_17 (by decide) (by decide) ?_
  exact ⟨_, rfl⟩
theorem d16_0 : decode jdk_42_method_155_code 0 = .ok (.iload_n 0, 1) := by decide +kernel
theorem d16_1 : decode jdk_42_method_155_code 1 = .ok (.iload_n 1, 1) := by decide +kernel
theorem d16_2 : decode jdk_42_method_155_code 2 = .ok (.getstatic 1053, 3) := by decide +kernel
theorem d16_5 : decode jdk_42_method_155_code 5 = .ok (.invokestatic 1059, 3) := by decide +kernel
theorem d16_8 : decode jdk_42_method_155_code 8 = .ok (.pop, 1) := by decide +kernel
theorem d16_9 : decode jdk_42_method_155_code 9 = .ok (.return_, 1) := by decide +kernel
theorem ef_ctSCIn (m : MethodId) (x0 : Int32) (x1 : Int32) : entryFrame m #[(.int x0), (.int x1)] 2 = mkF m 0 #[.val (.int x0), .val (.int x1)] [] := by first | (simp [entryFrame, mkF, argsToLocals, Value.category]; done) | rfl
theorem pd__IILjava_util_function_BiFunction__I : parseMethodDescriptor "(IILjava/util/function/BiFunction;)I" = some ⟨[.int, .int, (.object "java/util/function/BiFunction")], some .int⟩ := by decide +kernel
set_option maxRecDepth 65536 in
set_option maxHeartbeats 40000000 in
theorem ctSCIn (l : Launch) (Z : State) (a0 : Array Value) (hw : ∀ d ∈ tables_1, d.before a0 Z = true) (hE : EW Z a0 []) (i m_ : Nat) (h0 : Heap) (hO : Ext Z.heap h0) (him : i < m_) (hm : m_ < 2147483648) (hfs : Sta Z Z.heap "jdk/internal/util/Preconditions" "SIOOBE_FORMATTER" "Ljava/util/function/BiFunction;" .null) :
    Ct false l Z [] [] (⟨"java/lang/String", "checkIndex", "(II)V"⟩ : MethodName) jdk_42_method_155_code 2 none ({ frames := 1, cells := 0, slots := 0, locals := 14 } : Room) #[(.int (Int32.ofNat i)), (.int (Int32.ofNat m_))] h0 [] [] (fun v h => v = none) := by
  refine Ct.of_wp (a0 := a0) (Ls := #[.val (.int (Int32.ofNat i)), .val (.int (Int32.ofNat m_))]) (plainFor_of_name pn_java_lang_String) hE hO nofun (fun m => ef_ctSCIn m (Int32.ofNat i) (Int32.ofNat m_)) ?_
  refine Wp.iloadN d16_0 (pc' := 1) rfl rfl ?_
  refine Wp.iloadN d16_1 (pc' := 2) rfl rfl ?_
  refine Wp.getS rfl (host := "") (Or.inl (hw _ (List.mem_of_getElem? (i := 85) rfl))) Via.refl hfs d16_2 (pc' := 5) rfl ?_
  refine Wp.old fun hOc => ?_
  refine Wp.callS (W := 0) (argsL := [(.int (Int32.ofNat i)), (.int (Int32.ofNat m_)), .null]) (rest := []) rfl (ctCIXn l Z a0 hw hE i m_ h0 hOc him hm) (hw _ (List.mem_of_getElem? (i := 87) rfl)) (hw _ (List.mem_of_getElem? (i := 88) rfl)) (hw _ (List.mem_of_getElem? (i := 89) rfl)) (hw _ (List.mem_of_getElem? (i := 86) rfl)) (by decide) (lenOf pd__IILjava_util_function_BiFunction__I rfl) d16_5 rfl rfl rfl (Nat.le_of_eq rfl) (pc' := 8) rfl nofun nofun (by decide) (by decide) (k' := 0) (n' := 0) rfl rfl (by decide) (by decide) (fun vh1 h1 zh1 Kh1 qh1 => ?_)
  obtain ⟨z, rfl⟩ := qh1
  refine Wp.eqS (S' := [(.int z)]) rfl ?_
  refine Wp.pop d16_8 (pc' := 9) rfl rfl ?_
  refine Wp.retn rfl d16_9 (by decide) (by decide) ?_
  rfl
theorem ef_ctCIXr (m : MethodId) (x0 : Int32) (x1 : Int32) (x2 : Addr) : entryFrame m #[(.int x0), (.int x1), (.ref x2)] 3 = mkF m 0 #[.val (.int x0), .val (.int x1), .val (.ref x2)] [] := by first | (simp [entryFrame, mkF, argsToLocals, Value.category]; done) | rfl
set_option maxRecDepth 65536 in
set_option maxHeartbeats 40000000 in
theorem ctCIXr (l : Launch) (Z : State) (a0 : Array Value) (hw : ∀ d ∈ tables_1, d.before a0 Z = true) (hE : EW Z a0 []) (i m_ : Nat) (fo : Addr) (h0 : Heap) (hO : Ext Z.heap h0) (him : i < m_) (hm : m_ < 2147483648) :
    Ct false l Z [] [] (⟨"jdk/internal/util/Preconditions", "checkIndex", "(IILjava/util/function/BiFunction;)I"⟩ : MethodName) jdk_41_method_11_code 3 (some .int) ({ frames := 0, cells := 0, slots := 0, locals := 0 } : Room) #[(.int (Int32.ofNat i)), (.int (Int32.ofNat m_)), (.ref fo)] h0 [] [] (fun v h => ∃ z : Int32, v = some (.int z)) := by
  refine Ct.of_wp (a0 := a0) (Ls := #[.val (.int (Int32.ofNat i)), .val (.int (Int32.ofNat m_)), .val (.ref fo)]) (plainFor_of_name pn_jdk_internal_util_Preconditions) hE hO nofun (fun m => ef_ctCIXr m (Int32.ofNat i) (Int32.ofNat m_) fo) ?_
  refine Wp.iloadN d17_0 (pc' := 1) rfl rfl ?_
  refine Wp.if_lt (pc1 := 9) (pc' := 4) d17_1 (by decide) (by decide) rfl (fun hc1 => by exact absurd hc1 (on_nneg (by omega))) (fun hc1 => ?_)
  refine Wp.iloadN d17_4 (pc' := 5) rfl rfl ?_
  refine Wp.iloadN d17_5 (pc' := 6) rfl rfl ?_
  refine Wp.icmp_lt (pc1 := 16) (pc' := 9) d17_6 (by decide) (by decide) rfl (fun hc2 => ?_) (fun hc2 => by exact absurd (on_lt hm him) hc2)
  refine Wp.iloadN d17_16 (pc' := 17) rfl rfl ?_
  refine Wp.retI rfl d17_17 (by decide) (by decide) ?_
  exact ⟨_, rfl⟩
theorem ef_ctSCIr (m : MethodId) (x0 : Int32) (x1 : Int32) : entryFrame m #[(.int x0), (.int x1)] 2 = mkF m 0 #[.val (.int x0), .val (.int x1)] [] := by first | (simp [entryFrame, mkF, argsToLocals, Value.category]; done) | rfl
set_option maxRecDepth 65536 in
set_option maxHeartbeats 40000000 in
theorem ctSCIr (l : Launch) (Z : State) (a0 : Array Value) (hw : ∀ d ∈ tables_1, d.before a0 Z = true) (hE : EW Z a0 []) (i m_ : Nat) (fo : Addr) (h0 : Heap) (hO : Ext Z.heap h0) (him : i < m_) (hm : m_ < 2147483648) (hfs : Sta Z Z.heap "jdk/internal/util/Preconditions" "SIOOBE_FORMATTER" "Ljava/util/function/BiFunction;" (.ref fo)) :
    Ct false l Z [] [] (⟨"java/lang/String", "checkIndex", "(II)V"⟩ : MethodName) jdk_42_method_155_code 2 none ({ frames := 1, cells := 0, slots := 0, locals := 14 } : Room) #[(.int (Int32.ofNat i)), (.int (Int32.ofNat m_))] h0 [] [] (fun v h => v = none) := by
  refine Ct.of_wp (a0 := a0) (Ls := #[.val (.int (Int32.ofNat i)), .val (.int (Int32.ofNat m_))]) (plainFor_of_name pn_java_lang_String) hE hO nofun (fun m => ef_ctSCIr m (Int32.ofNat i) (Int32.ofNat m_)) ?_
  refine Wp.iloadN d16_0 (pc' := 1) rfl rfl ?_
  refine Wp.iloadN d16_1 (pc' := 2) rfl rfl ?_
  refine Wp.getS rfl (host := "") (Or.inl (hw _ (List.mem_of_getElem? (i := 85) rfl))) Via.refl hfs d16_2 (pc' := 5) rfl ?_
  refine Wp.old fun hOc => ?_
  refine Wp.callS (W := 0) (argsL := [(.int (Int32.ofNat i)), (.int (Int32.ofNat m_)), (.ref fo)]) (rest := []) rfl (ctCIXr l Z a0 hw hE i m_ fo h0 hOc him hm) (hw _ (List.mem_of_getElem? (i := 87) rfl)) (hw _ (List.mem_of_getElem? (i := 88) rfl)) (hw _ (List.mem_of_getElem? (i := 89) rfl)) (hw _ (List.mem_of_getElem? (i := 86) rfl)) (by decide) (lenOf pd__IILjava_util_function_BiFunction__I rfl) d16_5 rfl rfl rfl (Nat.le_of_eq rfl) (pc' := 8) rfl nofun nofun (by decide) (by decide) (k' := 0) (n' := 0) rfl rfl (by decide) (by decide) (fun vh1 h1 zh1 Kh1 qh1 => ?_)
  obtain ⟨z, rfl⟩ := qh1
  refine Wp.eqS (S' := [(.int z)]) rfl ?_
  refine Wp.pop d16_8 (pc' := 9) rfl rfl ?_
  refine Wp.retn rfl d16_9 (by decide) (by decide) ?_
  rfl
theorem ef_ctSCI (m : MethodId) (x0 : Int32) (x1 : Int32) : entryFrame m #[(.int x0), (.int x1)] 2 = mkF m 0 #[.val (.int x0), .val (.int x1)] [] := by first | (simp [entryFrame, mkF, argsToLocals, Value.category]; done) | rfl
set_option maxRecDepth 65536 in
set_option maxHeartbeats 40000000 in
theorem ctSCI (l : Launch) (Z : State) (a0 : Array Value) (hw : ∀ d ∈ tables_1, d.before a0 Z = true) (hE : EW Z a0 []) (i m_ : Nat) (h0 : Heap) (hO : Ext Z.heap h0) (him : i < m_) (hm : m_ < 2147483648) (hF : own_F Z) :
    Ct false l Z [] [] (⟨"java/lang/String", "checkIndex", "(II)V"⟩ : MethodName) jdk_42_method_155_code 2 none ({ frames := 1, cells := 0, slots := 0, locals := 14 } : Room) #[(.int (Int32.ofNat i)), (.int (Int32.ofNat m_))] h0 [] [] (fun v h => v = none) := by
  obtain ⟨fv, hfs, hv⟩ := hF
  rcases hv with rfl | ⟨fo, rfl⟩
  · exact ctSCIn l Z a0 hw hE i m_ h0 hO him hm hfs
  · exact ctSCIr l Z a0 hw hE i m_ fo h0 hO him hm hfs
theorem d15_0 : decode jdk_43_method_2_code 0 = .ok (.iload_n 1, 1) := by decide +kernel
theorem d15_1 : decode jdk_43_method_2_code 1 = .ok (.aload_n 0, 1) := by decide +kernel
theorem d15_2 : decode jdk_43_method_2_code 2 = .ok (.arraylength, 1) := by decide +kernel
theorem d15_3 : decode jdk_43_method_2_code 3 = .ok (.invokestatic 9, 3) := by decide +kernel
theorem d15_6 : decode jdk_43_method_2_code 6 = .ok (.aload_n 0, 1) := by decide +kernel
theorem d15_7 : decode jdk_43_method_2_code 7 = .ok (.iload_n 1, 1) := by decide +kernel
theorem d15_8 : decode jdk_43_method_2_code 8 = .ok (.baload, 1) := by decide +kernel
theorem d15_9 : decode jdk_43_method_2_code 9 = .ok (.sipush 255, 3) := by decide +kernel
theorem d15_12 : decode jdk_43_method_2_code 12 = .ok (.iand, 1) := by decide +kernel
theorem d15_13 : decode jdk_43_method_2_code 13 = .ok (.i2c, 1) := by decide +kernel
theorem d15_14 : decode jdk_43_method_2_code 14 = .ok (.ireturn, 1) := by decide +kernel
theorem pn_java_lang_StringLatin1 : plainName "java/lang/StringLatin1" = true := by first | (simp [plainName, overriddenIn]; done) | decide +kernel
theorem ef_ctLCA (m : MethodId) (x0 : Addr) (x1 : Int32) : entryFrame m #[(.ref x0), (.int x1)] 2 = mkF m 0 #[.val (.ref x0), .val (.int x1)] [] := by first | (simp [entryFrame, mkF, argsToLocals, Value.category]; done) | rfl
theorem pd__II_V : parseMethodDescriptor "(II)V" = some ⟨[.int, .int], none⟩ := by decide +kernel
set_option maxRecDepth 65536 in
set_option maxHeartbeats 40000000 in
theorem ctLCA (l : Launch) (Z : State) (a0 : Array Value) (hw : ∀ d ∈ tables_1, d.before a0 Z = true) (hE : EW Z a0 []) (b : Addr) (kb : ClassId) (i : Nat) (c : Int32) (cs : List Int32) (h0 : Heap) (hO : Ext Z.heap h0) (hF : own_F Z) (hc : cs[i]? = some c) (hn : cs.length < 1073741823) (hl : ∀ c ∈ cs, ¬ (255 : Int32) < c) (h16 : ∀ c ∈ cs, nar .char c = c) (V_b : Arv Z h0 b kb .byte (Int32.ofNat cs.length) (cs.map fun c => Value.int (lb c)) (.int 0)) :
    Ct false l Z [] [] (⟨"java/lang/StringLatin1", "charAt", "([BI)C"⟩ : MethodName) jdk_43_method_2_code 2 (some .char) ({ frames := 2, cells := 0, slots := 0, locals := 27 } : Room) #[(.ref b), (.int (Int32.ofNat i))] h0 [] [] (fun v h => v = some (.int c)) := by
  refine Ct.of_wp (a0 := a0) (Ls := #[.val (.ref b), .val (.int (Int32.ofNat i))]) (plainFor_of_name pn_java_lang_StringLatin1) hE hO nofun (fun m => ef_ctLCA m b (Int32.ofNat i)) ?_
  have hin : i < cs.length := (List.getElem?_eq_some_iff.mp hc).1
  have hm := List.mem_of_getElem? hc
  refine Wp.iloadN d15_0 (pc' := 1) rfl rfl ?_
  refine Wp.aloadN d15_1 (pc' := 2) rfl rfl rfl ?_
  refine Wp.alen V_b d15_2 (pc' := 3) rfl ?_
  refine Wp.old fun hOc => ?_
  refine Wp.callS (W := 0) (argsL := [(.int (Int32.ofNat i)), (.int (Int32.ofNat cs.length))]) (rest := []) rfl (ctSCI l Z a0 hw hE i cs.length h0 hOc hin (by omega) hF) (hw _ (List.mem_of_getElem? (i := 82) rfl)) (hw _ (List.mem_of_getElem? (i := 83) rfl)) (hw _ (List.mem_of_getElem? (i := 84) rfl)) (hw _ (List.mem_of_getElem? (i := 37) rfl)) (by decide) (lenOf pd__II_V rfl) d15_3 rfl rfl rfl (Nat.le_of_eq rfl) (pc' := 6) rfl nofun nofun (by decide) (by decide) (k' := 0) (n' := 0) rfl rfl (by decide) (by decide) (fun vh1 h1 zh1 Kh1 qh1 => ?_)
  obtain rfl := qh1
  replace V_b := V_b.keep Kh1 nin0
  refine Wp.eqS (S' := []) rfl ?_
  refine Wp.aloadN d15_6 (pc' := 7) rfl rfl rfl ?_
  refine Wp.iloadN d15_7 (pc' := 8) rfl rfl ?_
  refine Wp.baload V_b (on_nneg (by omega)) (on_lt (by omega) hin) (v := .int (lb c)) (by rw [on_clamp (by omega)]; simp [List.getD_eq_getElem?_getD, hc]) d15_8 (pc' := 9) rfl ?_
  refine Wp.sipush (x := (255 : Int32)) d15_9 (pc' := 12) rfl rfl ?_
  refine Wp.iand d15_12 (pc' := 13) rfl ?_
  refine Wp.i2c d15_13 (pc' := 14) rfl ?_
  refine Wp.retN (t := .char) rfl (by simp) rfl d15_14 (by decide) (by decide) ?_
  rw [own_lat (hl c hm) (ch_nn (h16 c hm)).1, h16 c hm]
theorem d24_0 : decode jdk_52_method_91_code 0 = .ok (.iload_n 0, 1) := by decide +kernel
theorem d24_1 : decode jdk_52_method_91_code 1 = .ok (.aload_n 1, 1) := by decide +kernel
theorem d24_2 : decode jdk_52_method_91_code 2 = .ok (.invokestatic 48, 3) := by decide +kernel
theorem d24_5 : decode jdk_52_method_91_code 5 = .ok (.invokestatic 414, 3) := by decide +kernel
theorem d24_8 : decode jdk_52_method_91_code 8 = .ok (.return_, 1) := by decide +kernel
theorem ef_ctUCI (m : MethodId) (x0 : Int32) (x1 : Addr) : entryFrame m #[(.int x0), (.ref x1)] 2 = mkF m 0 #[.val (.int x0), .val (.ref x1)] [] := by first | (simp [entryFrame, mkF, argsToLocals, Value.category]; done) | rfl
theorem pd___B_I : parseMethodDescriptor "([B)I" = some ⟨[(.array .byte)], some .int⟩ := by decide +kernel
set_option maxRecDepth 65536 in
set_option maxHeartbeats 40000000 in
theorem ctUCI (l : Launch) (Z : State) (a0 : Array Value) (hw : ∀ d ∈ tables_1, d.before a0 Z = true) (hE : EW Z a0 []) (b : Addr) (kb : ClassId) (i : Nat) (c : Int32) (cs : List Int32) (h0 : Heap) (hO : Ext Z.heap h0) (hF : own_F Z) (hc : cs[i]? = some c) (hn : cs.length < 1073741823) (V_b : Arv Z h0 b kb .byte (Int32.ofNat (2 * cs.length)) (utf cs) (.int 0)) :
    Ct false l Z [] [] (⟨"java/lang/StringUTF16", "checkIndex", "(I[B)V"⟩ : MethodName) jdk_52_method_91_code 2 none ({ frames := 2, cells := 0, slots := 0, locals := 27 } : Room) #[(.int (Int32.ofNat i)), (.ref b)] h0 [] [] (fun v h => v = none) := by
  refine Ct.of_wp (a0 := a0) (Ls := #[.val (.int (Int32.ofNat i)), .val (.ref b)]) (plainFor_of_name pn_java_lang_StringUTF16) hE hO nofun (fun m => ef_ctUCI m (Int32.ofNat i) b) ?_
  have hin : i < cs.length := (List.getElem?_eq_some_iff.mp hc).1
  have hm := List.mem_of_getElem? hc
  refine Wp.iloadN d24_0 (pc' := 1) rfl rfl ?_
  refine Wp.aloadN d24_1 (pc' := 2) rfl rfl rfl ?_
  refine Wp.old fun hOc => ?_
  refine Wp.callS (W := 1) (argsL := [(.ref b)]) (rest := [(.int (Int32.ofNat i))]) rfl (ctULEN l Z a0 hw hE b kb cs.length _ h0 hOc V_b hn) (hw _ (List.mem_of_getElem? (i := 118) rfl)) (hw _ (List.mem_of_getElem? (i := 119) rfl)) (hw _ (List.mem_of_getElem? (i := 120) rfl)) (hw _ (List.mem_of_getElem? (i := 51) rfl)) (by decide) (lenOf pd___B_I rfl) d24_2 rfl rfl rfl (Nat.le_of_eq rfl) (pc' := 5) rfl nofun nofun (by decide) (by decide) (k' := 0) (n' := 0) rfl rfl (by decide) (by decide) (fun vh1 h1 zh1 Kh1 qh1 => ?_)
  obtain rfl := qh1
  replace V_b := V_b.keep Kh1 nin0
  refine Wp.eqS (S' := [(.int (Int32.ofNat cs.length)), (.int (Int32.ofNat i))]) rfl ?_
  refine Wp.old fun hOc => ?_
  refine Wp.callS (W := 0) (argsL := [(.int (Int32.ofNat i)), (.int (Int32.ofNat cs.length))]) (rest := []) rfl (ctSCI l Z a0 hw hE i cs.length h1 hOc hin (by omega) hF) (hw _ (List.mem_of_getElem? (i := 121) rfl)) (hw _ (List.mem_of_getElem? (i := 83) rfl)) (hw _ (List.mem_of_getElem? (i := 84) rfl)) (hw _ (List.mem_of_getElem? (i := 37) rfl)) (by decide) (lenOf pd__II_V rfl) d24_5 rfl rfl rfl (Nat.le_of_eq rfl) (pc' := 8) rfl nofun nofun (by decide) (by decide) (k' := 0) (n' := 0) rfl rfl (by decide) (by decide) (fun vh2 h2 zh2 Kh2 qh2 => ?_)
  obtain rfl := qh2
  replace V_b := V_b.keep Kh2 nin0
  refine Wp.eqS (S' := []) rfl ?_
  refine Wp.retn rfl d24_8 (by decide) (by decide) ?_
  rfl
theorem d23_0 : decode jdk_52_method_83_code 0 = .ok (.iload_n 1, 1) := by decide +kernel
theorem d23_1 : decode jdk_52_method_83_code 1 = .ok (.aload_n 0, 1) := by decide +kernel
theorem d23_2 : decode jdk_52_method_83_code 2 = .ok (.invokestatic 67, 3) := by decide +kernel
theorem d23_5 : decode jdk_52_method_83_code 5 = .ok (.aload_n 0, 1) := by decide +kernel
theorem d23_6 : decode jdk_52_method_83_code 6 = .ok (.iload_n 1, 1) := by decide +kernel
theorem d23_7 : decode jdk_52_method_83_code 7 = .ok (.invokestatic 71, 3) := by decide +kernel
theorem d23_10 : decode jdk_52_method_83_code 10 = .ok (.ireturn, 1) := by decide +kernel
theorem ef_ctUCA (m : MethodId) (x0 : Addr) (x1 : Int32) : entryFrame m #[(.ref x0), (.int x1)] 2 = mkF m 0 #[.val (.ref x0), .val (.int x1)] [] := by first | (simp [entryFrame, mkF, argsToLocals, Value.category]; done) | rfl
theorem pd__I_B_V : parseMethodDescriptor "(I[B)V" = some ⟨[.int, (.array .byte)], none⟩ := by decide +kernel
set_option maxRecDepth 65536 in
set_option maxHeartbeats 40000000 in
theorem ctUCA (l : Launch) (Z : State) (a0 : Array Value) (hw : ∀ d ∈ tables_1, d.before a0 Z = true) (hE : EW Z a0 []) (b : Addr) (kb : ClassId) (i : Nat) (c : Int32) (cs : List Int32) (h0 : Heap) (hO : Ext Z.heap h0) (hU : own_U Z) (hF : own_F Z) (hc : cs[i]? = some c) (hn : cs.length < 1073741823) (h16 : ∀ c ∈ cs, nar .char c = c) (V_b : Arv Z h0 b kb .byte (Int32.ofNat (2 * cs.length)) (utf cs) (.int 0)) :
    Ct false l Z [] [] (⟨"java/lang/StringUTF16", "charAt", "([BI)C"⟩ : MethodName) jdk_52_method_83_code 2 (some .char) ({ frames := 3, cells := 0, slots := 0, locals := 40 } : Room) #[(.ref b), (.int (Int32.ofNat i))] h0 [] [] (fun v h => v = some (.int c)) := by
  refine Ct.of_wp (a0 := a0) (Ls := #[.val (.ref b), .val (.int (Int32.ofNat i))]) (plainFor_of_name pn_java_lang_StringUTF16) hE hO nofun (fun m => ef_ctUCA m b (Int32.ofNat i)) ?_
  have hin : i < cs.length := (List.getElem?_eq_some_iff.mp hc).1
  have hm := List.mem_of_getElem? hc
  refine Wp.iloadN d23_0 (pc' := 1) rfl rfl ?_
  refine Wp.aloadN d23_1 (pc' := 2) rfl rfl rfl ?_
  refine Wp.old fun hOc => ?_
  refine Wp.callS (W := 0) (argsL := [(.int (Int32.ofNat i)), (.ref b)]) (rest := []) rfl (ctUCI l Z a0 hw hE b kb i c cs h0 hOc hF hc hn V_b) (hw _ (List.mem_of_getElem? (i := 115) rfl)) (hw _ (List.mem_of_getElem? (i := 116) rfl)) (hw _ (List.mem_of_getElem? (i := 117) rfl)) (hw _ (List.mem_of_getElem? (i := 51) rfl)) (by decide) (lenOf pd__I_B_V rfl) d23_2 rfl rfl rfl (Nat.le_of_eq rfl) (pc' := 5) rfl nofun nofun (by decide) (by decide) (k' := 0) (n' := 0) rfl rfl (by decide) (by decide) (fun vh1 h1 zh1 Kh1 qh1 => ?_)
  obtain rfl := qh1
  replace V_b := V_b.keep Kh1 nin0
  refine Wp.eqS (S' := []) rfl ?_
  refine Wp.aloadN d23_5 (pc' := 6) rfl rfl rfl ?_
  refine Wp.iloadN d23_6 (pc' := 7) rfl rfl ?_
  refine Wp.old fun hOc => ?_
  refine Wp.callS (W := 0) (argsL := [(.ref b), (.int (Int32.ofNat i))]) (rest := []) rfl (ctGET l Z a0 hw hE b kb i c cs h1 hOc hU V_b hc hn (h16 c hm)) (hw _ (List.mem_of_getElem? (i := 109) rfl)) (hw _ (List.mem_of_getElem? (i := 110) rfl)) (hw _ (List.mem_of_getElem? (i := 111) rfl)) (hw _ (List.mem_of_getElem? (i := 51) rfl)) (by decide) (lenOf pd___BI_C rfl) d23_7 rfl rfl rfl (Nat.le_of_eq rfl) (pc' := 10) rfl nofun nofun (by decide) (by decide) (k' := 0) (n' := 0) rfl rfl (by decide) (by decide) (fun vh2 h2 zh2 Kh2 qh2 => ?_)
  obtain rfl := qh2
  replace V_b := V_b.keep Kh2 nin0
  refine Wp.eqS (S' := [(.int c)]) rfl ?_
  refine Wp.retN (t := .char) rfl (by simp) rfl d23_10 (by decide) (by decide) ?_
  rw [h16 c hm]
theorem d13_0 : decode jdk_42_method_56_code 0 = .ok (.aload_n 0, 1) := by decide +kernel
theorem d13_1 : decode jdk_42_method_56_code 1 = .ok (.invokevirtual 492, 3) := by decide +kernel
theorem d13_4 : decode jdk_42_method_56_code 4 = .ok (.ifCond .eq 12, 3) := by decide +kernel
theorem d13_7 : decode jdk_42_method_56_code 7 = .ok (.aload_n 0, 1) := by decide +kernel
theorem d13_8 : decode jdk_42_method_56_code 8 = .ok (.getfield 9, 3) := by decide +kernel
theorem d13_11 : decode jdk_42_method_56_code 11 = .ok (.iload_n 1, 1) := by decide +kernel
theorem d13_12 : decode jdk_42_method_56_code 12 = .ok (.invokestatic 495, 3) := by decide +kernel
theorem d13_15 : decode jdk_42_method_56_code 15 = .ok (.ireturn, 1) := by decide +kernel
theorem d13_16 : decode jdk_42_method_56_code 16 = .ok (.aload_n 0, 1) := by decide +kernel
theorem d13_17 : decode jdk_42_method_56_code 17 = .ok (.getfield 9, 3) := by decide +kernel
theorem d13_20 : decode jdk_42_method_56_code 20 = .ok (.iload_n 1, 1) := by decide +kernel
theorem d13_21 : decode jdk_42_method_56_code 21 = .ok (.invokestatic 498, 3) := by decide +kernel
theorem d13_24 : decode jdk_42_method_56_code 24 = .ok (.ireturn, 1) := by decide +kernel
theorem ef_ctCA (m : MethodId) (x0 : Addr) (x1 : Int32) : entryFrame m #[(.ref x0), (.int x1)] 2 = mkF m 0 #[.val (.ref x0), .val (.int x1)] [] := by first | (simp [entryFrame, mkF, argsToLocals, Value.category]; done) | rfl
theorem pd___Z : parseMethodDescriptor "()Z" = some ⟨[], some .boolean⟩ := by decide +kernel
set_option maxRecDepth 65536 in
set_option maxHeartbeats 40000000 in
theorem ctCA (l : Launch) (Z : State) (a0 : Array Value) (hw : ∀ d ∈ tables_1, d.before a0 Z = true) (hE : EW Z a0 []) (s : Addr) (i : Nat) (c : Int32) (cs : List Int32) (cz : Int32) (h0 : Heap) (hO : Ext Z.heap h0) (S_s : ST Z h0 s cs) (hU : own_U Z) (hF : own_F Z) (hc : cs[i]? = some c) (h16 : ∀ c ∈ cs, nar .char c = c) (hn : cs.length < 1073741823) (hco : Sta Z Z.heap "java/lang/String" "COMPACT_STRINGS" "Z" (.int cz)) (hcz : ¬ cz = 0) :
    Ct false l Z [] [] (⟨"java/lang/String", "charAt", "(I)C"⟩ : MethodName) jdk_42_method_56_code 2 (some .char) ({ frames := 4, cells := 0, slots := 0, locals := 53 } : Room) #[(.ref s), (.int (Int32.ofNat i))] h0 [] [] (fun v h => v = some (.int c)) := by
  refine Ct.of_wp (a0 := a0) (Ls := #[.val (.ref s), .val (.int (Int32.ofNat i))]) (plainFor_of_name pn_java_lang_String) hE hO nofun (fun m => ef_ctCA m s (Int32.ofNat i)) ?_
  have hin : i < cs.length := (List.getElem?_eq_some_iff.mp hc).1
  have hm := List.mem_of_getElem? hc
  have S_t := S_s
  obtain ⟨b, kb, w, zz, vs, E_s, C_s, D_s, V_b, hEn⟩ := S_t
  rcases hEn with ⟨rfl, rfl, rfl, hl⟩ | ⟨rfl, rfl, rfl, hu⟩
  · have V_b := V_b
    refine Wp.aloadN d13_0 (pc' := 1) rfl rfl rfl ?_
    refine Wp.old fun hOc => ?_
    refine Wp.callV (a := s) (x' := (⟨"java/lang/String", "isLatin1", "()Z"⟩ : MethodName)) (W := 0) (argsL := []) (rest := []) rfl (ctISL l Z a0 hw hE s (0 : Int32) cz h0 hOc C_s hco hcz) (hw _ (List.mem_of_getElem? (i := 73) rfl)) (hw _ (List.mem_of_getElem? (i := 74) rfl)) (hw _ (List.mem_of_getElem? (i := 76) rfl)) (hw _ (List.mem_of_getElem? (i := 75) rfl)) (hw _ (List.mem_of_getElem? (i := 77) rfl)) (hw _ (List.mem_of_getElem? (i := 37) rfl)) (fun s hZ => nf_sel rfl (hw _ (List.mem_of_getElem? (i := 76) rfl)) s hZ rfl) E_s (by decide) (lenOf pd___Z rfl) d13_1 rfl rfl rfl (Nat.le_of_eq rfl) (pc' := 4) rfl nofun nofun (by decide) (by decide) (k' := 0) (n' := 0) rfl rfl (by decide) (by decide) (fun vh1 h1 zh1 Kh1 qh1 => ?_)
    obtain rfl : vh1 = some (.int 1) := qh1.trans rfl
    replace S_s := S_s.keep0 Kh1
    replace E_s := E_s.keep Kh1
    replace C_s := C_s.keep Kh1 nin0
    replace D_s := D_s.keep Kh1 nin0
    replace V_b := V_b.keep Kh1 nin0
    refine Wp.eqS (S' := [(.int (1 : Int32))]) rfl ?_
    refine Wp.if_eq (pc1 := 16) (pc' := 7) d13_4 (by decide) (by decide) rfl (fun hc2 => by exact absurd hc2 (by decide)) (fun hc2 => ?_)
    refine Wp.aloadN d13_7 (pc' := 8) rfl rfl rfl ?_
    refine Wp.getF rfl (host := "") (Or.inl (hw _ (List.mem_of_getElem? (i := 62) rfl))) Via.refl D_s d13_8 (pc' := 11) rfl ?_
    refine Wp.iloadN d13_11 (pc' := 12) rfl rfl ?_
    refine Wp.old fun hOc => ?_
    refine Wp.callS (W := 0) (argsL := [(.ref b), (.int (Int32.ofNat i))]) (rest := []) rfl (ctLCA l Z a0 hw hE b kb i c cs h1 hOc hF hc hn hl h16 V_b) (hw _ (List.mem_of_getElem? (i := 78) rfl)) (hw _ (List.mem_of_getElem? (i := 79) rfl)) (hw _ (List.mem_of_getElem? (i := 81) rfl)) (hw _ (List.mem_of_getElem? (i := 80) rfl)) (by decide) (lenOf pd___BI_C rfl) d13_12 rfl rfl rfl (Nat.le_of_eq rfl) (pc' := 15) rfl nofun nofun (by decide) (by decide) (k' := 0) (n' := 0) rfl rfl (by decide) (by decide) (fun vh3 h3 zh3 Kh3 qh3 => ?_)
    obtain rfl := qh3
    replace S_s := S_s.keep0 Kh3
    replace E_s := E_s.keep Kh3
    replace C_s := C_s.keep Kh3 nin0
    replace D_s := D_s.keep Kh3 nin0
    replace V_b := V_b.keep Kh3 nin0
    refine Wp.eqS (S' := [(.int c)]) rfl ?_
    refine Wp.retN (t := .char) rfl (by simp) rfl d13_15 (by decide) (by decide) ?_
    rw [h16 c hm]
  · have V_b := V_b
    refine Wp.aloadN d13_0 (pc' := 1) rfl rfl rfl ?_
    refine Wp.old fun hOc => ?_
    refine Wp.callV (a := s) (x' := (⟨"java/lang/String", "isLatin1", "()Z"⟩ : MethodName)) (W := 0) (argsL := []) (rest := []) rfl (ctISL l Z a0 hw hE s (1 : Int32) cz h0 hOc C_s hco hcz) (hw _ (List.mem_of_getElem? (i := 73) rfl)) (hw _ (List.mem_of_getElem? (i := 74) rfl)) (hw _ (List.mem_of_getElem? (i := 76) rfl)) (hw _ (List.mem_of_getElem? (i := 75) rfl)) (hw _ (List.mem_of_getElem? (i := 77) rfl)) (hw _ (List.mem_of_getElem? (i := 37) rfl)) (fun s hZ => nf_sel rfl (hw _ (List.mem_of_getElem? (i := 76) rfl)) s hZ rfl) E_s (by decide) (lenOf pd___Z rfl) d13_1 rfl rfl rfl (Nat.le_of_eq rfl) (pc' := 4) rfl nofun nofun (by decide) (by decide) (k' := 0) (n' := 0) rfl rfl (by decide) (by decide) (fun vh4 h4 zh4 Kh4 qh4 => ?_)
    obtain rfl : vh4 = some (.int 0) := qh4.trans rfl
    replace S_s := S_s.keep0 Kh4
    replace E_s := E_s.keep Kh4
    replace C_s := C_s.keep Kh4 nin0
    replace D_s := D_s.keep Kh4 nin0
    replace V_b := V_b.keep Kh4 nin0
    refine Wp.eqS (S' := [(.int (0 : Int32))]) rfl ?_
    refine Wp.if_eq (pc1 := 16) (pc' := 7) d13_4 (by decide) (by decide) rfl (fun hc5 => ?_) (fun hc5 => by exact absurd hc5 (by decide))
    refine Wp.aloadN d13_16 (pc' := 17) rfl rfl rfl ?_
    refine Wp.getF rfl (host := "") (Or.inl (hw _ (List.mem_of_getElem? (i := 62) rfl))) Via.refl D_s d13_17 (pc' := 20) rfl ?_
    refine Wp.iloadN d13_20 (pc' := 21) rfl rfl ?_
    refine Wp.old fun hOc => ?_
    refine Wp.callS (W := 0) (argsL := [(.ref b), (.int (Int32.ofNat i))]) (rest := []) rfl (ctUCA l Z a0 hw hE b kb i c cs h4 hOc hU hF hc hn h16 V_b) (hw _ (List.mem_of_getElem? (i := 112) rfl)) (hw _ (List.mem_of_getElem? (i := 113) rfl)) (hw _ (List.mem_of_getElem? (i := 114) rfl)) (hw _ (List.mem_of_getElem? (i := 51) rfl)) (by decide) (lenOf pd___BI_C rfl) d13_21 rfl rfl rfl (Nat.le_of_eq rfl) (pc' := 24) rfl nofun nofun (by decide) (by decide) (k' := 0) (n' := 0) rfl rfl (by decide) (by decide) (fun vh6 h6 zh6 Kh6 qh6 => ?_)
    obtain rfl := qh6
    replace S_s := S_s.keep0 Kh6
    replace E_s := E_s.keep Kh6
    replace C_s := C_s.keep Kh6 nin0
    replace D_s := D_s.keep Kh6 nin0
    replace V_b := V_b.keep Kh6 nin0
    refine Wp.eqS (S' := [(.int c)]) rfl ?_
    refine Wp.retN (t := .char) rfl (by simp) rfl d13_24 (by decide) (by decide) ?_
    rw [h16 c hm]
theorem d12_0 : decode prog_26_method_2_code 0 = .ok (.lconst 0, 1) := by decide +kernel
theorem d12_1 : decode prog_26_method_2_code 1 = .ok (.lstore_n 3, 1) := by decide +kernel
theorem d12_2 : decode prog_26_method_2_code 2 = .ok (.iload_n 1, 1) := by decide +kernel
theorem d12_3 : decode prog_26_method_2_code 3 = .ok (.istore 5, 2) := by decide +kernel
theorem d12_5 : decode prog_26_method_2_code 5 = .ok (.iload 5, 2) := by decide +kernel
theorem d12_7 : decode prog_26_method_2_code 7 = .ok (.iload_n 2, 1) := by decide +kernel
theorem d12_8 : decode prog_26_method_2_code 8 = .ok (.if_icmp .ge 48, 3) := by decide +kernel
theorem d12_11 : decode prog_26_method_2_code 11 = .ok (.aload_n 0, 1) := by decide +kernel
theorem d12_12 : decode prog_26_method_2_code 12 = .ok (.iload 5, 2) := by decide +kernel
theorem d12_14 : decode prog_26_method_2_code 14 = .ok (.invokevirtual 7, 3) := by decide +kernel
theorem d12_17 : decode prog_26_method_2_code 17 = .ok (.istore 6, 2) := by decide +kernel
theorem d12_19 : decode prog_26_method_2_code 19 = .ok (.iload 6, 2) := by decide +kernel
theorem d12_21 : decode prog_26_method_2_code 21 = .ok (.bipush 48, 2) := by decide +kernel
theorem d12_23 : decode prog_26_method_2_code 23 = .ok (.if_icmp .lt 10, 3) := by decide +kernel
theorem d12_26 : decode prog_26_method_2_code 26 = .ok (.iload 6, 2) := by decide +kernel
theorem d12_28 : decode prog_26_method_2_code 28 = .ok (.bipush 57, 2) := by decide +kernel
theorem d12_30 : decode prog_26_method_2_code 30 = .ok (.if_icmp .le 7, 3) := by decide +kernel
theorem d12_33 : decode prog_26_method_2_code 33 = .ok (.ldc2_w 13, 3) := by decide +kernel
theorem d12_36 : decode prog_26_method_2_code 36 = .ok (.lreturn, 1) := by decide +kernel
theorem d12_37 : decode prog_26_method_2_code 37 = .ok (.ldc2_w 15, 3) := by decide +kernel
theorem d12_40 : decode prog_26_method_2_code 40 = .ok (.lload_n 3, 1) := by decide +kernel
theorem d12_41 : decode prog_26_method_2_code 41 = .ok (.lmul, 1) := by decide +kernel
theorem d12_42 : decode prog_26_method_2_code 42 = .ok (.iload 6, 2) := by decide +kernel
theorem d12_44 : decode prog_26_method_2_code 44 = .ok (.bipush 48, 2) := by decide +kernel
theorem d12_46 : decode prog_26_method_2_code 46 = .ok (.isub, 1) := by decide +kernel
theorem d12_47 : decode prog_26_method_2_code 47 = .ok (.i2l, 1) := by decide +kernel
theorem d12_48 : decode prog_26_method_2_code 48 = .ok (.ladd, 1) := by decide +kernel
theorem d12_49 : decode prog_26_method_2_code 49 = .ok (.lstore_n 3, 1) := by decide +kernel
theorem d12_50 : decode prog_26_method_2_code 50 = .ok (.iinc 5 1, 3) := by decide +kernel
theorem d12_53 : decode prog_26_method_2_code 53 = .ok (.goto (-48), 3) := by decide +kernel
theorem d12_56 : decode prog_26_method_2_code 56 = .ok (.lload_n 3, 1) := by decide +kernel
theorem d12_57 : decode prog_26_method_2_code 57 = .ok (.lreturn, 1) := by decide +kernel
theorem pd__I_C : parseMethodDescriptor "(I)C" = some ⟨[.int], some .char⟩ := by decide +kernel
set_option maxRecDepth 65536 in
set_option maxHeartbeats 40000000 in
theorem own_lpX (l : Launch) (Z : State) (a0 : Array Value) (hw : ∀ d ∈ tables_1, d.before a0 Z = true) (hE : EW Z a0 []) (hU : own_U Z) (hF : own_F Z) (s : Addr) (cs : List Int32) (cz : Int32) (i0 e : Nat) (he : e ≤ cs.length) (h16 : ∀ c ∈ cs, nar .char c = c) (hn : cs.length < 1073741823) (hco : Sta Z Z.heap "java/lang/String" "COMPACT_STRINGS" "Z" (.int cz)) (hcz : ¬ cz = 0) (hs : Heap) :
    ∀ (j i : Nat) (acc : Int64) (h : Heap) (s6 : Slot), i + j = e → (s6 = .unset ∨ ∃ x : Int32, s6 = .val (.int x)) → ST Z h s cs →
      Wp false l Z a0 [] ({ frames := 5, cells := 0, slots := 0, locals := 66 } : Room) (⟨"com/example/novatio/novatio/core/AsciiDigits", "value", "(Ljava/lang/String;II)J"⟩ : MethodName) prog_26_method_2_code 7 (some .long) hs [] (fun v h => v = some (.long (own_f acc ((cs.drop i).take j)))) h [] 0 0 5 #[.val (.ref s), .val (.int (Int32.ofNat i0)), .val (.int (Int32.ofNat e)), .val (.long acc), .second, .val (.int (Int32.ofNat i)), s6] [] := by
  intro j
  induction j with
  | zero =>
    intro i acc h s6 hi h6 S_s
    have ei : i = e := by omega
    subst ei
    refine Wp.iload d12_5 (pc' := 7) rfl rfl ?_
    refine Wp.iloadN d12_7 (pc' := 8) rfl rfl ?_
    refine Wp.icmp_ge (pc1 := 56) (pc' := 11) d12_8 (by decide) (by decide) rfl (fun hc101 => ?_) (fun hc101 => by exact absurd hc101 Int32.lt_irrefl)
    refine Wp.lloadN d12_56 (pc' := 57) rfl rfl ?_
    refine Wp.retL rfl d12_57 (by decide) (by decide) ?_
    rw [List.take_zero]; rfl
  | succ j ih =>
    intro i acc h s6 hi h6 S_s
    have hin : i < cs.length := by omega
    obtain ⟨c, hc⟩ : ∃ c, cs[i]? = some c := ⟨_, List.getElem?_eq_getElem hin⟩
    have hsl : (cs.drop i).take (j + 1) = c :: (cs.drop (i + 1)).take j := by
      obtain ⟨hl, rfl⟩ := List.getElem?_eq_some_iff.mp hc
      rw [List.drop_eq_getElem_cons hl, List.take_succ_cons]
    refine Wp.iload d12_5 (pc' := 7) rfl rfl ?_
    refine Wp.iloadN d12_7 (pc' := 8) rfl rfl ?_
    refine Wp.icmp_ge (pc1 := 56) (pc' := 11) d12_8 (by decide) (by decide) rfl (fun hc101 => by exact absurd (on_lt (by omega) (by omega : i < e)) hc101) (fun hc101 => ?_)
    refine Wp.aloadN d12_11 (pc' := 12) rfl rfl rfl ?_
    refine Wp.iload d12_12 (pc' := 14) rfl rfl ?_
    refine Wp.old fun hOc => ?_
    have E_s := S_s.exa
    refine Wp.callV (a := s) (x' := (⟨"java/lang/String", "charAt", "(I)C"⟩ : MethodName)) (W := 0) (argsL := [(.int (Int32.ofNat i))]) (rest := []) rfl (ctCA l Z a0 hw hE s i c cs cz h hOc S_s hU hF hc h16 hn hco hcz) (hw _ (List.mem_of_getElem? (i := 68) rfl)) (hw _ (List.mem_of_getElem? (i := 69) rfl)) (hw _ (List.mem_of_getElem? (i := 71) rfl)) (hw _ (List.mem_of_getElem? (i := 70) rfl)) (hw _ (List.mem_of_getElem? (i := 72) rfl)) (hw _ (List.mem_of_getElem? (i := 37) rfl)) (fun s hZ => nf_sel rfl (hw _ (List.mem_of_getElem? (i := 71) rfl)) s hZ rfl) E_s (by decide) (lenOf pd__I_C rfl) d12_14 rfl rfl rfl (Nat.le_of_eq rfl) (pc' := 17) rfl nofun nofun (by decide) (by decide) (k' := 0) (n' := 0) rfl rfl (by decide) (by decide) (fun vh102 h102 zh102 Kh102 qh102 => ?_)
    obtain rfl := qh102
    replace S_s := S_s.keep0 Kh102
    refine Wp.eqS (S' := [(.int c)]) rfl ?_
    refine Wp.istore (l' := #[.val (.ref s), .val (.int (Int32.ofNat i0)), .val (.int (Int32.ofNat e)), .val (.long acc), .second, .val (.int (Int32.ofNat i)), .val (.int c)]) d12_17 (pc' := 19) rfl (by rcases h6 with rfl | ⟨_, rfl⟩ <;> rfl) ?_
    refine Wp.iload d12_19 (pc' := 21) rfl rfl ?_
    refine Wp.bipush (x := (48 : Int32)) d12_21 (pc' := 23) rfl rfl ?_
    refine Wp.icmp_lt (pc1 := 33) (pc' := 26) d12_23 (by decide) (by decide) rfl (fun hc103 => ?_) (fun hc103 => ?_)
    · have hc103 : c < (48 : Int32) := hc103
      refine Wp.ldcL rfl (hw _ (List.mem_of_getElem? (i := 92) rfl)) d12_33 (pc' := 36) rfl ?_
      refine Wp.retL rfl d12_36 (by decide) (by decide) ?_
      rw [hsl, own_f, if_pos (Or.inl hc103)]
    · have hc103 : ¬ (c < (48 : Int32)) := hc103
      refine Wp.iload d12_26 (pc' := 28) rfl rfl ?_
      refine Wp.bipush (x := (57 : Int32)) d12_28 (pc' := 30) rfl rfl ?_
      refine Wp.icmp_le (pc1 := 37) (pc' := 33) d12_30 (by decide) (by decide) rfl (fun hc104 => ?_) (fun hc104 => ?_)
      · have hc104 : ¬ ((57 : Int32) < c) := hc104
        refine Wp.ldcL rfl (hw _ (List.mem_of_getElem? (i := 90) rfl)) d12_37 (pc' := 40) rfl ?_
        refine Wp.lloadN d12_40 (pc' := 41) rfl rfl ?_
        refine Wp.lmul d12_41 (pc' := 42) rfl ?_
        refine Wp.iload d12_42 (pc' := 44) rfl rfl ?_
        refine Wp.bipush (x := (48 : Int32)) d12_44 (pc' := 46) rfl rfl ?_
        refine Wp.isub d12_46 (pc' := 47) rfl ?_
        refine Wp.i2l d12_47 (pc' := 48) rfl ?_
        refine Wp.ladd d12_48 (pc' := 49) rfl ?_
        refine Wp.lstoreN (l' := #[.val (.ref s), .val (.int (Int32.ofNat i0)), .val (.int (Int32.ofNat e)), .val (.long (((10 : Int64) * acc) + ((c - (48 : Int32)).toInt64))), .second, .val (.int (Int32.ofNat i)), .val (.int c)]) d12_49 (pc' := 50) rfl rfl ?_
        refine Wp.iinc (l' := #[.val (.ref s), .val (.int (Int32.ofNat i0)), .val (.int (Int32.ofNat e)), .val (.long (((10 : Int64) * acc) + ((c - (48 : Int32)).toInt64))), .second, .val (.int ((Int32.ofNat i) + (1 : Int32))), .val (.int c)]) d12_50 (pc' := 53) rfl rfl rfl ?_
        refine Wp.goto (pc' := 5) d12_53 (by decide) (by decide) ?_
        rw [on_succ, hsl, own_f, if_neg (by rintro (q | q); exact hc103 q; exact hc104 q)]
        exact ih (i + 1) _ _ _ (by omega) (Or.inr ⟨c, rfl⟩) S_s
      · have hc104 : (57 : Int32) < c := hc104
        refine Wp.ldcL rfl (hw _ (List.mem_of_getElem? (i := 92) rfl)) d12_33 (pc' := 36) rfl ?_
        refine Wp.retL rfl d12_36 (by decide) (by decide) ?_
        rw [hsl, own_f, if_pos (Or.inr hc104)]
theorem pn_com_example_novatio_novatio_core_AsciiDigits : plainName "com/example/novatio/novatio/core/AsciiDigits" = true := by first | (simp [plainName, overriddenIn]; done) | decide +kernel
theorem ef_ctVAL (m : MethodId) (x0 : Addr) (x1 : Int32) (x2 : Int32) : entryFrame m #[(.ref x0), (.int x1), (.int x2)] 7 = mkF m 0 #[.val (.ref x0), .val (.int x1), .val (.int x2), .unset, .unset, .unset, .unset] [] := by first | (simp [entryFrame, mkF, argsToLocals, Value.category]; done) | rfl
set_option maxRecDepth 65536 in
set_option maxHeartbeats 40000000 in
theorem ctVAL (l : Launch) (Z : State) (a0 : Array Value) (hw : ∀ d ∈ tables_1, d.before a0 Z = true) (hE : EW Z a0 []) (s : Addr) (cs : List Int32) (cz : Int32) (i0 e : Nat) (h0 : Heap) (hO : Ext Z.heap h0) (S_s : ST Z h0 s cs) (hU : own_U Z) (hF : own_F Z) (hse : i0 ≤ e) (he : e ≤ cs.length) (h16 : ∀ c ∈ cs, nar .char c = c) (hn : cs.length < 1073741823) (hco : Sta Z Z.heap "java/lang/String" "COMPACT_STRINGS" "Z" (.int cz)) (hcz : ¬ cz = 0) :
    Ct false l Z [] [] (⟨"com/example/novatio/novatio/core/AsciiDigits", "value", "(Ljava/lang/String;II)J"⟩ : MethodName) prog_26_method_2_code 7 (some .long) ({ frames := 5, cells := 0, slots := 0, locals := 66 } : Room) #[(.ref s), (.int (Int32.ofNat i0)), (.int (Int32.ofNat e))] h0 [] [] (fun v h => v = some (.long (own_f 0 ((cs.drop i0).take (e - i0))))) := by
  refine Ct.of_wp (a0 := a0) (Ls := #[.val (.ref s), .val (.int (Int32.ofNat i0)), .val (.int (Int32.ofNat e)), .unset, .unset, .unset, .unset]) (plainFor_of_name pn_com_example_novatio_novatio_core_AsciiDigits) hE hO nofun (fun m => ef_ctVAL m s (Int32.ofNat i0) (Int32.ofNat e)) ?_
  refine Wp.lconst (x := (0 : Int64)) d12_0 (pc' := 1) rfl rfl ?_
  refine Wp.lstoreN (l' := #[.val (.ref s), .val (.int (Int32.ofNat i0)), .val (.int (Int32.ofNat e)), .val (.long (0 : Int64)), .second, .unset, .unset]) d12_1 (pc' := 2) rfl rfl ?_
  refine Wp.iloadN d12_2 (pc' := 3) rfl rfl ?_
  refine Wp.istore (l' := #[.val (.ref s), .val (.int (Int32.ofNat i0)), .val (.int (Int32.ofNat e)), .val (.long (0 : Int64)), .second, .val (.int (Int32.ofNat i0)), .unset]) d12_3 (pc' := 5) rfl rfl ?_
  exact own_lpX l Z a0 hw hE hU hF s cs cz i0 e he h16 hn hco hcz h0 (e - i0) i0 0 h0 _ (by omega) (Or.inl rfl) S_s
theorem d1_0 : decode method_3_code 0 = .ok (.bipush 48, 2) := by decide +kernel
theorem d1_2 : decode method_3_code 2 = .ok (.lload_n 0, 1) := by decide +kernel
theorem d1_3 : decode method_3_code 3 = .ok (.lload_n 2, 1) := by decide +kernel
theorem d1_4 : decode method_3_code 4 = .ok (.ldiv, 1) := by decide +kernel
theorem d1_5 : decode method_3_code 5 = .ok (.ldc2_w 7, 3) := by decide +kernel
theorem d1_8 : decode method_3_code 8 = .ok (.lrem, 1) := by decide +kernel
theorem d1_9 : decode method_3_code 9 = .ok (.l2i, 1) := by decide +kernel
theorem d1_10 : decode method_3_code 10 = .ok (.iadd, 1) := by decide +kernel
theorem d1_11 : decode method_3_code 11 = .ok (.i2c, 1) := by decide +kernel
theorem d1_12 : decode method_3_code 12 = .ok (.ireturn, 1) := by decide +kernel
theorem pn_com_example_novatio_novatio_core_AsciiDigitsValuePinLaw : plainName "com/example/novatio/novatio/core/AsciiDigitsValuePinLaw" = true := by first | (simp [plainName, overriddenIn]; done) | decide +kernel
theorem ef_ctDIG (m : MethodId) (x0 : Int64) (x1 : Int64) : entryFrame m #[(.long x0), (.long x1)] 4 = mkF m 0 #[.val (.long x0), .second, .val (.long x1), .second] [] := by first | (simp [entryFrame, mkF, argsToLocals, Value.category]; done) | rfl
set_option maxRecDepth 65536 in
set_option maxHeartbeats 40000000 in
theorem ctDIG (l : Launch) (Z : State) (a0 : Array Value) (hw : ∀ d ∈ tables_1, d.before a0 Z = true) (hE : EW Z a0 []) (N q : Nat) (h0 : Heap) (hO : Ext Z.heap h0) (hN : N < 100000000000000) (hq : 0 < q ∧ q < 9223372036854775808) :
    Ct false l Z [] [] (⟨"com/example/novatio/novatio/core/AsciiDigitsValuePinLaw", "dig", "(JJ)C"⟩ : MethodName) method_3_code 4 (some .char) ({ frames := 0, cells := 0, slots := 0, locals := 0 } : Room) #[(.long (Int64.ofNat N)), (.long (Int64.ofNat q))] h0 [] [] (fun v h => v = some (.int (Int32.ofNat (48 + N / q % 10)))) := by
  refine Ct.of_wp (a0 := a0) (Ls := #[.val (.long (Int64.ofNat N)), .second, .val (.long (Int64.ofNat q)), .second]) (plainFor_of_name pn_com_example_novatio_novatio_core_AsciiDigitsValuePinLaw) hE hO nofun (fun m => ef_ctDIG m (Int64.ofNat N) (Int64.ofNat q)) ?_
  refine Wp.bipush (x := (48 : Int32)) d1_0 (pc' := 2) rfl rfl ?_
  refine Wp.lloadN d1_2 (pc' := 3) rfl rfl ?_
  refine Wp.lloadN d1_3 (pc' := 4) rfl rfl ?_
  refine Wp.ldiv d1_4 (pc' := 5) rfl (fun z => by have z1 := congrArg Int64.toInt z; rw [ol_toInt hq.2] at z1; have z2 : (0 : Int64).toInt = 0 := rfl; omega) ?_
  refine Wp.ldcL rfl (hw _ (List.mem_of_getElem? (i := 1) rfl)) d1_5 (pc' := 8) rfl ?_
  refine Wp.lrem d1_8 (pc' := 9) rfl (by decide) ?_
  refine Wp.l2i d1_9 (pc' := 10) rfl ?_
  refine Wp.iadd d1_10 (pc' := 11) rfl ?_
  refine Wp.i2c d1_11 (pc' := 12) rfl ?_
  refine Wp.retN (t := .char) rfl (by simp) rfl d1_12 (by decide) (by decide) ?_
  rw [own_dig hN hq]
theorem d2_0 : decode method_4_code 0 = .ok (.iload_n 0, 1) := by decide +kernel
theorem d2_1 : decode method_4_code 1 = .ok (.iconst 1, 1) := by decide +kernel
theorem d2_2 : decode method_4_code 2 = .ok (.iushr, 1) := by decide +kernel
theorem d2_3 : decode method_4_code 3 = .ok (.istore_n 1, 1) := by decide +kernel
theorem d2_4 : decode method_4_code 4 = .ok (.iload_n 0, 1) := by decide +kernel
theorem d2_5 : decode method_4_code 5 = .ok (.iconst 1, 1) := by decide +kernel
theorem d2_6 : decode method_4_code 6 = .ok (.iand, 1) := by decide +kernel
theorem d2_7 : decode method_4_code 7 = .ok (.ifCond .ne 12, 3) := by decide +kernel
theorem d2_10 : decode method_4_code 10 = .ok (.bipush 48, 2) := by decide +kernel
theorem d2_12 : decode method_4_code 12 = .ok (.iload_n 1, 1) := by decide +kernel
theorem d2_13 : decode method_4_code 13 = .ok (.bipush 10, 2) := by decide +kernel
theorem d2_15 : decode method_4_code 15 = .ok (.irem, 1) := by decide +kernel
theorem d2_16 : decode method_4_code 16 = .ok (.iadd, 1) := by decide +kernel
theorem d2_17 : decode method_4_code 17 = .ok (.i2c, 1) := by decide +kernel
theorem d2_18 : decode method_4_code 18 = .ok (.ireturn, 1) := by decide +kernel
theorem d2_19 : decode method_4_code 19 = .ok (.iload_n 1, 1) := by decide +kernel
theorem d2_20 : decode method_4_code 20 = .ok (.ldc 49, 2) := by decide +kernel
theorem d2_22 : decode method_4_code 22 = .ok (.iand, 1) := by decide +kernel
theorem d2_23 : decode method_4_code 23 = .ok (.i2c, 1) := by decide +kernel
theorem d2_24 : decode method_4_code 24 = .ok (.ireturn, 1) := by decide +kernel
theorem ef_ctDR (m : MethodId) (x0 : Int32) : entryFrame m #[(.int x0)] 2 = mkF m 0 #[.val (.int x0), .unset] [] := by first | (simp [entryFrame, mkF, argsToLocals, Value.category]; done) | rfl
set_option maxRecDepth 65536 in
set_option maxHeartbeats 40000000 in
theorem ctDR (l : Launch) (Z : State) (a0 : Array Value) (hw : ∀ d ∈ tables_1, d.before a0 Z = true) (hE : EW Z a0 []) (p : Int32) (h0 : Heap) (hO : Ext Z.heap h0) :
    Ct false l Z [] [] (⟨"com/example/novatio/novatio/core/AsciiDigitsValuePinLaw", "draw", "(I)C"⟩ : MethodName) method_4_code 2 (some .char) ({ frames := 0, cells := 0, slots := 0, locals := 0 } : Room) #[(.int p)] h0 [] [] (fun v h => ∃ c : Int32, v = some (.int c) ∧ nar .char c = c) := by
  refine Ct.of_wp (a0 := a0) (Ls := #[.val (.int p), .unset]) (plainFor_of_name pn_com_example_novatio_novatio_core_AsciiDigitsValuePinLaw) hE hO nofun (fun m => ef_ctDR m p) ?_
  refine Wp.iloadN d2_0 (pc' := 1) rfl rfl ?_
  refine Wp.iconst (x := (1 : Int32)) d2_1 (pc' := 2) rfl rfl ?_
  refine Wp.iushr d2_2 (pc' := 3) rfl ?_
  refine Wp.istoreN (l' := #[.val (.int p), .val (.int ((p.toUInt32 >>> ((1 : Int32) &&& 31).toUInt32).toInt32))]) d2_3 (pc' := 4) rfl rfl ?_
  refine Wp.iloadN d2_4 (pc' := 5) rfl rfl ?_
  refine Wp.iconst (x := (1 : Int32)) d2_5 (pc' := 6) rfl rfl ?_
  refine Wp.iand d2_6 (pc' := 7) rfl ?_
  refine Wp.if_ne (pc1 := 19) (pc' := 10) d2_7 (by decide) (by decide) rfl (fun hc1 => ?_) (fun hc1 => ?_)
  · have hc1 : ¬ ((p &&& (1 : Int32)) = (0 : Int32)) := hc1
    refine Wp.iloadN d2_19 (pc' := 20) rfl rfl ?_
    refine Wp.ldcI rfl (hw _ (List.mem_of_getElem? (i := 24) rfl)) d2_20 (pc' := 22) rfl ?_
    refine Wp.iand d2_22 (pc' := 23) rfl ?_
    refine Wp.i2c d2_23 (pc' := 24) rfl ?_
    refine Wp.retN (t := .char) rfl (by simp) rfl d2_24 (by decide) (by decide) ?_
    exact ⟨_, rfl, ch_nar _⟩
  · have hc1 : (p &&& (1 : Int32)) = (0 : Int32) := hc1
    refine Wp.bipush (x := (48 : Int32)) d2_10 (pc' := 12) rfl rfl ?_
    refine Wp.iloadN d2_12 (pc' := 13) rfl rfl ?_
    refine Wp.bipush (x := (10 : Int32)) d2_13 (pc' := 15) rfl rfl ?_
    refine Wp.irem d2_15 (pc' := 16) rfl (by decide) ?_
    refine Wp.iadd d2_16 (pc' := 17) rfl ?_
    refine Wp.i2c d2_17 (pc' := 18) rfl ?_
    refine Wp.retN (t := .char) rfl (by simp) rfl d2_18 (by decide) (by decide) ?_
    exact ⟨_, rfl, ch_nar _⟩
theorem d5_0 : decode method_5_code 0 = .ok (.lload_n 0, 1) := by decide +kernel
theorem d5_1 : decode method_5_code 1 = .ok (.lconst 0, 1) := by decide +kernel
theorem d5_2 : decode method_5_code 2 = .ok (.lcmp, 1) := by decide +kernel
theorem d5_3 : decode method_5_code 3 = .ok (.ifCond .lt 15, 3) := by decide +kernel
theorem d5_6 : decode method_5_code 6 = .ok (.iload_n 3, 1) := by decide +kernel
theorem d5_7 : decode method_5_code 7 = .ok (.iload 4, 2) := by decide +kernel
theorem d5_9 : decode method_5_code 9 = .ok (.if_icmp .lt 9, 3) := by decide +kernel
theorem d5_12 : decode method_5_code 12 = .ok (.iload_n 3, 1) := by decide +kernel
theorem d5_13 : decode method_5_code 13 = .ok (.iload 5, 2) := by decide +kernel
theorem d5_15 : decode method_5_code 15 = .ok (.if_icmp .lt 5, 3) := by decide +kernel
theorem d5_18 : decode method_5_code 18 = .ok (.lload_n 0, 1) := by decide +kernel
theorem d5_19 : decode method_5_code 19 = .ok (.lreturn, 1) := by decide +kernel
theorem d5_20 : decode method_5_code 20 = .ok (.iload_n 2, 1) := by decide +kernel
theorem d5_21 : decode method_5_code 21 = .ok (.bipush 48, 2) := by decide +kernel
theorem d5_23 : decode method_5_code 23 = .ok (.if_icmp .lt 9, 3) := by decide +kernel
theorem d5_26 : decode method_5_code 26 = .ok (.iload_n 2, 1) := by decide +kernel
theorem d5_27 : decode method_5_code 27 = .ok (.bipush 57, 2) := by decide +kernel
theorem d5_29 : decode method_5_code 29 = .ok (.if_icmp .le 7, 3) := by decide +kernel
theorem d5_32 : decode method_5_code 32 = .ok (.ldc2_w 74, 3) := by decide +kernel
theorem d5_35 : decode method_5_code 35 = .ok (.lreturn, 1) := by decide +kernel
theorem d5_36 : decode method_5_code 36 = .ok (.lload_n 0, 1) := by decide +kernel
theorem d5_37 : decode method_5_code 37 = .ok (.ldc2_w 7, 3) := by decide +kernel
theorem d5_40 : decode method_5_code 40 = .ok (.lmul, 1) := by decide +kernel
theorem d5_41 : decode method_5_code 41 = .ok (.iload_n 2, 1) := by decide +kernel
theorem d5_42 : decode method_5_code 42 = .ok (.bipush 48, 2) := by decide +kernel
theorem d5_44 : decode method_5_code 44 = .ok (.isub, 1) := by decide +kernel
theorem d5_45 : decode method_5_code 45 = .ok (.i2l, 1) := by decide +kernel
theorem d5_46 : decode method_5_code 46 = .ok (.ladd, 1) := by decide +kernel
theorem d5_47 : decode method_5_code 47 = .ok (.lreturn, 1) := by decide +kernel
theorem ef_ctST (m : MethodId) (x0 : Int64) (x1 : Int32) (x2 : Int32) (x3 : Int32) (x4 : Int32) : entryFrame m #[(.long x0), (.int x1), (.int x2), (.int x3), (.int x4)] 6 = mkF m 0 #[.val (.long x0), .second, .val (.int x1), .val (.int x2), .val (.int x3), .val (.int x4)] [] := by first | (simp [entryFrame, mkF, argsToLocals, Value.category]; done) | rfl
set_option maxRecDepth 65536 in
set_option maxHeartbeats 40000000 in
theorem ctST (l : Launch) (Z : State) (a0 : Array Value) (hw : ∀ d ∈ tables_1, d.before a0 Z = true) (hE : EW Z a0 []) (acc : Int64) (c k s e : Int32) (h0 : Heap) (hO : Ext Z.heap h0) :
    Ct false l Z [] [] (⟨"com/example/novatio/novatio/core/AsciiDigitsValuePinLaw", "step", "(JCIII)J"⟩ : MethodName) method_5_code 6 (some .long) ({ frames := 0, cells := 0, slots := 0, locals := 0 } : Room) #[(.long acc), (.int c), (.int k), (.int s), (.int e)] h0 [] [] (fun v h => v = some (.long (own_st acc c k s e))) := by
  refine Ct.of_wp (a0 := a0) (Ls := #[.val (.long acc), .second, .val (.int c), .val (.int k), .val (.int s), .val (.int e)]) (plainFor_of_name pn_com_example_novatio_novatio_core_AsciiDigitsValuePinLaw) hE hO nofun (fun m => ef_ctST m acc c k s e) ?_
  refine Wp.lloadN d5_0 (pc' := 1) rfl rfl ?_
  refine Wp.lconst (x := (0 : Int64)) d5_1 (pc' := 2) rfl rfl ?_
  refine Wp.lcmp d5_2 (pc' := 3) rfl ?_
  refine Wp.if_lt (pc1 := 18) (pc' := 6) d5_3 (by decide) (by decide) rfl (fun hc1 => ?_) (fun hc1 => ?_)
  · have hc1 : (lcmpW acc (0 : Int64)) < (0 : Int32) := hc1
    refine Wp.lloadN d5_18 (pc' := 19) rfl rfl ?_
    refine Wp.retL rfl d5_19 (by decide) (by decide) ?_
    have y0 := hc1
    rw [lw_lt] at y0
    rw [own_st, if_pos (Or.inl y0)]
  · have hc1 : ¬ ((lcmpW acc (0 : Int64)) < (0 : Int32)) := hc1
    refine Wp.iloadN d5_6 (pc' := 7) rfl rfl ?_
    refine Wp.iload d5_7 (pc' := 9) rfl rfl ?_
    refine Wp.icmp_lt (pc1 := 18) (pc' := 12) d5_9 (by decide) (by decide) rfl (fun hc2 => ?_) (fun hc2 => ?_)
    · have hc2 : k < s := hc2
      refine Wp.lloadN d5_18 (pc' := 19) rfl rfl ?_
      refine Wp.retL rfl d5_19 (by decide) (by decide) ?_
      have y0 := hc1
      rw [lw_lt] at y0
      rw [own_st, if_pos (Or.inr (Or.inl hc2))]
    · have hc2 : ¬ (k < s) := hc2
      refine Wp.iloadN d5_12 (pc' := 13) rfl rfl ?_
      refine Wp.iload d5_13 (pc' := 15) rfl rfl ?_
      refine Wp.icmp_lt (pc1 := 20) (pc' := 18) d5_15 (by decide) (by decide) rfl (fun hc3 => ?_) (fun hc3 => ?_)
      · have hc3 : k < e := hc3
        refine Wp.iloadN d5_20 (pc' := 21) rfl rfl ?_
        refine Wp.bipush (x := (48 : Int32)) d5_21 (pc' := 23) rfl rfl ?_
        refine Wp.icmp_lt (pc1 := 32) (pc' := 26) d5_23 (by decide) (by decide) rfl (fun hc4 => ?_) (fun hc4 => ?_)
        · have hc4 : c < (48 : Int32) := hc4
          refine Wp.ldcL rfl (hw _ (List.mem_of_getElem? (i := 91) rfl)) d5_32 (pc' := 35) rfl ?_
          refine Wp.retL rfl d5_35 (by decide) (by decide) ?_
          have y0 := hc1
          rw [lw_lt] at y0
          rw [own_st, if_neg (by rintro (q | q | q); exact y0 q; exact hc2 q; exact q hc3)]
          rw [if_pos (Or.inl hc4)]
        · have hc4 : ¬ (c < (48 : Int32)) := hc4
          refine Wp.iloadN d5_26 (pc' := 27) rfl rfl ?_
          refine Wp.bipush (x := (57 : Int32)) d5_27 (pc' := 29) rfl rfl ?_
          refine Wp.icmp_le (pc1 := 36) (pc' := 32) d5_29 (by decide) (by decide) rfl (fun hc5 => ?_) (fun hc5 => ?_)
          · have hc5 : ¬ ((57 : Int32) < c) := hc5
            refine Wp.lloadN d5_36 (pc' := 37) rfl rfl ?_
            refine Wp.ldcL rfl (hw _ (List.mem_of_getElem? (i := 1) rfl)) d5_37 (pc' := 40) rfl ?_
            refine Wp.lmul d5_40 (pc' := 41) rfl ?_
            refine Wp.iloadN d5_41 (pc' := 42) rfl rfl ?_
            refine Wp.bipush (x := (48 : Int32)) d5_42 (pc' := 44) rfl rfl ?_
            refine Wp.isub d5_44 (pc' := 45) rfl ?_
            refine Wp.i2l d5_45 (pc' := 46) rfl ?_
            refine Wp.ladd d5_46 (pc' := 47) rfl ?_
            refine Wp.retL rfl d5_47 (by decide) (by decide) ?_
            have y0 := hc1
            rw [lw_lt] at y0
            rw [own_st, if_neg (by rintro (q | q | q); exact y0 q; exact hc2 q; exact q hc3)]
            rw [if_neg (by rintro (q | q); exact hc4 q; exact hc5 q)]
          · have hc5 : (57 : Int32) < c := hc5
            refine Wp.ldcL rfl (hw _ (List.mem_of_getElem? (i := 91) rfl)) d5_32 (pc' := 35) rfl ?_
            refine Wp.retL rfl d5_35 (by decide) (by decide) ?_
            have y0 := hc1
            rw [lw_lt] at y0
            rw [own_st, if_neg (by rintro (q | q | q); exact y0 q; exact hc2 q; exact q hc3)]
            rw [if_pos (Or.inr hc5)]
      · have hc3 : ¬ (k < e) := hc3
        refine Wp.lloadN d5_18 (pc' := 19) rfl rfl ?_
        refine Wp.retL rfl d5_19 (by decide) (by decide) ?_
        have y0 := hc1
        rw [lw_lt] at y0
        rw [own_st, if_pos (Or.inr (Or.inr hc3))]
theorem ef_ct0 (m : MethodId) (x0 : Int64) (x1 : Int32) (x2 : Int32) (x3 : Int32) (x4 : Int32) (x5 : Int32) : entryFrame m #[(.long x0), (.int x1), (.int x2), (.int x3), (.int x4), (.int x5)] maxLocals = mkF m 0 #[.val (.long x0), .second, .val (.int x1), .val (.int x2), .val (.int x3), .val (.int x4), .val (.int x5), .unset, .unset, .unset, .unset, .unset, .unset, .unset, .unset, .unset, .unset, .unset] [] := by first | (simp [entryFrame, mkF, argsToLocals, Value.category, maxLocals]; done) | rfl
theorem pd__JJ_C : parseMethodDescriptor "(JJ)C" = some ⟨[.long, .long], some .char⟩ := by decide +kernel
theorem pd__II_I : parseMethodDescriptor "(II)I" = some ⟨[.int, .int], some .int⟩ := by decide +kernel
theorem pd__JCIII_J : parseMethodDescriptor "(JCIII)J" = some ⟨[.long, .char, .int, .int, .int], some .long⟩ := by decide +kernel
theorem pd___C_V : parseMethodDescriptor "([C)V" = some ⟨[(.array .char)], none⟩ := by decide +kernel
theorem pd__Ljava_lang_String_II_J : parseMethodDescriptor "(Ljava/lang/String;II)J" = some ⟨[(.object "java/lang/String"), .int, .int], some .long⟩ := by decide +kernel
set_option maxRecDepth 65536 in
set_option maxHeartbeats 40000000 in
theorem ct0 (l : Launch) (Z : State) (a0 : Array Value) (hw : ∀ d ∈ tables_1, d.before a0 Z = true) (hE : EW Z a0 []) (p1 : Int64) (p2 p3 p4 p5 p6 cz : Int32) (h0 : Heap) (hO : Ext Z.heap h0) (hco : Sta Z Z.heap "java/lang/String" "COMPACT_STRINGS" "Z" (.int cz)) (hcz : ¬ cz = 0) (hU : own_U Z) (hF : own_F Z) :
    Ct false l Z [] tables_1 x code maxLocals ret room_1 #[(.long p1), (.int p2), (.int p3), (.int p4), (.int p5), (.int p6)] h0 [] [] (fun v h => v = some (.int 1)) := by
  refine Ct.of_wp (a0 := a0) (Ls := #[.val (.long p1), .second, .val (.int p2), .val (.int p3), .val (.int p4), .val (.int p5), .val (.int p6), .unset, .unset, .unset, .unset, .unset, .unset, .unset, .unset, .unset, .unset, .unset]) (plainFor_of_name pn_com_example_novatio_novatio_core_AsciiDigitsValuePinLaw) hE hO nofun (fun m => ef_ct0 m p1 p2 p3 p4 p5 p6) ?_
  refine Wp.bipush (x := (15 : Int32)) at_0 (pc' := 2) rfl rfl ?_
  refine Wp.newP (cap := 15) (hw _ (List.mem_of_getElem? (i := 0) rfl)) (by decide) (by decide) (by decide) at_2 (pc' := 4) rfl (k' := 1) (n' := 15) rfl rfl (by decide) (by decide) (fun h1 b1 k_b1 g_b1 sz_b1 Xh1 V_b1 => ?_)
  replace V_b1 : Arv Z h1 b1 k_b1 .long (15 : Int32) [(.long (0 : Int64)), (.long (0 : Int64)), (.long (0 : Int64)), (.long (0 : Int64)), (.long (0 : Int64)), (.long (0 : Int64)), (.long (0 : Int64)), (.long (0 : Int64)), (.long (0 : Int64)), (.long (0 : Int64)), (.long (0 : Int64)), (.long (0 : Int64)), (.long (0 : Int64)), (.long (0 : Int64)), (.long (0 : Int64))] (.long (0 : Int64)) := V_b1.pad (pad_rep [] (.long (0 : Int64)) 15)
  refine Wp.dup at_4 (pc' := 5) rfl rfl ?_
  refine Wp.iconst (x := (0 : Int32)) at_5 (pc' := 6) rfl rfl ?_
  refine Wp.lconst (x := (1 : Int64)) at_6 (pc' := 7) rfl rfl ?_
  refine Wp.lastore V_b1 (by decide) (by decide) (i := 0) rfl (Nat.le_of_ble_eq_true rfl) at_7 (pc' := 8) rfl (Or.inr sz_b1) (fun h2 W2 Vh2 => ?_)
  replace V_b1 : Arv Z h2 b1 k_b1 .long (15 : Int32) [(.long (1 : Int64)), (.long (0 : Int64)), (.long (0 : Int64)), (.long (0 : Int64)), (.long (0 : Int64)), (.long (0 : Int64)), (.long (0 : Int64)), (.long (0 : Int64)), (.long (0 : Int64)), (.long (0 : Int64)), (.long (0 : Int64)), (.long (0 : Int64)), (.long (0 : Int64)), (.long (0 : Int64)), (.long (0 : Int64))] (.long (0 : Int64)) := Vh2
  refine Wp.dup at_8 (pc' := 9) rfl rfl ?_
  refine Wp.iconst (x := (1 : Int32)) at_9 (pc' := 10) rfl rfl ?_
  refine Wp.ldcL rfl (hw _ (List.mem_of_getElem? (i := 1) rfl)) at_10 (pc' := 13) rfl ?_
  refine Wp.lastore V_b1 (by decide) (by decide) (i := 1) rfl (Nat.le_of_ble_eq_true rfl) at_13 (pc' := 14) rfl (Or.inr sz_b1) (fun h3 W3 Vh3 => ?_)
  replace V_b1 : Arv Z h3 b1 k_b1 .long (15 : Int32) [(.long (1 : Int64)), (.long (10 : Int64)), (.long (0 : Int64)), (.long (0 : Int64)), (.long (0 : Int64)), (.long (0 : Int64)), (.long (0 : Int64)), (.long (0 : Int64)), (.long (0 : Int64)), (.long (0 : Int64)), (.long (0 : Int64)), (.long (0 : Int64)), (.long (0 : Int64)), (.long (0 : Int64)), (.long (0 : Int64))] (.long (0 : Int64)) := Vh3
  refine Wp.dup at_14 (pc' := 15) rfl rfl ?_
  refine Wp.iconst (x := (2 : Int32)) at_15 (pc' := 16) rfl rfl ?_
  refine Wp.ldcL rfl (hw _ (List.mem_of_getElem? (i := 2) rfl)) at_16 (pc' := 19) rfl ?_
  refine Wp.lastore V_b1 (by decide) (by decide) (i := 2) rfl (Nat.le_of_ble_eq_true rfl) at_19 (pc' := 20) rfl (Or.inr sz_b1) (fun h4 W4 Vh4 => ?_)
  replace V_b1 : Arv Z h4 b1 k_b1 .long (15 : Int32) [(.long (1 : Int64)), (.long (10 : Int64)), (.long (100 : Int64)), (.long (0 : Int64)), (.long (0 : Int64)), (.long (0 : Int64)), (.long (0 : Int64)), (.long (0 : Int64)), (.long (0 : Int64)), (.long (0 : Int64)), (.long (0 : Int64)), (.long (0 : Int64)), (.long (0 : Int64)), (.long (0 : Int64)), (.long (0 : Int64))] (.long (0 : Int64)) := Vh4
  refine Wp.dup at_20 (pc' := 21) rfl rfl ?_
  refine Wp.iconst (x := (3 : Int32)) at_21 (pc' := 22) rfl rfl ?_
  refine Wp.ldcL rfl (hw _ (List.mem_of_getElem? (i := 3) rfl)) at_22 (pc' := 25) rfl ?_
  refine Wp.lastore V_b1 (by decide) (by decide) (i := 3) rfl (Nat.le_of_ble_eq_true rfl) at_25 (pc' := 26) rfl (Or.inr sz_b1) (fun h5 W5 Vh5 => ?_)
  replace V_b1 : Arv Z h5 b1 k_b1 .long (15 : Int32) [(.long (1 : Int64)), (.long (10 : Int64)), (.long (100 : Int64)), (.long (1000 : Int64)), (.long (0 : Int64)), (.long (0 : Int64)), (.long (0 : Int64)), (.long (0 : Int64)), (.long (0 : Int64)), (.long (0 : Int64)), (.long (0 : Int64)), (.long (0 : Int64)), (.long (0 : Int64)), (.long (0 : Int64)), (.long (0 : Int64))] (.long (0 : Int64)) := Vh5
  refine Wp.dup at_26 (pc' := 27) rfl rfl ?_
  refine Wp.iconst (x := (4 : Int32)) at_27 (pc' := 28) rfl rfl ?_
  refine Wp.ldcL rfl (hw _ (List.mem_of_getElem? (i := 4) rfl)) at_28 (pc' := 31) rfl ?_
  refine Wp.lastore V_b1 (by decide) (by decide) (i := 4) rfl (Nat.le_of_ble_eq_true rfl) at_31 (pc' := 32) rfl (Or.inr sz_b1) (fun h6 W6 Vh6 => ?_)
  replace V_b1 : Arv Z h6 b1 k_b1 .long (15 : Int32) [(.long (1 : Int64)), (.long (10 : Int64)), (.long (100 : Int64)), (.long (1000 : Int64)), (.long (10000 : Int64)), (.long (0 : Int64)), (.long (0 : Int64)), (.long (0 : Int64)), (.long (0 : Int64)), (.long (0 : Int64)), (.long (0 : Int64)), (.long (0 : Int64)), (.long (0 : Int64)), (.long (0 : Int64)), (.long (0 : Int64))] (.long (0 : Int64)) := Vh6
  refine Wp.dup at_32 (pc' := 33) rfl rfl ?_
  refine Wp.iconst (x := (5 : Int32)) at_33 (pc' := 34) rfl rfl ?_
  refine Wp.ldcL rfl (hw _ (List.mem_of_getElem? (i := 5) rfl)) at_34 (pc' := 37) rfl ?_
  refine Wp.lastore V_b1 (by decide) (by decide) (i := 5) rfl (Nat.le_of_ble_eq_true rfl) at_37 (pc' := 38) rfl (Or.inr sz_b1) (fun h7 W7 Vh7 => ?_)
  replace V_b1 : Arv Z h7 b1 k_b1 .long (15 : Int32) [(.long (1 : Int64)), (.long (10 : Int64)), (.long (100 : Int64)), (.long (1000 : Int64)), (.long (10000 : Int64)), (.long (100000 : Int64)), (.long (0 : Int64)), (.long (0 : Int64)), (.long (0 : Int64)), (.long (0 : Int64)), (.long (0 : Int64)), (.long (0 : Int64)), (.long (0 : Int64)), (.long (0 : Int64)), (.long (0 : Int64))] (.long (0 : Int64)) := Vh7
  refine Wp.dup at_38 (pc' := 39) rfl rfl ?_
  refine Wp.bipush (x := (6 : Int32)) at_39 (pc' := 41) rfl rfl ?_
  refine Wp.ldcL rfl (hw _ (List.mem_of_getElem? (i := 6) rfl)) at_41 (pc' := 44) rfl ?_
  refine Wp.lastore V_b1 (by decide) (by decide) (i := 6) rfl (Nat.le_of_ble_eq_true rfl) at_44 (pc' := 45) rfl (Or.inr sz_b1) (fun h8 W8 Vh8 => ?_)
  replace V_b1 : Arv Z h8 b1 k_b1 .long (15 : Int32) [(.long (1 : Int64)), (.long (10 : Int64)), (.long (100 : Int64)), (.long (1000 : Int64)), (.long (10000 : Int64)), (.long (100000 : Int64)), (.long (1000000 : Int64)), (.long (0 : Int64)), (.long (0 : Int64)), (.long (0 : Int64)), (.long (0 : Int64)), (.long (0 : Int64)), (.long (0 : Int64)), (.long (0 : Int64)), (.long (0 : Int64))] (.long (0 : Int64)) := Vh8
  refine Wp.dup at_45 (pc' := 46) rfl rfl ?_
  refine Wp.bipush (x := (7 : Int32)) at_46 (pc' := 48) rfl rfl ?_
  refine Wp.ldcL rfl (hw _ (List.mem_of_getElem? (i := 7) rfl)) at_48 (pc' := 51) rfl ?_
  refine Wp.lastore V_b1 (by decide) (by decide) (i := 7) rfl (Nat.le_of_ble_eq_true rfl) at_51 (pc' := 52) rfl (Or.inr sz_b1) (fun h9 W9 Vh9 => ?_)
  replace V_b1 : Arv Z h9 b1 k_b1 .long (15 : Int32) [(.long (1 : Int64)), (.long (10 : Int64)), (.long (100 : Int64)), (.long (1000 : Int64)), (.long (10000 : Int64)), (.long (100000 : Int64)), (.long (1000000 : Int64)), (.long (10000000 : Int64)), (.long (0 : Int64)), (.long (0 : Int64)), (.long (0 : Int64)), (.long (0 : Int64)), (.long (0 : Int64)), (.long (0 : Int64)), (.long (0 : Int64))] (.long (0 : Int64)) := Vh9
  refine Wp.dup at_52 (pc' := 53) rfl rfl ?_
  refine Wp.bipush (x := (8 : Int32)) at_53 (pc' := 55) rfl rfl ?_
  refine Wp.ldcL rfl (hw _ (List.mem_of_getElem? (i := 8) rfl)) at_55 (pc' := 58) rfl ?_
  refine Wp.lastore V_b1 (by decide) (by decide) (i := 8) rfl (Nat.le_of_ble_eq_true rfl) at_58 (pc' := 59) rfl (Or.inr sz_b1) (fun h10 W10 Vh10 => ?_)
  replace V_b1 : Arv Z h10 b1 k_b1 .long (15 : Int32) [(.long (1 : Int64)), (.long (10 : Int64)), (.long (100 : Int64)), (.long (1000 : Int64)), (.long (10000 : Int64)), (.long (100000 : Int64)), (.long (1000000 : Int64)), (.long (10000000 : Int64)), (.long (100000000 : Int64)), (.long (0 : Int64)), (.long (0 : Int64)), (.long (0 : Int64)), (.long (0 : Int64)), (.long (0 : Int64)), (.long (0 : Int64))] (.long (0 : Int64)) := Vh10
  refine Wp.dup at_59 (pc' := 60) rfl rfl ?_
  refine Wp.bipush (x := (9 : Int32)) at_60 (pc' := 62) rfl rfl ?_
  refine Wp.ldcL rfl (hw _ (List.mem_of_getElem? (i := 9) rfl)) at_62 (pc' := 65) rfl ?_
  refine Wp.lastore V_b1 (by decide) (by decide) (i := 9) rfl (Nat.le_of_ble_eq_true rfl) at_65 (pc' := 66) rfl (Or.inr sz_b1) (fun h11 W11 Vh11 => ?_)
  replace V_b1 : Arv Z h11 b1 k_b1 .long (15 : Int32) [(.long (1 : Int64)), (.long (10 : Int64)), (.long (100 : Int64)), (.long (1000 : Int64)), (.long (10000 : Int64)), (.long (100000 : Int64)), (.long (1000000 : Int64)), (.long (10000000 : Int64)), (.long (100000000 : Int64)), (.long (1000000000 : Int64)), (.long (0 : Int64)), (.long (0 : Int64)), (.long (0 : Int64)), (.long (0 : Int64)), (.long (0 : Int64))] (.long (0 : Int64)) := Vh11
  refine Wp.dup at_66 (pc' := 67) rfl rfl ?_
  refine Wp.bipush (x := (10 : Int32)) at_67 (pc' := 69) rfl rfl ?_
  refine Wp.ldcL rfl (hw _ (List.mem_of_getElem? (i := 10) rfl)) at_69 (pc' := 72) rfl ?_
  refine Wp.lastore V_b1 (by decide) (by decide) (i := 10) rfl (Nat.le_of_ble_eq_true rfl) at_72 (pc' := 73) rfl (Or.inr sz_b1) (fun h12 W12 Vh12 => ?_)
  replace V_b1 : Arv Z h12 b1 k_b1 .long (15 : Int32) [(.long (1 : Int64)), (.long (10 : Int64)), (.long (100 : Int64)), (.long (1000 : Int64)), (.long (10000 : Int64)), (.long (100000 : Int64)), (.long (1000000 : Int64)), (.long (10000000 : Int64)), (.long (100000000 : Int64)), (.long (1000000000 : Int64)), (.long (10000000000 : Int64)), (.long (0 : Int64)), (.long (0 : Int64)), (.long (0 : Int64)), (.long (0 : Int64))] (.long (0 : Int64)) := Vh12
  refine Wp.dup at_73 (pc' := 74) rfl rfl ?_
  refine Wp.bipush (x := (11 : Int32)) at_74 (pc' := 76) rfl rfl ?_
  refine Wp.ldcL rfl (hw _ (List.mem_of_getElem? (i := 11) rfl)) at_76 (pc' := 79) rfl ?_
  refine Wp.lastore V_b1 (by decide) (by decide) (i := 11) rfl (Nat.le_of_ble_eq_true rfl) at_79 (pc' := 80) rfl (Or.inr sz_b1) (fun h13 W13 Vh13 => ?_)
  replace V_b1 : Arv Z h13 b1 k_b1 .long (15 : Int32) [(.long (1 : Int64)), (.long (10 : Int64)), (.long (100 : Int64)), (.long (1000 : Int64)), (.long (10000 : Int64)), (.long (100000 : Int64)), (.long (1000000 : Int64)), (.long (10000000 : Int64)), (.long (100000000 : Int64)), (.long (1000000000 : Int64)), (.long (10000000000 : Int64)), (.long (100000000000 : Int64)), (.long (0 : Int64)), (.long (0 : Int64)), (.long (0 : Int64))] (.long (0 : Int64)) := Vh13
  refine Wp.dup at_80 (pc' := 81) rfl rfl ?_
  refine Wp.bipush (x := (12 : Int32)) at_81 (pc' := 83) rfl rfl ?_
  refine Wp.ldcL rfl (hw _ (List.mem_of_getElem? (i := 12) rfl)) at_83 (pc' := 86) rfl ?_
  refine Wp.lastore V_b1 (by decide) (by decide) (i := 12) rfl (Nat.le_of_ble_eq_true rfl) at_86 (pc' := 87) rfl (Or.inr sz_b1) (fun h14 W14 Vh14 => ?_)
  replace V_b1 : Arv Z h14 b1 k_b1 .long (15 : Int32) [(.long (1 : Int64)), (.long (10 : Int64)), (.long (100 : Int64)), (.long (1000 : Int64)), (.long (10000 : Int64)), (.long (100000 : Int64)), (.long (1000000 : Int64)), (.long (10000000 : Int64)), (.long (100000000 : Int64)), (.long (1000000000 : Int64)), (.long (10000000000 : Int64)), (.long (100000000000 : Int64)), (.long (1000000000000 : Int64)), (.long (0 : Int64)), (.long (0 : Int64))] (.long (0 : Int64)) := Vh14
  refine Wp.dup at_87 (pc' := 88) rfl rfl ?_
  refine Wp.bipush (x := (13 : Int32)) at_88 (pc' := 90) rfl rfl ?_
  refine Wp.ldcL rfl (hw _ (List.mem_of_getElem? (i := 13) rfl)) at_90 (pc' := 93) rfl ?_
  refine Wp.lastore V_b1 (by decide) (by decide) (i := 13) rfl (Nat.le_of_ble_eq_true rfl) at_93 (pc' := 94) rfl (Or.inr sz_b1) (fun h15 W15 Vh15 => ?_)
  replace V_b1 : Arv Z h15 b1 k_b1 .long (15 : Int32) [(.long (1 : Int64)), (.long (10 : Int64)), (.long (100 : Int64)), (.long (1000 : Int64)), (.long (10000 : Int64)), (.long (100000 : Int64)), (.long (1000000 : Int64)), (.long (10000000 : Int64)), (.long (100000000 : Int64)), (.long (1000000000 : Int64)), (.long (10000000000 : Int64)), (.long (100000000000 : Int64)), (.long (1000000000000 : Int64)), (.long (10000000000000 : Int64)), (.long (0 : Int64))] (.long (0 : Int64)) := Vh15
  refine Wp.dup at_94 (pc' := 95) rfl rfl ?_
  refine Wp.bipush (x := (14 : Int32)) at_95 (pc' := 97) rfl rfl ?_
  refine Wp.ldcL rfl (hw _ (List.mem_of_getElem? (i := 14) rfl)) at_97 (pc' := 100) rfl ?_
  refine Wp.lastore V_b1 (by decide) (by decide) (i := 14) rfl (Nat.le_of_ble_eq_true rfl) at_100 (pc' := 101) rfl (Or.inr sz_b1) (fun h16 W16 Vh16 => ?_)
  replace V_b1 : Arv Z h16 b1 k_b1 .long (15 : Int32) [(.long (1 : Int64)), (.long (10 : Int64)), (.long (100 : Int64)), (.long (1000 : Int64)), (.long (10000 : Int64)), (.long (100000 : Int64)), (.long (1000000 : Int64)), (.long (10000000 : Int64)), (.long (100000000 : Int64)), (.long (1000000000 : Int64)), (.long (10000000000 : Int64)), (.long (100000000000 : Int64)), (.long (1000000000000 : Int64)), (.long (10000000000000 : Int64)), (.long (100000000000000 : Int64))] (.long (0 : Int64)) := Vh16
  refine Wp.astore (l' := #[.val (.long p1), .second, .val (.int p2), .val (.int p3), .val (.int p4), .val (.int p5), .val (.int p6), .val (.ref b1), .unset, .unset, .unset, .unset, .unset, .unset, .unset, .unset, .unset, .unset]) at_101 (pc' := 103) rfl rfl rfl ?_
  refine Wp.lloadN at_103 (pc' := 104) rfl rfl ?_
  refine Wp.ldcL rfl (hw _ (List.mem_of_getElem? (i := 15) rfl)) at_104 (pc' := 107) rfl ?_
  refine Wp.land at_107 (pc' := 108) rfl ?_
  refine Wp.aload at_108 (pc' := 110) rfl rfl rfl ?_
  refine Wp.bipush (x := (14 : Int32)) at_110 (pc' := 112) rfl rfl ?_
  refine Wp.laload V_b1 (by decide) (by decide) (v := (.long (100000000000000 : Int64))) rfl at_112 (pc' := 113) rfl ?_
  refine Wp.lrem at_113 (pc' := 114) rfl (by decide) ?_
  obtain ⟨N, hN, eN⟩ := own_N p1
  rw [eN]
  refine Wp.lstore (l' := #[.val (.long p1), .second, .val (.int p2), .val (.int p3), .val (.int p4), .val (.int p5), .val (.int p6), .val (.ref b1), .val (.long (Int64.ofNat N)), .second, .unset, .unset, .unset, .unset, .unset, .unset, .unset, .unset]) at_114 (pc' := 116) rfl rfl ?_
  refine Wp.bipush (x := (18 : Int32)) at_116 (pc' := 118) rfl rfl ?_
  refine Wp.newP (cap := 18) (hw _ (List.mem_of_getElem? (i := 16) rfl)) (by decide) (by decide) (by decide) at_118 (pc' := 120) rfl (k' := 2) (n' := 33) rfl rfl (by decide) (by decide) (fun h17 b17 k_b17 g_b17 sz_b17 Xh17 V_b17 => ?_)
  have ne_b1_b17 : b1 ≠ b17 := Nat.ne_of_lt (Nat.lt_of_lt_of_eq V_b1.lt g_b17.symm)
  replace V_b1 := V_b1.ext Xh17
  replace V_b17 : Arv Z h17 b17 k_b17 .char (18 : Int32) [(.int (0 : Int32)), (.int (0 : Int32)), (.int (0 : Int32)), (.int (0 : Int32)), (.int (0 : Int32)), (.int (0 : Int32)), (.int (0 : Int32)), (.int (0 : Int32)), (.int (0 : Int32)), (.int (0 : Int32)), (.int (0 : Int32)), (.int (0 : Int32)), (.int (0 : Int32)), (.int (0 : Int32)), (.int (0 : Int32)), (.int (0 : Int32)), (.int (0 : Int32)), (.int (0 : Int32))] (.int (0 : Int32)) := V_b17.pad (pad_rep [] (.int (0 : Int32)) 18)
  refine Wp.astore (l' := #[.val (.long p1), .second, .val (.int p2), .val (.int p3), .val (.int p4), .val (.int p5), .val (.int p6), .val (.ref b1), .val (.long (Int64.ofNat N)), .second, .val (.ref b17), .unset, .unset, .unset, .unset, .unset, .unset, .unset]) at_120 (pc' := 122) rfl rfl rfl ?_
  refine Wp.aload at_122 (pc' := 124) rfl rfl rfl ?_
  refine Wp.iconst (x := (0 : Int32)) at_124 (pc' := 125) rfl rfl ?_
  refine Wp.lload at_125 (pc' := 127) rfl rfl ?_
  refine Wp.aload at_127 (pc' := 129) rfl rfl rfl ?_
  refine Wp.bipush (x := (13 : Int32)) at_129 (pc' := 131) rfl rfl ?_
  refine Wp.laload V_b1 (by decide) (by decide) (v := (.long (10000000000000 : Int64))) rfl at_131 (pc' := 132) rfl ?_
  refine Wp.old fun hOc => ?_
  refine Wp.callS (W := 2) (argsL := [(.long (Int64.ofNat N)), (.long (10000000000000 : Int64))]) (rest := [(.int (0 : Int32)), (.ref b17)]) rfl (ctDIG l Z a0 hw hE N 10000000000000 h17 hOc hN (by decide)) (hw _ (List.mem_of_getElem? (i := 17) rfl)) (hw _ (List.mem_of_getElem? (i := 18) rfl)) (hw _ (List.mem_of_getElem? (i := 20) rfl)) (hw _ (List.mem_of_getElem? (i := 19) rfl)) (by decide) (lenOf pd__JJ_C rfl) at_132 rfl rfl rfl (Nat.le_of_eq rfl) (pc' := 135) rfl nofun nofun (by decide) (by decide) (k' := 2) (n' := 33) rfl rfl (by decide) (by decide) (fun vh18 h18 zh18 Kh18 qh18 => ?_)
  obtain ⟨c132, rfl, e_c132⟩ : ∃ c, vh18 = some (.int c) ∧ c = Int32.ofNat (48 + N / 10000000000000 % 10) := ⟨_, qh18, rfl⟩
  have n_c132 : nar .char c132 = c132 := by rw [e_c132]; exact own_c16 (by omega)
  replace V_b1 := V_b1.keep Kh18 nin0
  replace V_b17 := V_b17.keep Kh18 nin0
  refine Wp.eqS (S' := [(.int c132), (.int (0 : Int32)), (.ref b17)]) rfl ?_
  refine Wp.castore V_b17 (by decide) (by decide) (i := 0) rfl (Nat.le_of_ble_eq_true rfl) at_135 (pc' := 136) rfl (Or.inr sz_b17) (fun h19 W19 Vh19 => ?_)
  replace V_b1 := V_b1.other W19 ne_b1_b17
  replace V_b17 : Arv Z h19 b17 k_b17 .char (18 : Int32) [(.int (nar .char c132)), (.int (0 : Int32)), (.int (0 : Int32)), (.int (0 : Int32)), (.int (0 : Int32)), (.int (0 : Int32)), (.int (0 : Int32)), (.int (0 : Int32)), (.int (0 : Int32)), (.int (0 : Int32)), (.int (0 : Int32)), (.int (0 : Int32)), (.int (0 : Int32)), (.int (0 : Int32)), (.int (0 : Int32)), (.int (0 : Int32)), (.int (0 : Int32)), (.int (0 : Int32))] (.int (0 : Int32)) := Vh19
  refine Wp.aload at_136 (pc' := 138) rfl rfl rfl ?_
  refine Wp.iconst (x := (1 : Int32)) at_138 (pc' := 139) rfl rfl ?_
  refine Wp.lload at_139 (pc' := 141) rfl rfl ?_
  refine Wp.aload at_141 (pc' := 143) rfl rfl rfl ?_
  refine Wp.bipush (x := (12 : Int32)) at_143 (pc' := 145) rfl rfl ?_
  refine Wp.laload V_b1 (by decide) (by decide) (v := (.long (1000000000000 : Int64))) rfl at_145 (pc' := 146) rfl ?_
  refine Wp.old fun hOc => ?_
  refine Wp.callS (W := 2) (argsL := [(.long (Int64.ofNat N)), (.long (1000000000000 : Int64))]) (rest := [(.int (1 : Int32)), (.ref b17)]) rfl (ctDIG l Z a0 hw hE N 1000000000000 h19 hOc hN (by decide)) (hw _ (List.mem_of_getElem? (i := 17) rfl)) (hw _ (List.mem_of_getElem? (i := 18) rfl)) (hw _ (List.mem_of_getElem? (i := 20) rfl)) (hw _ (List.mem_of_getElem? (i := 19) rfl)) (by decide) (lenOf pd__JJ_C rfl) at_146 rfl rfl rfl (Nat.le_of_eq rfl) (pc' := 149) rfl nofun nofun (by decide) (by decide) (k' := 2) (n' := 33) rfl rfl (by decide) (by decide) (fun vh20 h20 zh20 Kh20 qh20 => ?_)
  obtain ⟨c146, rfl, e_c146⟩ : ∃ c, vh20 = some (.int c) ∧ c = Int32.ofNat (48 + N / 1000000000000 % 10) := ⟨_, qh20, rfl⟩
  have n_c146 : nar .char c146 = c146 := by rw [e_c146]; exact own_c16 (by omega)
  replace V_b1 := V_b1.keep Kh20 nin0
  replace V_b17 := V_b17.keep Kh20 nin0
  refine Wp.eqS (S' := [(.int c146), (.int (1 : Int32)), (.ref b17)]) rfl ?_
  refine Wp.castore V_b17 (by decide) (by decide) (i := 1) rfl (Nat.le_of_ble_eq_true rfl) at_149 (pc' := 150) rfl (Or.inr sz_b17) (fun h21 W21 Vh21 => ?_)
  replace V_b1 := V_b1.other W21 ne_b1_b17
  replace V_b17 : Arv Z h21 b17 k_b17 .char (18 : Int32) [(.int (nar .char c132)), (.int (nar .char c146)), (.int (0 : Int32)), (.int (0 : Int32)), (.int (0 : Int32)), (.int (0 : Int32)), (.int (0 : Int32)), (.int (0 : Int32)), (.int (0 : Int32)), (.int (0 : Int32)), (.int (0 : Int32)), (.int (0 : Int32)), (.int (0 : Int32)), (.int (0 : Int32)), (.int (0 : Int32)), (.int (0 : Int32)), (.int (0 : Int32)), (.int (0 : Int32))] (.int (0 : Int32)) := Vh21
  refine Wp.aload at_150 (pc' := 152) rfl rfl rfl ?_
  refine Wp.iconst (x := (2 : Int32)) at_152 (pc' := 153) rfl rfl ?_
  refine Wp.lload at_153 (pc' := 155) rfl rfl ?_
  refine Wp.aload at_155 (pc' := 157) rfl rfl rfl ?_
  refine Wp.bipush (x := (11 : Int32)) at_157 (pc' := 159) rfl rfl ?_
  refine Wp.laload V_b1 (by decide) (by decide) (v := (.long (100000000000 : Int64))) rfl at_159 (pc' := 160) rfl ?_
  refine Wp.old fun hOc => ?_
  refine Wp.callS (W := 2) (argsL := [(.long (Int64.ofNat N)), (.long (100000000000 : Int64))]) (rest := [(.int (2 : Int32)), (.ref b17)]) rfl (ctDIG l Z a0 hw hE N 100000000000 h21 hOc hN (by decide)) (hw _ (List.mem_of_getElem? (i := 17) rfl)) (hw _ (List.mem_of_getElem? (i := 18) rfl)) (hw _ (List.mem_of_getElem? (i := 20) rfl)) (hw _ (List.mem_of_getElem? (i := 19) rfl)) (by decide) (lenOf pd__JJ_C rfl) at_160 rfl rfl rfl (Nat.le_of_eq rfl) (pc' := 163) rfl nofun nofun (by decide) (by decide) (k' := 2) (n' := 33) rfl rfl (by decide) (by decide) (fun vh22 h22 zh22 Kh22 qh22 => ?_)
  obtain ⟨c160, rfl, e_c160⟩ : ∃ c, vh22 = some (.int c) ∧ c = Int32.ofNat (48 + N / 100000000000 % 10) := ⟨_, qh22, rfl⟩
  have n_c160 : nar .char c160 = c160 := by rw [e_c160]; exact own_c16 (by omega)
  replace V_b1 := V_b1.keep Kh22 nin0
  replace V_b17 := V_b17.keep Kh22 nin0
  refine Wp.eqS (S' := [(.int c160), (.int (2 : Int32)), (.ref b17)]) rfl ?_
  refine Wp.castore V_b17 (by decide) (by decide) (i := 2) rfl (Nat.le_of_ble_eq_true rfl) at_163 (pc' := 164) rfl (Or.inr sz_b17) (fun h23 W23 Vh23 => ?_)
  replace V_b1 := V_b1.other W23 ne_b1_b17
  replace V_b17 : Arv Z h23 b17 k_b17 .char (18 : Int32) [(.int (nar .char c132)), (.int (nar .char c146)), (.int (nar .char c160)), (.int (0 : Int32)), (.int (0 : Int32)), (.int (0 : Int32)), (.int (0 : Int32)), (.int (0 : Int32)), (.int (0 : Int32)), (.int (0 : Int32)), (.int (0 : Int32)), (.int (0 : Int32)), (.int (0 : Int32)), (.int (0 : Int32)), (.int (0 : Int32)), (.int (0 : Int32)), (.int (0 : Int32)), (.int (0 : Int32))] (.int (0 : Int32)) := Vh23
  refine Wp.aload at_164 (pc' := 166) rfl rfl rfl ?_
  refine Wp.iconst (x := (3 : Int32)) at_166 (pc' := 167) rfl rfl ?_
  refine Wp.lload at_167 (pc' := 169) rfl rfl ?_
  refine Wp.aload at_169 (pc' := 171) rfl rfl rfl ?_
  refine Wp.bipush (x := (10 : Int32)) at_171 (pc' := 173) rfl rfl ?_
  refine Wp.laload V_b1 (by decide) (by decide) (v := (.long (10000000000 : Int64))) rfl at_173 (pc' := 174) rfl ?_
  refine Wp.old fun hOc => ?_
  refine Wp.callS (W := 2) (argsL := [(.long (Int64.ofNat N)), (.long (10000000000 : Int64))]) (rest := [(.int (3 : Int32)), (.ref b17)]) rfl (ctDIG l Z a0 hw hE N 10000000000 h23 hOc hN (by decide)) (hw _ (List.mem_of_getElem? (i := 17) rfl)) (hw _ (List.mem_of_getElem? (i := 18) rfl)) (hw _ (List.mem_of_getElem? (i := 20) rfl)) (hw _ (List.mem_of_getElem? (i := 19) rfl)) (by decide) (lenOf pd__JJ_C rfl) at_174 rfl rfl rfl (Nat.le_of_eq rfl) (pc' := 177) rfl nofun nofun (by decide) (by decide) (k' := 2) (n' := 33) rfl rfl (by decide) (by decide) (fun vh24 h24 zh24 Kh24 qh24 => ?_)
  obtain ⟨c174, rfl, e_c174⟩ : ∃ c, vh24 = some (.int c) ∧ c = Int32.ofNat (48 + N / 10000000000 % 10) := ⟨_, qh24, rfl⟩
  have n_c174 : nar .char c174 = c174 := by rw [e_c174]; exact own_c16 (by omega)
  replace V_b1 := V_b1.keep Kh24 nin0
  replace V_b17 := V_b17.keep Kh24 nin0
  refine Wp.eqS (S' := [(.int c174), (.int (3 : Int32)), (.ref b17)]) rfl ?_
  refine Wp.castore V_b17 (by decide) (by decide) (i := 3) rfl (Nat.le_of_ble_eq_true rfl) at_177 (pc' := 178) rfl (Or.inr sz_b17) (fun h25 W25 Vh25 => ?_)
  replace V_b1 := V_b1.other W25 ne_b1_b17
  replace V_b17 : Arv Z h25 b17 k_b17 .char (18 : Int32) [(.int (nar .char c132)), (.int (nar .char c146)), (.int (nar .char c160)), (.int (nar .char c174)), (.int (0 : Int32)), (.int (0 : Int32)), (.int (0 : Int32)), (.int (0 : Int32)), (.int (0 : Int32)), (.int (0 : Int32)), (.int (0 : Int32)), (.int (0 : Int32)), (.int (0 : Int32)), (.int (0 : Int32)), (.int (0 : Int32)), (.int (0 : Int32)), (.int (0 : Int32)), (.int (0 : Int32))] (.int (0 : Int32)) := Vh25
  refine Wp.aload at_178 (pc' := 180) rfl rfl rfl ?_
  refine Wp.iconst (x := (4 : Int32)) at_180 (pc' := 181) rfl rfl ?_
  refine Wp.lload at_181 (pc' := 183) rfl rfl ?_
  refine Wp.aload at_183 (pc' := 185) rfl rfl rfl ?_
  refine Wp.bipush (x := (9 : Int32)) at_185 (pc' := 187) rfl rfl ?_
  refine Wp.laload V_b1 (by decide) (by decide) (v := (.long (1000000000 : Int64))) rfl at_187 (pc' := 188) rfl ?_
  refine Wp.old fun hOc => ?_
  refine Wp.callS (W := 2) (argsL := [(.long (Int64.ofNat N)), (.long (1000000000 : Int64))]) (rest := [(.int (4 : Int32)), (.ref b17)]) rfl (ctDIG l Z a0 hw hE N 1000000000 h25 hOc hN (by decide)) (hw _ (List.mem_of_getElem? (i := 17) rfl)) (hw _ (List.mem_of_getElem? (i := 18) rfl)) (hw _ (List.mem_of_getElem? (i := 20) rfl)) (hw _ (List.mem_of_getElem? (i := 19) rfl)) (by decide) (lenOf pd__JJ_C rfl) at_188 rfl rfl rfl (Nat.le_of_eq rfl) (pc' := 191) rfl nofun nofun (by decide) (by decide) (k' := 2) (n' := 33) rfl rfl (by decide) (by decide) (fun vh26 h26 zh26 Kh26 qh26 => ?_)
  obtain ⟨c188, rfl, e_c188⟩ : ∃ c, vh26 = some (.int c) ∧ c = Int32.ofNat (48 + N / 1000000000 % 10) := ⟨_, qh26, rfl⟩
  have n_c188 : nar .char c188 = c188 := by rw [e_c188]; exact own_c16 (by omega)
  replace V_b1 := V_b1.keep Kh26 nin0
  replace V_b17 := V_b17.keep Kh26 nin0
  refine Wp.eqS (S' := [(.int c188), (.int (4 : Int32)), (.ref b17)]) rfl ?_
  refine Wp.castore V_b17 (by decide) (by decide) (i := 4) rfl (Nat.le_of_ble_eq_true rfl) at_191 (pc' := 192) rfl (Or.inr sz_b17) (fun h27 W27 Vh27 => ?_)
  replace V_b1 := V_b1.other W27 ne_b1_b17
  replace V_b17 : Arv Z h27 b17 k_b17 .char (18 : Int32) [(.int (nar .char c132)), (.int (nar .char c146)), (.int (nar .char c160)), (.int (nar .char c174)), (.int (nar .char c188)), (.int (0 : Int32)), (.int (0 : Int32)), (.int (0 : Int32)), (.int (0 : Int32)), (.int (0 : Int32)), (.int (0 : Int32)), (.int (0 : Int32)), (.int (0 : Int32)), (.int (0 : Int32)), (.int (0 : Int32)), (.int (0 : Int32)), (.int (0 : Int32)), (.int (0 : Int32))] (.int (0 : Int32)) := Vh27
  refine Wp.aload at_192 (pc' := 194) rfl rfl rfl ?_
  refine Wp.iconst (x := (5 : Int32)) at_194 (pc' := 195) rfl rfl ?_
  refine Wp.lload at_195 (pc' := 197) rfl rfl ?_
  refine Wp.aload at_197 (pc' := 199) rfl rfl rfl ?_
  refine Wp.bipush (x := (8 : Int32)) at_199 (pc' := 201) rfl rfl ?_
  refine Wp.laload V_b1 (by decide) (by decide) (v := (.long (100000000 : Int64))) rfl at_201 (pc' := 202) rfl ?_
  refine Wp.old fun hOc => ?_
  refine Wp.callS (W := 2) (argsL := [(.long (Int64.ofNat N)), (.long (100000000 : Int64))]) (rest := [(.int (5 : Int32)), (.ref b17)]) rfl (ctDIG l Z a0 hw hE N 100000000 h27 hOc hN (by decide)) (hw _ (List.mem_of_getElem? (i := 17) rfl)) (hw _ (List.mem_of_getElem? (i := 18) rfl)) (hw _ (List.mem_of_getElem? (i := 20) rfl)) (hw _ (List.mem_of_getElem? (i := 19) rfl)) (by decide) (lenOf pd__JJ_C rfl) at_202 rfl rfl rfl (Nat.le_of_eq rfl) (pc' := 205) rfl nofun nofun (by decide) (by decide) (k' := 2) (n' := 33) rfl rfl (by decide) (by decide) (fun vh28 h28 zh28 Kh28 qh28 => ?_)
  obtain ⟨c202, rfl, e_c202⟩ : ∃ c, vh28 = some (.int c) ∧ c = Int32.ofNat (48 + N / 100000000 % 10) := ⟨_, qh28, rfl⟩
  have n_c202 : nar .char c202 = c202 := by rw [e_c202]; exact own_c16 (by omega)
  replace V_b1 := V_b1.keep Kh28 nin0
  replace V_b17 := V_b17.keep Kh28 nin0
  refine Wp.eqS (S' := [(.int c202), (.int (5 : Int32)), (.ref b17)]) rfl ?_
  refine Wp.castore V_b17 (by decide) (by decide) (i := 5) rfl (Nat.le_of_ble_eq_true rfl) at_205 (pc' := 206) rfl (Or.inr sz_b17) (fun h29 W29 Vh29 => ?_)
  replace V_b1 := V_b1.other W29 ne_b1_b17
  replace V_b17 : Arv Z h29 b17 k_b17 .char (18 : Int32) [(.int (nar .char c132)), (.int (nar .char c146)), (.int (nar .char c160)), (.int (nar .char c174)), (.int (nar .char c188)), (.int (nar .char c202)), (.int (0 : Int32)), (.int (0 : Int32)), (.int (0 : Int32)), (.int (0 : Int32)), (.int (0 : Int32)), (.int (0 : Int32)), (.int (0 : Int32)), (.int (0 : Int32)), (.int (0 : Int32)), (.int (0 : Int32)), (.int (0 : Int32)), (.int (0 : Int32))] (.int (0 : Int32)) := Vh29
  refine Wp.aload at_206 (pc' := 208) rfl rfl rfl ?_
  refine Wp.bipush (x := (6 : Int32)) at_208 (pc' := 210) rfl rfl ?_
  refine Wp.lload at_210 (pc' := 212) rfl rfl ?_
  refine Wp.aload at_212 (pc' := 214) rfl rfl rfl ?_
  refine Wp.bipush (x := (7 : Int32)) at_214 (pc' := 216) rfl rfl ?_
  refine Wp.laload V_b1 (by decide) (by decide) (v := (.long (10000000 : Int64))) rfl at_216 (pc' := 217) rfl ?_
  refine Wp.old fun hOc => ?_
  refine Wp.callS (W := 2) (argsL := [(.long (Int64.ofNat N)), (.long (10000000 : Int64))]) (rest := [(.int (6 : Int32)), (.ref b17)]) rfl (ctDIG l Z a0 hw hE N 10000000 h29 hOc hN (by decide)) (hw _ (List.mem_of_getElem? (i := 17) rfl)) (hw _ (List.mem_of_getElem? (i := 18) rfl)) (hw _ (List.mem_of_getElem? (i := 20) rfl)) (hw _ (List.mem_of_getElem? (i := 19) rfl)) (by decide) (lenOf pd__JJ_C rfl) at_217 rfl rfl rfl (Nat.le_of_eq rfl) (pc' := 220) rfl nofun nofun (by decide) (by decide) (k' := 2) (n' := 33) rfl rfl (by decide) (by decide) (fun vh30 h30 zh30 Kh30 qh30 => ?_)
  obtain ⟨c217, rfl, e_c217⟩ : ∃ c, vh30 = some (.int c) ∧ c = Int32.ofNat (48 + N / 10000000 % 10) := ⟨_, qh30, rfl⟩
  have n_c217 : nar .char c217 = c217 := by rw [e_c217]; exact own_c16 (by omega)
  replace V_b1 := V_b1.keep Kh30 nin0
  replace V_b17 := V_b17.keep Kh30 nin0
  refine Wp.eqS (S' := [(.int c217), (.int (6 : Int32)), (.ref b17)]) rfl ?_
  refine Wp.castore V_b17 (by decide) (by decide) (i := 6) rfl (Nat.le_of_ble_eq_true rfl) at_220 (pc' := 221) rfl (Or.inr sz_b17) (fun h31 W31 Vh31 => ?_)
  replace V_b1 := V_b1.other W31 ne_b1_b17
  replace V_b17 : Arv Z h31 b17 k_b17 .char (18 : Int32) [(.int (nar .char c132)), (.int (nar .char c146)), (.int (nar .char c160)), (.int (nar .char c174)), (.int (nar .char c188)), (.int (nar .char c202)), (.int (nar .char c217)), (.int (0 : Int32)), (.int (0 : Int32)), (.int (0 : Int32)), (.int (0 : Int32)), (.int (0 : Int32)), (.int (0 : Int32)), (.int (0 : Int32)), (.int (0 : Int32)), (.int (0 : Int32)), (.int (0 : Int32)), (.int (0 : Int32))] (.int (0 : Int32)) := Vh31
  refine Wp.aload at_221 (pc' := 223) rfl rfl rfl ?_
  refine Wp.bipush (x := (7 : Int32)) at_223 (pc' := 225) rfl rfl ?_
  refine Wp.lload at_225 (pc' := 227) rfl rfl ?_
  refine Wp.aload at_227 (pc' := 229) rfl rfl rfl ?_
  refine Wp.bipush (x := (6 : Int32)) at_229 (pc' := 231) rfl rfl ?_
  refine Wp.laload V_b1 (by decide) (by decide) (v := (.long (1000000 : Int64))) rfl at_231 (pc' := 232) rfl ?_
  refine Wp.old fun hOc => ?_
  refine Wp.callS (W := 2) (argsL := [(.long (Int64.ofNat N)), (.long (1000000 : Int64))]) (rest := [(.int (7 : Int32)), (.ref b17)]) rfl (ctDIG l Z a0 hw hE N 1000000 h31 hOc hN (by decide)) (hw _ (List.mem_of_getElem? (i := 17) rfl)) (hw _ (List.mem_of_getElem? (i := 18) rfl)) (hw _ (List.mem_of_getElem? (i := 20) rfl)) (hw _ (List.mem_of_getElem? (i := 19) rfl)) (by decide) (lenOf pd__JJ_C rfl) at_232 rfl rfl rfl (Nat.le_of_eq rfl) (pc' := 235) rfl nofun nofun (by decide) (by decide) (k' := 2) (n' := 33) rfl rfl (by decide) (by decide) (fun vh32 h32 zh32 Kh32 qh32 => ?_)
  obtain ⟨c232, rfl, e_c232⟩ : ∃ c, vh32 = some (.int c) ∧ c = Int32.ofNat (48 + N / 1000000 % 10) := ⟨_, qh32, rfl⟩
  have n_c232 : nar .char c232 = c232 := by rw [e_c232]; exact own_c16 (by omega)
  replace V_b1 := V_b1.keep Kh32 nin0
  replace V_b17 := V_b17.keep Kh32 nin0
  refine Wp.eqS (S' := [(.int c232), (.int (7 : Int32)), (.ref b17)]) rfl ?_
  refine Wp.castore V_b17 (by decide) (by decide) (i := 7) rfl (Nat.le_of_ble_eq_true rfl) at_235 (pc' := 236) rfl (Or.inr sz_b17) (fun h33 W33 Vh33 => ?_)
  replace V_b1 := V_b1.other W33 ne_b1_b17
  replace V_b17 : Arv Z h33 b17 k_b17 .char (18 : Int32) [(.int (nar .char c132)), (.int (nar .char c146)), (.int (nar .char c160)), (.int (nar .char c174)), (.int (nar .char c188)), (.int (nar .char c202)), (.int (nar .char c217)), (.int (nar .char c232)), (.int (0 : Int32)), (.int (0 : Int32)), (.int (0 : Int32)), (.int (0 : Int32)), (.int (0 : Int32)), (.int (0 : Int32)), (.int (0 : Int32)), (.int (0 : Int32)), (.int (0 : Int32)), (.int (0 : Int32))] (.int (0 : Int32)) := Vh33
  refine Wp.aload at_236 (pc' := 238) rfl rfl rfl ?_
  refine Wp.bipush (x := (8 : Int32)) at_238 (pc' := 240) rfl rfl ?_
  refine Wp.lload at_240 (pc' := 242) rfl rfl ?_
  refine Wp.aload at_242 (pc' := 244) rfl rfl rfl ?_
  refine Wp.iconst (x := (5 : Int32)) at_244 (pc' := 245) rfl rfl ?_
  refine Wp.laload V_b1 (by decide) (by decide) (v := (.long (100000 : Int64))) rfl at_245 (pc' := 246) rfl ?_
  refine Wp.old fun hOc => ?_
  refine Wp.callS (W := 2) (argsL := [(.long (Int64.ofNat N)), (.long (100000 : Int64))]) (rest := [(.int (8 : Int32)), (.ref b17)]) rfl (ctDIG l Z a0 hw hE N 100000 h33 hOc hN (by decide)) (hw _ (List.mem_of_getElem? (i := 17) rfl)) (hw _ (List.mem_of_getElem? (i := 18) rfl)) (hw _ (List.mem_of_getElem? (i := 20) rfl)) (hw _ (List.mem_of_getElem? (i := 19) rfl)) (by decide) (lenOf pd__JJ_C rfl) at_246 rfl rfl rfl (Nat.le_of_eq rfl) (pc' := 249) rfl nofun nofun (by decide) (by decide) (k' := 2) (n' := 33) rfl rfl (by decide) (by decide) (fun vh34 h34 zh34 Kh34 qh34 => ?_)
  obtain ⟨c246, rfl, e_c246⟩ : ∃ c, vh34 = some (.int c) ∧ c = Int32.ofNat (48 + N / 100000 % 10) := ⟨_, qh34, rfl⟩
  have n_c246 : nar .char c246 = c246 := by rw [e_c246]; exact own_c16 (by omega)
  replace V_b1 := V_b1.keep Kh34 nin0
  replace V_b17 := V_b17.keep Kh34 nin0
  refine Wp.eqS (S' := [(.int c246), (.int (8 : Int32)), (.ref b17)]) rfl ?_
  refine Wp.castore V_b17 (by decide) (by decide) (i := 8) rfl (Nat.le_of_ble_eq_true rfl) at_249 (pc' := 250) rfl (Or.inr sz_b17) (fun h35 W35 Vh35 => ?_)
  replace V_b1 := V_b1.other W35 ne_b1_b17
  replace V_b17 : Arv Z h35 b17 k_b17 .char (18 : Int32) [(.int (nar .char c132)), (.int (nar .char c146)), (.int (nar .char c160)), (.int (nar .char c174)), (.int (nar .char c188)), (.int (nar .char c202)), (.int (nar .char c217)), (.int (nar .char c232)), (.int (nar .char c246)), (.int (0 : Int32)), (.int (0 : Int32)), (.int (0 : Int32)), (.int (0 : Int32)), (.int (0 : Int32)), (.int (0 : Int32)), (.int (0 : Int32)), (.int (0 : Int32)), (.int (0 : Int32))] (.int (0 : Int32)) := Vh35
  refine Wp.aload at_250 (pc' := 252) rfl rfl rfl ?_
  refine Wp.bipush (x := (9 : Int32)) at_252 (pc' := 254) rfl rfl ?_
  refine Wp.lload at_254 (pc' := 256) rfl rfl ?_
  refine Wp.aload at_256 (pc' := 258) rfl rfl rfl ?_
  refine Wp.iconst (x := (4 : Int32)) at_258 (pc' := 259) rfl rfl ?_
  refine Wp.laload V_b1 (by decide) (by decide) (v := (.long (10000 : Int64))) rfl at_259 (pc' := 260) rfl ?_
  refine Wp.old fun hOc => ?_
  refine Wp.callS (W := 2) (argsL := [(.long (Int64.ofNat N)), (.long (10000 : Int64))]) (rest := [(.int (9 : Int32)), (.ref b17)]) rfl (ctDIG l Z a0 hw hE N 10000 h35 hOc hN (by decide)) (hw _ (List.mem_of_getElem? (i := 17) rfl)) (hw _ (List.mem_of_getElem? (i := 18) rfl)) (hw _ (List.mem_of_getElem? (i := 20) rfl)) (hw _ (List.mem_of_getElem? (i := 19) rfl)) (by decide) (lenOf pd__JJ_C rfl) at_260 rfl rfl rfl (Nat.le_of_eq rfl) (pc' := 263) rfl nofun nofun (by decide) (by decide) (k' := 2) (n' := 33) rfl rfl (by decide) (by decide) (fun vh36 h36 zh36 Kh36 qh36 => ?_)
  obtain ⟨c260, rfl, e_c260⟩ : ∃ c, vh36 = some (.int c) ∧ c = Int32.ofNat (48 + N / 10000 % 10) := ⟨_, qh36, rfl⟩
  have n_c260 : nar .char c260 = c260 := by rw [e_c260]; exact own_c16 (by omega)
  replace V_b1 := V_b1.keep Kh36 nin0
  replace V_b17 := V_b17.keep Kh36 nin0
  refine Wp.eqS (S' := [(.int c260), (.int (9 : Int32)), (.ref b17)]) rfl ?_
  refine Wp.castore V_b17 (by decide) (by decide) (i := 9) rfl (Nat.le_of_ble_eq_true rfl) at_263 (pc' := 264) rfl (Or.inr sz_b17) (fun h37 W37 Vh37 => ?_)
  replace V_b1 := V_b1.other W37 ne_b1_b17
  replace V_b17 : Arv Z h37 b17 k_b17 .char (18 : Int32) [(.int (nar .char c132)), (.int (nar .char c146)), (.int (nar .char c160)), (.int (nar .char c174)), (.int (nar .char c188)), (.int (nar .char c202)), (.int (nar .char c217)), (.int (nar .char c232)), (.int (nar .char c246)), (.int (nar .char c260)), (.int (0 : Int32)), (.int (0 : Int32)), (.int (0 : Int32)), (.int (0 : Int32)), (.int (0 : Int32)), (.int (0 : Int32)), (.int (0 : Int32)), (.int (0 : Int32))] (.int (0 : Int32)) := Vh37
  refine Wp.aload at_264 (pc' := 266) rfl rfl rfl ?_
  refine Wp.bipush (x := (10 : Int32)) at_266 (pc' := 268) rfl rfl ?_
  refine Wp.lload at_268 (pc' := 270) rfl rfl ?_
  refine Wp.aload at_270 (pc' := 272) rfl rfl rfl ?_
  refine Wp.iconst (x := (3 : Int32)) at_272 (pc' := 273) rfl rfl ?_
  refine Wp.laload V_b1 (by decide) (by decide) (v := (.long (1000 : Int64))) rfl at_273 (pc' := 274) rfl ?_
  refine Wp.old fun hOc => ?_
  refine Wp.callS (W := 2) (argsL := [(.long (Int64.ofNat N)), (.long (1000 : Int64))]) (rest := [(.int (10 : Int32)), (.ref b17)]) rfl (ctDIG l Z a0 hw hE N 1000 h37 hOc hN (by decide)) (hw _ (List.mem_of_getElem? (i := 17) rfl)) (hw _ (List.mem_of_getElem? (i := 18) rfl)) (hw _ (List.mem_of_getElem? (i := 20) rfl)) (hw _ (List.mem_of_getElem? (i := 19) rfl)) (by decide) (lenOf pd__JJ_C rfl) at_274 rfl rfl rfl (Nat.le_of_eq rfl) (pc' := 277) rfl nofun nofun (by decide) (by decide) (k' := 2) (n' := 33) rfl rfl (by decide) (by decide) (fun vh38 h38 zh38 Kh38 qh38 => ?_)
  obtain ⟨c274, rfl, e_c274⟩ : ∃ c, vh38 = some (.int c) ∧ c = Int32.ofNat (48 + N / 1000 % 10) := ⟨_, qh38, rfl⟩
  have n_c274 : nar .char c274 = c274 := by rw [e_c274]; exact own_c16 (by omega)
  replace V_b1 := V_b1.keep Kh38 nin0
  replace V_b17 := V_b17.keep Kh38 nin0
  refine Wp.eqS (S' := [(.int c274), (.int (10 : Int32)), (.ref b17)]) rfl ?_
  refine Wp.castore V_b17 (by decide) (by decide) (i := 10) rfl (Nat.le_of_ble_eq_true rfl) at_277 (pc' := 278) rfl (Or.inr sz_b17) (fun h39 W39 Vh39 => ?_)
  replace V_b1 := V_b1.other W39 ne_b1_b17
  replace V_b17 : Arv Z h39 b17 k_b17 .char (18 : Int32) [(.int (nar .char c132)), (.int (nar .char c146)), (.int (nar .char c160)), (.int (nar .char c174)), (.int (nar .char c188)), (.int (nar .char c202)), (.int (nar .char c217)), (.int (nar .char c232)), (.int (nar .char c246)), (.int (nar .char c260)), (.int (nar .char c274)), (.int (0 : Int32)), (.int (0 : Int32)), (.int (0 : Int32)), (.int (0 : Int32)), (.int (0 : Int32)), (.int (0 : Int32)), (.int (0 : Int32))] (.int (0 : Int32)) := Vh39
  refine Wp.aload at_278 (pc' := 280) rfl rfl rfl ?_
  refine Wp.bipush (x := (11 : Int32)) at_280 (pc' := 282) rfl rfl ?_
  refine Wp.lload at_282 (pc' := 284) rfl rfl ?_
  refine Wp.aload at_284 (pc' := 286) rfl rfl rfl ?_
  refine Wp.iconst (x := (2 : Int32)) at_286 (pc' := 287) rfl rfl ?_
  refine Wp.laload V_b1 (by decide) (by decide) (v := (.long (100 : Int64))) rfl at_287 (pc' := 288) rfl ?_
  refine Wp.old fun hOc => ?_
  refine Wp.callS (W := 2) (argsL := [(.long (Int64.ofNat N)), (.long (100 : Int64))]) (rest := [(.int (11 : Int32)), (.ref b17)]) rfl (ctDIG l Z a0 hw hE N 100 h39 hOc hN (by decide)) (hw _ (List.mem_of_getElem? (i := 17) rfl)) (hw _ (List.mem_of_getElem? (i := 18) rfl)) (hw _ (List.mem_of_getElem? (i := 20) rfl)) (hw _ (List.mem_of_getElem? (i := 19) rfl)) (by decide) (lenOf pd__JJ_C rfl) at_288 rfl rfl rfl (Nat.le_of_eq rfl) (pc' := 291) rfl nofun nofun (by decide) (by decide) (k' := 2) (n' := 33) rfl rfl (by decide) (by decide) (fun vh40 h40 zh40 Kh40 qh40 => ?_)
  obtain ⟨c288, rfl, e_c288⟩ : ∃ c, vh40 = some (.int c) ∧ c = Int32.ofNat (48 + N / 100 % 10) := ⟨_, qh40, rfl⟩
  have n_c288 : nar .char c288 = c288 := by rw [e_c288]; exact own_c16 (by omega)
  replace V_b1 := V_b1.keep Kh40 nin0
  replace V_b17 := V_b17.keep Kh40 nin0
  refine Wp.eqS (S' := [(.int c288), (.int (11 : Int32)), (.ref b17)]) rfl ?_
  refine Wp.castore V_b17 (by decide) (by decide) (i := 11) rfl (Nat.le_of_ble_eq_true rfl) at_291 (pc' := 292) rfl (Or.inr sz_b17) (fun h41 W41 Vh41 => ?_)
  replace V_b1 := V_b1.other W41 ne_b1_b17
  replace V_b17 : Arv Z h41 b17 k_b17 .char (18 : Int32) [(.int (nar .char c132)), (.int (nar .char c146)), (.int (nar .char c160)), (.int (nar .char c174)), (.int (nar .char c188)), (.int (nar .char c202)), (.int (nar .char c217)), (.int (nar .char c232)), (.int (nar .char c246)), (.int (nar .char c260)), (.int (nar .char c274)), (.int (nar .char c288)), (.int (0 : Int32)), (.int (0 : Int32)), (.int (0 : Int32)), (.int (0 : Int32)), (.int (0 : Int32)), (.int (0 : Int32))] (.int (0 : Int32)) := Vh41
  refine Wp.aload at_292 (pc' := 294) rfl rfl rfl ?_
  refine Wp.bipush (x := (12 : Int32)) at_294 (pc' := 296) rfl rfl ?_
  refine Wp.lload at_296 (pc' := 298) rfl rfl ?_
  refine Wp.aload at_298 (pc' := 300) rfl rfl rfl ?_
  refine Wp.iconst (x := (1 : Int32)) at_300 (pc' := 301) rfl rfl ?_
  refine Wp.laload V_b1 (by decide) (by decide) (v := (.long (10 : Int64))) rfl at_301 (pc' := 302) rfl ?_
  refine Wp.old fun hOc => ?_
  refine Wp.callS (W := 2) (argsL := [(.long (Int64.ofNat N)), (.long (10 : Int64))]) (rest := [(.int (12 : Int32)), (.ref b17)]) rfl (ctDIG l Z a0 hw hE N 10 h41 hOc hN (by decide)) (hw _ (List.mem_of_getElem? (i := 17) rfl)) (hw _ (List.mem_of_getElem? (i := 18) rfl)) (hw _ (List.mem_of_getElem? (i := 20) rfl)) (hw _ (List.mem_of_getElem? (i := 19) rfl)) (by decide) (lenOf pd__JJ_C rfl) at_302 rfl rfl rfl (Nat.le_of_eq rfl) (pc' := 305) rfl nofun nofun (by decide) (by decide) (k' := 2) (n' := 33) rfl rfl (by decide) (by decide) (fun vh42 h42 zh42 Kh42 qh42 => ?_)
  obtain ⟨c302, rfl, e_c302⟩ : ∃ c, vh42 = some (.int c) ∧ c = Int32.ofNat (48 + N / 10 % 10) := ⟨_, qh42, rfl⟩
  have n_c302 : nar .char c302 = c302 := by rw [e_c302]; exact own_c16 (by omega)
  replace V_b1 := V_b1.keep Kh42 nin0
  replace V_b17 := V_b17.keep Kh42 nin0
  refine Wp.eqS (S' := [(.int c302), (.int (12 : Int32)), (.ref b17)]) rfl ?_
  refine Wp.castore V_b17 (by decide) (by decide) (i := 12) rfl (Nat.le_of_ble_eq_true rfl) at_305 (pc' := 306) rfl (Or.inr sz_b17) (fun h43 W43 Vh43 => ?_)
  replace V_b1 := V_b1.other W43 ne_b1_b17
  replace V_b17 : Arv Z h43 b17 k_b17 .char (18 : Int32) [(.int (nar .char c132)), (.int (nar .char c146)), (.int (nar .char c160)), (.int (nar .char c174)), (.int (nar .char c188)), (.int (nar .char c202)), (.int (nar .char c217)), (.int (nar .char c232)), (.int (nar .char c246)), (.int (nar .char c260)), (.int (nar .char c274)), (.int (nar .char c288)), (.int (nar .char c302)), (.int (0 : Int32)), (.int (0 : Int32)), (.int (0 : Int32)), (.int (0 : Int32)), (.int (0 : Int32))] (.int (0 : Int32)) := Vh43
  refine Wp.aload at_306 (pc' := 308) rfl rfl rfl ?_
  refine Wp.bipush (x := (13 : Int32)) at_308 (pc' := 310) rfl rfl ?_
  refine Wp.lload at_310 (pc' := 312) rfl rfl ?_
  refine Wp.aload at_312 (pc' := 314) rfl rfl rfl ?_
  refine Wp.iconst (x := (0 : Int32)) at_314 (pc' := 315) rfl rfl ?_
  refine Wp.laload V_b1 (by decide) (by decide) (v := (.long (1 : Int64))) rfl at_315 (pc' := 316) rfl ?_
  refine Wp.old fun hOc => ?_
  refine Wp.callS (W := 2) (argsL := [(.long (Int64.ofNat N)), (.long (1 : Int64))]) (rest := [(.int (13 : Int32)), (.ref b17)]) rfl (ctDIG l Z a0 hw hE N 1 h43 hOc hN (by decide)) (hw _ (List.mem_of_getElem? (i := 17) rfl)) (hw _ (List.mem_of_getElem? (i := 18) rfl)) (hw _ (List.mem_of_getElem? (i := 20) rfl)) (hw _ (List.mem_of_getElem? (i := 19) rfl)) (by decide) (lenOf pd__JJ_C rfl) at_316 rfl rfl rfl (Nat.le_of_eq rfl) (pc' := 319) rfl nofun nofun (by decide) (by decide) (k' := 2) (n' := 33) rfl rfl (by decide) (by decide) (fun vh44 h44 zh44 Kh44 qh44 => ?_)
  obtain ⟨c316, rfl, e_c316⟩ : ∃ c, vh44 = some (.int c) ∧ c = Int32.ofNat (48 + N / 1 % 10) := ⟨_, qh44, rfl⟩
  have n_c316 : nar .char c316 = c316 := by rw [e_c316]; exact own_c16 (by omega)
  replace V_b1 := V_b1.keep Kh44 nin0
  replace V_b17 := V_b17.keep Kh44 nin0
  refine Wp.eqS (S' := [(.int c316), (.int (13 : Int32)), (.ref b17)]) rfl ?_
  refine Wp.castore V_b17 (by decide) (by decide) (i := 13) rfl (Nat.le_of_ble_eq_true rfl) at_319 (pc' := 320) rfl (Or.inr sz_b17) (fun h45 W45 Vh45 => ?_)
  replace V_b1 := V_b1.other W45 ne_b1_b17
  replace V_b17 : Arv Z h45 b17 k_b17 .char (18 : Int32) [(.int (nar .char c132)), (.int (nar .char c146)), (.int (nar .char c160)), (.int (nar .char c174)), (.int (nar .char c188)), (.int (nar .char c202)), (.int (nar .char c217)), (.int (nar .char c232)), (.int (nar .char c246)), (.int (nar .char c260)), (.int (nar .char c274)), (.int (nar .char c288)), (.int (nar .char c302)), (.int (nar .char c316)), (.int (0 : Int32)), (.int (0 : Int32)), (.int (0 : Int32)), (.int (0 : Int32))] (.int (0 : Int32)) := Vh45
  refine Wp.aload at_320 (pc' := 322) rfl rfl rfl ?_
  refine Wp.bipush (x := (14 : Int32)) at_322 (pc' := 324) rfl rfl ?_
  refine Wp.iloadN at_324 (pc' := 325) rfl rfl ?_
  refine Wp.old fun hOc => ?_
  refine Wp.callS (W := 2) (argsL := [(.int p3)]) (rest := [(.int (14 : Int32)), (.ref b17)]) rfl (ctDR l Z a0 hw hE p3 h45 hOc) (hw _ (List.mem_of_getElem? (i := 21) rfl)) (hw _ (List.mem_of_getElem? (i := 22) rfl)) (hw _ (List.mem_of_getElem? (i := 23) rfl)) (hw _ (List.mem_of_getElem? (i := 19) rfl)) (by decide) (lenOf pd__I_C rfl) at_325 rfl rfl rfl (Nat.le_of_eq rfl) (pc' := 328) rfl nofun nofun (by decide) (by decide) (k' := 2) (n' := 33) rfl rfl (by decide) (by decide) (fun vh46 h46 zh46 Kh46 qh46 => ?_)
  obtain ⟨c325, rfl, n_c325⟩ := qh46
  replace V_b1 := V_b1.keep Kh46 nin0
  replace V_b17 := V_b17.keep Kh46 nin0
  refine Wp.eqS (S' := [(.int c325), (.int (14 : Int32)), (.ref b17)]) rfl ?_
  refine Wp.castore V_b17 (by decide) (by decide) (i := 14) rfl (Nat.le_of_ble_eq_true rfl) at_328 (pc' := 329) rfl (Or.inr sz_b17) (fun h47 W47 Vh47 => ?_)
  replace V_b1 := V_b1.other W47 ne_b1_b17
  replace V_b17 : Arv Z h47 b17 k_b17 .char (18 : Int32) [(.int (nar .char c132)), (.int (nar .char c146)), (.int (nar .char c160)), (.int (nar .char c174)), (.int (nar .char c188)), (.int (nar .char c202)), (.int (nar .char c217)), (.int (nar .char c232)), (.int (nar .char c246)), (.int (nar .char c260)), (.int (nar .char c274)), (.int (nar .char c288)), (.int (nar .char c302)), (.int (nar .char c316)), (.int (nar .char c325)), (.int (0 : Int32)), (.int (0 : Int32)), (.int (0 : Int32))] (.int (0 : Int32)) := Vh47
  refine Wp.aload at_329 (pc' := 331) rfl rfl rfl ?_
  refine Wp.bipush (x := (15 : Int32)) at_331 (pc' := 333) rfl rfl ?_
  refine Wp.iload at_333 (pc' := 335) rfl rfl ?_
  refine Wp.old fun hOc => ?_
  refine Wp.callS (W := 2) (argsL := [(.int p4)]) (rest := [(.int (15 : Int32)), (.ref b17)]) rfl (ctDR l Z a0 hw hE p4 h47 hOc) (hw _ (List.mem_of_getElem? (i := 21) rfl)) (hw _ (List.mem_of_getElem? (i := 22) rfl)) (hw _ (List.mem_of_getElem? (i := 23) rfl)) (hw _ (List.mem_of_getElem? (i := 19) rfl)) (by decide) (lenOf pd__I_C rfl) at_335 rfl rfl rfl (Nat.le_of_eq rfl) (pc' := 338) rfl nofun nofun (by decide) (by decide) (k' := 2) (n' := 33) rfl rfl (by decide) (by decide) (fun vh48 h48 zh48 Kh48 qh48 => ?_)
  obtain ⟨c335, rfl, n_c335⟩ := qh48
  replace V_b1 := V_b1.keep Kh48 nin0
  replace V_b17 := V_b17.keep Kh48 nin0
  refine Wp.eqS (S' := [(.int c335), (.int (15 : Int32)), (.ref b17)]) rfl ?_
  refine Wp.castore V_b17 (by decide) (by decide) (i := 15) rfl (Nat.le_of_ble_eq_true rfl) at_338 (pc' := 339) rfl (Or.inr sz_b17) (fun h49 W49 Vh49 => ?_)
  replace V_b1 := V_b1.other W49 ne_b1_b17
  replace V_b17 : Arv Z h49 b17 k_b17 .char (18 : Int32) [(.int (nar .char c132)), (.int (nar .char c146)), (.int (nar .char c160)), (.int (nar .char c174)), (.int (nar .char c188)), (.int (nar .char c202)), (.int (nar .char c217)), (.int (nar .char c232)), (.int (nar .char c246)), (.int (nar .char c260)), (.int (nar .char c274)), (.int (nar .char c288)), (.int (nar .char c302)), (.int (nar .char c316)), (.int (nar .char c325)), (.int (nar .char c335)), (.int (0 : Int32)), (.int (0 : Int32))] (.int (0 : Int32)) := Vh49
  refine Wp.aload at_339 (pc' := 341) rfl rfl rfl ?_
  refine Wp.bipush (x := (16 : Int32)) at_341 (pc' := 343) rfl rfl ?_
  refine Wp.iload at_343 (pc' := 345) rfl rfl ?_
  refine Wp.old fun hOc => ?_
  refine Wp.callS (W := 2) (argsL := [(.int p5)]) (rest := [(.int (16 : Int32)), (.ref b17)]) rfl (ctDR l Z a0 hw hE p5 h49 hOc) (hw _ (List.mem_of_getElem? (i := 21) rfl)) (hw _ (List.mem_of_getElem? (i := 22) rfl)) (hw _ (List.mem_of_getElem? (i := 23) rfl)) (hw _ (List.mem_of_getElem? (i := 19) rfl)) (by decide) (lenOf pd__I_C rfl) at_345 rfl rfl rfl (Nat.le_of_eq rfl) (pc' := 348) rfl nofun nofun (by decide) (by decide) (k' := 2) (n' := 33) rfl rfl (by decide) (by decide) (fun vh50 h50 zh50 Kh50 qh50 => ?_)
  obtain ⟨c345, rfl, n_c345⟩ := qh50
  replace V_b1 := V_b1.keep Kh50 nin0
  replace V_b17 := V_b17.keep Kh50 nin0
  refine Wp.eqS (S' := [(.int c345), (.int (16 : Int32)), (.ref b17)]) rfl ?_
  refine Wp.castore V_b17 (by decide) (by decide) (i := 16) rfl (Nat.le_of_ble_eq_true rfl) at_348 (pc' := 349) rfl (Or.inr sz_b17) (fun h51 W51 Vh51 => ?_)
  replace V_b1 := V_b1.other W51 ne_b1_b17
  replace V_b17 : Arv Z h51 b17 k_b17 .char (18 : Int32) [(.int (nar .char c132)), (.int (nar .char c146)), (.int (nar .char c160)), (.int (nar .char c174)), (.int (nar .char c188)), (.int (nar .char c202)), (.int (nar .char c217)), (.int (nar .char c232)), (.int (nar .char c246)), (.int (nar .char c260)), (.int (nar .char c274)), (.int (nar .char c288)), (.int (nar .char c302)), (.int (nar .char c316)), (.int (nar .char c325)), (.int (nar .char c335)), (.int (nar .char c345)), (.int (0 : Int32))] (.int (0 : Int32)) := Vh51
  refine Wp.aload at_349 (pc' := 351) rfl rfl rfl ?_
  refine Wp.bipush (x := (17 : Int32)) at_351 (pc' := 353) rfl rfl ?_
  refine Wp.iload at_353 (pc' := 355) rfl rfl ?_
  refine Wp.old fun hOc => ?_
  refine Wp.callS (W := 2) (argsL := [(.int p6)]) (rest := [(.int (17 : Int32)), (.ref b17)]) rfl (ctDR l Z a0 hw hE p6 h51 hOc) (hw _ (List.mem_of_getElem? (i := 21) rfl)) (hw _ (List.mem_of_getElem? (i := 22) rfl)) (hw _ (List.mem_of_getElem? (i := 23) rfl)) (hw _ (List.mem_of_getElem? (i := 19) rfl)) (by decide) (lenOf pd__I_C rfl) at_355 rfl rfl rfl (Nat.le_of_eq rfl) (pc' := 358) rfl nofun nofun (by decide) (by decide) (k' := 2) (n' := 33) rfl rfl (by decide) (by decide) (fun vh52 h52 zh52 Kh52 qh52 => ?_)
  obtain ⟨c355, rfl, n_c355⟩ := qh52
  replace V_b1 := V_b1.keep Kh52 nin0
  replace V_b17 := V_b17.keep Kh52 nin0
  refine Wp.eqS (S' := [(.int c355), (.int (17 : Int32)), (.ref b17)]) rfl ?_
  refine Wp.castore V_b17 (by decide) (by decide) (i := 17) rfl (Nat.le_of_ble_eq_true rfl) at_358 (pc' := 359) rfl (Or.inr sz_b17) (fun h53 W53 Vh53 => ?_)
  replace V_b1 := V_b1.other W53 ne_b1_b17
  replace V_b17 : Arv Z h53 b17 k_b17 .char (18 : Int32) [(.int (nar .char c132)), (.int (nar .char c146)), (.int (nar .char c160)), (.int (nar .char c174)), (.int (nar .char c188)), (.int (nar .char c202)), (.int (nar .char c217)), (.int (nar .char c232)), (.int (nar .char c246)), (.int (nar .char c260)), (.int (nar .char c274)), (.int (nar .char c288)), (.int (nar .char c302)), (.int (nar .char c316)), (.int (nar .char c325)), (.int (nar .char c335)), (.int (nar .char c345)), (.int (nar .char c355))] (.int (0 : Int32)) := Vh53
  replace V_b17 : Arv Z h53 b17 k_b17 .char (18 : Int32) [(.int c132), (.int c146), (.int c160), (.int c174), (.int c188), (.int c202), (.int c217), (.int c232), (.int c246), (.int c260), (.int c274), (.int c288), (.int c302), (.int c316), (.int c325), (.int c335), (.int c345), (.int c355)] (.int (0 : Int32)) := by simpa only [n_c132, n_c146, n_c160, n_c174, n_c188, n_c202, n_c217, n_c232, n_c246, n_c260, n_c274, n_c288, n_c302, n_c316, n_c325, n_c335, n_c345, n_c355] using V_b17
  refine Wp.iloadN at_359 (pc' := 360) rfl rfl ?_
  refine Wp.ldcI rfl (hw _ (List.mem_of_getElem? (i := 24) rfl)) at_360 (pc' := 362) rfl ?_
  refine Wp.iand at_362 (pc' := 363) rfl ?_
  refine Wp.bipush (x := (19 : Int32)) at_363 (pc' := 365) rfl rfl ?_
  refine Wp.irem at_365 (pc' := 366) rfl (by decide) ?_
  obtain ⟨X, hX, eX⟩ := own_x p2
  rw [eX]
  refine Wp.istore (l' := #[.val (.long p1), .second, .val (.int p2), .val (.int p3), .val (.int p4), .val (.int p5), .val (.int p6), .val (.ref b1), .val (.long (Int64.ofNat N)), .second, .val (.ref b17), .val (.int (Int32.ofNat X)), .unset, .unset, .unset, .unset, .unset, .unset]) at_366 (pc' := 368) rfl rfl ?_
  refine Wp.iloadN at_368 (pc' := 369) rfl rfl ?_
  refine Wp.bipush (x := (16 : Int32)) at_369 (pc' := 371) rfl rfl ?_
  refine Wp.iushr at_371 (pc' := 372) rfl ?_
  refine Wp.bipush (x := (19 : Int32)) at_372 (pc' := 374) rfl rfl ?_
  refine Wp.irem at_374 (pc' := 375) rfl (by decide) ?_
  obtain ⟨Y, hY, eY⟩ := own_y p2
  rw [eY]
  refine Wp.istore (l' := #[.val (.long p1), .second, .val (.int p2), .val (.int p3), .val (.int p4), .val (.int p5), .val (.int p6), .val (.ref b1), .val (.long (Int64.ofNat N)), .second, .val (.ref b17), .val (.int (Int32.ofNat X)), .val (.int (Int32.ofNat Y)), .unset, .unset, .unset, .unset, .unset]) at_375 (pc' := 377) rfl rfl ?_
  refine Wp.iload at_377 (pc' := 379) rfl rfl ?_
  refine Wp.iload at_379 (pc' := 381) rfl rfl ?_
  refine Wp.old fun hOc => ?_
  refine Wp.callS (W := 0) (argsL := [(.int (Int32.ofNat X)), (.int (Int32.ofNat Y))]) (rest := []) rfl (ctMIN l Z a0 hw hE (Int32.ofNat X) (Int32.ofNat Y) h53 hOc) (hw _ (List.mem_of_getElem? (i := 25) rfl)) (hw _ (List.mem_of_getElem? (i := 26) rfl)) (hw _ (List.mem_of_getElem? (i := 28) rfl)) (hw _ (List.mem_of_getElem? (i := 27) rfl)) (by decide) (lenOf pd__II_I rfl) at_381 rfl rfl rfl (Nat.le_of_eq rfl) (pc' := 384) rfl nofun nofun (by decide) (by decide) (k' := 2) (n' := 33) rfl rfl (by decide) (by decide) (fun vh54 h54 zh54 Kh54 qh54 => ?_)
  obtain rfl : vh54 = some (.int (Int32.ofNat (min X Y))) := by rw [qh54, own_mn (by omega) (by omega)]
  replace V_b1 := V_b1.keep Kh54 nin0
  replace V_b17 := V_b17.keep Kh54 nin0
  refine Wp.eqS (S' := [(.int (Int32.ofNat (min X Y)))]) rfl ?_
  refine Wp.istore (l' := #[.val (.long p1), .second, .val (.int p2), .val (.int p3), .val (.int p4), .val (.int p5), .val (.int p6), .val (.ref b1), .val (.long (Int64.ofNat N)), .second, .val (.ref b17), .val (.int (Int32.ofNat X)), .val (.int (Int32.ofNat Y)), .val (.int (Int32.ofNat (min X Y))), .unset, .unset, .unset, .unset]) at_384 (pc' := 386) rfl rfl ?_
  refine Wp.iload at_386 (pc' := 388) rfl rfl ?_
  refine Wp.iload at_388 (pc' := 390) rfl rfl ?_
  refine Wp.old fun hOc => ?_
  refine Wp.callS (W := 0) (argsL := [(.int (Int32.ofNat X)), (.int (Int32.ofNat Y))]) (rest := []) rfl (ctMAX l Z a0 hw hE (Int32.ofNat X) (Int32.ofNat Y) h54 hOc) (hw _ (List.mem_of_getElem? (i := 29) rfl)) (hw _ (List.mem_of_getElem? (i := 30) rfl)) (hw _ (List.mem_of_getElem? (i := 31) rfl)) (hw _ (List.mem_of_getElem? (i := 27) rfl)) (by decide) (lenOf pd__II_I rfl) at_390 rfl rfl rfl (Nat.le_of_eq rfl) (pc' := 393) rfl nofun nofun (by decide) (by decide) (k' := 2) (n' := 33) rfl rfl (by decide) (by decide) (fun vh55 h55 zh55 Kh55 qh55 => ?_)
  obtain rfl : vh55 = some (.int (Int32.ofNat (max X Y))) := by rw [qh55, own_mx (by omega) (by omega)]
  replace V_b1 := V_b1.keep Kh55 nin0
  replace V_b17 := V_b17.keep Kh55 nin0
  refine Wp.eqS (S' := [(.int (Int32.ofNat (max X Y)))]) rfl ?_
  have hse : min X Y ≤ max X Y := by omega
  have he18 : max X Y ≤ 18 := by omega
  generalize min X Y = sn at hse ⊢
  generalize max X Y = en at hse he18 ⊢
  refine Wp.istore (l' := #[.val (.long p1), .second, .val (.int p2), .val (.int p3), .val (.int p4), .val (.int p5), .val (.int p6), .val (.ref b1), .val (.long (Int64.ofNat N)), .second, .val (.ref b17), .val (.int (Int32.ofNat X)), .val (.int (Int32.ofNat Y)), .val (.int (Int32.ofNat sn)), .val (.int (Int32.ofNat en)), .unset, .unset, .unset]) at_393 (pc' := 395) rfl rfl ?_
  refine Wp.iload at_395 (pc' := 397) rfl rfl ?_
  refine Wp.bipush (x := (14 : Int32)) at_397 (pc' := 399) rfl rfl ?_
  refine Wp.old fun hOc => ?_
  refine Wp.callS (W := 0) (argsL := [(.int (Int32.ofNat en)), (.int (14 : Int32))]) (rest := []) rfl (ctMIN l Z a0 hw hE (Int32.ofNat en) (Int32.ofNat 14) h55 hOc) (hw _ (List.mem_of_getElem? (i := 25) rfl)) (hw _ (List.mem_of_getElem? (i := 26) rfl)) (hw _ (List.mem_of_getElem? (i := 28) rfl)) (hw _ (List.mem_of_getElem? (i := 27) rfl)) (by decide) (lenOf pd__II_I rfl) at_399 rfl rfl rfl (Nat.le_of_eq rfl) (pc' := 402) rfl nofun nofun (by decide) (by decide) (k' := 2) (n' := 33) rfl rfl (by decide) (by decide) (fun vh56 h56 zh56 Kh56 qh56 => ?_)
  obtain rfl : vh56 = some (.int (Int32.ofNat (min en 14))) := by rw [qh56, own_mn (by omega) (by omega)]
  replace V_b1 := V_b1.keep Kh56 nin0
  replace V_b17 := V_b17.keep Kh56 nin0
  refine Wp.eqS (S' := [(.int (Int32.ofNat (min en 14)))]) rfl ?_
  refine Wp.istore (l' := #[.val (.long p1), .second, .val (.int p2), .val (.int p3), .val (.int p4), .val (.int p5), .val (.int p6), .val (.ref b1), .val (.long (Int64.ofNat N)), .second, .val (.ref b17), .val (.int (Int32.ofNat X)), .val (.int (Int32.ofNat Y)), .val (.int (Int32.ofNat sn)), .val (.int (Int32.ofNat en)), .val (.int (Int32.ofNat (min en 14))), .unset, .unset]) at_402 (pc' := 404) rfl rfl ?_
  refine Wp.lconst (x := (0 : Int64)) at_404 (pc' := 405) rfl rfl ?_
  refine Wp.lstore (l' := #[.val (.long p1), .second, .val (.int p2), .val (.int p3), .val (.int p4), .val (.int p5), .val (.int p6), .val (.ref b1), .val (.long (Int64.ofNat N)), .second, .val (.ref b17), .val (.int (Int32.ofNat X)), .val (.int (Int32.ofNat Y)), .val (.int (Int32.ofNat sn)), .val (.int (Int32.ofNat en)), .val (.int (Int32.ofNat (min en 14))), .val (.long (0 : Int64)), .second]) at_405 (pc' := 407) rfl rfl ?_
  suffices hj436 : Wp false l Z a0 [] room_1 x code maxLocals ret h0 [] (fun v h => v = some (.int 1)) h56 [b17, b1] 2 33 436 #[.val (.long p1), .second, .val (.int p2), .val (.int p3), .val (.int p4), .val (.int p5), .val (.int p6), .val (.ref b1), .val (.long (Int64.ofNat N)), .second, .val (.ref b17), .val (.int (Int32.ofNat X)), .val (.int (Int32.ofNat Y)), .val (.int (Int32.ofNat sn)), .val (.int (Int32.ofNat en)), .val (.int (Int32.ofNat (min en 14))), .val (.long (own_E N sn en)), .second] [] by
    refine Wp.iload at_407 (pc' := 409) rfl rfl ?_
    refine Wp.iload at_409 (pc' := 411) rfl rfl ?_
    refine Wp.icmp_ge (pc1 := 436) (pc' := 414) at_411 (by decide) (by decide) rfl (fun hc57 => ?_) (fun hc57 => ?_)
    · have hc57 : ¬ ((Int32.ofNat sn) < (Int32.ofNat (min en 14))) := hc57
      have e0 : own_E N sn en = 0 := if_neg (fun z => hc57 (on_lt (by omega) z))
      rw [e0] at hj436
      exact hj436
    · have hc57 : (Int32.ofNat sn) < (Int32.ofNat (min en 14)) := hc57
      have hlt : sn < min en 14 := Classical.byContradiction fun z => on_nlt (by omega) (by omega) hc57
      refine Wp.lload at_414 (pc' := 416) rfl rfl ?_
      refine Wp.aload at_416 (pc' := 418) rfl rfl rfl ?_
      refine Wp.bipush (x := (14 : Int32)) at_418 (pc' := 420) rfl rfl ?_
      refine Wp.iload at_420 (pc' := 422) rfl rfl ?_
      refine Wp.isub at_422 (pc' := 423) rfl ?_
      rw [show (14 : Int32) = Int32.ofNat 14 from rfl, own_sb (a := 14) (by omega) (by omega)]
      refine Wp.laload V_b1 (on_nneg (by omega)) (on_lt (n := 15) (by omega) (by omega)) (v := .long (Int64.ofNat (10 ^ (14 - min en 14)))) (by rw [on_clamp (by omega)]; exact own_pw (by omega)) at_423 (pc' := 424) rfl ?_
      refine Wp.ldiv at_424 (pc' := 425) rfl (own_pnz (by omega)) ?_
      refine Wp.aload at_425 (pc' := 427) rfl rfl rfl ?_
      refine Wp.iload at_427 (pc' := 429) rfl rfl ?_
      refine Wp.iload at_429 (pc' := 431) rfl rfl ?_
      refine Wp.isub at_431 (pc' := 432) rfl ?_
      rw [own_sb (a := min en 14) (by omega) (by omega)]
      refine Wp.laload V_b1 (on_nneg (by omega)) (on_lt (n := 15) (by omega) (by omega)) (v := .long (Int64.ofNat (10 ^ (min en 14 - sn)))) (by rw [on_clamp (by omega)]; exact own_pw (by omega)) at_432 (pc' := 433) rfl ?_
      refine Wp.lrem at_433 (pc' := 434) rfl (own_pnz (by omega)) ?_
      have hq : N / 10 ^ (14 - min en 14) ≤ N := Nat.div_le_self _ _
      rw [own_dv (by omega) (own_p63 (by omega)), own_rm (by omega) (own_p63 (by omega)) (Nat.pow_pos (by decide)), show Int64.ofNat (N / 10 ^ (14 - min en 14) % 10 ^ (min en 14 - sn)) = own_E N sn en from (if_pos hlt).symm]
      refine Wp.lstore (l' := #[.val (.long p1), .second, .val (.int p2), .val (.int p3), .val (.int p4), .val (.int p5), .val (.int p6), .val (.ref b1), .val (.long (Int64.ofNat N)), .second, .val (.ref b17), .val (.int (Int32.ofNat X)), .val (.int (Int32.ofNat Y)), .val (.int (Int32.ofNat sn)), .val (.int (Int32.ofNat en)), .val (.int (Int32.ofNat (min en 14))), .val (.long (own_E N sn en)), .second]) at_434 (pc' := 436) rfl rfl ?_
      exact hj436
  refine Wp.lload at_436 (pc' := 438) rfl rfl ?_
  refine Wp.aload at_438 (pc' := 440) rfl rfl rfl ?_
  refine Wp.bipush (x := (14 : Int32)) at_440 (pc' := 442) rfl rfl ?_
  refine Wp.caload V_b17 (by decide) (by decide) (v := (.int c325)) rfl at_442 (pc' := 443) rfl ?_
  refine Wp.bipush (x := (14 : Int32)) at_443 (pc' := 445) rfl rfl ?_
  refine Wp.iload at_445 (pc' := 447) rfl rfl ?_
  refine Wp.iload at_447 (pc' := 449) rfl rfl ?_
  refine Wp.old fun hOc => ?_
  refine Wp.callS (W := 0) (argsL := [(.long (own_E N sn en)), (.int c325), (.int (14 : Int32)), (.int (Int32.ofNat sn)), (.int (Int32.ofNat en))]) (rest := []) rfl (ctST l Z a0 hw hE (own_E N sn en) c325 (14 : Int32) (Int32.ofNat sn) (Int32.ofNat en) h56 hOc) (hw _ (List.mem_of_getElem? (i := 32) rfl)) (hw _ (List.mem_of_getElem? (i := 33) rfl)) (hw _ (List.mem_of_getElem? (i := 34) rfl)) (hw _ (List.mem_of_getElem? (i := 19) rfl)) (by decide) (lenOf pd__JCIII_J rfl) at_449 rfl rfl rfl (Nat.le_of_eq rfl) (pc' := 452) rfl nofun nofun (by decide) (by decide) (k' := 2) (n' := 33) rfl rfl (by decide) (by decide) (fun vh58 h58 zh58 Kh58 qh58 => ?_)
  obtain rfl := qh58
  replace V_b1 := V_b1.keep Kh58 nin0
  replace V_b17 := V_b17.keep Kh58 nin0
  refine Wp.eqS (S' := [(.long (own_st (own_E N sn en) c325 (14 : Int32) (Int32.ofNat sn) (Int32.ofNat en)))]) rfl ?_
  refine Wp.lstore (l' := #[.val (.long p1), .second, .val (.int p2), .val (.int p3), .val (.int p4), .val (.int p5), .val (.int p6), .val (.ref b1), .val (.long (Int64.ofNat N)), .second, .val (.ref b17), .val (.int (Int32.ofNat X)), .val (.int (Int32.ofNat Y)), .val (.int (Int32.ofNat sn)), .val (.int (Int32.ofNat en)), .val (.int (Int32.ofNat (min en 14))), .val (.long (own_st (own_E N sn en) c325 (14 : Int32) (Int32.ofNat sn) (Int32.ofNat en))), .second]) at_452 (pc' := 454) rfl rfl ?_
  refine Wp.lload at_454 (pc' := 456) rfl rfl ?_
  refine Wp.aload at_456 (pc' := 458) rfl rfl rfl ?_
  refine Wp.bipush (x := (15 : Int32)) at_458 (pc' := 460) rfl rfl ?_
  refine Wp.caload V_b17 (by decide) (by decide) (v := (.int c335)) rfl at_460 (pc' := 461) rfl ?_
  refine Wp.bipush (x := (15 : Int32)) at_461 (pc' := 463) rfl rfl ?_
  refine Wp.iload at_463 (pc' := 465) rfl rfl ?_
  refine Wp.iload at_465 (pc' := 467) rfl rfl ?_
  refine Wp.old fun hOc => ?_
  refine Wp.callS (W := 0) (argsL := [(.long (own_st (own_E N sn en) c325 (14 : Int32) (Int32.ofNat sn) (Int32.ofNat en))), (.int c335), (.int (15 : Int32)), (.int (Int32.ofNat sn)), (.int (Int32.ofNat en))]) (rest := []) rfl (ctST l Z a0 hw hE (own_st (own_E N sn en) c325 (14 : Int32) (Int32.ofNat sn) (Int32.ofNat en)) c335 (15 : Int32) (Int32.ofNat sn) (Int32.ofNat en) h58 hOc) (hw _ (List.mem_of_getElem? (i := 32) rfl)) (hw _ (List.mem_of_getElem? (i := 33) rfl)) (hw _ (List.mem_of_getElem? (i := 34) rfl)) (hw _ (List.mem_of_getElem? (i := 19) rfl)) (by decide) (lenOf pd__JCIII_J rfl) at_467 rfl rfl rfl (Nat.le_of_eq rfl) (pc' := 470) rfl nofun nofun (by decide) (by decide) (k' := 2) (n' := 33) rfl rfl (by decide) (by decide) (fun vh59 h59 zh59 Kh59 qh59 => ?_)
  obtain rfl := qh59
  replace V_b1 := V_b1.keep Kh59 nin0
  replace V_b17 := V_b17.keep Kh59 nin0
  refine Wp.eqS (S' := [(.long (own_st (own_st (own_E N sn en) c325 (14 : Int32) (Int32.ofNat sn) (Int32.ofNat en)) c335 (15 : Int32) (Int32.ofNat sn) (Int32.ofNat en)))]) rfl ?_
  refine Wp.lstore (l' := #[.val (.long p1), .second, .val (.int p2), .val (.int p3), .val (.int p4), .val (.int p5), .val (.int p6), .val (.ref b1), .val (.long (Int64.ofNat N)), .second, .val (.ref b17), .val (.int (Int32.ofNat X)), .val (.int (Int32.ofNat Y)), .val (.int (Int32.ofNat sn)), .val (.int (Int32.ofNat en)), .val (.int (Int32.ofNat (min en 14))), .val (.long (own_st (own_st (own_E N sn en) c325 (14 : Int32) (Int32.ofNat sn) (Int32.ofNat en)) c335 (15 : Int32) (Int32.ofNat sn) (Int32.ofNat en))), .second]) at_470 (pc' := 472) rfl rfl ?_
  refine Wp.lload at_472 (pc' := 474) rfl rfl ?_
  refine Wp.aload at_474 (pc' := 476) rfl rfl rfl ?_
  refine Wp.bipush (x := (16 : Int32)) at_476 (pc' := 478) rfl rfl ?_
  refine Wp.caload V_b17 (by decide) (by decide) (v := (.int c345)) rfl at_478 (pc' := 479) rfl ?_
  refine Wp.bipush (x := (16 : Int32)) at_479 (pc' := 481) rfl rfl ?_
  refine Wp.iload at_481 (pc' := 483) rfl rfl ?_
  refine Wp.iload at_483 (pc' := 485) rfl rfl ?_
  refine Wp.old fun hOc => ?_
  refine Wp.callS (W := 0) (argsL := [(.long (own_st (own_st (own_E N sn en) c325 (14 : Int32) (Int32.ofNat sn) (Int32.ofNat en)) c335 (15 : Int32) (Int32.ofNat sn) (Int32.ofNat en))), (.int c345), (.int (16 : Int32)), (.int (Int32.ofNat sn)), (.int (Int32.ofNat en))]) (rest := []) rfl (ctST l Z a0 hw hE (own_st (own_st (own_E N sn en) c325 (14 : Int32) (Int32.ofNat sn) (Int32.ofNat en)) c335 (15 : Int32) (Int32.ofNat sn) (Int32.ofNat en)) c345 (16 : Int32) (Int32.ofNat sn) (Int32.ofNat en) h59 hOc) (hw _ (List.mem_of_getElem? (i := 32) rfl)) (hw _ (List.mem_of_getElem? (i := 33) rfl)) (hw _ (List.mem_of_getElem? (i := 34) rfl)) (hw _ (List.mem_of_getElem? (i := 19) rfl)) (by decide) (lenOf pd__JCIII_J rfl) at_485 rfl rfl rfl (Nat.le_of_eq rfl) (pc' := 488) rfl nofun nofun (by decide) (by decide) (k' := 2) (n' := 33) rfl rfl (by decide) (by decide) (fun vh60 h60 zh60 Kh60 qh60 => ?_)
  obtain rfl := qh60
  replace V_b1 := V_b1.keep Kh60 nin0
  replace V_b17 := V_b17.keep Kh60 nin0
  refine Wp.eqS (S' := [(.long (own_st (own_st (own_st (own_E N sn en) c325 (14 : Int32) (Int32.ofNat sn) (Int32.ofNat en)) c335 (15 : Int32) (Int32.ofNat sn) (Int32.ofNat en)) c345 (16 : Int32) (Int32.ofNat sn) (Int32.ofNat en)))]) rfl ?_
  refine Wp.lstore (l' := #[.val (.long p1), .second, .val (.int p2), .val (.int p3), .val (.int p4), .val (.int p5), .val (.int p6), .val (.ref b1), .val (.long (Int64.ofNat N)), .second, .val (.ref b17), .val (.int (Int32.ofNat X)), .val (.int (Int32.ofNat Y)), .val (.int (Int32.ofNat sn)), .val (.int (Int32.ofNat en)), .val (.int (Int32.ofNat (min en 14))), .val (.long (own_st (own_st (own_st (own_E N sn en) c325 (14 : Int32) (Int32.ofNat sn) (Int32.ofNat en)) c335 (15 : Int32) (Int32.ofNat sn) (Int32.ofNat en)) c345 (16 : Int32) (Int32.ofNat sn) (Int32.ofNat en))), .second]) at_488 (pc' := 490) rfl rfl ?_
  refine Wp.lload at_490 (pc' := 492) rfl rfl ?_
  refine Wp.aload at_492 (pc' := 494) rfl rfl rfl ?_
  refine Wp.bipush (x := (17 : Int32)) at_494 (pc' := 496) rfl rfl ?_
  refine Wp.caload V_b17 (by decide) (by decide) (v := (.int c355)) rfl at_496 (pc' := 497) rfl ?_
  refine Wp.bipush (x := (17 : Int32)) at_497 (pc' := 499) rfl rfl ?_
  refine Wp.iload at_499 (pc' := 501) rfl rfl ?_
  refine Wp.iload at_501 (pc' := 503) rfl rfl ?_
  refine Wp.old fun hOc => ?_
  refine Wp.callS (W := 0) (argsL := [(.long (own_st (own_st (own_st (own_E N sn en) c325 (14 : Int32) (Int32.ofNat sn) (Int32.ofNat en)) c335 (15 : Int32) (Int32.ofNat sn) (Int32.ofNat en)) c345 (16 : Int32) (Int32.ofNat sn) (Int32.ofNat en))), (.int c355), (.int (17 : Int32)), (.int (Int32.ofNat sn)), (.int (Int32.ofNat en))]) (rest := []) rfl (ctST l Z a0 hw hE (own_st (own_st (own_st (own_E N sn en) c325 (14 : Int32) (Int32.ofNat sn) (Int32.ofNat en)) c335 (15 : Int32) (Int32.ofNat sn) (Int32.ofNat en)) c345 (16 : Int32) (Int32.ofNat sn) (Int32.ofNat en)) c355 (17 : Int32) (Int32.ofNat sn) (Int32.ofNat en) h60 hOc) (hw _ (List.mem_of_getElem? (i := 32) rfl)) (hw _ (List.mem_of_getElem? (i := 33) rfl)) (hw _ (List.mem_of_getElem? (i := 34) rfl)) (hw _ (List.mem_of_getElem? (i := 19) rfl)) (by decide) (lenOf pd__JCIII_J rfl) at_503 rfl rfl rfl (Nat.le_of_eq rfl) (pc' := 506) rfl nofun nofun (by decide) (by decide) (k' := 2) (n' := 33) rfl rfl (by decide) (by decide) (fun vh61 h61 zh61 Kh61 qh61 => ?_)
  obtain rfl := qh61
  replace V_b1 := V_b1.keep Kh61 nin0
  replace V_b17 := V_b17.keep Kh61 nin0
  refine Wp.eqS (S' := [(.long (own_st (own_st (own_st (own_st (own_E N sn en) c325 (14 : Int32) (Int32.ofNat sn) (Int32.ofNat en)) c335 (15 : Int32) (Int32.ofNat sn) (Int32.ofNat en)) c345 (16 : Int32) (Int32.ofNat sn) (Int32.ofNat en)) c355 (17 : Int32) (Int32.ofNat sn) (Int32.ofNat en)))]) rfl ?_
  refine Wp.lstore (l' := #[.val (.long p1), .second, .val (.int p2), .val (.int p3), .val (.int p4), .val (.int p5), .val (.int p6), .val (.ref b1), .val (.long (Int64.ofNat N)), .second, .val (.ref b17), .val (.int (Int32.ofNat X)), .val (.int (Int32.ofNat Y)), .val (.int (Int32.ofNat sn)), .val (.int (Int32.ofNat en)), .val (.int (Int32.ofNat (min en 14))), .val (.long (own_st (own_st (own_st (own_st (own_E N sn en) c325 (14 : Int32) (Int32.ofNat sn) (Int32.ofNat en)) c335 (15 : Int32) (Int32.ofNat sn) (Int32.ofNat en)) c345 (16 : Int32) (Int32.ofNat sn) (Int32.ofNat en)) c355 (17 : Int32) (Int32.ofNat sn) (Int32.ofNat en))), .second]) at_506 (pc' := 508) rfl rfl ?_
  refine Wp.new rfl (hw _ (List.mem_of_getElem? (i := 35) rfl)) (hw _ (List.mem_of_getElem? (i := 36) rfl)) (hw _ (List.mem_of_getElem? (i := 37) rfl)) at_508 (pc' := 511) rfl (k' := 3) (n' := 37) rfl rfl (by decide) (by decide) (fun h62 b62 g_b62 sz_b62 Xh62 E_b62 D_b62 => ?_)
  have ne_b1_b62 : b1 ≠ b62 := Nat.ne_of_lt (Nat.lt_of_lt_of_eq V_b1.lt g_b62.symm)
  have ne_b17_b62 : b17 ≠ b62 := Nat.ne_of_lt (Nat.lt_of_lt_of_eq V_b17.lt g_b62.symm)
  replace V_b1 := V_b1.ext Xh62
  replace V_b17 := V_b17.ext Xh62
  have F_coder_b62 : Fld Z h62 b62 "java/lang/String" "coder" "B" (.int (0 : Int32)) := D_b62 (Or.inr (hw _ (List.mem_of_getElem? (i := 61) rfl))) (ty := .byte) (by decide)
  have F_value_b62 : Fld Z h62 b62 "java/lang/String" "value" "[B" .null := D_b62 (Or.inr (hw _ (List.mem_of_getElem? (i := 63) rfl))) (ty := (.array .byte)) (by decide)
  clear D_b62
  refine Wp.dup at_511 (pc' := 512) rfl rfl ?_
  refine Wp.aload at_512 (pc' := 514) rfl rfl rfl ?_
  refine Wp.old fun hOc => ?_
  have h16_ : ∀ c ∈ ([c132, c146, c160, c174, c188, c202, c217, c232, c246, c260, c274, c288, c302, c316, c325, c335, c345, c355] : List Int32), nar .char c = c := by
    intro c hc; simp only [List.mem_cons, List.not_mem_nil, or_false] at hc; rcases hc with rfl | rfl | rfl | rfl | rfl | rfl | rfl | rfl | rfl | rfl | rfl | rfl | rfl | rfl | rfl | rfl | rfl | rfl <;> assumption
  have ht : ∀ i, i < 14 → ([c132, c146, c160, c174, c188, c202, c217, c232, c246, c260, c274, c288, c302, c316, c325, c335, c345, c355] : List Int32)[i]? = some (Int32.ofNat (48 + N / 10 ^ (13 - i) % 10)) := by
    intro i hi
    rcases (by omega : i = 0 ∨ i = 1 ∨ i = 2 ∨ i = 3 ∨ i = 4 ∨ i = 5 ∨ i = 6 ∨ i = 7 ∨ i = 8 ∨ i = 9 ∨ i = 10 ∨ i = 11 ∨ i = 12 ∨ i = 13) with rfl | rfl | rfl | rfl | rfl | rfl | rfl | rfl | rfl | rfl | rfl | rfl | rfl | rfl
    · exact congrArg some e_c132
    · exact congrArg some e_c146
    · exact congrArg some e_c160
    · exact congrArg some e_c174
    · exact congrArg some e_c188
    · exact congrArg some e_c202
    · exact congrArg some e_c217
    · exact congrArg some e_c232
    · exact congrArg some e_c246
    · exact congrArg some e_c260
    · exact congrArg some e_c274
    · exact congrArg some e_c288
    · exact congrArg some e_c302
    · exact congrArg some e_c316
  refine Wp.callI (a := b62) (W := 1) (argsL := [(.ref b17)]) (rest := [(.ref b62)]) rfl (ctSI l Z a0 hw hE b62 b17 k_b17 [c132, c146, c160, c174, c188, c202, c217, c232, c246, c260, c274, c288, c302, c316, c325, c335, c345, c355] cz h62 hOc hU (Nat.le_of_ble_eq_true rfl) (Nat.le_of_ble_eq_true rfl) h16_ V_b17 E_b62 F_value_b62 F_coder_b62 (Nat.le_trans hO.1 sz_b62) ne_b17_b62 hco hcz (Nat.le_of_ble_eq_true rfl)) rfl rfl (hw _ (List.mem_of_getElem? (i := 38) rfl)) (hw _ (List.mem_of_getElem? (i := 39) rfl)) (hw _ (List.mem_of_getElem? (i := 40) rfl)) (hw _ (List.mem_of_getElem? (i := 37) rfl)) (by decide) (lenOf pd___C_V rfl) at_514 rfl rfl rfl (Nat.le_of_eq rfl) (pc' := 517) rfl (by simp) (by intro x hx; simp only [List.mem_cons, List.not_mem_nil, or_false] at hx; rcases hx with rfl; exact (Or.inr sz_b62)) (by decide) (by decide) (k' := 7) (n' := 91) rfl rfl (by decide) (by decide) (fun vh63 h63 zh63 Kh63 qh63 => ?_)
  obtain ⟨rfl, S_s⟩ := qh63
  replace V_b1 := V_b1.keep Kh63 (ninS ne_b1_b62 nin0)
  replace V_b17 := V_b17.keep Kh63 (ninS ne_b17_b62 nin0)
  replace E_b62 := E_b62.keep Kh63
  refine Wp.eqS (S' := [(.ref b62)]) rfl ?_
  refine Wp.iload at_517 (pc' := 519) rfl rfl ?_
  refine Wp.iload at_519 (pc' := 521) rfl rfl ?_
  refine Wp.old fun hOc => ?_
  refine Wp.callS (W := 0) (argsL := [(.ref b62), (.int (Int32.ofNat sn)), (.int (Int32.ofNat en))]) (rest := []) rfl (ctVAL l Z a0 hw hE b62 [c132, c146, c160, c174, c188, c202, c217, c232, c246, c260, c274, c288, c302, c316, c325, c335, c345, c355] cz sn en h63 hOc S_s hU hF hse (by simpa using he18) h16_ (Nat.le_of_ble_eq_true rfl) hco hcz) (hw _ (List.mem_of_getElem? (i := 64) rfl)) (hw _ (List.mem_of_getElem? (i := 65) rfl)) (hw _ (List.mem_of_getElem? (i := 67) rfl)) (hw _ (List.mem_of_getElem? (i := 66) rfl)) (by decide) (lenOf pd__Ljava_lang_String_II_J rfl) at_521 rfl rfl rfl (Nat.le_of_eq rfl) (pc' := 524) rfl nofun nofun (by decide) (by decide) (k' := 7) (n' := 91) rfl rfl (by decide) (by decide) (fun vh64 h64 zh64 Kh64 qh64 => ?_)
  obtain rfl : vh64 = some (.long (own_st (own_st (own_st (own_st (own_E N sn en) c325 (14 : Int32) (Int32.ofNat sn) (Int32.ofNat en)) c335 (15 : Int32) (Int32.ofNat sn) (Int32.ofNat en)) c345 (16 : Int32) (Int32.ofNat sn) (Int32.ofNat en)) c355 (17 : Int32) (Int32.ofNat sn) (Int32.ofNat en))) := by
    rw [qh64]; exact congrArg (fun z => some (Value.long z)) (own_main ht rfl rfl rfl rfl hse he18)
  replace S_s := S_s.keep0 Kh64
  replace V_b1 := V_b1.keep Kh64 nin0
  replace V_b17 := V_b17.keep Kh64 nin0
  replace E_b62 := E_b62.keep Kh64
  refine Wp.eqS (S' := [(.long (own_st (own_st (own_st (own_st (own_E N sn en) c325 (14 : Int32) (Int32.ofNat sn) (Int32.ofNat en)) c335 (15 : Int32) (Int32.ofNat sn) (Int32.ofNat en)) c345 (16 : Int32) (Int32.ofNat sn) (Int32.ofNat en)) c355 (17 : Int32) (Int32.ofNat sn) (Int32.ofNat en)))]) rfl ?_
  refine Wp.lload at_524 (pc' := 526) rfl rfl ?_
  refine Wp.lcmp at_526 (pc' := 527) rfl ?_
  refine Wp.if_ne (pc1 := 534) (pc' := 530) at_527 (by decide) (by decide) rfl (fun hc65 => by exact absurd ((lw_eq _ _).mpr rfl) hc65) (fun hc65 => ?_)
  refine Wp.iconst (x := (1 : Int32)) at_530 (pc' := 531) rfl rfl ?_
  refine Wp.goto (pc' := 535) at_531 (by decide) (by decide) ?_
  refine Wp.retN (x' := (1 : Int32)) (t := .boolean) rfl (by simp) rfl at_535 (by decide) (by decide) ?_
  rfl
set_option maxRecDepth 65536 in
set_option maxHeartbeats 40000000 in
theorem comes_1 {Post : Tables → Env → Array Value → State → Outcome → State → Prop} (hpost : ∀ tb e args s v u, (limb_1_1.after args s (.returned v) u = true ∧ limb_1_2.after args s (.returned v) u = true ∧ True) → FrameEnd s (.returned v) u (Jvm.fieldLocs frame_1_writes args s ++ Jvm.arrayLocs frame_1_arrays args s ++ Jvm.staticLocs frame_1_statics s) 24 256 → Post tb e args s (.returned v) u) :
    ArmFor flags0 classFile x code maxLocals ret World_1 tables_1 room_1 Calls_1 rest_1 Pre_1 Post := by
  intro l hfl _ _ p e ha hc hk s m args below hf hA hF happ hP
  obtain ⟨hcalls, hrest, hpre⟩ := hP
  obtain ⟨-, -, -, hnamed, -, -, -, hat⟩ := (Spec.applies_iff hf).mp happ
  obtain ⟨hg, hn⟩ := and_e (Cond.before_iff.mp (show (Jvm.Cond.and given_1 narrow_1).before args s = true from hpre))
  obtain ⟨gc, ga0⟩ := and_e hg
  obtain ⟨ga0, ga1⟩ := and_e ga0
  obtain ⟨ga1, ga2⟩ := and_e ga1
  obtain ⟨ga2, ga3⟩ := and_e ga2
  obtain ⟨ga3, ga4⟩ := and_e ga3
  obtain ⟨ga4, ga5⟩ := and_e ga4
  obtain ⟨w0, w1, w2, w3, w4, w5, rfl⟩ : ∃ w0 w1 w2 w3 w4 w5 : Value, args = #[w0, w1, w2, w3, w4, w5] := by
    have hs : args.size = 6 := by simpa [Cond.value, given_1] using gc
    obtain ⟨L⟩ := args
    match L, hs with
    | [w0, w1, w2, w3, w4, w5], _ => exact ⟨w0, w1, w2, w3, w4, w5, rfl⟩
  have hw := fun d (hd : d ∈ tables_1) => atoms_spec (ws := Jvm.Cond.code x code maxLocals ret :: tables_1) hat d (List.mem_cons_of_mem _ hd)
  obtain ⟨hsets, hown0⟩ := atoms_of _ (rest_1_c_eq ▸ (show rest_1_c.before _ s = true from hrest))
  obtain ⟨i0, ei0⟩ := isL_v ga0
  obtain rfl : w0 = (.long i0) := Option.some.inj ei0
  obtain ⟨i1, ei1⟩ := is_v ga1
  obtain rfl : w1 = (.int i1) := Option.some.inj ei1
  obtain ⟨i2, ei2⟩ := is_v ga2
  obtain rfl : w2 = (.int i2) := Option.some.inj ei2
  obtain ⟨i3, ei3⟩ := is_v ga3
  obtain rfl : w3 = (.int i3) := Option.some.inj ei3
  obtain ⟨i4, ei4⟩ := is_v ga4
  obtain rfl : w4 = (.int i4) := Option.some.inj ei4
  obtain ⟨i5, ei5⟩ := is_v ga5
  obtain rfl : w5 = (.int i5) := Option.some.inj ei5
  have hn3 := not_v (Cond.before_iff.mp (hsets _ (List.mem_of_getElem? (i := 2) rfl)))
  obtain ⟨cz, ecz⟩ := is_v (Cond.before_iff.mp (hsets _ (List.mem_of_getElem? (i := 1) rfl)))
  have hco := Sta.start ecz (Or.inl (hsets _ (List.mem_of_getElem? (i := 0) rfl)))
  have hcz : ¬ cz = 0 := gotF (Cond.eq_ints ecz (Term.int_eval (0))) hn3
  have hU : own_U s := ⟨Sta.start (eqv_i (Term.int_eval (1)) (Cond.before_iff.mp (hsets _ (List.mem_of_getElem? (i := 12) rfl)))) (Or.inl (hsets _ (List.mem_of_getElem? (i := 11) rfl))), Sta.start (eqv_i (Term.int_eval (0)) (Cond.before_iff.mp (hsets _ (List.mem_of_getElem? (i := 15) rfl)))) (Or.inl (hsets _ (List.mem_of_getElem? (i := 14) rfl))), Sta.start (eqv_i (Term.int_eval (8)) (Cond.before_iff.mp (hsets _ (List.mem_of_getElem? (i := 18) rfl)))) (Or.inl (hsets _ (List.mem_of_getElem? (i := 17) rfl)))⟩
  obtain ⟨fv, efv, hfv⟩ := isR_v (Cond.before_iff.mp (hsets _ (List.mem_of_getElem? (i := 8) rfl)))
  have hF : own_F s := ⟨fv, Sta.start efv (Or.inl (hsets _ (List.mem_of_getElem? (i := 7) rfl))), by cases fv <;> simp_all [Value.isRef]⟩
  obtain ⟨n, o, h1, h2, h3, _, L, rfl, ⟨N, rfl⟩, -, hq⟩ := (ct0 l s _ hw EW.nil i0 i1 i2 i3 i4 i5 cz s.heap ⟨Nat.le_refl _, fun _ _ q => q⟩ hco hcz hU hF) p e ha hc hk s m _ below hf ((Spec.applies_iff_loose hf).mp happ).1 ⟨rfl, State.Warmed39.refl s, rfl, (fun p hp => nomatch hp), fun x hx => nomatch hx⟩ trivial
  refine ⟨n, _, h1, h2, h3, hpost _ _ _ _ _ _ ⟨Cond.after_iff.mpr rfl, Cond.after_iff.mpr (eq_i res_at (Term.int_eval (1)) rfl), trivial⟩ ⟨hq.1.1, hq.2 rfl, (hq.1.2.2.2.sift fun y hy => Or.inr ((N y hy).resolve_left (fun q => nomatch q))).mono (by decide) (by decide)⟩⟩
theorem main_1_1 : Claimed_1_1 := comes_1 fun _ _ _ _ _ _ h hF => ⟨h.1, hF⟩
theorem main_1_2 : Claimed_1_2 := comes_1 fun _ _ _ _ _ _ h hF => ⟨h.2.1, hF⟩
end Jvm.Pilot.@@N@@
namespace Jvm.Pilot.@@N@@
open Jvm Jvm.ClassFile Sem Op Lib Jvm.Free Jvm.Stand Jvm.Pilot.@@N@@.Jvm.D
/-! MADE BY PROGRAM (witnessworld.py) out of the Statement's table words and the real class files: 23 classes; the members and pool entries that the words name. The judged class is class 1, her method 1. -/
namespace start1
open Jvm.ClassFile
def u (s : String) : CpInfo := .utf8 (stringToUtf16 s)
/-- a pool by its gaps: so many unusable entries, then the entry; so many at the end -/
def gap : Nat → List CpInfo → List CpInfo
  | 0, r => r
  | n + 1, r => .unusable :: gap n r
def poolList (es : List (Nat × CpInfo)) (last : Nat) : List CpInfo := es.foldr (fun e r => gap e.1 (e.2 :: r)) (gap last [])
def pool (es : List (Nat × CpInfo)) (last : Nat) : Array CpInfo := ⟨poolList es last⟩
def fileOf (pool : Array CpInfo) (this : Nat) (attrs : Array Attribute := #[]) (ms : Array MethodInfo := #[]) (fl : Nat := 33) (sup : Nat := 0) (ifs : Array Nat := #[]) (fds : Array FieldInfo := #[]) : ClassFile where
  minorVersion := 0
  majorVersion := 65
  constantPool := pool
  accessFlags := fl
  thisClass := this
  superClass := sup
  interfaces := ifs
  fields := fds
  methods := ms
  attributes := attrs
def plain (name : String) (sup : Option ClassId) : Class where
  name := name
  kind := .ordinary
  loader := none
  accessFlags := 33
  super := sup
  interfaces := #[]
  cf := none
  fields := #[]
  methods := #[]
  instanceTypes := #[]
  staticTypes := #[]
  resolved := #[]
  callSites := []
  init := .initialized
  statics := none
  mirror := none

def pool0 : Array CpInfo := pool [(5, u "<init>"), (0, u "()V"), (1, .class_ 10), (1, u "java/lang/Object")] 113

def k0c0 : Code := { maxStack := 0, maxLocals := 1, code := object_method_1_code, exceptionTable := #[], attributes := #[] }
def k0m0 : Method := { name := "<init>", desc := "()V", sig := { parameters := [], returnType := none }, accessFlags := 1, code := some k0c0 }
/-- java/lang/Object -/
def k0 : Class := { plain "java/lang/Object" none with
  accessFlags := 33
  interfaces := #[]
  cf := some (fileOf pool0 8 #[] #[{ accessFlags := 1, nameIndex := 5, descriptorIndex := 6, attributes := #[] }] 33 0 #[] #[])
  fields := #[]
  methods := #[k0m0]
  instanceTypes := #[]
  staticTypes := #[]
  resolved := Array.replicate 124 none
  statics := none }

def pool1 : Array CpInfo := pool [(2, .class_ 4), (1, u "java/lang/Object"), (0, u "<init>"), (0, u "()V"), (0, .long 10), (1, .long 100), (1, .long 1000), (1, .long 10000), (1, .long 100000), (1, .long 1000000), (1, .long 10000000), (1, .long 100000000), (1, .long 1000000000), (1, .long 10000000000), (1, .long 100000000000), (1, .long 1000000000000), (1, .long 10000000000000), (1, .long 100000000000000), (3, .long 9223372036854775807), (1, .methodref 40 41), (0, .class_ 42), (0, .nameAndType 43 44), (0, u "com/example/novatio/novatio/core/AsciiDigitsValuePinLaw"), (0, u "dig"), (0, u "(JJ)C"), (0, .methodref 40 46), (0, .nameAndType 47 48), (0, u "draw"), (0, u "(I)C"), (0, .integer 65535), (0, .methodref 51 52), (0, .class_ 53), (0, .nameAndType 54 55), (0, u "java/lang/Math"), (0, u "min"), (0, u "(II)I"), (0, .methodref 51 57), (0, .nameAndType 58 55), (0, u "max"), (0, .methodref 40 60), (0, .nameAndType 61 62), (0, u "step"), (0, u "(JCIII)J"), (0, .class_ 64), (0, u "java/lang/String"), (0, .methodref 63 66), (0, .nameAndType 5 67), (0, u "([C)V"), (0, .methodref 69 70), (0, .class_ 71), (0, .nameAndType 72 73), (0, u "com/example/novatio/novatio/core/AsciiDigits"), (0, u "value"), (0, u "(Ljava/lang/String;II)J"), (0, .long 18446744073709551615), (3, u "law"), (0, u "(JIIIII)Z")] 7

def k1m0 : Method := { name := "<init>", desc := "()V", sig := { parameters := [], returnType := none }, accessFlags := 2, code := none }
def k1c1 : Code := { maxStack := 6, maxLocals := 18, code := code, exceptionTable := #[], attributes := #[] }
def k1m1 : Method := { name := "law", desc := "(JIIIII)Z", sig := { parameters := [.long, .int, .int, .int, .int, .int], returnType := some .boolean }, accessFlags := 9, code := some k1c1 }
def k1c2 : Code := { maxStack := 5, maxLocals := 4, code := method_3_code, exceptionTable := #[], attributes := #[] }
def k1m2 : Method := { name := "dig", desc := "(JJ)C", sig := { parameters := [.long, .long], returnType := some .char }, accessFlags := 10, code := some k1c2 }
def k1c3 : Code := { maxStack := 3, maxLocals := 2, code := method_4_code, exceptionTable := #[], attributes := #[] }
def k1m3 : Method := { name := "draw", desc := "(I)C", sig := { parameters := [.int], returnType := some .char }, accessFlags := 10, code := some k1c3 }
def k1c4 : Code := { maxStack := 4, maxLocals := 6, code := method_5_code, exceptionTable := #[], attributes := #[] }
def k1m4 : Method := { name := "step", desc := "(JCIII)J", sig := { parameters := [.long, .char, .int, .int, .int], returnType := some .long }, accessFlags := 10, code := some k1c4 }
/-- com/example/novatio/novatio/core/AsciiDigitsValuePinLaw -/
def k1 : Class := { plain "com/example/novatio/novatio/core/AsciiDigitsValuePinLaw" (some 0) with
  accessFlags := 49
  interfaces := #[]
  cf := some (fileOf pool1 40 #[] #[{ accessFlags := 2, nameIndex := 5, descriptorIndex := 6, attributes := #[] }, { accessFlags := 9, nameIndex := 78, descriptorIndex := 79, attributes := #[] }, { accessFlags := 10, nameIndex := 43, descriptorIndex := 44, attributes := #[] }, { accessFlags := 10, nameIndex := 47, descriptorIndex := 48, attributes := #[] }, { accessFlags := 10, nameIndex := 61, descriptorIndex := 62, attributes := #[] }] 49 2 #[] #[])
  fields := #[]
  methods := #[k1m0, k1m1, k1m2, k1m3, k1m4]
  instanceTypes := #[]
  staticTypes := #[]
  resolved := Array.replicate 87 none
  statics := none }

def pool2 : Array CpInfo := pool [(1, .class_ 2), (0, u "java/lang/Math"), (1, .class_ 6), (1, u "java/lang/Object"), (0, u "<init>"), (0, u "()V"), (89, .class_ 100), (1, u "java/lang/Math$RandomNumberGeneratorHolder"), (71, u "negativeZeroFloatBits"), (0, u "J"), (2, u "negativeZeroDoubleBits"), (21, u "max"), (2, u "min"), (43, u "$assertionsDisabled"), (0, u "Z"), (88, u "(II)I"), (2, u "twoToTheDoubleScaleDown"), (0, u "D"), (4, u "twoToTheDoubleScaleUp"), (9, u "E"), (3, u "PI"), (2, u "TAU"), (2, u "DEGREES_TO_RADIANS"), (0, u "RADIANS_TO_DEGREES")] 94

def k2m0 : Method := { name := "<init>", desc := "()V", sig := { parameters := [], returnType := none }, accessFlags := 2, code := none }
def k2c1 : Code := { maxStack := 2, maxLocals := 2, code := jdk_29_method_65_code, exceptionTable := #[], attributes := #[] }
def k2m1 : Method := { name := "max", desc := "(II)I", sig := { parameters := [.int, .int], returnType := some .int }, accessFlags := 9, code := some k2c1 }
def k2c2 : Code := { maxStack := 2, maxLocals := 2, code := jdk_29_method_69_code, exceptionTable := #[], attributes := #[] }
def k2m2 : Method := { name := "min", desc := "(II)I", sig := { parameters := [.int, .int], returnType := some .int }, accessFlags := 9, code := some k2c2 }
/-- java/lang/Math -/
def k2 : Class := { plain "java/lang/Math" (some 0) with
  accessFlags := 49
  interfaces := #[]
  cf := some (fileOf pool2 1 #[.nestMembers #[98]] #[{ accessFlags := 2, nameIndex := 7, descriptorIndex := 8, attributes := #[] }, { accessFlags := 9, nameIndex := 198, descriptorIndex := 335, attributes := #[] }, { accessFlags := 9, nameIndex := 201, descriptorIndex := 335, attributes := #[] }] 49 4 #[] #[{ accessFlags := 25, nameIndex := 354, descriptorIndex := 339, attributes := #[] }, { accessFlags := 25, nameIndex := 358, descriptorIndex := 339, attributes := #[] }, { accessFlags := 25, nameIndex := 361, descriptorIndex := 339, attributes := #[] }, { accessFlags := 26, nameIndex := 364, descriptorIndex := 339, attributes := #[] }, { accessFlags := 26, nameIndex := 365, descriptorIndex := 339, attributes := #[] }, { accessFlags := 26, nameIndex := 172, descriptorIndex := 173, attributes := #[] }, { accessFlags := 26, nameIndex := 176, descriptorIndex := 173, attributes := #[] }, { accessFlags := 8, nameIndex := 344, descriptorIndex := 339, attributes := #[] }, { accessFlags := 8, nameIndex := 338, descriptorIndex := 339, attributes := #[] }, { accessFlags := 4120, nameIndex := 245, descriptorIndex := 246, attributes := #[] }])
  fields := #[{ name := "E", type := .double, accessFlags := 25, slot := 0, constantValue := 0 }, { name := "PI", type := .double, accessFlags := 25, slot := 1, constantValue := 0 }, { name := "TAU", type := .double, accessFlags := 25, slot := 2, constantValue := 0 }, { name := "DEGREES_TO_RADIANS", type := .double, accessFlags := 26, slot := 3, constantValue := 0 }, { name := "RADIANS_TO_DEGREES", type := .double, accessFlags := 26, slot := 4, constantValue := 0 }, { name := "negativeZeroFloatBits", type := .long, accessFlags := 26, slot := 5, constantValue := 0 }, { name := "negativeZeroDoubleBits", type := .long, accessFlags := 26, slot := 6, constantValue := 0 }, { name := "twoToTheDoubleScaleUp", type := .double, accessFlags := 8, slot := 7, constantValue := 0 }, { name := "twoToTheDoubleScaleDown", type := .double, accessFlags := 8, slot := 8, constantValue := 0 }, { name := "$assertionsDisabled", type := .boolean, accessFlags := 4120, slot := 9, constantValue := 0 }]
  methods := #[k2m0, k2m1, k2m2]
  instanceTypes := #[]
  staticTypes := #[.double, .double, .double, .double, .double, .long, .long, .double, .double, .boolean]
  resolved := Array.replicate 460 none
  statics := none }

def pool3 : Array CpInfo := pool [(1, .class_ 2), (0, u "java/io/Serializable"), (0, .class_ 4), (0, u "java/lang/Object")] 2

/-- java/io/Serializable -/
def k3 : Class := { plain "java/io/Serializable" (some 0) with
  accessFlags := 1537
  interfaces := #[]
  cf := some (fileOf pool3 1 #[] #[] 1537 3 #[] #[])
  fields := #[]
  methods := #[]
  instanceTypes := #[]
  staticTypes := #[]
  resolved := Array.replicate 7 none
  statics := none }

def pool4 : Array CpInfo := pool [(1, .class_ 2), (0, u "java/lang/Comparable"), (0, .class_ 4), (0, u "java/lang/Object")] 7

/-- java/lang/Comparable -/
def k4 : Class := { plain "java/lang/Comparable" (some 0) with
  accessFlags := 1537
  interfaces := #[]
  cf := some (fileOf pool4 1 #[] #[] 1537 3 #[] #[])
  fields := #[]
  methods := #[]
  instanceTypes := #[]
  staticTypes := #[]
  resolved := Array.replicate 12 none
  statics := none }

def pool5 : Array CpInfo := pool [(2, .class_ 4), (1, u "java/lang/CharSequence"), (42, .class_ 48), (0, u "java/lang/CharSequence$1CodePointIterator"), (10, .class_ 60), (0, u "java/lang/CharSequence$1CharIterator"), (5, .class_ 67), (0, u "java/lang/Object")] 63

/-- java/lang/CharSequence -/
def k5 : Class := { plain "java/lang/CharSequence" (some 0) with
  accessFlags := 1537
  interfaces := #[]
  cf := some (fileOf pool5 2 #[.nestMembers #[47, 59]] #[] 1537 66 #[] #[])
  fields := #[]
  methods := #[]
  instanceTypes := #[]
  staticTypes := #[]
  resolved := Array.replicate 131 none
  statics := none }

def pool6 : Array CpInfo := pool [(1, .class_ 2), (0, u "java/lang/constant/Constable"), (0, .class_ 4), (0, u "java/lang/Object")] 6

/-- java/lang/constant/Constable -/
def k6 : Class := { plain "java/lang/constant/Constable" (some 0) with
  accessFlags := 1537
  interfaces := #[]
  cf := some (fileOf pool6 1 #[] #[] 1537 3 #[] #[])
  fields := #[]
  methods := #[]
  instanceTypes := #[]
  staticTypes := #[]
  resolved := Array.replicate 11 none
  statics := none }

def pool7 : Array CpInfo := pool [(1, .class_ 2), (0, u "java/lang/constant/ConstantDesc"), (0, .class_ 4), (0, u "java/lang/Object")] 32

/-- java/lang/constant/ConstantDesc -/
def k7 : Class := { plain "java/lang/constant/ConstantDesc" (some 0) with
  accessFlags := 1537
  interfaces := #[]
  cf := some (fileOf pool7 1 #[] #[] 1537 3 #[] #[])
  fields := #[]
  methods := #[]
  instanceTypes := #[]
  staticTypes := #[]
  resolved := Array.replicate 37 none
  statics := none }

def pool8 : Array CpInfo := pool [(1, .methodref 2 3), (0, .class_ 4), (0, .nameAndType 5 6), (0, u "java/lang/Object"), (0, u "<init>"), (0, u "()V"), (2, .fieldref 10 11), (0, .class_ 12), (0, .nameAndType 13 14), (0, u "java/lang/String"), (0, u "value"), (0, u "[B"), (0, .fieldref 10 16), (0, .nameAndType 17 18), (0, u "coder"), (0, u "B"), (2, u "hash"), (0, u "I"), (2, u "hashIsZero"), (0, u "Z"), (0, .methodref 10 28), (0, .nameAndType 5 29), (0, u "([CIILjava/lang/Void;)V"), (8, .fieldref 10 39), (0, .nameAndType 40 26), (0, u "COMPACT_STRINGS"), (1, .class_ 44), (1, u "java/lang/StringUTF16"), (0, u "compress"), (1, .methodref 42 48), (0, .nameAndType 49 50), (0, u "coderFromArrayLen"), (0, u "([BI)B"), (56, .class_ 109), (1, u "java/lang/StringLatin1"), (32, u "()Z"), (34, .methodref 42 178), (0, .nameAndType 45 179), (0, u "([CII)[B"), (183, u "([BI)C"), (27, u "(II)V"), (35, u "(I)C"), (64, .methodref 10 493), (0, .nameAndType 494 142), (0, u "isLatin1"), (0, .methodref 107 496), (0, .nameAndType 497 363), (0, u "charAt"), (0, .methodref 42 496), (2, u "checkIndex"), (73, .class_ 576), (0, u "java/lang/CharSequence"), (22, u "CASE_INSENSITIVE_ORDER"), (0, u "Ljava/util/Comparator;"), (409, u "([C)V"), (42, .fieldref 1054 1055), (0, .class_ 1056), (0, .nameAndType 1057 1058), (0, u "jdk/internal/util/Preconditions"), (0, u "SIOOBE_FORMATTER"), (0, u "Ljava/util/function/BiFunction;"), (0, .methodref 1054 1060), (0, .nameAndType 501 1061), (0, u "(IILjava/util/function/BiFunction;)I"), (39, u "serialPersistentFields"), (0, u "[Ljava/io/ObjectStreamField;"), (0, .class_ 1104), (0, u "java/lang/String$CaseInsensitiveComparator"), (1, .class_ 1107), (0, u "java/io/Serializable"), (0, .class_ 1109), (0, u "java/lang/Comparable"), (0, .class_ 1111), (0, u "java/lang/constant/Constable"), (0, .class_ 1113), (0, u "java/lang/constant/ConstantDesc"), (2, u "serialVersionUID"), (0, u "J"), (3, u "REPL"), (0, u "C"), (2, u "LATIN1"), (1, u "UTF16")] 323

def k8m0 : Method := { name := "<init>", desc := "()V", sig := { parameters := [], returnType := none }, accessFlags := 1, code := none }
def k8c1 : Code := { maxStack := 5, maxLocals := 2, code := jdk_42_method_3_code, exceptionTable := #[], attributes := #[] }
def k8m1 : Method := { name := "<init>", desc := "([C)V", sig := { parameters := [(.array .char)], returnType := none }, accessFlags := 1, code := some k8c1 }
def k8c2 : Code := { maxStack := 2, maxLocals := 2, code := jdk_42_method_56_code, exceptionTable := #[], attributes := #[] }
def k8m2 : Method := { name := "charAt", desc := "(I)C", sig := { parameters := [.int], returnType := some .char }, accessFlags := 1, code := some k8c2 }
def k8c3 : Code := { maxStack := 4, maxLocals := 6, code := jdk_42_method_149_code, exceptionTable := #[], attributes := #[] }
def k8m3 : Method := { name := "<init>", desc := "([CIILjava/lang/Void;)V", sig := { parameters := [(.array .char), .int, .int, (.object "java/lang/Void")], returnType := none }, accessFlags := 2, code := some k8c3 }
def k8c4 : Code := { maxStack := 1, maxLocals := 1, code := jdk_42_method_154_code, exceptionTable := #[], attributes := #[] }
def k8m4 : Method := { name := "isLatin1", desc := "()Z", sig := { parameters := [], returnType := some .boolean }, accessFlags := 0, code := some k8c4 }
def k8c5 : Code := { maxStack := 3, maxLocals := 2, code := jdk_42_method_155_code, exceptionTable := #[], attributes := #[] }
def k8m5 : Method := { name := "checkIndex", desc := "(II)V", sig := { parameters := [.int, .int], returnType := none }, accessFlags := 8, code := some k8c5 }
/-- java/lang/String -/
def k8 : Class := { plain "java/lang/String" (some 0) with
  accessFlags := 49
  interfaces := #[3, 4, 5, 6, 7]
  cf := some (fileOf pool8 10 #[.nestMembers #[1103]] #[{ accessFlags := 1, nameIndex := 5, descriptorIndex := 6, attributes := #[] }, { accessFlags := 1, nameIndex := 5, descriptorIndex := 1010, attributes := #[] }, { accessFlags := 1, nameIndex := 497, descriptorIndex := 427, attributes := #[] }, { accessFlags := 2, nameIndex := 5, descriptorIndex := 29, attributes := #[] }, { accessFlags := 0, nameIndex := 494, descriptorIndex := 142, attributes := #[] }, { accessFlags := 8, nameIndex := 501, descriptorIndex := 391, attributes := #[] }] 49 2 #[1106, 1108, 575, 1110, 1112] #[{ accessFlags := 18, nameIndex := 13, descriptorIndex := 14, attributes := #[] }, { accessFlags := 18, nameIndex := 17, descriptorIndex := 18, attributes := #[] }, { accessFlags := 2, nameIndex := 21, descriptorIndex := 22, attributes := #[] }, { accessFlags := 2, nameIndex := 25, descriptorIndex := 26, attributes := #[] }, { accessFlags := 26, nameIndex := 1116, descriptorIndex := 1117, attributes := #[] }, { accessFlags := 24, nameIndex := 40, descriptorIndex := 26, attributes := #[] }, { accessFlags := 26, nameIndex := 1101, descriptorIndex := 1102, attributes := #[] }, { accessFlags := 26, nameIndex := 1121, descriptorIndex := 1122, attributes := #[] }, { accessFlags := 25, nameIndex := 599, descriptorIndex := 600, attributes := #[] }, { accessFlags := 24, nameIndex := 1125, descriptorIndex := 18, attributes := #[] }, { accessFlags := 24, nameIndex := 1127, descriptorIndex := 18, attributes := #[] }])
  fields := #[{ name := "value", type := (.array .byte), accessFlags := 18, slot := 0, constantValue := 0 }, { name := "coder", type := .byte, accessFlags := 18, slot := 1, constantValue := 0 }, { name := "hash", type := .int, accessFlags := 2, slot := 2, constantValue := 0 }, { name := "hashIsZero", type := .boolean, accessFlags := 2, slot := 3, constantValue := 0 }, { name := "serialVersionUID", type := .long, accessFlags := 26, slot := 0, constantValue := 0 }, { name := "COMPACT_STRINGS", type := .boolean, accessFlags := 24, slot := 1, constantValue := 0 }, { name := "serialPersistentFields", type := (.array (.object "java/io/ObjectStreamField")), accessFlags := 26, slot := 2, constantValue := 0 }, { name := "REPL", type := .char, accessFlags := 26, slot := 3, constantValue := 0 }, { name := "CASE_INSENSITIVE_ORDER", type := (.object "java/util/Comparator"), accessFlags := 25, slot := 4, constantValue := 0 }, { name := "LATIN1", type := .byte, accessFlags := 24, slot := 5, constantValue := 0 }, { name := "UTF16", type := .byte, accessFlags := 24, slot := 6, constantValue := 0 }]
  methods := #[k8m0, k8m1, k8m2, k8m3, k8m4, k8m5]
  instanceTypes := #[(.array .byte), .byte, .int, .boolean]
  staticTypes := #[.long, .boolean, (.array (.object "java/io/ObjectStreamField")), .char, (.object "java/util/Comparator"), .byte, .byte]
  resolved := Array.replicate 1451 none
  statics := some 0 }

def pool9 : Array CpInfo := pool [(3, .class_ 4), (0, u "java/lang/String"), (1, .class_ 8), (1, u "java/lang/Object"), (0, u "<init>"), (0, u "()V"), (0, .methodref 12 13), (0, .class_ 14), (0, .nameAndType 15 16), (0, u "java/lang/StringUTF16"), (0, u "newBytesLength"), (0, u "(I)I"), (3, .integer 1073741823), (23, .fieldref 12 45), (0, .nameAndType 46 47), (0, u "$assertionsDisabled"), (0, u "Z"), (0, .methodref 12 49), (0, .nameAndType 50 51), (0, u "length"), (0, u "([B)I"), (7, .fieldref 12 60), (0, .nameAndType 61 62), (0, u "HI_BYTE_SHIFT"), (0, u "I"), (0, .fieldref 12 64), (0, .nameAndType 65 62), (0, u "LO_BYTE_SHIFT"), (1, .methodref 12 68), (0, .nameAndType 69 70), (0, u "checkIndex"), (0, u "(I[B)V"), (0, .methodref 12 72), (0, .nameAndType 73 74), (0, u "getChar"), (0, u "([BI)C"), (32, .methodref 12 108), (0, .nameAndType 109 110), (0, u "newBytesFor"), (0, u "(I)[B"), (0, .methodref 12 112), (0, .nameAndType 113 114), (0, u "putChar"), (0, u "([BII)V"), (0, .methodref 12 116), (0, .nameAndType 117 118), (0, u "compress"), (0, u "([CI[BII)I"), (0, .methodref 12 120), (0, .nameAndType 121 122), (0, u "toBytes"), (0, u "([CII)[B"), (138, u "coderFromArrayLen"), (0, u "([BI)B"), (106, .class_ 371), (1, u "java/lang/StringUTF16$LinesSpliterator"), (20, u "charAt"), (21, .methodref 3 415), (0, .nameAndType 69 416), (0, u "(II)V"), (13, u "MAX_LENGTH"), (196, .class_ 628), (0, u "java/lang/StringUTF16$CodePointsSpliterator"), (0, .class_ 630), (0, u "java/lang/StringUTF16$CharsSpliterator")] 4

def k9m0 : Method := { name := "<init>", desc := "()V", sig := { parameters := [], returnType := none }, accessFlags := 0, code := none }
def k9c1 : Code := { maxStack := 1, maxLocals := 1, code := jdk_52_method_2_code, exceptionTable := #[], attributes := #[] }
def k9m1 : Method := { name := "newBytesFor", desc := "(I)[B", sig := { parameters := [.int], returnType := some (.array .byte) }, accessFlags := 9, code := some k9c1 }
def k9c2 : Code := { maxStack := 4, maxLocals := 1, code := jdk_52_method_3_code, exceptionTable := #[], attributes := #[] }
def k9m2 : Method := { name := "newBytesLength", desc := "(I)I", sig := { parameters := [.int], returnType := some .int }, accessFlags := 9, code := some k9c2 }
def k9c3 : Code := { maxStack := 4, maxLocals := 3, code := jdk_52_method_4_code, exceptionTable := #[], attributes := #[] }
def k9m3 : Method := { name := "putChar", desc := "([BII)V", sig := { parameters := [(.array .byte), .int, .int], returnType := none }, accessFlags := 8, code := some k9c3 }
def k9c4 : Code := { maxStack := 3, maxLocals := 2, code := jdk_52_method_5_code, exceptionTable := #[], attributes := #[] }
def k9m4 : Method := { name := "getChar", desc := "([BI)C", sig := { parameters := [(.array .byte), .int], returnType := some .char }, accessFlags := 8, code := some k9c4 }
def k9c5 : Code := { maxStack := 2, maxLocals := 1, code := jdk_52_method_6_code, exceptionTable := #[], attributes := #[] }
def k9m5 : Method := { name := "length", desc := "([B)I", sig := { parameters := [(.array .byte)], returnType := some .int }, accessFlags := 9, code := some k9c5 }
def k9c6 : Code := { maxStack := 4, maxLocals := 5, code := jdk_52_method_14_code, exceptionTable := #[], attributes := #[] }
def k9m6 : Method := { name := "toBytes", desc := "([CII)[B", sig := { parameters := [(.array .char), .int, .int], returnType := some (.array .byte) }, accessFlags := 9, code := some k9c6 }
def k9c7 : Code := { maxStack := 2, maxLocals := 2, code := jdk_52_method_15_code, exceptionTable := #[], attributes := #[] }
def k9m7 : Method := { name := "coderFromArrayLen", desc := "([BI)B", sig := { parameters := [(.array .byte), .int], returnType := some .byte }, accessFlags := 8, code := some k9c7 }
def k9c8 : Code := { maxStack := 5, maxLocals := 6, code := jdk_52_method_16_code, exceptionTable := #[], attributes := #[] }
def k9m8 : Method := { name := "compress", desc := "([CII)[B", sig := { parameters := [(.array .char), .int, .int], returnType := some (.array .byte) }, accessFlags := 9, code := some k9c8 }
def k9c9 : Code := { maxStack := 3, maxLocals := 7, code := jdk_52_method_21_code, exceptionTable := #[], attributes := #[] }
def k9m9 : Method := { name := "compress", desc := "([CI[BII)I", sig := { parameters := [(.array .char), .int, (.array .byte), .int, .int], returnType := some .int }, accessFlags := 9, code := some k9c9 }
def k9c10 : Code := { maxStack := 2, maxLocals := 2, code := jdk_52_method_83_code, exceptionTable := #[], attributes := #[] }
def k9m10 : Method := { name := "charAt", desc := "([BI)C", sig := { parameters := [(.array .byte), .int], returnType := some .char }, accessFlags := 9, code := some k9c10 }
def k9c11 : Code := { maxStack := 2, maxLocals := 2, code := jdk_52_method_91_code, exceptionTable := #[], attributes := #[] }
def k9m11 : Method := { name := "checkIndex", desc := "(I[B)V", sig := { parameters := [.int, (.array .byte)], returnType := none }, accessFlags := 9, code := some k9c11 }
/-- java/lang/StringUTF16 -/
def k9 : Class := { plain "java/lang/StringUTF16" (some 0) with
  accessFlags := 48
  interfaces := #[]
  cf := some (fileOf pool9 12 #[.nestMembers #[627, 629, 369]] #[{ accessFlags := 0, nameIndex := 9, descriptorIndex := 10, attributes := #[] }, { accessFlags := 9, nameIndex := 109, descriptorIndex := 110, attributes := #[] }, { accessFlags := 9, nameIndex := 15, descriptorIndex := 16, attributes := #[] }, { accessFlags := 8, nameIndex := 113, descriptorIndex := 114, attributes := #[] }, { accessFlags := 8, nameIndex := 73, descriptorIndex := 74, attributes := #[] }, { accessFlags := 9, nameIndex := 50, descriptorIndex := 51, attributes := #[] }, { accessFlags := 9, nameIndex := 121, descriptorIndex := 122, attributes := #[] }, { accessFlags := 8, nameIndex := 261, descriptorIndex := 262, attributes := #[] }, { accessFlags := 9, nameIndex := 117, descriptorIndex := 122, attributes := #[] }, { accessFlags := 9, nameIndex := 117, descriptorIndex := 118, attributes := #[] }, { accessFlags := 9, nameIndex := 392, descriptorIndex := 74, attributes := #[] }, { accessFlags := 9, nameIndex := 69, descriptorIndex := 70, attributes := #[] }] 48 6 #[] #[{ accessFlags := 26, nameIndex := 61, descriptorIndex := 62, attributes := #[] }, { accessFlags := 26, nameIndex := 65, descriptorIndex := 62, attributes := #[] }, { accessFlags := 24, nameIndex := 430, descriptorIndex := 62, attributes := #[] }, { accessFlags := 4120, nameIndex := 46, descriptorIndex := 47, attributes := #[] }])
  fields := #[{ name := "HI_BYTE_SHIFT", type := .int, accessFlags := 26, slot := 0, constantValue := 0 }, { name := "LO_BYTE_SHIFT", type := .int, accessFlags := 26, slot := 1, constantValue := 0 }, { name := "MAX_LENGTH", type := .int, accessFlags := 24, slot := 2, constantValue := 0 }, { name := "$assertionsDisabled", type := .boolean, accessFlags := 4120, slot := 3, constantValue := 0 }]
  methods := #[k9m0, k9m1, k9m2, k9m3, k9m4, k9m5, k9m6, k9m7, k9m8, k9m9, k9m10, k9m11]
  instanceTypes := #[]
  staticTypes := #[.int, .int, .int, .boolean]
  resolved := Array.replicate 635 none
  statics := some 1 }

def pool10 : Array CpInfo := pool [(2, .class_ 4), (1, u "java/lang/Object"), (0, u "<init>"), (0, u "()V"), (0, .methodref 8 9), (0, .class_ 10), (0, .nameAndType 11 12), (0, u "java/lang/String"), (0, u "charAt"), (0, u "(I)C"), (0, .long 18446744073709551615), (1, .long 10), (1, .class_ 18), (0, u "com/example/novatio/novatio/core/AsciiDigits"), (2, u "value"), (0, u "(Ljava/lang/String;II)J")] 3

def k10m0 : Method := { name := "<init>", desc := "()V", sig := { parameters := [], returnType := none }, accessFlags := 2, code := none }
def k10c1 : Code := { maxStack := 4, maxLocals := 7, code := prog_26_method_2_code, exceptionTable := #[], attributes := #[] }
def k10m1 : Method := { name := "value", desc := "(Ljava/lang/String;II)J", sig := { parameters := [(.object "java/lang/String"), .int, .int], returnType := some .long }, accessFlags := 8, code := some k10c1 }
/-- com/example/novatio/novatio/core/AsciiDigits -/
def k10 : Class := { plain "com/example/novatio/novatio/core/AsciiDigits" (some 0) with
  accessFlags := 48
  interfaces := #[]
  cf := some (fileOf pool10 17 #[] #[{ accessFlags := 2, nameIndex := 5, descriptorIndex := 6, attributes := #[] }, { accessFlags := 8, nameIndex := 21, descriptorIndex := 22, attributes := #[] }] 48 2 #[] #[])
  fields := #[]
  methods := #[k10m0, k10m1]
  instanceTypes := #[]
  staticTypes := #[]
  resolved := Array.replicate 26 none
  statics := none }

def pool11 : Array CpInfo := pool [(1, .class_ 2), (0, u "java/lang/String"), (1, .class_ 6), (1, u "java/lang/Object"), (0, u "<init>"), (0, u "()V"), (0, .methodref 1 10), (0, .nameAndType 11 12), (0, u "checkIndex"), (0, u "(II)V"), (1, .class_ 16), (1, u "java/lang/StringLatin1"), (36, u "([BI)C"), (67, u "$assertionsDisabled"), (0, u "Z"), (98, .class_ 223), (1, u "java/lang/StringLatin1$LinesSpliterator"), (28, u "charAt"), (137, .class_ 391), (0, u "java/lang/StringLatin1$CharsSpliterator")] 3

def k11m0 : Method := { name := "<init>", desc := "()V", sig := { parameters := [], returnType := none }, accessFlags := 0, code := none }
def k11c1 : Code := { maxStack := 2, maxLocals := 2, code := jdk_43_method_2_code, exceptionTable := #[], attributes := #[] }
def k11m1 : Method := { name := "charAt", desc := "([BI)C", sig := { parameters := [(.array .byte), .int], returnType := some .char }, accessFlags := 9, code := some k11c1 }
/-- java/lang/StringLatin1 -/
def k11 : Class := { plain "java/lang/StringLatin1" (some 0) with
  accessFlags := 48
  interfaces := #[]
  cf := some (fileOf pool11 14 #[.nestMembers #[390, 221]] #[{ accessFlags := 0, nameIndex := 7, descriptorIndex := 8, attributes := #[] }, { accessFlags := 9, nameIndex := 252, descriptorIndex := 53, attributes := #[] }] 48 4 #[] #[{ accessFlags := 4120, nameIndex := 121, descriptorIndex := 122, attributes := #[] }])
  fields := #[{ name := "$assertionsDisabled", type := .boolean, accessFlags := 4120, slot := 0, constantValue := 0 }]
  methods := #[k11m0, k11m1]
  instanceTypes := #[]
  staticTypes := #[.boolean]
  resolved := Array.replicate 395 none
  statics := none }

def pool12 : Array CpInfo := pool [(2, .class_ 4), (1, u "java/lang/Object"), (0, u "<init>"), (0, u "()V"), (17, .class_ 26), (1, u "jdk/internal/util/Preconditions"), (6, u "checkIndex"), (21, .class_ 56), (0, u "jdk/internal/util/Preconditions$4"), (57, .class_ 115), (0, u "jdk/internal/util/Preconditions$1"), (7, u "SIOOBE_FORMATTER"), (0, u "Ljava/util/function/BiFunction;"), (0, .class_ 126), (0, u "jdk/internal/util/Preconditions$2"), (3, u "AIOOBE_FORMATTER"), (0, .class_ 132), (0, u "jdk/internal/util/Preconditions$3"), (3, u "IOOBE_FORMATTER"), (41, u "(IILjava/util/function/BiFunction;)I")] 15

def k12m0 : Method := { name := "<init>", desc := "()V", sig := { parameters := [], returnType := none }, accessFlags := 1, code := none }
def k12c1 : Code := { maxStack := 3, maxLocals := 3, code := jdk_41_method_11_code, exceptionTable := #[], attributes := #[] }
def k12m1 : Method := { name := "checkIndex", desc := "(IILjava/util/function/BiFunction;)I", sig := { parameters := [.int, .int, (.object "java/util/function/BiFunction")], returnType := some .int }, accessFlags := 9, code := some k12c1 }
/-- jdk/internal/util/Preconditions -/
def k12 : Class := { plain "jdk/internal/util/Preconditions" (some 0) with
  accessFlags := 33
  interfaces := #[]
  cf := some (fileOf pool12 24 #[.nestMembers #[55, 131, 125, 114]] #[{ accessFlags := 1, nameIndex := 5, descriptorIndex := 6, attributes := #[] }, { accessFlags := 9, nameIndex := 33, descriptorIndex := 178, attributes := #[] }] 33 2 #[] #[{ accessFlags := 25, nameIndex := 123, descriptorIndex := 124, attributes := #[] }, { accessFlags := 25, nameIndex := 130, descriptorIndex := 124, attributes := #[] }, { accessFlags := 25, nameIndex := 136, descriptorIndex := 124, attributes := #[] }])
  fields := #[{ name := "SIOOBE_FORMATTER", type := (.object "java/util/function/BiFunction"), accessFlags := 25, slot := 0, constantValue := 0 }, { name := "AIOOBE_FORMATTER", type := (.object "java/util/function/BiFunction"), accessFlags := 25, slot := 1, constantValue := 0 }, { name := "IOOBE_FORMATTER", type := (.object "java/util/function/BiFunction"), accessFlags := 25, slot := 2, constantValue := 0 }]
  methods := #[k12m0, k12m1]
  instanceTypes := #[]
  staticTypes := #[(.object "java/util/function/BiFunction"), (.object "java/util/function/BiFunction"), (.object "java/util/function/BiFunction")]
  resolved := Array.replicate 194 none
  statics := some 2 }

def pool13 : Array CpInfo := pool [(9, u "<init>"), (6, .class_ 18), (1, u "java/lang/Object"), (0, u "()V"), (1, .class_ 23), (1, u "jdk/internal/util/ArraysSupport"), (0, u "LOG2_ARRAY_LONG_INDEX_SCALE"), (0, u "I"), (2, u "U"), (0, u "Ljdk/internal/misc/Unsafe;"), (8, u "BIG_ENDIAN"), (0, u "Z"), (8, u "LOG2_BYTE_BIT_SIZE"), (4, u "LOG2_ARRAY_INT_INDEX_SCALE"), (54, u "JLA"), (0, u "Ljdk/internal/access/JavaLangAccess;"), (11, u "LOG2_ARRAY_BOOLEAN_INDEX_SCALE"), (9, u "LOG2_ARRAY_BYTE_INDEX_SCALE"), (5, u "LOG2_ARRAY_CHAR_INDEX_SCALE"), (5, u "LOG2_ARRAY_SHORT_INDEX_SCALE"), (18, u "LOG2_ARRAY_FLOAT_INDEX_SCALE"), (24, u "LOG2_ARRAY_DOUBLE_INDEX_SCALE"), (89, u "T_BOOLEAN"), (2, u "T_CHAR"), (1, u "T_FLOAT"), (1, u "T_DOUBLE"), (1, u "T_BYTE"), (1, u "T_SHORT"), (1, u "T_INT"), (1, u "T_LONG"), (1, u "SOFT_MAX_ARRAY_LENGTH")] 83

def k13m0 : Method := { name := "<init>", desc := "()V", sig := { parameters := [], returnType := none }, accessFlags := 2, code := none }
/-- jdk/internal/util/ArraysSupport -/
def k13 : Class := { plain "jdk/internal/util/ArraysSupport" (some 0) with
  accessFlags := 33
  interfaces := #[]
  cf := some (fileOf pool13 21 #[] #[{ accessFlags := 2, nameIndex := 9, descriptorIndex := 19, attributes := #[] }] 33 16 #[] #[{ accessFlags := 24, nameIndex := 28, descriptorIndex := 29, attributes := #[] }, { accessFlags := 26, nameIndex := 38, descriptorIndex := 39, attributes := #[] }, { accessFlags := 25, nameIndex := 121, descriptorIndex := 25, attributes := #[] }, { accessFlags := 25, nameIndex := 131, descriptorIndex := 25, attributes := #[] }, { accessFlags := 25, nameIndex := 137, descriptorIndex := 25, attributes := #[] }, { accessFlags := 25, nameIndex := 143, descriptorIndex := 25, attributes := #[] }, { accessFlags := 25, nameIndex := 53, descriptorIndex := 25, attributes := #[] }, { accessFlags := 25, nameIndex := 24, descriptorIndex := 25, attributes := #[] }, { accessFlags := 25, nameIndex := 162, descriptorIndex := 25, attributes := #[] }, { accessFlags := 25, nameIndex := 187, descriptorIndex := 25, attributes := #[] }, { accessFlags := 26, nameIndex := 48, descriptorIndex := 25, attributes := #[] }, { accessFlags := 25, nameIndex := 277, descriptorIndex := 25, attributes := #[] }, { accessFlags := 25, nameIndex := 280, descriptorIndex := 25, attributes := #[] }, { accessFlags := 25, nameIndex := 282, descriptorIndex := 25, attributes := #[] }, { accessFlags := 25, nameIndex := 284, descriptorIndex := 25, attributes := #[] }, { accessFlags := 25, nameIndex := 286, descriptorIndex := 25, attributes := #[] }, { accessFlags := 25, nameIndex := 288, descriptorIndex := 25, attributes := #[] }, { accessFlags := 25, nameIndex := 290, descriptorIndex := 25, attributes := #[] }, { accessFlags := 25, nameIndex := 292, descriptorIndex := 25, attributes := #[] }, { accessFlags := 26, nameIndex := 108, descriptorIndex := 109, attributes := #[] }, { accessFlags := 25, nameIndex := 294, descriptorIndex := 25, attributes := #[] }])
  fields := #[{ name := "U", type := (.object "jdk/internal/misc/Unsafe"), accessFlags := 24, slot := 0, constantValue := 0 }, { name := "BIG_ENDIAN", type := .boolean, accessFlags := 26, slot := 1, constantValue := 0 }, { name := "LOG2_ARRAY_BOOLEAN_INDEX_SCALE", type := .int, accessFlags := 25, slot := 2, constantValue := 0 }, { name := "LOG2_ARRAY_BYTE_INDEX_SCALE", type := .int, accessFlags := 25, slot := 3, constantValue := 0 }, { name := "LOG2_ARRAY_CHAR_INDEX_SCALE", type := .int, accessFlags := 25, slot := 4, constantValue := 0 }, { name := "LOG2_ARRAY_SHORT_INDEX_SCALE", type := .int, accessFlags := 25, slot := 5, constantValue := 0 }, { name := "LOG2_ARRAY_INT_INDEX_SCALE", type := .int, accessFlags := 25, slot := 6, constantValue := 0 }, { name := "LOG2_ARRAY_LONG_INDEX_SCALE", type := .int, accessFlags := 25, slot := 7, constantValue := 0 }, { name := "LOG2_ARRAY_FLOAT_INDEX_SCALE", type := .int, accessFlags := 25, slot := 8, constantValue := 0 }, { name := "LOG2_ARRAY_DOUBLE_INDEX_SCALE", type := .int, accessFlags := 25, slot := 9, constantValue := 0 }, { name := "LOG2_BYTE_BIT_SIZE", type := .int, accessFlags := 26, slot := 10, constantValue := 0 }, { name := "T_BOOLEAN", type := .int, accessFlags := 25, slot := 11, constantValue := 0 }, { name := "T_CHAR", type := .int, accessFlags := 25, slot := 12, constantValue := 0 }, { name := "T_FLOAT", type := .int, accessFlags := 25, slot := 13, constantValue := 0 }, { name := "T_DOUBLE", type := .int, accessFlags := 25, slot := 14, constantValue := 0 }, { name := "T_BYTE", type := .int, accessFlags := 25, slot := 15, constantValue := 0 }, { name := "T_SHORT", type := .int, accessFlags := 25, slot := 16, constantValue := 0 }, { name := "T_INT", type := .int, accessFlags := 25, slot := 17, constantValue := 0 }, { name := "T_LONG", type := .int, accessFlags := 25, slot := 18, constantValue := 0 }, { name := "JLA", type := (.object "jdk/internal/access/JavaLangAccess"), accessFlags := 26, slot := 19, constantValue := 0 }, { name := "SOFT_MAX_ARRAY_LENGTH", type := .int, accessFlags := 25, slot := 20, constantValue := 0 }]
  methods := #[k13m0]
  instanceTypes := #[]
  staticTypes := #[(.object "jdk/internal/misc/Unsafe"), .boolean, .int, .int, .int, .int, .int, .int, .int, .int, .int, .int, .int, .int, .int, .int, .int, .int, .int, (.object "jdk/internal/access/JavaLangAccess"), .int]
  resolved := Array.replicate 378 none
  statics := none }

def pool14 : Array CpInfo := pool [(1, u "java/lang/Cloneable"), (0, .class_ 1), (0, u "java/lang/Object"), (0, .class_ 3)] 3

/-- java/lang/Cloneable -/
def k14 : Class := { plain "java/lang/Cloneable" (some 0) with
  accessFlags := 1537
  interfaces := #[]
  cf := some (fileOf pool14 2 #[] #[] 1537 4 #[] #[])
  fields := #[]
  methods := #[]
  instanceTypes := #[]
  staticTypes := #[]
  resolved := Array.replicate 8 none
  statics := none }

/-- the primitive byte -/
def k15 : Class := { plain "byte" none with kind := .primitive 'B', accessFlags := 0x411 }
/-- [B -/
def k16 : Class := { plain "[B" (some 0) with kind := .array 15 .byte, interfaces := #[14, 3], accessFlags := 1041 }

/-- the primitive char -/
def k17 : Class := { plain "char" none with kind := .primitive 'C', accessFlags := 0x411 }
/-- [C -/
def k18 : Class := { plain "[C" (some 0) with kind := .array 17 .char, interfaces := #[14, 3], accessFlags := 1041 }

/-- the primitive int -/
def k19 : Class := { plain "int" none with kind := .primitive 'I', accessFlags := 0x411 }
/-- [I -/
def k20 : Class := { plain "[I" (some 0) with kind := .array 19 .int, interfaces := #[14, 3], accessFlags := 1041 }

/-- the primitive long -/
def k21 : Class := { plain "long" none with kind := .primitive 'J', accessFlags := 0x411 }
/-- [J -/
def k22 : Class := { plain "[J" (some 0) with kind := .array 21 .long, interfaces := #[14, 3], accessFlags := 1041 }

def heap : Heap := #[{ cls := 8, slots := #[.long 0, .int 1, .null, .int 0, .null, .int 0, .int 0], vm := .statics 8 },
  { cls := 9, slots := #[.int 0, .int 8, .int 0, .int 1], vm := .statics 9 },
  { cls := 12, slots := #[.null, .null, .null], vm := .statics 12 }]
def classes : Array Class := #[k0, k1, k2, k3, k4, k5, k6, k7, k8, k9, k10, k11, k12, k13, k14, k15, k16, k17, k18, k19, k20, k21, k22]
def interned : List (Array UInt16 × Addr) := []
def slotsUsed : Nat := 14
def theMethod : MethodId := ⟨1, 1⟩
def args0 : Array Value := #[.long 5, .int 7, .int 3, .int 9, .int 2, .int 1]
def aboutOver (below : List Frame) : State where
  vm := { classes := classes, interned := interned.toArray }
  heap := heap
  slotsUsed := slotsUsed
  threads := #[{ frames := .invoking theMethod args0 :: below }]
def below0 : List Frame := [.native { method := ⟨0, 0⟩, args := #[] }]
def about1 : State := aboutOver below0
def p0 : Program := .bare "" "" ""
def e0 : Env := launch0.env 0 0 0
theorem w_frames : about1.frames = Frame.invoking theMethod args0 :: below0 := rfl
set_option maxRecDepth 65536 in
theorem w_args : argsFit about1.vm theMethod args0 = true := by decide +kernel
set_option maxRecDepth 65536 in
theorem w_heap : heapFits about1 = true := by decide +kernel
set_option maxRecDepth 65536 in
theorem w_runnable : about1.curStatus? = some .runnable := by decide +kernel
set_option maxRecDepth 65536 in
theorem w_alone : about1.alone = true := by decide +kernel
set_option maxRecDepth 65536 in
theorem w_named : about1.methodNamed? x = some theMethod := by decide +kernel
set_option maxRecDepth 65536 in
theorem w_hears : about1.hears theMethod below0 = true := by decide +kernel
set_option maxRecDepth 65536 in
theorem w_ripe : about1.ripe theMethod args0 below0 = true := by decide +kernel
theorem w_running : about1.status = .running := rfl
set_option maxRecDepth 65536 in
theorem w_room : about1.hasRoom e0.platform room_1 = true :=
  launch0.hasRoom_least _ room_1 (by decide +kernel) (by decide +kernel) (by decide +kernel) (by decide +kernel) (by decide +kernel) (by decide +kernel)
theorem allAtoms_all (ts : List Jvm.Cond) (a : Array Jvm.Value) (st : Jvm.State) : (allAtoms ts).before a st = ts.all (fun c => c.before a st) := by
  induction ts with
  | nil => rfl
  | cons c t ih =>
    show (Jvm.Cond.and c (allAtoms t)).before a st = _
    rw [Jvm.Cond.before_and, ih, List.all_cons]
def words1 : List Jvm.Cond := Jvm.Cond.code x code maxLocals ret :: tables_1
/-- a 'code' word, met by the world's own term for the bytes: nothing is compared byte by byte -/
theorem code_word {y : MethodName} {bytes : ByteArray} {mx : Nat} {rt : Option FieldType} {a : Array Value} {s : State} {m : MethodId} {meth : Method} {c : Code} (h1 : s.methodNamed? y = some m) (h2 : s.vm.method? m = some meth) (h3 : meth.code = some c) (h4 : c.code = bytes)
    (h5 : (c.maxLocals == mx && c.exceptionTable.isEmpty && decide (c.maxStack ≤ mostOperands) && decide (meth.sig.returnType = rt) && !meth.locks && decide (parseMethodDescriptor y.desc = some meth.sig)) = true) : (Jvm.Cond.code y bytes mx rt).before a s = true := by
  simp only [Bool.and_eq_true, beq_iff_eq, Bool.not_eq_true', decide_eq_true_eq] at h5
  obtain ⟨⟨⟨⟨⟨g1, g2⟩, g3⟩, g4⟩, g5⟩, g6⟩ := h5
  simp [Cond.before, Cond.holds, Cond.value, h1, h2, h3, h4, g1, g2, g3, g4, g5, g6]
def isCode : Jvm.Cond → Bool
  | .code _ _ _ _ => true
  | _ => false
theorem all_split {L : List Jvm.Cond} {P : Jvm.Cond → Bool} (h1 : L.all (fun c => isCode c || P c) = true) (h2 : ∀ c ∈ L.filter isCode, P c = true) : L.all P = true := by
  refine List.all_eq_true.mpr fun c hc => ?_
  have h := List.all_eq_true.mp h1 c hc
  rcases Bool.eq_false_or_eq_true (isCode c) with hi | hi
  · exact h2 c (List.mem_filter.mpr ⟨hc, hi⟩)
  · simpa [hi] using h
set_option maxRecDepth 65536 in
theorem w_c0 : (Jvm.Cond.code x code maxLocals ret).before args0 about1 = true := code_word (m := ⟨1, 1⟩) (meth := k1m1) (c := k1c1) (by decide +kernel) rfl rfl rfl (by decide +kernel)
set_option maxRecDepth 65536 in
theorem w_c1 : (Jvm.Cond.code ({ cls := "com/example/novatio/novatio/core/AsciiDigitsValuePinLaw", name := "dig", desc := "(JJ)C" } : Jvm.MethodName) method_3_code (4 : Nat) (Option.some Jvm.ClassFile.FieldType.char)).before args0 about1 = true := code_word (m := ⟨1, 2⟩) (meth := k1m2) (c := k1c2) (by decide +kernel) rfl rfl rfl (by decide +kernel)
set_option maxRecDepth 65536 in
theorem w_c2 : (Jvm.Cond.code ({ cls := "com/example/novatio/novatio/core/AsciiDigitsValuePinLaw", name := "draw", desc := "(I)C" } : Jvm.MethodName) method_4_code (2 : Nat) (Option.some Jvm.ClassFile.FieldType.char)).before args0 about1 = true := code_word (m := ⟨1, 3⟩) (meth := k1m3) (c := k1c3) (by decide +kernel) rfl rfl rfl (by decide +kernel)
set_option maxRecDepth 65536 in
theorem w_c3 : (Jvm.Cond.code ({ cls := "java/lang/Math", name := "min", desc := "(II)I" } : Jvm.MethodName) jdk_29_method_69_code (2 : Nat) (Option.some Jvm.ClassFile.FieldType.int)).before args0 about1 = true := code_word (m := ⟨2, 2⟩) (meth := k2m2) (c := k2c2) (by decide +kernel) rfl rfl rfl (by decide +kernel)
set_option maxRecDepth 65536 in
theorem w_c4 : (Jvm.Cond.code ({ cls := "java/lang/Math", name := "max", desc := "(II)I" } : Jvm.MethodName) jdk_29_method_65_code (2 : Nat) (Option.some Jvm.ClassFile.FieldType.int)).before args0 about1 = true := code_word (m := ⟨2, 1⟩) (meth := k2m1) (c := k2c1) (by decide +kernel) rfl rfl rfl (by decide +kernel)
set_option maxRecDepth 65536 in
theorem w_c5 : (Jvm.Cond.code ({ cls := "com/example/novatio/novatio/core/AsciiDigitsValuePinLaw", name := "step", desc := "(JCIII)J" } : Jvm.MethodName) method_5_code (6 : Nat) (Option.some Jvm.ClassFile.FieldType.long)).before args0 about1 = true := code_word (m := ⟨1, 4⟩) (meth := k1m4) (c := k1c4) (by decide +kernel) rfl rfl rfl (by decide +kernel)
set_option maxRecDepth 65536 in
theorem w_c6 : (Jvm.Cond.code ({ cls := "java/lang/String", name := "<init>", desc := "([C)V" } : Jvm.MethodName) jdk_42_method_3_code (2 : Nat) (Option.none : Option Jvm.ClassFile.FieldType)).before args0 about1 = true := code_word (m := ⟨8, 1⟩) (meth := k8m1) (c := k8c1) (by decide +kernel) rfl rfl rfl (by decide +kernel)
set_option maxRecDepth 65536 in
theorem w_c7 : (Jvm.Cond.code ({ cls := "java/lang/String", name := "<init>", desc := "([CIILjava/lang/Void;)V" } : Jvm.MethodName) jdk_42_method_149_code (6 : Nat) (Option.none : Option Jvm.ClassFile.FieldType)).before args0 about1 = true := code_word (m := ⟨8, 3⟩) (meth := k8m3) (c := k8c3) (by decide +kernel) rfl rfl rfl (by decide +kernel)
set_option maxRecDepth 65536 in
theorem w_c8 : (Jvm.Cond.code ({ cls := "java/lang/Object", name := "<init>", desc := "()V" } : Jvm.MethodName) object_method_1_code (1 : Nat) (Option.none : Option Jvm.ClassFile.FieldType)).before args0 about1 = true := code_word (m := ⟨0, 0⟩) (meth := k0m0) (c := k0c0) (by decide +kernel) rfl rfl rfl (by decide +kernel)
set_option maxRecDepth 65536 in
theorem w_c9 : (Jvm.Cond.code ({ cls := "java/lang/StringUTF16", name := "compress", desc := "([CII)[B" } : Jvm.MethodName) jdk_52_method_16_code (6 : Nat) (Option.some (Jvm.ClassFile.FieldType.array Jvm.ClassFile.FieldType.byte))).before args0 about1 = true := code_word (m := ⟨9, 8⟩) (meth := k9m8) (c := k9c8) (by decide +kernel) rfl rfl rfl (by decide +kernel)
set_option maxRecDepth 65536 in
theorem w_c10 : (Jvm.Cond.code ({ cls := "java/lang/StringUTF16", name := "compress", desc := "([CI[BII)I" } : Jvm.MethodName) jdk_52_method_21_code (7 : Nat) (Option.some Jvm.ClassFile.FieldType.int)).before args0 about1 = true := code_word (m := ⟨9, 9⟩) (meth := k9m9) (c := k9c9) (by decide +kernel) rfl rfl rfl (by decide +kernel)
set_option maxRecDepth 65536 in
theorem w_c11 : (Jvm.Cond.code ({ cls := "java/lang/StringUTF16", name := "coderFromArrayLen", desc := "([BI)B" } : Jvm.MethodName) jdk_52_method_15_code (2 : Nat) (Option.some Jvm.ClassFile.FieldType.byte)).before args0 about1 = true := code_word (m := ⟨9, 7⟩) (meth := k9m7) (c := k9c7) (by decide +kernel) rfl rfl rfl (by decide +kernel)
set_option maxRecDepth 65536 in
theorem w_c12 : (Jvm.Cond.code ({ cls := "com/example/novatio/novatio/core/AsciiDigits", name := "value", desc := "(Ljava/lang/String;II)J" } : Jvm.MethodName) prog_26_method_2_code (7 : Nat) (Option.some Jvm.ClassFile.FieldType.long)).before args0 about1 = true := code_word (m := ⟨10, 1⟩) (meth := k10m1) (c := k10c1) (by decide +kernel) rfl rfl rfl (by decide +kernel)
set_option maxRecDepth 65536 in
theorem w_c13 : (Jvm.Cond.code ({ cls := "java/lang/String", name := "charAt", desc := "(I)C" } : Jvm.MethodName) jdk_42_method_56_code (2 : Nat) (Option.some Jvm.ClassFile.FieldType.char)).before args0 about1 = true := code_word (m := ⟨8, 2⟩) (meth := k8m2) (c := k8c2) (by decide +kernel) rfl rfl rfl (by decide +kernel)
set_option maxRecDepth 65536 in
theorem w_c14 : (Jvm.Cond.code ({ cls := "java/lang/String", name := "isLatin1", desc := "()Z" } : Jvm.MethodName) jdk_42_method_154_code (1 : Nat) (Option.some Jvm.ClassFile.FieldType.boolean)).before args0 about1 = true := code_word (m := ⟨8, 4⟩) (meth := k8m4) (c := k8c4) (by decide +kernel) rfl rfl rfl (by decide +kernel)
set_option maxRecDepth 65536 in
theorem w_c15 : (Jvm.Cond.code ({ cls := "java/lang/StringLatin1", name := "charAt", desc := "([BI)C" } : Jvm.MethodName) jdk_43_method_2_code (2 : Nat) (Option.some Jvm.ClassFile.FieldType.char)).before args0 about1 = true := code_word (m := ⟨11, 1⟩) (meth := k11m1) (c := k11c1) (by decide +kernel) rfl rfl rfl (by decide +kernel)
set_option maxRecDepth 65536 in
theorem w_c16 : (Jvm.Cond.code ({ cls := "java/lang/String", name := "checkIndex", desc := "(II)V" } : Jvm.MethodName) jdk_42_method_155_code (2 : Nat) (Option.none : Option Jvm.ClassFile.FieldType)).before args0 about1 = true := code_word (m := ⟨8, 5⟩) (meth := k8m5) (c := k8c5) (by decide +kernel) rfl rfl rfl (by decide +kernel)
set_option maxRecDepth 65536 in
theorem w_c17 : (Jvm.Cond.code ({ cls := "jdk/internal/util/Preconditions", name := "checkIndex", desc := "(IILjava/util/function/BiFunction;)I" } : Jvm.MethodName) jdk_41_method_11_code (3 : Nat) (Option.some Jvm.ClassFile.FieldType.int)).before args0 about1 = true := code_word (m := ⟨12, 1⟩) (meth := k12m1) (c := k12c1) (by decide +kernel) rfl rfl rfl (by decide +kernel)
set_option maxRecDepth 65536 in
theorem w_c18 : (Jvm.Cond.code ({ cls := "java/lang/StringUTF16", name := "toBytes", desc := "([CII)[B" } : Jvm.MethodName) jdk_52_method_14_code (5 : Nat) (Option.some (Jvm.ClassFile.FieldType.array Jvm.ClassFile.FieldType.byte))).before args0 about1 = true := code_word (m := ⟨9, 6⟩) (meth := k9m6) (c := k9c6) (by decide +kernel) rfl rfl rfl (by decide +kernel)
set_option maxRecDepth 65536 in
theorem w_c19 : (Jvm.Cond.code ({ cls := "java/lang/StringUTF16", name := "newBytesFor", desc := "(I)[B" } : Jvm.MethodName) jdk_52_method_2_code (1 : Nat) (Option.some (Jvm.ClassFile.FieldType.array Jvm.ClassFile.FieldType.byte))).before args0 about1 = true := code_word (m := ⟨9, 1⟩) (meth := k9m1) (c := k9c1) (by decide +kernel) rfl rfl rfl (by decide +kernel)
set_option maxRecDepth 65536 in
theorem w_c20 : (Jvm.Cond.code ({ cls := "java/lang/StringUTF16", name := "newBytesLength", desc := "(I)I" } : Jvm.MethodName) jdk_52_method_3_code (1 : Nat) (Option.some Jvm.ClassFile.FieldType.int)).before args0 about1 = true := code_word (m := ⟨9, 2⟩) (meth := k9m2) (c := k9c2) (by decide +kernel) rfl rfl rfl (by decide +kernel)
set_option maxRecDepth 65536 in
theorem w_c21 : (Jvm.Cond.code ({ cls := "java/lang/StringUTF16", name := "putChar", desc := "([BII)V" } : Jvm.MethodName) jdk_52_method_4_code (3 : Nat) (Option.none : Option Jvm.ClassFile.FieldType)).before args0 about1 = true := code_word (m := ⟨9, 3⟩) (meth := k9m3) (c := k9c3) (by decide +kernel) rfl rfl rfl (by decide +kernel)
set_option maxRecDepth 65536 in
theorem w_c22 : (Jvm.Cond.code ({ cls := "java/lang/StringUTF16", name := "getChar", desc := "([BI)C" } : Jvm.MethodName) jdk_52_method_5_code (2 : Nat) (Option.some Jvm.ClassFile.FieldType.char)).before args0 about1 = true := code_word (m := ⟨9, 4⟩) (meth := k9m4) (c := k9c4) (by decide +kernel) rfl rfl rfl (by decide +kernel)
set_option maxRecDepth 65536 in
theorem w_c23 : (Jvm.Cond.code ({ cls := "java/lang/StringUTF16", name := "charAt", desc := "([BI)C" } : Jvm.MethodName) jdk_52_method_83_code (2 : Nat) (Option.some Jvm.ClassFile.FieldType.char)).before args0 about1 = true := code_word (m := ⟨9, 10⟩) (meth := k9m10) (c := k9c10) (by decide +kernel) rfl rfl rfl (by decide +kernel)
set_option maxRecDepth 65536 in
theorem w_c24 : (Jvm.Cond.code ({ cls := "java/lang/StringUTF16", name := "checkIndex", desc := "(I[B)V" } : Jvm.MethodName) jdk_52_method_91_code (2 : Nat) (Option.none : Option Jvm.ClassFile.FieldType)).before args0 about1 = true := code_word (m := ⟨9, 11⟩) (meth := k9m11) (c := k9c11) (by decide +kernel) rfl rfl rfl (by decide +kernel)
set_option maxRecDepth 65536 in
theorem w_c25 : (Jvm.Cond.code ({ cls := "java/lang/StringUTF16", name := "length", desc := "([B)I" } : Jvm.MethodName) jdk_52_method_6_code (1 : Nat) (Option.some Jvm.ClassFile.FieldType.int)).before args0 about1 = true := code_word (m := ⟨9, 5⟩) (meth := k9m5) (c := k9c5) (by decide +kernel) rfl rfl rfl (by decide +kernel)
def codes1 : List Jvm.Cond := [Jvm.Cond.code x code maxLocals ret, Jvm.Cond.code ({ cls := "com/example/novatio/novatio/core/AsciiDigitsValuePinLaw", name := "dig", desc := "(JJ)C" } : Jvm.MethodName) method_3_code (4 : Nat) (Option.some Jvm.ClassFile.FieldType.char), Jvm.Cond.code ({ cls := "com/example/novatio/novatio/core/AsciiDigitsValuePinLaw", name := "draw", desc := "(I)C" } : Jvm.MethodName) method_4_code (2 : Nat) (Option.some Jvm.ClassFile.FieldType.char), Jvm.Cond.code ({ cls := "java/lang/Math", name := "min", desc := "(II)I" } : Jvm.MethodName) jdk_29_method_69_code (2 : Nat) (Option.some Jvm.ClassFile.FieldType.int), Jvm.Cond.code ({ cls := "java/lang/Math", name := "max", desc := "(II)I" } : Jvm.MethodName) jdk_29_method_65_code (2 : Nat) (Option.some Jvm.ClassFile.FieldType.int), Jvm.Cond.code ({ cls := "com/example/novatio/novatio/core/AsciiDigitsValuePinLaw", name := "step", desc := "(JCIII)J" } : Jvm.MethodName) method_5_code (6 : Nat) (Option.some Jvm.ClassFile.FieldType.long), Jvm.Cond.code ({ cls := "java/lang/String", name := "<init>", desc := "([C)V" } : Jvm.MethodName) jdk_42_method_3_code (2 : Nat) (Option.none : Option Jvm.ClassFile.FieldType), Jvm.Cond.code ({ cls := "java/lang/String", name := "<init>", desc := "([CIILjava/lang/Void;)V" } : Jvm.MethodName) jdk_42_method_149_code (6 : Nat) (Option.none : Option Jvm.ClassFile.FieldType), Jvm.Cond.code ({ cls := "java/lang/Object", name := "<init>", desc := "()V" } : Jvm.MethodName) object_method_1_code (1 : Nat) (Option.none : Option Jvm.ClassFile.FieldType), Jvm.Cond.code ({ cls := "java/lang/StringUTF16", name := "compress", desc := "([CII)[B" } : Jvm.MethodName) jdk_52_method_16_code (6 : Nat) (Option.some (Jvm.ClassFile.FieldType.array Jvm.ClassFile.FieldType.byte)), Jvm.Cond.code ({ cls := "java/lang/StringUTF16", name := "compress", desc := "([CI[BII)I" } : Jvm.MethodName) jdk_52_method_21_code (7 : Nat) (Option.some Jvm.ClassFile.FieldType.int), Jvm.Cond.code ({ cls := "java/lang/StringUTF16", name := "coderFromArrayLen", desc := "([BI)B" } : Jvm.MethodName) jdk_52_method_15_code (2 : Nat) (Option.some Jvm.ClassFile.FieldType.byte), Jvm.Cond.code ({ cls := "com/example/novatio/novatio/core/AsciiDigits", name := "value", desc := "(Ljava/lang/String;II)J" } : Jvm.MethodName) prog_26_method_2_code (7 : Nat) (Option.some Jvm.ClassFile.FieldType.long), Jvm.Cond.code ({ cls := "java/lang/String", name := "charAt", desc := "(I)C" } : Jvm.MethodName) jdk_42_method_56_code (2 : Nat) (Option.some Jvm.ClassFile.FieldType.char), Jvm.Cond.code ({ cls := "java/lang/String", name := "isLatin1", desc := "()Z" } : Jvm.MethodName) jdk_42_method_154_code (1 : Nat) (Option.some Jvm.ClassFile.FieldType.boolean), Jvm.Cond.code ({ cls := "java/lang/StringLatin1", name := "charAt", desc := "([BI)C" } : Jvm.MethodName) jdk_43_method_2_code (2 : Nat) (Option.some Jvm.ClassFile.FieldType.char), Jvm.Cond.code ({ cls := "java/lang/String", name := "checkIndex", desc := "(II)V" } : Jvm.MethodName) jdk_42_method_155_code (2 : Nat) (Option.none : Option Jvm.ClassFile.FieldType), Jvm.Cond.code ({ cls := "jdk/internal/util/Preconditions", name := "checkIndex", desc := "(IILjava/util/function/BiFunction;)I" } : Jvm.MethodName) jdk_41_method_11_code (3 : Nat) (Option.some Jvm.ClassFile.FieldType.int), Jvm.Cond.code ({ cls := "java/lang/StringUTF16", name := "toBytes", desc := "([CII)[B" } : Jvm.MethodName) jdk_52_method_14_code (5 : Nat) (Option.some (Jvm.ClassFile.FieldType.array Jvm.ClassFile.FieldType.byte)), Jvm.Cond.code ({ cls := "java/lang/StringUTF16", name := "newBytesFor", desc := "(I)[B" } : Jvm.MethodName) jdk_52_method_2_code (1 : Nat) (Option.some (Jvm.ClassFile.FieldType.array Jvm.ClassFile.FieldType.byte)), Jvm.Cond.code ({ cls := "java/lang/StringUTF16", name := "newBytesLength", desc := "(I)I" } : Jvm.MethodName) jdk_52_method_3_code (1 : Nat) (Option.some Jvm.ClassFile.FieldType.int), Jvm.Cond.code ({ cls := "java/lang/StringUTF16", name := "putChar", desc := "([BII)V" } : Jvm.MethodName) jdk_52_method_4_code (3 : Nat) (Option.none : Option Jvm.ClassFile.FieldType), Jvm.Cond.code ({ cls := "java/lang/StringUTF16", name := "getChar", desc := "([BI)C" } : Jvm.MethodName) jdk_52_method_5_code (2 : Nat) (Option.some Jvm.ClassFile.FieldType.char), Jvm.Cond.code ({ cls := "java/lang/StringUTF16", name := "charAt", desc := "([BI)C" } : Jvm.MethodName) jdk_52_method_83_code (2 : Nat) (Option.some Jvm.ClassFile.FieldType.char), Jvm.Cond.code ({ cls := "java/lang/StringUTF16", name := "checkIndex", desc := "(I[B)V" } : Jvm.MethodName) jdk_52_method_91_code (2 : Nat) (Option.none : Option Jvm.ClassFile.FieldType), Jvm.Cond.code ({ cls := "java/lang/StringUTF16", name := "length", desc := "([B)I" } : Jvm.MethodName) jdk_52_method_6_code (1 : Nat) (Option.some Jvm.ClassFile.FieldType.int)]
set_option maxRecDepth 65536 in
theorem codes_eq : words1.filter isCode = codes1 := rfl
theorem w_codes : ∀ c ∈ words1.filter isCode, c.before args0 about1 = true := by
  rw [codes_eq]
  intro c hc
  simp only [codes1, List.mem_cons, List.not_mem_nil, or_false] at hc
  rcases hc with rfl | rfl | rfl | rfl | rfl | rfl | rfl | rfl | rfl | rfl | rfl | rfl | rfl | rfl | rfl | rfl | rfl | rfl | rfl | rfl | rfl | rfl | rfl | rfl | rfl | rfl
  · exact w_c0
  · exact w_c1
  · exact w_c2
  · exact w_c3
  · exact w_c4
  · exact w_c5
  · exact w_c6
  · exact w_c7
  · exact w_c8
  · exact w_c9
  · exact w_c10
  · exact w_c11
  · exact w_c12
  · exact w_c13
  · exact w_c14
  · exact w_c15
  · exact w_c16
  · exact w_c17
  · exact w_c18
  · exact w_c19
  · exact w_c20
  · exact w_c21
  · exact w_c22
  · exact w_c23
  · exact w_c24
  · exact w_c25
set_option maxRecDepth 65536 in
theorem w_t1 : (words1.take 24).all (fun c => isCode c || c.before args0 about1) = true := by decide +kernel
set_option maxRecDepth 65536 in
theorem w_t2 : ((words1.drop 24).take 24).all (fun c => isCode c || c.before args0 about1) = true := by decide +kernel
set_option maxRecDepth 65536 in
theorem w_t3 : (((words1.drop 24).drop 24).take 24).all (fun c => isCode c || c.before args0 about1) = true := by decide +kernel
set_option maxRecDepth 65536 in
theorem w_t4 : ((((words1.drop 24).drop 24).drop 24).take 24).all (fun c => isCode c || c.before args0 about1) = true := by decide +kernel
set_option maxRecDepth 65536 in
theorem w_t5 : (((((words1.drop 24).drop 24).drop 24).drop 24).take 24).all (fun c => isCode c || c.before args0 about1) = true := by decide +kernel
set_option maxRecDepth 65536 in
theorem w_t6 : (((((words1.drop 24).drop 24).drop 24).drop 24).drop 24).all (fun c => isCode c || c.before args0 about1) = true := by decide +kernel
theorem w_tables : (allAtoms (Jvm.Cond.code x code maxLocals ret :: tables_1)).before args0 about1 = true := by
  rw [allAtoms_all]
  show words1.all (fun c => c.before args0 about1) = true
  refine all_split ?_ w_codes
  rw [← List.take_append_drop 24 words1, List.all_append, w_t1, ← List.take_append_drop 24 (words1.drop 24), List.all_append, w_t2, ← List.take_append_drop 24 ((words1.drop 24).drop 24), List.all_append, w_t3, ← List.take_append_drop 24 (((words1.drop 24).drop 24).drop 24), List.all_append, w_t4, ← List.take_append_drop 24 ((((words1.drop 24).drop 24).drop 24).drop 24), List.all_append, w_t5, w_t6]
  rfl
set_option maxRecDepth 65536 in
theorem w_rest : rest_1_c.before args0 about1 = true := by decide +kernel
set_option maxRecDepth 65536 in
theorem w_case : (Jvm.Cond.and given_1 narrow_1).before args0 about1 = true := by decide +kernel
theorem w_applies : (headSpec (Jvm.Cond.code x code maxLocals ret :: tables_1) room_1).applies x e0.platform about1 = true :=
  (Spec.applies_iff w_frames).mpr ⟨w_running, w_runnable, w_alone, w_named, w_hears, w_ripe, w_room, w_tables⟩
theorem atStart : AtStart classFile x code maxLocals ret World_1 tables_1 room_1 Calls_1 rest_1 Pre_1 launch0 p0 e0 about1 theMethod args0 below0 :=
  ⟨lists_1, trivial, launch0.admits_env _ _ _, launch0.least_env, fairChoices_fair.cas, fairChoices_fair.clock, w_frames, w_args, w_heap, w_applies, trivial, w_rest, w_case⟩
end start1
theorem witness_1 : WitnessClaimed_1 := ⟨start1.p0, start1.e0, start1.about1, start1.theMethod, start1.args0, start1.below0, start1.atStart⟩
end Jvm.Pilot.@@N@@
