import JvmDerived
import JvmDerived.Pilot.@@N@@Statement
import JvmDerived.Pilot.@@N@@Code
set_option linter.unusedVariables false
set_option linter.unusedSimpArgs false
namespace Jvm.Own
open Sem ClassFile Op Lib Jvm.Stand Jvm.Free Jvm.LawKit Jvm.RoadKit
/-! A small logic of walks: 'Wp' says of a point of a body (pc, locals, stack, heap) that from every state that stands there the run ends with Q; one rule an instruction. 'Ct' is a body's contract. -/
def Fen (wd : Bool) (U : State) (o : Outcome) (U' : State) (L : List Loc) (k n : Nat) : Prop := ReturnedEndW U o U' L k n ∧ (wd = false → U.WarmedH U'.vm)
def Wh (hs : Heap) (ws : List Addr) (L : List Loc) : Prop := ∀ y ∈ L, y.base ∈ ws ∨ hs.size ≤ y.base
def Sf (Z : State) (EL : List (String × Nat)) (vm : Vm) (h : Heap) (F : List Addr) : Prop := ∀ x ∈ F, x < h.size ∧ Safe Z EL vm h x
def Sfe (Z : State) (EL : List (String × Nat)) (h : Heap) (F : List Addr) (a : Addr) : Prop := ∀ vm, Z.vm.Alike vm → Sf Z EL vm h F → Safe Z EL vm h a
def Ct (wd : Bool) (l : Launch) (Z : State) (EL : List (String × Nat)) (cw : List Cond) (y : MethodName) (bytes : ByteArray) (maxL : Nat) (ret : Option FieldType) (rm : Room) (as : Array Value) (h : Heap) (F ws : List Addr) (Q : Option Value → Heap → Prop) : Prop :=
  MetFree l y (head1 (Cond.code y bytes maxL ret :: cw) rm)
    (fun a U => a = as ∧ Z.Warmed39 U.vm ∧ U.heap = h ∧ CHv Z EL U.vm h ∧ Sf Z EL U.vm h F) (fun _ _ _ _ _ => True)
    (fun _ U o U' => ∃ v L, o = .returned v ∧ (Wh U.heap ws L ∧ Q v U'.heap) ∧ CHr Z EL U.vm U.heap U'.vm U'.heap ∧ Fen wd U o U' L rm.cells rm.slots)
def Inv (wd : Bool) (l : Launch) (Z : State) (a0 : Array Value) (EL : List (String × Nat)) (R : Room) (y : MethodName) (bytes : ByteArray) (maxL : Nat) (ret : Option FieldType) (hs : Heap) (ws : List Addr) (h : Heap) (F : List Addr) (k n : Nat)
    (p : Program) (e : Env) (s : State) (m : MethodId) (args : Array Value) (below : List Frame) (meth : Method) (c : Code) (vm0 : Vm) (k0 : Nat) (T : State) (locs : List Loc) : Prop :=
  (EW Z a0 EL ∧ p.tables.exec = Jvm.exec ∧ c.code = bytes ∧ c.maxLocals = maxL ∧ meth.sig.returnType = ret ∧ meth.name = y.name ∧ meth.locks = false) ∧
  (s.heap = hs ∧ (∀ x ∈ ws, Z.heap.size ≤ x) ∧ Z.heap.size ≤ hs.size ∧ Wh hs ws locs ∧ Ext Z.heap h) ∧
  (vm0.findClass y.cls = some m.cls ∧ s.Since vm0 k0 ∧ k0 ≤ h.size ∧ (wd = false → s.WarmedH vm0) ∧ Z.Warmed39 vm0 ∧ CHr Z EL s.vm hs vm0 h ∧ Sf Z EL vm0 h F) ∧
  Stand p l e R (s.setVm vm0) m args below meth c T locs k n ∧ T.heap = h
def Out (wd : Bool) (Z : State) (EL : List (String × Nat)) (R : Room) (hs : Heap) (ws : List Addr) (Q : Option Value → Heap → Prop) (p : Program) (e : Env) (s : State) (below : List Frame) (st : State) : Prop :=
  ∃ (v : Option Value) (t : State), Steps p.tables e below st t ∧ t.status = .running ∧ Ended t below (.returned v) ∧ ∃ L, Wh hs ws L ∧ Q v t.heap ∧ CHr Z EL s.vm hs t.vm t.heap ∧ Fen wd s (.returned v) t L R.cells R.slots
def Wp (wd : Bool) (l : Launch) (Z : State) (a0 : Array Value) (EL : List (String × Nat)) (R : Room) (y : MethodName) (bytes : ByteArray) (maxL : Nat) (ret : Option FieldType) (hs : Heap) (ws : List Addr) (Q : Option Value → Heap → Prop) (h : Heap) (F : List Addr) (k n pc : Nat) (Ls : Array Slot) (S : List Value) : Prop :=
  ∀ (p : Program) (e : Env) (s : State) (m : MethodId) (args : Array Value) (below : List Frame) (meth : Method) (c : Code) (vm0 : Vm) (k0 : Nat) (T : State) (locs : List Loc),
    Inv wd l Z a0 EL R y bytes maxL ret hs ws h F k n p e s m args below meth c vm0 k0 T locs → Out wd Z EL R hs ws Q p e s below (T.setTop (mkF m pc Ls S))
section Kit
variable {wd : Bool} {l : Launch} {Z : State} {EL : List (String × Nat)} {R : Room} {y : MethodName} {bytes : ByteArray} {maxL : Nat} {ret : Option FieldType} {hs : Heap} {ws : List Addr} {Q : Option Value → Heap → Prop} {h h' : Heap} {F F' : List Addr} {k n k' n' pc pc' pc1 : Nat} {Ls Ls' : Array Slot} {S S' : List Value}
variable {a0 : Array Value} {a b : Addr} {C O nm d : String} {v w : Value} {sl : Nat} {cl : Cell} {ty : FieldType}
theorem Sfe.mem (q : a ∈ F) : Sfe Z EL h F a := fun _ _ S => (S a q).2
theorem Sfe.exa (E : Exa Z h a C) (h1 : C ≠ "java/lang/String") (h2 : C ≠ "[B") : Sfe Z EL h F a := fun _ hal _ => Safe.exa hal E h1 h2
theorem Sfe.arr (A : Arr Z h a cl ty) (ht : ty ≠ .byte) : Sfe Z EL h F a := fun _ hal _ => Safe.arr hal A ht
theorem Out.back {p : Program} {e : Env} {s : State} {below : List Frame} {st st' : State} (o : Out wd Z EL R hs ws Q p e s below st') (f : ∀ t, Steps p.tables e below st' t → Steps p.tables e below st t) : Out wd Z EL R hs ws Q p e s below st := by
  obtain ⟨v, t, h1, r⟩ := o; exact ⟨v, t, f t h1, r⟩
theorem Wp.lift (f : ∀ (p : Program) (e : Env) (m : MethodId) (below : List Frame) (c : Code) (T t : State), At T m c below → p.tables.exec = Jvm.exec → c.code = bytes → Steps p.tables e below (T.setTop (mkF m pc' Ls' S')) t → Steps p.tables e below (T.setTop (mkF m pc Ls S)) t)
    (K : Wp wd l Z a0 EL R y bytes maxL ret hs ws Q h F k n pc' Ls' S') : Wp wd l Z a0 EL R y bytes maxL ret hs ws Q h F k n pc Ls S :=
  fun p e s m args below meth c vm0 k0 T locs I => (K p e s m args below meth c vm0 k0 T locs I).back fun t st => f p e m below c T t I.2.2.2.1.here I.1.2.1 I.1.2.2.1 st
theorem Wp.old (K : Ext Z.heap h → Wp wd l Z a0 EL R y bytes maxL ret hs ws Q h F k n pc Ls S) : Wp wd l Z a0 EL R y bytes maxL ret hs ws Q h F k n pc Ls S :=
  fun p e s m args below meth c vm0 k0 T locs I => K I.2.1.2.2.2.2 p e s m args below meth c vm0 k0 T locs I
theorem Wp.eqS (q : S = S') (K : Wp wd l Z a0 EL R y bytes maxL ret hs ws Q h F k n pc Ls S') : Wp wd l Z a0 EL R y bytes maxL ret hs ws Q h F k n pc Ls S := q ▸ K
theorem Wp.more (hk : k ≤ k') (hn : n ≤ n') (K : Wp wd l Z a0 EL R y bytes maxL ret hs ws Q h F k' n' pc Ls S) : Wp wd l Z a0 EL R y bytes maxL ret hs ws Q h F k n pc Ls S :=
  fun p e s m args below meth c vm0 k0 T locs I => K p e s m args below meth c vm0 k0 T locs ⟨I.1, I.2.1, I.2.2.1, I.2.2.2.1.mono hk hn, I.2.2.2.2⟩
theorem Wp.less (hF : ∀ x ∈ F', x ∈ F) (K : Wp wd l Z a0 EL R y bytes maxL ret hs ws Q h F' k n pc Ls S) : Wp wd l Z a0 EL R y bytes maxL ret hs ws Q h F k n pc Ls S :=
  fun p e s m args below meth c vm0 k0 T locs I => K p e s m args below meth c vm0 k0 T locs ⟨I.1, I.2.1, ⟨I.2.2.1.1, I.2.2.1.2.1, I.2.2.1.2.2.1, I.2.2.1.2.2.2.1, I.2.2.1.2.2.2.2.1, I.2.2.1.2.2.2.2.2.1, fun x hx => I.2.2.1.2.2.2.2.2.2 x (hF x hx)⟩, I.2.2.2⟩
/-- the cells of the start stand, but for the listed -/
theorem keep_of {s T : State} {locs : List Loc} {kk nn : Nat} (hsm : s.sameButNew T locs kk nn) (hL : Wh s.heap ws locs) : Keep s.heap T.heap ws := by
  refine ⟨hsm.2.1, fun x c hx hn => ?_, fun x c hx => ?_⟩
  · obtain ⟨c', h1, h2, -, h4⟩ := hsm.2.2.2.2.2 x c hx
    have hb := (Array.getElem?_eq_some_iff.mp hx).1
    have hsl : c'.slots = c.slots := Array.ext_getElem? fun i => h4 i fun hm => (hL _ hm).elim hn fun q => absurd q (Nat.not_le.mpr hb)
    have hcc : c' = c := by rw [h2, hsl]
    rw [← hcc]; exact h1
  · obtain ⟨c', h1, h2, h3, -⟩ := hsm.2.2.2.2.2 x c hx
    exact ⟨c', h1, by rw [h2], by rw [h2], h3⟩
theorem Ext.trans {h1 h2 h3 : Heap} (A : Ext h1 h2) (B : Ext h2 h3) : Ext h1 h3 := ⟨Nat.le_trans A.1 B.1, fun x c q => B.2 x c (A.2 x c q)⟩
theorem ext_wr (O : Ext Z.heap h) (W : Wr h h' a sl v) (q : Z.heap.size ≤ a) : Ext Z.heap h' := ⟨by rw [W.size]; exact O.1, fun x c hx => by
  obtain ⟨c', h1, -, -, -, h5, -⟩ := wr_at W (O.2 x c hx)
  rw [← h5 (Nat.ne_of_lt (Nat.lt_of_lt_of_le (Array.getElem?_eq_some_iff.mp hx).1 q))]; exact h1⟩
theorem ext_keep {wc : List Addr} (O : Ext Z.heap h) (K : Keep h h' wc) (q : ∀ x ∈ wc, Z.heap.size ≤ x) : Ext Z.heap h' := ⟨Nat.le_trans O.1 K.1, fun x c hx => K.2.1 x c (O.2 x c hx) fun hm => absurd (Array.getElem?_eq_some_iff.mp hx).1 (Nat.not_lt.mpr (q x hm))⟩
/-- a step that reads the tables or the heap and moves neither but by resolving -/
theorem Wp.tab (law : ∀ (p : Program) (e : Env) (s : State) (m : MethodId) (args : Array Value) (below : List Frame) (meth : Method) (c : Code) (T : State) (locs : List Loc), Stand p l e R s m args below meth c T locs k n → p.tables.exec = Jvm.exec → Z.Warmed39 s.vm → s.vm.findClass y.cls = some m.cls → c.code = bytes → c.maxLocals = maxL → s.heap = hs → T.heap = h → Ext Z.heap h →
      ∃ T', Stand p l e R s m args below meth c T' locs k n ∧ T'.heap = h ∧ ∀ t, Steps p.tables e below (T'.setTop (mkF m pc' Ls' S')) t → Steps p.tables e below (T.setTop (mkF m pc Ls S)) t)
    (K : Wp wd l Z a0 EL R y bytes maxL ret hs ws Q h F k n pc' Ls' S') : Wp wd l Z a0 EL R y bytes maxL ret hs ws Q h F k n pc Ls S := fun p e s m args below meth c vm0 k0 T locs I => by
  obtain ⟨⟨i1, i2, i3, i4, i5⟩, J, ⟨j1, j2, j3, j4, j5, j6⟩, X, eT⟩ := I
  obtain ⟨T', X', eT', st⟩ := law p e (s.setVm vm0) m args below meth c T locs X i2 j5 j1 i3 i4 J.1 eT J.2.2.2.2
  exact (K p e s m args below meth c vm0 k0 T' locs ⟨⟨i1, i2, i3, i4, i5⟩, J, ⟨j1, j2, j3, j4, j5, j6⟩, X', eT'⟩).back st
/-- a step that writes one place -/
theorem Wp.put (hw : a ∈ ws ∨ hs.size ≤ a) (sf : Sfe Z EL h F a) (law : ∀ (p : Program) (e : Env) (s : State) (m : MethodId) (args : Array Value) (below : List Frame) (meth : Method) (c : Code) (T : State) (locs : List Loc), Stand p l e R s m args below meth c T locs k n → p.tables.exec = Jvm.exec → Z.Warmed39 s.vm → s.vm.findClass y.cls = some m.cls → c.code = bytes → meth.name = y.name → T.heap = h →
      ∃ T' h', Stand p l e R s m args below meth c T' (locs ++ [⟨a, sl⟩]) k n ∧ T'.heap = h' ∧ Wr h h' a sl v ∧ ∀ t, Steps p.tables e below (T'.setTop (mkF m pc' Ls' S')) t → Steps p.tables e below (T.setTop (mkF m pc Ls S)) t)
    (K : ∀ h', Wr h h' a sl v → Wp wd l Z a0 EL R y bytes maxL ret hs ws Q h' F k n pc' Ls' S') : Wp wd l Z a0 EL R y bytes maxL ret hs ws Q h F k n pc Ls S := fun p e s m args below meth c vm0 k0 T locs I => by
  obtain ⟨⟨i1, i2, i3, i4, i5, i6, i7⟩, ⟨q1, q2, q3, q4, q5⟩, ⟨j1, j2, j3, j4, j5, j6, j7⟩, X, eT⟩ := I
  obtain ⟨T', h', X', eT', W, st⟩ := law p e (s.setVm vm0) m args below meth c T locs X i2 j5 j1 i3 i6 eT
  have S := sf vm0 j5.alike j7
  refine (K h' W p e s m args below meth c vm0 k0 T' _ ⟨⟨i1, i2, i3, i4, i5, i6, i7⟩, ⟨q1, q2, q3, fun z hz => ?_, ext_wr q5 W (hw.elim (q2 a) (Nat.le_trans q3))⟩, ⟨j1, j2, by rw [W.size]; exact j3, j4, j5, j6.trans (CHr.wr W S j6.1), fun x hx => ⟨by rw [W.size]; exact (j7 x hx).1, Safe.wr W S j6.1 (j7 x hx).2⟩⟩, X', eT'⟩).back st
  rcases List.mem_append.mp hz with hz | hz
  · exact q4 z hz
  · cases List.mem_singleton.mp hz; exact hw
/-- a step that makes one cell -/
theorem Wp.mk (P : Heap → Prop) (hlt : ∀ h', P h' → h.size < h'.size) (law : ∀ (p : Program) (e : Env) (s : State) (m : MethodId) (args : Array Value) (below : List Frame) (meth : Method) (c : Code) (T : State) (locs : List Loc), Stand p l e R s m args below meth c T locs k n → p.tables.exec = Jvm.exec → Z.Warmed39 s.vm → s.vm.findClass y.cls = some m.cls → c.code = bytes → T.heap = h →
      ∃ T' h', Stand p l e R s m args below meth c T' locs k' n' ∧ T'.heap = h' ∧ Ext h h' ∧ P h' ∧ ∀ t, Steps p.tables e below (T'.setTop (mkF m pc' Ls' S')) t → Steps p.tables e below (T.setTop (mkF m pc Ls S)) t)
    (K : ∀ h', hs.size ≤ h.size → Ext h h' → P h' → Wp wd l Z a0 EL R y bytes maxL ret hs ws Q h' (h.size :: F) k' n' pc' Ls' S') : Wp wd l Z a0 EL R y bytes maxL ret hs ws Q h F k n pc Ls S := fun p e s m args below meth c vm0 k0 T locs I => by
  obtain ⟨⟨i1, i2, i3, i4, i5⟩, ⟨q1, q2, q3, q4, q5⟩, ⟨j1, j2, j3, j4, j5, j6, j7⟩, X, eT⟩ := I
  obtain ⟨T', h', X', eT', E, hP, st⟩ := law p e (s.setVm vm0) m args below meth c T locs X i2 j5 j1 i3 eT
  refine (K h' j6.2.1 E hP p e s m args below meth c vm0 k0 T' _ ⟨⟨i1, i2, i3, i4, i5⟩, ⟨q1, q2, q3, q4, Ext.trans q5 E⟩, ⟨j1, j2, Nat.le_trans j3 E.1, j4, j5, j6.trans (CHr.ext E j6.1), fun x hx => ?_⟩, X', eT'⟩).back st
  rcases List.mem_cons.mp hx with rfl | hx
  · exact ⟨hlt h' hP, Safe.ext E j6.1 (Safe.new (Nat.le_refl _))⟩
  · exact ⟨Nat.lt_of_lt_of_le (j7 x hx).1 E.1, Safe.ext E j6.1 (j7 x hx).2⟩
/-- the return -/
theorem Wp.leave (hk : k ≤ R.cells) (hn : n ≤ R.slots) {v' : Option Value} (hv : ret = none → v' = none) (hQ : Q v' h) (law : ∀ (p : Program) (e : Env) (s : State) (m : MethodId) (args : Array Value) (below : List Frame) (meth : Method) (c : Code) (T : State) (locs : List Loc) (fs : List Frame), Stand p l e R s m args below meth c T locs k n → p.tables.exec = Jvm.exec → c.code = bytes → meth.sig.returnType = ret →
      (∀ (f : JFrame) (acts : List Action), f.method = m → f.locked = none → f.entered = [] → (doReturn e (T.setTop f) acts v').1 = T.setFrames fs) → Steps p.tables e below (T.setTop (mkF m pc Ls S)) (T.setFrames fs)) :
    Wp wd l Z a0 EL R y bytes maxL ret hs ws Q h F k n pc Ls S := fun p e s m args below meth c vm0 k0 T locs I => by
  obtain ⟨⟨i1, i2, i3, i4, i5, i6, i7⟩, ⟨q1, q2, q3, q4, q5⟩, ⟨j1, j2, j3, j4, j5, j6, j7⟩, X, eT⟩ := I
  subst eT
  obtain ⟨fs, hr, hrun, hended, hE⟩ := X.leaveW j2 j3 (v := v') (by rw [i5]; exact hv) i7
  refine ⟨v', _, law p e (s.setVm vm0) m args below meth c T locs fs X i2 i3 i5 hr, hrun, hended, locs, q4, hQ, j6.trans (show CHr Z EL vm0 T.heap T.vm T.heap from CHv.at X j5 i1 j6.1), ⟨hE.1, hE.2.1, hE.2.2.1, hE.2.2.2.mono hk hn⟩, fun z => ?_⟩
  exact State.WarmedH.trans (t := s.setVm vm0) (j4 z) X.warmed
end Kit
end Jvm.Own
namespace Jvm.Own
open Sem ClassFile Op Lib Jvm.Stand Jvm.Free Jvm.LawKit Jvm.RoadKit
section Rules
variable {wd : Bool} {l : Launch} {Z : State} {EL : List (String × Nat)} {R : Room} {y : MethodName} {bytes : ByteArray} {maxL : Nat} {ret : Option FieldType} {hs : Heap} {ws : List Addr} {Q : Option Value → Heap → Prop} {h h' : Heap} {F F' : List Addr} {k n k' n' pc pc' pc1 : Nat} {Ls Ls' : Array Slot} {S S' : List Value}
variable {a0 : Array Value} {a b : Addr} {C O nm d : String} {v w : Value} {sl : Nat} {cl : Cell} {ty : FieldType}
theorem Wp.iloadN {i : Fin 4} {x : Int32} (hd : decode bytes pc = .ok (.iload_n i, 1)) (hp : pc + 1 = pc') (hl : Ls[i.val]? = some (.val (.int x))) (K : Wp wd l Z a0 EL R y bytes maxL ret hs ws Q h F k n pc' Ls (.int x :: S)) : Wp wd l Z a0 EL R y bytes maxL ret hs ws Q h F k n pc Ls S := by
  subst hp; exact Wp.lift (fun p e m below c T t A hx hby st => XS.iloadN A hx rfl (hb hby hd) hl st) K
theorem Wp.iload {i : Nat} {x : Int32} (hd : decode bytes pc = .ok (.iload i, 2)) (hp : pc + 2 = pc') (hl : Ls[i]? = some (.val (.int x))) (K : Wp wd l Z a0 EL R y bytes maxL ret hs ws Q h F k n pc' Ls (.int x :: S)) : Wp wd l Z a0 EL R y bytes maxL ret hs ws Q h F k n pc Ls S := by
  subst hp; exact Wp.lift (fun p e m below c T t A hx hby st => XS.iload A hx rfl (hb hby hd) hl st) K
theorem Wp.istoreN {i : Fin 4} {x : Int32} {l' : Array Slot} (hd : decode bytes pc = .ok (.istore_n i, 1)) (hp : pc + 1 = pc') (hl : storeLocals Ls i.val (.int x) = some l') (K : Wp wd l Z a0 EL R y bytes maxL ret hs ws Q h F k n pc' l' S) : Wp wd l Z a0 EL R y bytes maxL ret hs ws Q h F k n pc Ls (.int x :: S) := by
  subst hp; exact Wp.lift (fun p e m below c T t A hx hby st => XS.istoreN A hx rfl (hb hby hd) rfl hl st) K
theorem Wp.istore {i : Nat} {x : Int32} {l' : Array Slot} (hd : decode bytes pc = .ok (.istore i, 2)) (hp : pc + 2 = pc') (hl : storeLocals Ls i (.int x) = some l') (K : Wp wd l Z a0 EL R y bytes maxL ret hs ws Q h F k n pc' l' S) : Wp wd l Z a0 EL R y bytes maxL ret hs ws Q h F k n pc Ls (.int x :: S) := by
  subst hp; exact Wp.lift (fun p e m below c T t A hx hby st => XS.istore A hx rfl (hb hby hd) rfl hl st) K
theorem Wp.lloadN {i : Fin 4} {x : Int64} (hd : decode bytes pc = .ok (.lload_n i, 1)) (hp : pc + 1 = pc') (hl : Ls[i.val]? = some (.val (.long x))) (K : Wp wd l Z a0 EL R y bytes maxL ret hs ws Q h F k n pc' Ls (.long x :: S)) : Wp wd l Z a0 EL R y bytes maxL ret hs ws Q h F k n pc Ls S := by
  subst hp; exact Wp.lift (fun p e m below c T t A hx hby st => XS.lloadN A hx rfl (hb hby hd) hl st) K
theorem Wp.lload {i : Nat} {x : Int64} (hd : decode bytes pc = .ok (.lload i, 2)) (hp : pc + 2 = pc') (hl : Ls[i]? = some (.val (.long x))) (K : Wp wd l Z a0 EL R y bytes maxL ret hs ws Q h F k n pc' Ls (.long x :: S)) : Wp wd l Z a0 EL R y bytes maxL ret hs ws Q h F k n pc Ls S := by
  subst hp; exact Wp.lift (fun p e m below c T t A hx hby st => XS.lload A hx rfl (hb hby hd) hl st) K
theorem Wp.lstoreN {i : Fin 4} {x : Int64} {l' : Array Slot} (hd : decode bytes pc = .ok (.lstore_n i, 1)) (hp : pc + 1 = pc') (hl : storeLocals Ls i.val (.long x) = some l') (K : Wp wd l Z a0 EL R y bytes maxL ret hs ws Q h F k n pc' l' S) : Wp wd l Z a0 EL R y bytes maxL ret hs ws Q h F k n pc Ls (.long x :: S) := by
  subst hp; exact Wp.lift (fun p e m below c T t A hx hby st => XS.lstoreN A hx rfl (hb hby hd) rfl hl st) K
theorem Wp.lstore {i : Nat} {x : Int64} {l' : Array Slot} (hd : decode bytes pc = .ok (.lstore i, 2)) (hp : pc + 2 = pc') (hl : storeLocals Ls i (.long x) = some l') (K : Wp wd l Z a0 EL R y bytes maxL ret hs ws Q h F k n pc' l' S) : Wp wd l Z a0 EL R y bytes maxL ret hs ws Q h F k n pc Ls (.long x :: S) := by
  subst hp; exact Wp.lift (fun p e m below c T t A hx hby st => XS.lstore A hx rfl (hb hby hd) rfl hl st) K
theorem Wp.aloadN {i : Fin 4} {v : Value} (hd : decode bytes pc = .ok (.aload_n i, 1)) (hp : pc + 1 = pc') (hl : Ls[i.val]? = some (.val v)) (hv : v.isRef = true) (K : Wp wd l Z a0 EL R y bytes maxL ret hs ws Q h F k n pc' Ls (v :: S)) : Wp wd l Z a0 EL R y bytes maxL ret hs ws Q h F k n pc Ls S := by
  subst hp; exact Wp.lift (fun p e m below c T t A hx hby st => XS.aloadN A hx rfl (hb hby hd) hl hv st) K
theorem Wp.aload {i : Nat} {v : Value} (hd : decode bytes pc = .ok (.aload i, 2)) (hp : pc + 2 = pc') (hl : Ls[i]? = some (.val v)) (hv : v.isRef = true) (K : Wp wd l Z a0 EL R y bytes maxL ret hs ws Q h F k n pc' Ls (v :: S)) : Wp wd l Z a0 EL R y bytes maxL ret hs ws Q h F k n pc Ls S := by
  subst hp; exact Wp.lift (fun p e m below c T t A hx hby st => XS.aload A hx rfl (hb hby hd) hl hv st) K
theorem Wp.astoreN {i : Fin 4} {v : Value} {l' : Array Slot} (hd : decode bytes pc = .ok (.astore_n i, 1)) (hp : pc + 1 = pc') (hv : v.isRef = true) (hl : storeLocals Ls i.val v = some l') (K : Wp wd l Z a0 EL R y bytes maxL ret hs ws Q h F k n pc' l' S) : Wp wd l Z a0 EL R y bytes maxL ret hs ws Q h F k n pc Ls (v :: S) := by
  subst hp; exact Wp.lift (fun p e m below c T t A hx hby st => XS.astoreN A hx rfl (hb hby hd) rfl hv hl st) K
theorem Wp.astore {i : Nat} {v : Value} {l' : Array Slot} (hd : decode bytes pc = .ok (.astore i, 2)) (hp : pc + 2 = pc') (hv : v.isRef = true) (hl : storeLocals Ls i v = some l') (K : Wp wd l Z a0 EL R y bytes maxL ret hs ws Q h F k n pc' l' S) : Wp wd l Z a0 EL R y bytes maxL ret hs ws Q h F k n pc Ls (v :: S) := by
  subst hp; exact Wp.lift (fun p e m below c T t A hx hby st => XS.astore A hx rfl (hb hby hd) rfl hv hl st) K
theorem Wp.iconst {i : Int} {x : Int32} (hd : decode bytes pc = .ok (.iconst i, 1)) (hp : pc + 1 = pc') (hi : Int32.ofInt i = x) (K : Wp wd l Z a0 EL R y bytes maxL ret hs ws Q h F k n pc' Ls (.int x :: S)) : Wp wd l Z a0 EL R y bytes maxL ret hs ws Q h F k n pc Ls S := by
  subst hp; exact Wp.lift (fun p e m below c T t A hx hby st => XS.iconst A hx rfl (hb hby hd) (hi ▸ st)) K
theorem Wp.bipush {i : Int} {x : Int32} (hd : decode bytes pc = .ok (.bipush i, 2)) (hp : pc + 2 = pc') (hi : (Int8.ofInt i).toInt32 = x) (K : Wp wd l Z a0 EL R y bytes maxL ret hs ws Q h F k n pc' Ls (.int x :: S)) : Wp wd l Z a0 EL R y bytes maxL ret hs ws Q h F k n pc Ls S := by
  subst hp; exact Wp.lift (fun p e m below c T t A hx hby st => XS.bipush A hx rfl (hb hby hd) (hi ▸ st)) K
theorem Wp.sipush {i : Int} {x : Int32} (hd : decode bytes pc = .ok (.sipush i, 3)) (hp : pc + 3 = pc') (hi : (Int16.ofInt i).toInt32 = x) (K : Wp wd l Z a0 EL R y bytes maxL ret hs ws Q h F k n pc' Ls (.int x :: S)) : Wp wd l Z a0 EL R y bytes maxL ret hs ws Q h F k n pc Ls S := by
  subst hp; exact Wp.lift (fun p e m below c T t A hx hby st => XS.sipush A hx rfl (hb hby hd) (hi ▸ st)) K
theorem Wp.lconst {i : Fin 2} {x : Int64} (hd : decode bytes pc = .ok (.lconst i, 1)) (hp : pc + 1 = pc') (hi : Int64.ofNat i = x) (K : Wp wd l Z a0 EL R y bytes maxL ret hs ws Q h F k n pc' Ls (.long x :: S)) : Wp wd l Z a0 EL R y bytes maxL ret hs ws Q h F k n pc Ls S := by
  subst hp; exact Wp.lift (fun p e m below c T t A hx hby st => XS.lconst A hx rfl (hb hby hd) (hi ▸ st)) K
theorem Wp.aconstNull  (hd : decode bytes pc = .ok (.aconst_null, 1)) (hp : pc + 1 = pc') (K : Wp wd l Z a0 EL R y bytes maxL ret hs ws Q h F k n pc' Ls (.null :: S)) : Wp wd l Z a0 EL R y bytes maxL ret hs ws Q h F k n pc Ls S := by
  subst hp; exact Wp.lift (fun p e m below c T t A hx hby st => XS.aconstNull A hx rfl (hb hby hd) st) K
theorem Wp.iadd {x z : Int32} (hd : decode bytes pc = .ok (.iadd, 1)) (hp : pc + 1 = pc') (K : Wp wd l Z a0 EL R y bytes maxL ret hs ws Q h F k n pc' Ls (.int (x + z) :: S)) : Wp wd l Z a0 EL R y bytes maxL ret hs ws Q h F k n pc Ls (.int z :: .int x :: S) := by
  subst hp; exact Wp.lift (fun p e m below c T t A hx hby st => XS.iadd A hx rfl (hb hby hd) rfl st) K
theorem Wp.ladd {x z : Int64} (hd : decode bytes pc = .ok (.ladd, 1)) (hp : pc + 1 = pc') (K : Wp wd l Z a0 EL R y bytes maxL ret hs ws Q h F k n pc' Ls (.long (x + z) :: S)) : Wp wd l Z a0 EL R y bytes maxL ret hs ws Q h F k n pc Ls (.long z :: .long x :: S) := by
  subst hp; exact Wp.lift (fun p e m below c T t A hx hby st => XS.ladd A hx rfl (hb hby hd) rfl st) K
theorem Wp.isub {x z : Int32} (hd : decode bytes pc = .ok (.isub, 1)) (hp : pc + 1 = pc') (K : Wp wd l Z a0 EL R y bytes maxL ret hs ws Q h F k n pc' Ls (.int (x - z) :: S)) : Wp wd l Z a0 EL R y bytes maxL ret hs ws Q h F k n pc Ls (.int z :: .int x :: S) := by
  subst hp; exact Wp.lift (fun p e m below c T t A hx hby st => XS.isub A hx rfl (hb hby hd) rfl st) K
theorem Wp.lsub {x z : Int64} (hd : decode bytes pc = .ok (.lsub, 1)) (hp : pc + 1 = pc') (K : Wp wd l Z a0 EL R y bytes maxL ret hs ws Q h F k n pc' Ls (.long (x - z) :: S)) : Wp wd l Z a0 EL R y bytes maxL ret hs ws Q h F k n pc Ls (.long z :: .long x :: S) := by
  subst hp; exact Wp.lift (fun p e m below c T t A hx hby st => XS.lsub A hx rfl (hb hby hd) rfl st) K
theorem Wp.imul {x z : Int32} (hd : decode bytes pc = .ok (.imul, 1)) (hp : pc + 1 = pc') (K : Wp wd l Z a0 EL R y bytes maxL ret hs ws Q h F k n pc' Ls (.int (x * z) :: S)) : Wp wd l Z a0 EL R y bytes maxL ret hs ws Q h F k n pc Ls (.int z :: .int x :: S) := by
  subst hp; exact Wp.lift (fun p e m below c T t A hx hby st => XS.imul A hx rfl (hb hby hd) rfl st) K
theorem Wp.lmul {x z : Int64} (hd : decode bytes pc = .ok (.lmul, 1)) (hp : pc + 1 = pc') (K : Wp wd l Z a0 EL R y bytes maxL ret hs ws Q h F k n pc' Ls (.long (x * z) :: S)) : Wp wd l Z a0 EL R y bytes maxL ret hs ws Q h F k n pc Ls (.long z :: .long x :: S) := by
  subst hp; exact Wp.lift (fun p e m below c T t A hx hby st => XS.lmul A hx rfl (hb hby hd) rfl st) K
theorem Wp.iand {x z : Int32} (hd : decode bytes pc = .ok (.iand, 1)) (hp : pc + 1 = pc') (K : Wp wd l Z a0 EL R y bytes maxL ret hs ws Q h F k n pc' Ls (.int (x &&& z) :: S)) : Wp wd l Z a0 EL R y bytes maxL ret hs ws Q h F k n pc Ls (.int z :: .int x :: S) := by
  subst hp; exact Wp.lift (fun p e m below c T t A hx hby st => XS.iand A hx rfl (hb hby hd) rfl st) K
theorem Wp.land {x z : Int64} (hd : decode bytes pc = .ok (.land, 1)) (hp : pc + 1 = pc') (K : Wp wd l Z a0 EL R y bytes maxL ret hs ws Q h F k n pc' Ls (.long (x &&& z) :: S)) : Wp wd l Z a0 EL R y bytes maxL ret hs ws Q h F k n pc Ls (.long z :: .long x :: S) := by
  subst hp; exact Wp.lift (fun p e m below c T t A hx hby st => XS.land A hx rfl (hb hby hd) rfl st) K
theorem Wp.ior {x z : Int32} (hd : decode bytes pc = .ok (.ior, 1)) (hp : pc + 1 = pc') (K : Wp wd l Z a0 EL R y bytes maxL ret hs ws Q h F k n pc' Ls (.int (x ||| z) :: S)) : Wp wd l Z a0 EL R y bytes maxL ret hs ws Q h F k n pc Ls (.int z :: .int x :: S) := by
  subst hp; exact Wp.lift (fun p e m below c T t A hx hby st => XS.ior A hx rfl (hb hby hd) rfl st) K
theorem Wp.lor {x z : Int64} (hd : decode bytes pc = .ok (.lor, 1)) (hp : pc + 1 = pc') (K : Wp wd l Z a0 EL R y bytes maxL ret hs ws Q h F k n pc' Ls (.long (x ||| z) :: S)) : Wp wd l Z a0 EL R y bytes maxL ret hs ws Q h F k n pc Ls (.long z :: .long x :: S) := by
  subst hp; exact Wp.lift (fun p e m below c T t A hx hby st => XS.lor A hx rfl (hb hby hd) rfl st) K
theorem Wp.ixor {x z : Int32} (hd : decode bytes pc = .ok (.ixor, 1)) (hp : pc + 1 = pc') (K : Wp wd l Z a0 EL R y bytes maxL ret hs ws Q h F k n pc' Ls (.int (x ^^^ z) :: S)) : Wp wd l Z a0 EL R y bytes maxL ret hs ws Q h F k n pc Ls (.int z :: .int x :: S) := by
  subst hp; exact Wp.lift (fun p e m below c T t A hx hby st => XS.ixor A hx rfl (hb hby hd) rfl st) K
theorem Wp.lxor {x z : Int64} (hd : decode bytes pc = .ok (.lxor, 1)) (hp : pc + 1 = pc') (K : Wp wd l Z a0 EL R y bytes maxL ret hs ws Q h F k n pc' Ls (.long (x ^^^ z) :: S)) : Wp wd l Z a0 EL R y bytes maxL ret hs ws Q h F k n pc Ls (.long z :: .long x :: S) := by
  subst hp; exact Wp.lift (fun p e m below c T t A hx hby st => XS.lxor A hx rfl (hb hby hd) rfl st) K
theorem Wp.ineg {x : Int32} (hd : decode bytes pc = .ok (.ineg, 1)) (hp : pc + 1 = pc') (K : Wp wd l Z a0 EL R y bytes maxL ret hs ws Q h F k n pc' Ls (.int (-x) :: S)) : Wp wd l Z a0 EL R y bytes maxL ret hs ws Q h F k n pc Ls (.int x :: S) := by
  subst hp; exact Wp.lift (fun p e m below c T t A hx hby st => XS.ineg A hx rfl (hb hby hd) rfl st) K
theorem Wp.i2l {x : Int32} (hd : decode bytes pc = .ok (.i2l, 1)) (hp : pc + 1 = pc') (K : Wp wd l Z a0 EL R y bytes maxL ret hs ws Q h F k n pc' Ls (.long (x.toInt64) :: S)) : Wp wd l Z a0 EL R y bytes maxL ret hs ws Q h F k n pc Ls (.int x :: S) := by
  subst hp; exact Wp.lift (fun p e m below c T t A hx hby st => XS.i2l A hx rfl (hb hby hd) rfl st) K
theorem Wp.l2i {x : Int64} (hd : decode bytes pc = .ok (.l2i, 1)) (hp : pc + 1 = pc') (K : Wp wd l Z a0 EL R y bytes maxL ret hs ws Q h F k n pc' Ls (.int (x.toInt32) :: S)) : Wp wd l Z a0 EL R y bytes maxL ret hs ws Q h F k n pc Ls (.long x :: S) := by
  subst hp; exact Wp.lift (fun p e m below c T t A hx hby st => XS.l2i A hx rfl (hb hby hd) rfl st) K
theorem Wp.i2b {x : Int32} (hd : decode bytes pc = .ok (.i2b, 1)) (hp : pc + 1 = pc') (K : Wp wd l Z a0 EL R y bytes maxL ret hs ws Q h F k n pc' Ls (.int (x.toInt8.toInt32) :: S)) : Wp wd l Z a0 EL R y bytes maxL ret hs ws Q h F k n pc Ls (.int x :: S) := by
  subst hp; exact Wp.lift (fun p e m below c T t A hx hby st => XS.i2b A hx rfl (hb hby hd) rfl st) K
theorem Wp.i2s {x : Int32} (hd : decode bytes pc = .ok (.i2s, 1)) (hp : pc + 1 = pc') (K : Wp wd l Z a0 EL R y bytes maxL ret hs ws Q h F k n pc' Ls (.int (x.toInt16.toInt32) :: S)) : Wp wd l Z a0 EL R y bytes maxL ret hs ws Q h F k n pc Ls (.int x :: S) := by
  subst hp; exact Wp.lift (fun p e m below c T t A hx hby st => XS.i2s A hx rfl (hb hby hd) rfl st) K
theorem Wp.i2c {x : Int32} (hd : decode bytes pc = .ok (.i2c, 1)) (hp : pc + 1 = pc') (K : Wp wd l Z a0 EL R y bytes maxL ret hs ws Q h F k n pc' Ls (.int (x.toUInt32.toUInt16.toUInt32.toInt32) :: S)) : Wp wd l Z a0 EL R y bytes maxL ret hs ws Q h F k n pc Ls (.int x :: S) := by
  subst hp; exact Wp.lift (fun p e m below c T t A hx hby st => XS.i2c A hx rfl (hb hby hd) rfl st) K
theorem Wp.ishl {x : Int32} {z : Int32} (hd : decode bytes pc = .ok (.ishl, 1)) (hp : pc + 1 = pc') (K : Wp wd l Z a0 EL R y bytes maxL ret hs ws Q h F k n pc' Ls (.int (x <<< (z &&& 31)) :: S)) : Wp wd l Z a0 EL R y bytes maxL ret hs ws Q h F k n pc Ls (.int z :: .int x :: S) := by
  subst hp; exact Wp.lift (fun p e m below c T t A hx hby st => XS.ishl A hx rfl (hb hby hd) rfl st) K
theorem Wp.ishr {x : Int32} {z : Int32} (hd : decode bytes pc = .ok (.ishr, 1)) (hp : pc + 1 = pc') (K : Wp wd l Z a0 EL R y bytes maxL ret hs ws Q h F k n pc' Ls (.int (x >>> (z &&& 31)) :: S)) : Wp wd l Z a0 EL R y bytes maxL ret hs ws Q h F k n pc Ls (.int z :: .int x :: S) := by
  subst hp; exact Wp.lift (fun p e m below c T t A hx hby st => XS.ishr A hx rfl (hb hby hd) rfl st) K
theorem Wp.iushr {x : Int32} {z : Int32} (hd : decode bytes pc = .ok (.iushr, 1)) (hp : pc + 1 = pc') (K : Wp wd l Z a0 EL R y bytes maxL ret hs ws Q h F k n pc' Ls (.int ((x.toUInt32 >>> (z &&& 31).toUInt32).toInt32) :: S)) : Wp wd l Z a0 EL R y bytes maxL ret hs ws Q h F k n pc Ls (.int z :: .int x :: S) := by
  subst hp; exact Wp.lift (fun p e m below c T t A hx hby st => XS.iushr A hx rfl (hb hby hd) rfl st) K
theorem Wp.lshl {x : Int64} {z : Int32} (hd : decode bytes pc = .ok (.lshl, 1)) (hp : pc + 1 = pc') (K : Wp wd l Z a0 EL R y bytes maxL ret hs ws Q h F k n pc' Ls (.long (x <<< (z &&& 0x3f).toInt64) :: S)) : Wp wd l Z a0 EL R y bytes maxL ret hs ws Q h F k n pc Ls (.int z :: .long x :: S) := by
  subst hp; exact Wp.lift (fun p e m below c T t A hx hby st => XS.lshl A hx rfl (hb hby hd) rfl st) K
theorem Wp.lshr {x : Int64} {z : Int32} (hd : decode bytes pc = .ok (.lshr, 1)) (hp : pc + 1 = pc') (K : Wp wd l Z a0 EL R y bytes maxL ret hs ws Q h F k n pc' Ls (.long (x >>> (z &&& 0x3f).toInt64) :: S)) : Wp wd l Z a0 EL R y bytes maxL ret hs ws Q h F k n pc Ls (.int z :: .long x :: S) := by
  subst hp; exact Wp.lift (fun p e m below c T t A hx hby st => XS.lshr A hx rfl (hb hby hd) rfl st) K
theorem Wp.lushr {x : Int64} {z : Int32} (hd : decode bytes pc = .ok (.lushr, 1)) (hp : pc + 1 = pc') (K : Wp wd l Z a0 EL R y bytes maxL ret hs ws Q h F k n pc' Ls (.long ((x.toUInt64 >>> (z &&& 0x3f).toInt64.toUInt64).toInt64) :: S)) : Wp wd l Z a0 EL R y bytes maxL ret hs ws Q h F k n pc Ls (.int z :: .long x :: S) := by
  subst hp; exact Wp.lift (fun p e m below c T t A hx hby st => XS.lushr A hx rfl (hb hby hd) rfl st) K
theorem Wp.lcmp {x z : Int64} (hd : decode bytes pc = .ok (.lcmp, 1)) (hp : pc + 1 = pc') (K : Wp wd l Z a0 EL R y bytes maxL ret hs ws Q h F k n pc' Ls (.int (lcmpW x z) :: S)) : Wp wd l Z a0 EL R y bytes maxL ret hs ws Q h F k n pc Ls (.long z :: .long x :: S) := by
  subst hp; exact Wp.lift (fun p e m below c T t A hx hby st => XS.lcmp A hx rfl (hb hby hd) rfl st) K
theorem Wp.idiv {x z : Int32} (hd : decode bytes pc = .ok (.idiv, 1)) (hp : pc + 1 = pc') (hz : z ≠ 0) (K : Wp wd l Z a0 EL R y bytes maxL ret hs ws Q h F k n pc' Ls (.int (x / z) :: S)) : Wp wd l Z a0 EL R y bytes maxL ret hs ws Q h F k n pc Ls (.int z :: .int x :: S) := by
  subst hp; exact Wp.lift (fun p e m below c T t A hx hby st => XS.idiv A hx rfl (hb hby hd) rfl hz st) K
theorem Wp.irem {x z : Int32} (hd : decode bytes pc = .ok (.irem, 1)) (hp : pc + 1 = pc') (hz : z ≠ 0) (K : Wp wd l Z a0 EL R y bytes maxL ret hs ws Q h F k n pc' Ls (.int (x % z) :: S)) : Wp wd l Z a0 EL R y bytes maxL ret hs ws Q h F k n pc Ls (.int z :: .int x :: S) := by
  subst hp; exact Wp.lift (fun p e m below c T t A hx hby st => XS.irem A hx rfl (hb hby hd) rfl hz (by rw [irem_eq_mod]; exact st)) K
theorem Wp.ldiv {x z : Int64} (hd : decode bytes pc = .ok (.ldiv, 1)) (hp : pc + 1 = pc') (hz : z ≠ 0) (K : Wp wd l Z a0 EL R y bytes maxL ret hs ws Q h F k n pc' Ls (.long (x / z) :: S)) : Wp wd l Z a0 EL R y bytes maxL ret hs ws Q h F k n pc Ls (.long z :: .long x :: S) := by
  subst hp; exact Wp.lift (fun p e m below c T t A hx hby st => XS.ldiv A hx rfl (hb hby hd) rfl hz st) K
theorem Wp.lrem {x z : Int64} (hd : decode bytes pc = .ok (.lrem, 1)) (hp : pc + 1 = pc') (hz : z ≠ 0) (K : Wp wd l Z a0 EL R y bytes maxL ret hs ws Q h F k n pc' Ls (.long (x - (x / z) * z) :: S)) : Wp wd l Z a0 EL R y bytes maxL ret hs ws Q h F k n pc Ls (.long z :: .long x :: S) := by
  subst hp; exact Wp.lift (fun p e m below c T t A hx hby st => XS.lrem A hx rfl (hb hby hd) rfl hz st) K
theorem Wp.dup {v : Value} (hd : decode bytes pc = .ok (.dup, 1)) (hp : pc + 1 = pc') (hc : v.category = 1) (K : Wp wd l Z a0 EL R y bytes maxL ret hs ws Q h F k n pc' Ls (v :: v :: S)) : Wp wd l Z a0 EL R y bytes maxL ret hs ws Q h F k n pc Ls (v :: S) := by
  subst hp; exact Wp.lift (fun p e m below c T t A hx hby st => XS.dup A hx rfl (hb hby hd) rfl hc st) K
theorem Wp.pop {v : Value} (hd : decode bytes pc = .ok (.pop, 1)) (hp : pc + 1 = pc') (hc : v.category = 1) (K : Wp wd l Z a0 EL R y bytes maxL ret hs ws Q h F k n pc' Ls S) : Wp wd l Z a0 EL R y bytes maxL ret hs ws Q h F k n pc Ls (v :: S) := by
  subst hp; exact Wp.lift (fun p e m below c T t A hx hby st => XS.pop A hx rfl (hb hby hd) rfl hc st) K
theorem Wp.dupX1 {v w : Value} (hd : decode bytes pc = .ok (.dup_x1, 1)) (hp : pc + 1 = pc') (hc : v.category = 1) (hc' : w.category = 1) (K : Wp wd l Z a0 EL R y bytes maxL ret hs ws Q h F k n pc' Ls (v :: w :: v :: S)) : Wp wd l Z a0 EL R y bytes maxL ret hs ws Q h F k n pc Ls (v :: w :: S) := by
  subst hp; exact Wp.lift (fun p e m below c T t A hx hby st => XS.dupX1 A hx rfl (hb hby hd) rfl hc hc' st) K
theorem Wp.dup2 {v w : Value} (hd : decode bytes pc = .ok (.dup2, 1)) (hp : pc + 1 = pc') (hc : v.category = 1) (hc' : w.category = 1) (K : Wp wd l Z a0 EL R y bytes maxL ret hs ws Q h F k n pc' Ls (v :: w :: v :: w :: S)) : Wp wd l Z a0 EL R y bytes maxL ret hs ws Q h F k n pc Ls (v :: w :: S) := by
  subst hp; exact Wp.lift (fun p e m below c T t A hx hby st => XT.dup2 A hx rfl (hb hby hd) rfl hc hc' st) K
theorem Wp.iinc {i : Nat} {q : Int} {x : Int32} {l' : Array Slot} (hd : decode bytes pc = .ok (.iinc i q, 3)) (hp : pc + 3 = pc') (hl : Ls[i]? = some (.val (.int x))) (hs' : storeLocals Ls i (.int (x + Int32.ofInt q)) = some l') (K : Wp wd l Z a0 EL R y bytes maxL ret hs ws Q h F k n pc' l' S) : Wp wd l Z a0 EL R y bytes maxL ret hs ws Q h F k n pc Ls S := by
  subst hp; exact Wp.lift (fun p e m below c T t A hx hby st => XS.iinc A hx rfl (hb hby hd) hl hs' st) K
theorem Wp.goto {q : Int} (hd : decode bytes pc = .ok (.goto q, 3)) (h0 : 0 ≤ (pc : Int) + q) (hp : ((pc : Int) + q).toNat = pc') (K : Wp wd l Z a0 EL R y bytes maxL ret hs ws Q h F k n pc' Ls S) : Wp wd l Z a0 EL R y bytes maxL ret hs ws Q h F k n pc Ls S :=
  Wp.lift (fun p e m below c T t A hx hby st => XS.goto A hx rfl rfl (hb hby hd) h0 hp st) K
theorem Wp.tswOut {dflt low high : Int} {offs : Array Int} {len : Nat} {x : Int32} (hd : decode bytes pc = .ok (.tableswitch dflt low high offs, len)) (hout : x.toInt < low ∨ x.toInt > high) (h0 : 0 ≤ (pc : Int) + dflt) (hp : ((pc : Int) + dflt).toNat = pc') (K : Wp wd l Z a0 EL R y bytes maxL ret hs ws Q h F k n pc' Ls S) : Wp wd l Z a0 EL R y bytes maxL ret hs ws Q h F k n pc Ls (.int x :: S) :=
  Wp.lift (fun p e m below c T t A hx hby st => XS.tswOut A hx rfl rfl (hb hby hd) rfl hout h0 hp st) K
theorem Wp.tswIn {dflt low high q : Int} {offs : Array Int} {len : Nat} {x : Int32} (hd : decode bytes pc = .ok (.tableswitch dflt low high offs, len)) (hin : ¬ (x.toInt < low ∨ x.toInt > high)) (hoff : offs[(x.toInt - low).toNat]? = some q) (h0 : 0 ≤ (pc : Int) + q) (hp : ((pc : Int) + q).toNat = pc') (K : Wp wd l Z a0 EL R y bytes maxL ret hs ws Q h F k n pc' Ls S) : Wp wd l Z a0 EL R y bytes maxL ret hs ws Q h F k n pc Ls (.int x :: S) :=
  Wp.lift (fun p e m below c T t A hx hby st => XS.tswIn A hx rfl rfl (hb hby hd) rfl hin hoff h0 hp st) K
theorem Wp.icmp_lt {x z : Int32} {q : Int} (hd : decode bytes pc = .ok (.if_icmp .lt q, 3)) (h0 : 0 ≤ (pc : Int) + q) (h1 : ((pc : Int) + q).toNat = pc1) (hp : pc + 3 = pc') (K1 : x < z → Wp wd l Z a0 EL R y bytes maxL ret hs ws Q h F k n pc1 Ls S) (K2 : ¬ (x < z) → Wp wd l Z a0 EL R y bytes maxL ret hs ws Q h F k n pc' Ls S) : Wp wd l Z a0 EL R y bytes maxL ret hs ws Q h F k n pc Ls (.int z :: .int x :: S) := by
  subst hp
  exact (Classical.em (x < z)).elim (fun hc => Wp.lift (fun p e m below c T t A hx hby st => XS.icmpYes A hx rfl rfl (hb hby hd) rfl (tlt hc).1 h0 h1 st) (K1 hc)) (fun hc => Wp.lift (fun p e m below c T t A hx hby st => XS.icmpNo A hx rfl (hb hby hd) rfl (flt hc).1 st) (K2 hc))
theorem Wp.if_lt {x : Int32} {q : Int} (hd : decode bytes pc = .ok (.ifCond .lt q, 3)) (h0 : 0 ≤ (pc : Int) + q) (h1 : ((pc : Int) + q).toNat = pc1) (hp : pc + 3 = pc') (K1 : x < (0 : Int32) → Wp wd l Z a0 EL R y bytes maxL ret hs ws Q h F k n pc1 Ls S) (K2 : ¬ (x < (0 : Int32)) → Wp wd l Z a0 EL R y bytes maxL ret hs ws Q h F k n pc' Ls S) : Wp wd l Z a0 EL R y bytes maxL ret hs ws Q h F k n pc Ls (.int x :: S) := by
  subst hp
  exact (Classical.em (x < (0 : Int32))).elim (fun hc => Wp.lift (fun p e m below c T t A hx hby st => XS.ifYes A hx rfl rfl (hb hby hd) rfl ((if0 _ _).trans (tlt hc).1) h0 h1 st) (K1 hc)) (fun hc => Wp.lift (fun p e m below c T t A hx hby st => XS.ifNo A hx rfl (hb hby hd) rfl ((if0 _ _).trans (flt hc).1) st) (K2 hc))
theorem Wp.icmp_ge {x z : Int32} {q : Int} (hd : decode bytes pc = .ok (.if_icmp .ge q, 3)) (h0 : 0 ≤ (pc : Int) + q) (h1 : ((pc : Int) + q).toNat = pc1) (hp : pc + 3 = pc') (K1 : ¬ (x < z) → Wp wd l Z a0 EL R y bytes maxL ret hs ws Q h F k n pc1 Ls S) (K2 : x < z → Wp wd l Z a0 EL R y bytes maxL ret hs ws Q h F k n pc' Ls S) : Wp wd l Z a0 EL R y bytes maxL ret hs ws Q h F k n pc Ls (.int z :: .int x :: S) := by
  subst hp
  exact (Classical.em (x < z)).elim (fun hc => Wp.lift (fun p e m below c T t A hx hby st => XS.icmpNo A hx rfl (hb hby hd) rfl (tlt hc).2.1 st) (K2 hc)) (fun hc => Wp.lift (fun p e m below c T t A hx hby st => XS.icmpYes A hx rfl rfl (hb hby hd) rfl (flt hc).2.1 h0 h1 st) (K1 hc))
theorem Wp.if_ge {x : Int32} {q : Int} (hd : decode bytes pc = .ok (.ifCond .ge q, 3)) (h0 : 0 ≤ (pc : Int) + q) (h1 : ((pc : Int) + q).toNat = pc1) (hp : pc + 3 = pc') (K1 : ¬ (x < (0 : Int32)) → Wp wd l Z a0 EL R y bytes maxL ret hs ws Q h F k n pc1 Ls S) (K2 : x < (0 : Int32) → Wp wd l Z a0 EL R y bytes maxL ret hs ws Q h F k n pc' Ls S) : Wp wd l Z a0 EL R y bytes maxL ret hs ws Q h F k n pc Ls (.int x :: S) := by
  subst hp
  exact (Classical.em (x < (0 : Int32))).elim (fun hc => Wp.lift (fun p e m below c T t A hx hby st => XS.ifNo A hx rfl (hb hby hd) rfl ((if0 _ _).trans (tlt hc).2.1) st) (K2 hc)) (fun hc => Wp.lift (fun p e m below c T t A hx hby st => XS.ifYes A hx rfl rfl (hb hby hd) rfl ((if0 _ _).trans (flt hc).2.1) h0 h1 st) (K1 hc))
theorem Wp.icmp_gt {x z : Int32} {q : Int} (hd : decode bytes pc = .ok (.if_icmp .gt q, 3)) (h0 : 0 ≤ (pc : Int) + q) (h1 : ((pc : Int) + q).toNat = pc1) (hp : pc + 3 = pc') (K1 : z < x → Wp wd l Z a0 EL R y bytes maxL ret hs ws Q h F k n pc1 Ls S) (K2 : ¬ (z < x) → Wp wd l Z a0 EL R y bytes maxL ret hs ws Q h F k n pc' Ls S) : Wp wd l Z a0 EL R y bytes maxL ret hs ws Q h F k n pc Ls (.int z :: .int x :: S) := by
  subst hp
  exact (Classical.em (z < x)).elim (fun hc => Wp.lift (fun p e m below c T t A hx hby st => XS.icmpYes A hx rfl rfl (hb hby hd) rfl (tlt hc).2.2.1 h0 h1 st) (K1 hc)) (fun hc => Wp.lift (fun p e m below c T t A hx hby st => XS.icmpNo A hx rfl (hb hby hd) rfl (flt hc).2.2.1 st) (K2 hc))
theorem Wp.if_gt {x : Int32} {q : Int} (hd : decode bytes pc = .ok (.ifCond .gt q, 3)) (h0 : 0 ≤ (pc : Int) + q) (h1 : ((pc : Int) + q).toNat = pc1) (hp : pc + 3 = pc') (K1 : (0 : Int32) < x → Wp wd l Z a0 EL R y bytes maxL ret hs ws Q h F k n pc1 Ls S) (K2 : ¬ ((0 : Int32) < x) → Wp wd l Z a0 EL R y bytes maxL ret hs ws Q h F k n pc' Ls S) : Wp wd l Z a0 EL R y bytes maxL ret hs ws Q h F k n pc Ls (.int x :: S) := by
  subst hp
  exact (Classical.em ((0 : Int32) < x)).elim (fun hc => Wp.lift (fun p e m below c T t A hx hby st => XS.ifYes A hx rfl rfl (hb hby hd) rfl ((if0 _ _).trans (tlt hc).2.2.1) h0 h1 st) (K1 hc)) (fun hc => Wp.lift (fun p e m below c T t A hx hby st => XS.ifNo A hx rfl (hb hby hd) rfl ((if0 _ _).trans (flt hc).2.2.1) st) (K2 hc))
theorem Wp.icmp_le {x z : Int32} {q : Int} (hd : decode bytes pc = .ok (.if_icmp .le q, 3)) (h0 : 0 ≤ (pc : Int) + q) (h1 : ((pc : Int) + q).toNat = pc1) (hp : pc + 3 = pc') (K1 : ¬ (z < x) → Wp wd l Z a0 EL R y bytes maxL ret hs ws Q h F k n pc1 Ls S) (K2 : z < x → Wp wd l Z a0 EL R y bytes maxL ret hs ws Q h F k n pc' Ls S) : Wp wd l Z a0 EL R y bytes maxL ret hs ws Q h F k n pc Ls (.int z :: .int x :: S) := by
  subst hp
  exact (Classical.em (z < x)).elim (fun hc => Wp.lift (fun p e m below c T t A hx hby st => XS.icmpNo A hx rfl (hb hby hd) rfl (tlt hc).2.2.2 st) (K2 hc)) (fun hc => Wp.lift (fun p e m below c T t A hx hby st => XS.icmpYes A hx rfl rfl (hb hby hd) rfl (flt hc).2.2.2 h0 h1 st) (K1 hc))
theorem Wp.if_le {x : Int32} {q : Int} (hd : decode bytes pc = .ok (.ifCond .le q, 3)) (h0 : 0 ≤ (pc : Int) + q) (h1 : ((pc : Int) + q).toNat = pc1) (hp : pc + 3 = pc') (K1 : ¬ ((0 : Int32) < x) → Wp wd l Z a0 EL R y bytes maxL ret hs ws Q h F k n pc1 Ls S) (K2 : (0 : Int32) < x → Wp wd l Z a0 EL R y bytes maxL ret hs ws Q h F k n pc' Ls S) : Wp wd l Z a0 EL R y bytes maxL ret hs ws Q h F k n pc Ls (.int x :: S) := by
  subst hp
  exact (Classical.em ((0 : Int32) < x)).elim (fun hc => Wp.lift (fun p e m below c T t A hx hby st => XS.ifNo A hx rfl (hb hby hd) rfl ((if0 _ _).trans (tlt hc).2.2.2) st) (K2 hc)) (fun hc => Wp.lift (fun p e m below c T t A hx hby st => XS.ifYes A hx rfl rfl (hb hby hd) rfl ((if0 _ _).trans (flt hc).2.2.2) h0 h1 st) (K1 hc))
theorem Wp.icmp_eq {x z : Int32} {q : Int} (hd : decode bytes pc = .ok (.if_icmp .eq q, 3)) (h0 : 0 ≤ (pc : Int) + q) (h1 : ((pc : Int) + q).toNat = pc1) (hp : pc + 3 = pc') (K1 : x = z → Wp wd l Z a0 EL R y bytes maxL ret hs ws Q h F k n pc1 Ls S) (K2 : ¬ (x = z) → Wp wd l Z a0 EL R y bytes maxL ret hs ws Q h F k n pc' Ls S) : Wp wd l Z a0 EL R y bytes maxL ret hs ws Q h F k n pc Ls (.int z :: .int x :: S) := by
  subst hp
  exact (Classical.em (x = z)).elim (fun hc => Wp.lift (fun p e m below c T t A hx hby st => XS.icmpYes A hx rfl rfl (hb hby hd) rfl (teq hc).1 h0 h1 st) (K1 hc)) (fun hc => Wp.lift (fun p e m below c T t A hx hby st => XS.icmpNo A hx rfl (hb hby hd) rfl (feq hc).1 st) (K2 hc))
theorem Wp.if_eq {x : Int32} {q : Int} (hd : decode bytes pc = .ok (.ifCond .eq q, 3)) (h0 : 0 ≤ (pc : Int) + q) (h1 : ((pc : Int) + q).toNat = pc1) (hp : pc + 3 = pc') (K1 : x = (0 : Int32) → Wp wd l Z a0 EL R y bytes maxL ret hs ws Q h F k n pc1 Ls S) (K2 : ¬ (x = (0 : Int32)) → Wp wd l Z a0 EL R y bytes maxL ret hs ws Q h F k n pc' Ls S) : Wp wd l Z a0 EL R y bytes maxL ret hs ws Q h F k n pc Ls (.int x :: S) := by
  subst hp
  exact (Classical.em (x = (0 : Int32))).elim (fun hc => Wp.lift (fun p e m below c T t A hx hby st => XS.ifYes A hx rfl rfl (hb hby hd) rfl ((if0 _ _).trans (teq hc).1) h0 h1 st) (K1 hc)) (fun hc => Wp.lift (fun p e m below c T t A hx hby st => XS.ifNo A hx rfl (hb hby hd) rfl ((if0 _ _).trans (feq hc).1) st) (K2 hc))
theorem Wp.icmp_ne {x z : Int32} {q : Int} (hd : decode bytes pc = .ok (.if_icmp .ne q, 3)) (h0 : 0 ≤ (pc : Int) + q) (h1 : ((pc : Int) + q).toNat = pc1) (hp : pc + 3 = pc') (K1 : ¬ (x = z) → Wp wd l Z a0 EL R y bytes maxL ret hs ws Q h F k n pc1 Ls S) (K2 : x = z → Wp wd l Z a0 EL R y bytes maxL ret hs ws Q h F k n pc' Ls S) : Wp wd l Z a0 EL R y bytes maxL ret hs ws Q h F k n pc Ls (.int z :: .int x :: S) := by
  subst hp
  exact (Classical.em (x = z)).elim (fun hc => Wp.lift (fun p e m below c T t A hx hby st => XS.icmpNo A hx rfl (hb hby hd) rfl (teq hc).2 st) (K2 hc)) (fun hc => Wp.lift (fun p e m below c T t A hx hby st => XS.icmpYes A hx rfl rfl (hb hby hd) rfl (feq hc).2 h0 h1 st) (K1 hc))
theorem Wp.if_ne {x : Int32} {q : Int} (hd : decode bytes pc = .ok (.ifCond .ne q, 3)) (h0 : 0 ≤ (pc : Int) + q) (h1 : ((pc : Int) + q).toNat = pc1) (hp : pc + 3 = pc') (K1 : ¬ (x = (0 : Int32)) → Wp wd l Z a0 EL R y bytes maxL ret hs ws Q h F k n pc1 Ls S) (K2 : x = (0 : Int32) → Wp wd l Z a0 EL R y bytes maxL ret hs ws Q h F k n pc' Ls S) : Wp wd l Z a0 EL R y bytes maxL ret hs ws Q h F k n pc Ls (.int x :: S) := by
  subst hp
  exact (Classical.em (x = (0 : Int32))).elim (fun hc => Wp.lift (fun p e m below c T t A hx hby st => XS.ifNo A hx rfl (hb hby hd) rfl ((if0 _ _).trans (teq hc).2) st) (K2 hc)) (fun hc => Wp.lift (fun p e m below c T t A hx hby st => XS.ifYes A hx rfl rfl (hb hby hd) rfl ((if0 _ _).trans (feq hc).2) h0 h1 st) (K1 hc))
theorem Wp.ifnullYes {q : Int} (hd : decode bytes pc = .ok (.ifnull q, 3)) (h0 : 0 ≤ (pc : Int) + q) (h1 : ((pc : Int) + q).toNat = pc') (K : Wp wd l Z a0 EL R y bytes maxL ret hs ws Q h F k n pc' Ls S) : Wp wd l Z a0 EL R y bytes maxL ret hs ws Q h F k n pc Ls (.null :: S) :=
  Wp.lift (fun p e m below c T t A hx hby st => XS.ifnullYes A hx rfl rfl (hb hby hd) rfl h0 h1 st) K
theorem Wp.ifnullNo {q : Int} (hd : decode bytes pc = .ok (.ifnull q, 3)) (hp : pc + 3 = pc') (K : Wp wd l Z a0 EL R y bytes maxL ret hs ws Q h F k n pc' Ls S) : Wp wd l Z a0 EL R y bytes maxL ret hs ws Q h F k n pc Ls ((.ref a) :: S) := by
  subst hp; exact Wp.lift (fun p e m below c T t A hx hby st => XS.ifnullNo A hx rfl (hb hby hd) rfl st) K
theorem Wp.ifnonnullYes {q : Int} (hd : decode bytes pc = .ok (.ifnonnull q, 3)) (h0 : 0 ≤ (pc : Int) + q) (h1 : ((pc : Int) + q).toNat = pc') (K : Wp wd l Z a0 EL R y bytes maxL ret hs ws Q h F k n pc' Ls S) : Wp wd l Z a0 EL R y bytes maxL ret hs ws Q h F k n pc Ls ((.ref a) :: S) :=
  Wp.lift (fun p e m below c T t A hx hby st => XS.ifnonnullYes A hx rfl rfl (hb hby hd) rfl h0 h1 st) K
theorem Wp.ifnonnullNo {q : Int} (hd : decode bytes pc = .ok (.ifnonnull q, 3)) (hp : pc + 3 = pc') (K : Wp wd l Z a0 EL R y bytes maxL ret hs ws Q h F k n pc' Ls S) : Wp wd l Z a0 EL R y bytes maxL ret hs ws Q h F k n pc Ls (.null :: S) := by
  subst hp; exact Wp.lift (fun p e m below c T t A hx hby st => XS.ifnonnullNo A hx rfl (hb hby hd) rfl st) K
theorem Wp.acmp_eq {q : Int} (hv : v.isRef = true) (hw : w.isRef = true) (hd : decode bytes pc = .ok (.if_acmp .eq q, 3)) (h0 : 0 ≤ (pc : Int) + q) (h1 : ((pc : Int) + q).toNat = pc1) (hp : pc + 3 = pc') (K1 : v = w → Wp wd l Z a0 EL R y bytes maxL ret hs ws Q h F k n pc1 Ls S) (K2 : ¬ v = w → Wp wd l Z a0 EL R y bytes maxL ret hs ws Q h F k n pc' Ls S) : Wp wd l Z a0 EL R y bytes maxL ret hs ws Q h F k n pc Ls (w :: v :: S) := by
  by_cases hc : v = w
  · exact Wp.tab (fun p e s m args below meth c T locs X hx hZ hown hby hml hsh eT hO => ⟨T, X, eT, fun t st => Jvm.RoadKit.acmp (g := mkF m pc Ls (w :: v :: S)) X hx rfl hv hw (same := true) rfl (hb hby hd) rfl (decide_eq_true hc) h0 (by simp [acV]; omega) st⟩) (K1 hc)
  · exact Wp.tab (fun p e s m args below meth c T locs X hx hZ hown hby hml hsh eT hO => ⟨T, X, eT, fun t st => Jvm.RoadKit.acmp (g := mkF m pc Ls (w :: v :: S)) X hx rfl hv hw (same := false) rfl (hb hby hd) rfl (decide_eq_false hc) h0 (by simp [acV]; omega) st⟩) (K2 hc)
theorem Wp.acmp_ne {q : Int} (hv : v.isRef = true) (hw : w.isRef = true) (hd : decode bytes pc = .ok (.if_acmp .ne q, 3)) (h0 : 0 ≤ (pc : Int) + q) (h1 : ((pc : Int) + q).toNat = pc1) (hp : pc + 3 = pc') (K1 : ¬ v = w → Wp wd l Z a0 EL R y bytes maxL ret hs ws Q h F k n pc1 Ls S) (K2 : v = w → Wp wd l Z a0 EL R y bytes maxL ret hs ws Q h F k n pc' Ls S) : Wp wd l Z a0 EL R y bytes maxL ret hs ws Q h F k n pc Ls (w :: v :: S) := by
  by_cases hc : v = w
  · exact Wp.tab (fun p e s m args below meth c T locs X hx hZ hown hby hml hsh eT hO => ⟨T, X, eT, fun t st => Jvm.RoadKit.acmp (g := mkF m pc Ls (w :: v :: S)) X hx rfl hv hw (same := true) rfl (hb hby hd) rfl (decide_eq_true hc) h0 (by simp [acV]; omega) st⟩) (K2 hc)
  · exact Wp.tab (fun p e s m args below meth c T locs X hx hZ hown hby hml hsh eT hO => ⟨T, X, eT, fun t st => Jvm.RoadKit.acmp (g := mkF m pc Ls (w :: v :: S)) X hx rfl hv hw (same := false) rfl (hb hby hd) rfl (decide_eq_false hc) h0 (by simp [acV]; omega) st⟩) (K1 hc)
theorem Wp.getF {own host : String} {index : Nat} (hown0 : y.cls = own) (lk : (Cond.fieldLink own index C nm d).before a0 Z = true ∨ (Cond.fieldLinkNest own index C nm d host).before a0 Z = true) (via : Via Z C O nm d) (Fl : Fld Z h a O nm d v) (hd : decode bytes pc = .ok (.getfield index, 3)) (hp : pc + 3 = pc') (K : Wp wd l Z a0 EL R y bytes maxL ret hs ws Q h F k n pc' Ls (v :: S)) : Wp wd l Z a0 EL R y bytes maxL ret hs ws Q h F k n pc Ls (.ref a :: S) := by
  subst hp hown0
  exact Wp.tab (fun p e s m args below meth c T locs X hx hZ hown hby hml hsh eT hO => Jvm.RoadKit.getF X hx hZ hown lk via eT Fl (g := mkF m pc Ls (.ref a :: S)) rfl rfl (hb hby hd)) K
theorem Wp.getS {own host : String} {index : Nat} (hown0 : y.cls = own) (lk : (Cond.fieldLink own index C nm d).before a0 Z = true ∨ (Cond.fieldLinkNest own index C nm d host).before a0 Z = true) (via : Via Z C O nm d) (Sv : Sta Z Z.heap O nm d v) (hd : decode bytes pc = .ok (.getstatic index, 3)) (hp : pc + 3 = pc') (K : Wp wd l Z a0 EL R y bytes maxL ret hs ws Q h F k n pc' Ls (v :: S)) : Wp wd l Z a0 EL R y bytes maxL ret hs ws Q h F k n pc Ls S := by
  subst hp hown0
  exact Wp.tab (fun p e s m args below meth c T locs X hx hZ hown hby hml hsh eT hO => Jvm.RoadKit.getS2 X hx hZ hown lk via eT (Sv.ext hO) (g := mkF m pc Ls S) rfl (hb hby hd)) K
theorem Wp.castY {own : String} {index : Nat} (hown0 : y.cls = own) (lk : (Cond.classLink own index C).before a0 Z = true) (I : Ins Z h a C true) (hd : decode bytes pc = .ok (.checkcast index, 3)) (hp : pc + 3 = pc') (K : Wp wd l Z a0 EL R y bytes maxL ret hs ws Q h F k n pc' Ls (.ref a :: S)) : Wp wd l Z a0 EL R y bytes maxL ret hs ws Q h F k n pc Ls (.ref a :: S) := by
  subst hp hown0
  exact Wp.tab (fun p e s m args below meth c T locs X hx hZ hown hby hml hsh eT hO => Jvm.RoadKit.castY X hx hZ hown lk eT I (g := mkF m pc Ls (.ref a :: S)) rfl rfl (hb hby hd)) K
theorem Wp.instY {own : String} {index : Nat} (hown0 : y.cls = own) (lk : (Cond.classLink own index C).before a0 Z = true) (I : Ins Z h a C true) (hd : decode bytes pc = .ok (.instanceof index, 3)) (hp : pc + 3 = pc') (K : Wp wd l Z a0 EL R y bytes maxL ret hs ws Q h F k n pc' Ls (.int 1 :: S)) : Wp wd l Z a0 EL R y bytes maxL ret hs ws Q h F k n pc Ls (.ref a :: S) := by
  subst hp hown0
  exact Wp.tab (fun p e s m args below meth c T locs X hx hZ hown hby hml hsh eT hO => Jvm.RoadKit.instY X hx hZ hown lk eT I (g := mkF m pc Ls (.ref a :: S)) rfl rfl (hb hby hd)) K
theorem Wp.instN {own D : String} {index : Nat} (hown0 : y.cls = own) (lk : (Cond.classLink own index C).before a0 Z = true) (I : Ins Z hs a C false) (E : Exa Z hs a D) (hd : decode bytes pc = .ok (.instanceof index, 3)) (hp : pc + 3 = pc') (K : Wp wd l Z a0 EL R y bytes maxL ret hs ws Q h F k n pc' Ls (.int 0 :: S)) : Wp wd l Z a0 EL R y bytes maxL ret hs ws Q h F k n pc Ls (.ref a :: S) := by
  subst hp hown0
  exact Wp.tab (fun p e s m args below meth c T locs X hx hZ hown hby hml hsh eT hO => Jvm.RoadKit.instN X hx hZ hown lk eT (hsh ▸ I) (hsh ▸ E) (g := mkF m pc Ls (.ref a :: S)) rfl rfl (hb hby hd)) K
theorem Wp.instNo {own D : String} {index : Nat} (hown0 : y.cls = own) (lk : (Cond.classLink own index C).before a0 Z = true) (E : Exa Z h a D) (hno : ∃ c t, Z.vm.findClass D = some c ∧ Z.vm.findClass C = some t ∧ Z.vm.assignable c t = false) (hd : decode bytes pc = .ok (.instanceof index, 3)) (hp : pc + 3 = pc') (K : Wp wd l Z a0 EL R y bytes maxL ret hs ws Q h F k n pc' Ls (.int 0 :: S)) : Wp wd l Z a0 EL R y bytes maxL ret hs ws Q h F k n pc Ls (.ref a :: S) := by
  subst hp hown0
  exact Wp.tab (fun p e s m args below meth c T locs X hx hZ hown hby hml hsh eT hO => Jvm.RoadKit.instNo X hx hZ hown lk eT E hno (g := mkF m pc Ls (.ref a :: S)) rfl rfl (hb hby hd)) K
theorem Wp.instNull {index : Nat} (hd : decode bytes pc = .ok (.instanceof index, 3)) (hp : pc + 3 = pc') (K : Wp wd l Z a0 EL R y bytes maxL ret hs ws Q h F k n pc' Ls (.int 0 :: S)) : Wp wd l Z a0 EL R y bytes maxL ret hs ws Q h F k n pc Ls (.null :: S) := by
  subst hp
  exact Wp.tab (fun p e s m args below meth c T locs X hx hZ hown hby hml hsh eT hO => ⟨T, X, eT, fun t st => X.instanceofNull hx (g := mkF m pc Ls (.null :: S)) rfl rfl (hb hby hd) t st⟩) K
theorem Wp.castNull {index : Nat} (hd : decode bytes pc = .ok (.checkcast index, 3)) (hp : pc + 3 = pc') (K : Wp wd l Z a0 EL R y bytes maxL ret hs ws Q h F k n pc' Ls (.null :: S)) : Wp wd l Z a0 EL R y bytes maxL ret hs ws Q h F k n pc Ls (.null :: S) := by
  subst hp
  exact Wp.tab (fun p e s m args below meth c T locs X hx hZ hown hby hml hsh eT hO => ⟨T, X, eT, fun t st => X.checkcastNull hx (g := mkF m pc Ls (.null :: S)) rfl rfl (hb hby hd) t st⟩) K
theorem Wp.initO {own : String} {idx : Nat} {W : Nat} (hown0 : y.cls = own) (w1 : (Cond.methodLink own idx Lib.objectInit).before a0 Z = true) (w2 : (Cond.instanceMethod Lib.objectInit).before a0 Z = true) (w3 : (Cond.code Lib.objectInit ⟨#[0xb1]⟩ 1 none).before a0 Z = true) (hd : decode bytes pc = .ok (.invokespecial idx, 3)) (hp : pc + 3 = pc') (hsz : Ls.size = maxL)
    (hf : 1 ≤ R.frames) (hW : (S.map fun v => v.category).sum ≤ W) (hl : W + 12 ≤ R.locals) (K : Wp wd l Z a0 EL R y bytes maxL ret hs ws Q h F k n pc' Ls S) : Wp wd l Z a0 EL R y bytes maxL ret hs ws Q h F k n pc Ls (.ref a :: S) := by
  subst hp hown0
  exact Wp.tab (fun p e s m args below meth c T locs X hx hZ hown hby hml hsh eT hO => Jvm.RoadKit.initO X hx hZ hown w1 w2 w3 eT (g := mkF m pc Ls (.ref a :: S)) rfl (by rw [hml]; exact hsz) rfl (hb hby hd) hf (W := W) (by show 2 * 0 + _ ≤ _; omega) hl) K
theorem Wp.ldcI {own : String} {index : Nat} {x : Int32} (hown0 : y.cls = own) (wc : (Cond.constant own index x).before a0 Z = true) (hd : decode bytes pc = .ok (.ldc index, 2)) (hp : pc + 2 = pc') (K : Wp wd l Z a0 EL R y bytes maxL ret hs ws Q h F k n pc' Ls (.int x :: S)) : Wp wd l Z a0 EL R y bytes maxL ret hs ws Q h F k n pc Ls S := by
  subst hp hown0
  exact Wp.tab (fun p e s m args below meth c T locs X hx hZ hown hby hml hsh eT hO => ⟨T, X, eT, fun t st => X.ldcInt hx hown (mvT hZ wc) (g := mkF m pc Ls S) rfl (hb hby hd) t st⟩) K
theorem Wp.ldcL {own : String} {index : Nat} {x : Int64} (hown0 : y.cls = own) (wc : (Cond.constantLong own index x).before a0 Z = true) (hd : decode bytes pc = .ok (.ldc2_w index, 3)) (hp : pc + 3 = pc') (K : Wp wd l Z a0 EL R y bytes maxL ret hs ws Q h F k n pc' Ls (.long x :: S)) : Wp wd l Z a0 EL R y bytes maxL ret hs ws Q h F k n pc Ls S := by
  subst hp hown0
  exact Wp.tab (fun p e s m args below meth c T locs X hx hZ hown hby hml hsh eT hO => ⟨T, X, eT, fun t st => X.ldc2Long hx hown (mvT hZ wc) (g := mkF m pc Ls S) rfl (hb hby hd) t st⟩) K
theorem Wp.alen {kA : ClassId} {z : Int32} {vs : List Value} {dv : Value} (V : Arv Z h a kA ty z vs dv) (hd : decode bytes pc = .ok (.arraylength, 1)) (hp : pc + 1 = pc') (K : Wp wd l Z a0 EL R y bytes maxL ret hs ws Q h F k n pc' Ls (.int z :: S)) : Wp wd l Z a0 EL R y bytes maxL ret hs ws Q h F k n pc Ls (.ref a :: S) := by
  subst hp
  obtain ⟨cl, A, -, hz1, hz2, -⟩ := V
  have e1 := len_of hz1 hz2
  exact Wp.tab (fun p e s m args below meth c T locs X hx hZ hown hby hml hsh eT hO => ⟨T, X, eT, fun t st => X.arraylength hx (by rw [eT]; exact A.1) (State.isArrayOf_alike hZ.alike A.2.1) (g := mkF m pc Ls (.ref a :: S)) rfl rfl (hb hby hd) t (by rw [e1]; exact st)⟩) K
theorem Wp.caload {kA : ClassId} {z j : Int32} {vs : List Value} {dv : Value} (V : Arv Z h a kA .char z vs dv) (h1 : ¬ j < 0) (h2 : j < z) (hv : vs.getD j.toNatClampNeg dv = v) (hd : decode bytes pc = .ok (.caload, 1)) (hp : pc + 1 = pc') (K : Wp wd l Z a0 EL R y bytes maxL ret hs ws Q h F k n pc' Ls (v :: S)) : Wp wd l Z a0 EL R y bytes maxL ret hs ws Q h F k n pc Ls (.int j :: .ref a :: S) := by
  subst hp
  obtain ⟨cl, A, -, hz1, hz2, H, -⟩ := V
  have hin := inb_of hz1 ⟨h1, h2⟩
  have hat := H.at hin hv
  exact Wp.tab (fun p e s m args below meth c T locs X hx hZ hown hby hml hsh eT hO => ⟨T, X, eT, fun t st => X.caload hx (by rw [eT]; exact A.1) (State.isArrayOf_alike hZ.alike A.2.1) A.2.2 hin hat (g := mkF m pc Ls (.int j :: .ref a :: S)) rfl rfl (hb hby hd) t st⟩) K
theorem Wp.iaload {kA : ClassId} {z j : Int32} {vs : List Value} {dv : Value} (V : Arv Z h a kA .int z vs dv) (h1 : ¬ j < 0) (h2 : j < z) (hv : vs.getD j.toNatClampNeg dv = v) (hd : decode bytes pc = .ok (.iaload, 1)) (hp : pc + 1 = pc') (K : Wp wd l Z a0 EL R y bytes maxL ret hs ws Q h F k n pc' Ls (v :: S)) : Wp wd l Z a0 EL R y bytes maxL ret hs ws Q h F k n pc Ls (.int j :: .ref a :: S) := by
  subst hp
  obtain ⟨cl, A, -, hz1, hz2, H, -⟩ := V
  have hin := inb_of hz1 ⟨h1, h2⟩
  have hat := H.at hin hv
  exact Wp.tab (fun p e s m args below meth c T locs X hx hZ hown hby hml hsh eT hO => ⟨T, X, eT, fun t st => X.iaload hx (by rw [eT]; exact A.1) (State.isArrayOf_alike hZ.alike A.2.1) A.2.2 hin hat (g := mkF m pc Ls (.int j :: .ref a :: S)) rfl rfl (hb hby hd) t st⟩) K
theorem Wp.laload {kA : ClassId} {z j : Int32} {vs : List Value} {dv : Value} (V : Arv Z h a kA .long z vs dv) (h1 : ¬ j < 0) (h2 : j < z) (hv : vs.getD j.toNatClampNeg dv = v) (hd : decode bytes pc = .ok (.laload, 1)) (hp : pc + 1 = pc') (K : Wp wd l Z a0 EL R y bytes maxL ret hs ws Q h F k n pc' Ls (v :: S)) : Wp wd l Z a0 EL R y bytes maxL ret hs ws Q h F k n pc Ls (.int j :: .ref a :: S) := by
  subst hp
  obtain ⟨cl, A, -, hz1, hz2, H, -⟩ := V
  have hin := inb_of hz1 ⟨h1, h2⟩
  have hat := H.at hin hv
  exact Wp.tab (fun p e s m args below meth c T locs X hx hZ hown hby hml hsh eT hO => ⟨T, X, eT, fun t st => X.laload hx (by rw [eT]; exact A.1) (State.isArrayOf_alike hZ.alike A.2.1) A.2.2 hin hat (g := mkF m pc Ls (.int j :: .ref a :: S)) rfl rfl (hb hby hd) t st⟩) K
theorem Wp.baload {kA : ClassId} {z j : Int32} {vs : List Value} {dv : Value} (V : Arv Z h a kA .byte z vs dv) (h1 : ¬ j < 0) (h2 : j < z) (hv : vs.getD j.toNatClampNeg dv = v) (hd : decode bytes pc = .ok (.baload, 1)) (hp : pc + 1 = pc') (K : Wp wd l Z a0 EL R y bytes maxL ret hs ws Q h F k n pc' Ls (v :: S)) : Wp wd l Z a0 EL R y bytes maxL ret hs ws Q h F k n pc Ls (.int j :: .ref a :: S) := by
  subst hp
  obtain ⟨cl, A, -, hz1, hz2, H, -⟩ := V
  have hin := inb_of hz1 ⟨h1, h2⟩
  have hat := H.at hin hv
  exact Wp.tab (fun p e s m args below meth c T locs X hx hZ hown hby hml hsh eT hO => ⟨T, X, eT, fun t st => X.baloadBytes hx (by rw [eT]; exact A.1) (State.isArrayOf_alike hZ.alike A.2.1) A.2.2 hin hat (g := mkF m pc Ls (.int j :: .ref a :: S)) rfl rfl (hb hby hd) t st⟩) K
theorem Wp.aaload {kA : ClassId} {z j : Int32} {vs : List Value} {dv : Value} (V : Arv Z h a kA ty z vs dv) (hty : ty.isReference = true) (h1 : ¬ j < 0) (h2 : j < z) (hv : vs.getD j.toNatClampNeg dv = v) (hd : decode bytes pc = .ok (.aaload, 1)) (hp : pc + 1 = pc') (K : Wp wd l Z a0 EL R y bytes maxL ret hs ws Q h F k n pc' Ls (v :: S)) : Wp wd l Z a0 EL R y bytes maxL ret hs ws Q h F k n pc Ls (.int j :: .ref a :: S) := by
  subst hp
  obtain ⟨cl, A, -, hz1, hz2, H, -⟩ := V
  have hin := inb_of hz1 ⟨h1, h2⟩
  have hat := H.at hin hv
  exact Wp.tab (fun p e s m args below meth c T locs X hx hZ hown hby hml hsh eT hO => ⟨T, X, eT, fun t st => X.aaload hx (by rw [eT]; exact A.1) (State.isArrayOf_alike hZ.alike A.2.1) hty A.2.2 hin hat (g := mkF m pc Ls (.int j :: .ref a :: S)) rfl rfl (hb hby hd) t st⟩) K
theorem Wp.putF {own host : String} {index kk : Nat} {C0 : String} {old : Value} (hown0 : y.cls = own) (lk : (Cond.fieldLink own index C0 nm d).before a0 Z = true ∨ (Cond.fieldLinkNest own index C0 nm d host).before a0 Z = true) (via : Via Z C0 O nm d) (Fl : Fld Z h a O nm d old) (E : Exa Z h a C)
    (L : (Cond.lays C O nm d).before a0 Z = true ∨ ((Cond.laysFinal C O nm d).before a0 Z = true ∧ own = O ∧ y.name = "<init>")) (wi : (Cond.instantiable C kk).before a0 Z = true) (hty : parseFieldDescriptor d = some ty) (hn : narrow ty v = v) (hf : fits ty v = true) (hd : decode bytes pc = .ok (.putfield index, 3)) (hp : pc + 3 = pc')
    (hw : a ∈ ws ∨ hs.size ≤ a) (sf : Sfe Z EL h F a) (K : ∀ h', Wr h h' a (Jvm.RoadKit.slotOf Z O nm d) v → Fld Z h' a O nm d v → Wp wd l Z a0 EL R y bytes maxL ret hs ws Q h' F k n pc' Ls S) : Wp wd l Z a0 EL R y bytes maxL ret hs ws Q h F k n pc Ls (v :: .ref a :: S) := by
  subst hp hown0
  exact Wp.put hw sf (fun p e s m args below meth c T locs X hx hZ hown hby hnm eT => Jvm.RoadKit.putF X hx hZ hown lk via eT Fl E (L.imp id fun q => ⟨q.1, q.2.1, hnm.trans q.2.2⟩) wi hty hn hf (g := mkF m pc Ls (v :: .ref a :: S)) rfl rfl (hb hby hd)) (fun h' W => K h' W (Fl.same W))
theorem Wp.putFN {own : String} {index kk : Nat} {C0 : String} {old v' : Value} (hown0 : y.cls = own) (lk : (Cond.fieldLink own index C0 nm d).before a0 Z = true) (via : Via Z C0 O nm d) (Fl : Fld Z h a O nm d old) (E : Exa Z h a C)
    (L : (Cond.lays C O nm d).before a0 Z = true ∨ ((Cond.laysFinal C O nm d).before a0 Z = true ∧ own = O ∧ y.name = "<init>")) (wi : (Cond.instantiable C kk).before a0 Z = true) (hty : parseFieldDescriptor d = some ty) (hn : narrow ty v = v') (hf : fits ty v' = true) (hd : decode bytes pc = .ok (.putfield index, 3)) (hp : pc + 3 = pc')
    (hw : a ∈ ws ∨ hs.size ≤ a) (sf : Sfe Z EL h F a) (K : ∀ h', Wr h h' a (Jvm.RoadKit.slotOf Z O nm d) v' → Fld Z h' a O nm d v' → Wp wd l Z a0 EL R y bytes maxL ret hs ws Q h' F k n pc' Ls S) : Wp wd l Z a0 EL R y bytes maxL ret hs ws Q h F k n pc Ls (v :: .ref a :: S) := by
  subst hp hown0
  exact Wp.put hw sf (fun p e s m args below meth c T locs X hx hZ hown hby hnm eT => Jvm.RoadKit.putFN X hx hZ hown lk via eT Fl E (L.imp id fun q => ⟨q.1, q.2.1, hnm.trans q.2.2⟩) wi hty hn hf (g := mkF m pc Ls (v :: .ref a :: S)) rfl rfl (hb hby hd)) (fun h' W => K h' W (Fl.same W))
theorem Wp.castore {kA : ClassId} {z j x : Int32} {vs : List Value} {dv : Value} {i : Nat} (V : Arv Z h a kA .char z vs dv) (h1 : ¬ j < 0) (h2 : j < z) (hj : j.toNatClampNeg = i) (hi : i < vs.length) (hd : decode bytes pc = .ok (.castore, 1)) (hp : pc + 1 = pc')
    (hw : a ∈ ws ∨ hs.size ≤ a) (K : ∀ h', Wr h h' a j.toNatClampNeg (.int (nar .char x)) → Arv Z h' a kA .char z (vs.set i (.int (nar .char x))) dv → Wp wd l Z a0 EL R y bytes maxL ret hs ws Q h' F k n pc' Ls S) : Wp wd l Z a0 EL R y bytes maxL ret hs ws Q h F k n pc Ls (.int x :: .int j :: .ref a :: S) := by
  subst hp
  obtain ⟨cl, A, hz0, hz1, hz2, H, G⟩ := V
  have hin := inb_of hz1 ⟨h1, h2⟩
  exact Wp.put hw (Sfe.arr A (by decide)) (fun p e s m args below meth c T locs X hx hZ hown hby hnm eT => Jvm.RoadKit.stC X hx hZ eT A hin (g := mkF m pc Ls (.int x :: .int j :: .ref a :: S)) rfl rfl (hb hby hd)) (fun h' W => K h' W (Arv.set A hz0 hz1 hz2 H G (fits_nar_char _) W i hj hi))
theorem Wp.bastore {kA : ClassId} {z j x : Int32} {vs : List Value} {dv : Value} {i : Nat} (V : Arv Z h a kA .byte z vs dv) (h1 : ¬ j < 0) (h2 : j < z) (hj : j.toNatClampNeg = i) (hi : i < vs.length) (hd : decode bytes pc = .ok (.bastore, 1)) (hp : pc + 1 = pc')
    (hw : a ∈ ws ∨ hs.size ≤ a) (sf : Sfe Z EL h F a) (K : ∀ h', Wr h h' a j.toNatClampNeg (.int (nar .byte x)) → Arv Z h' a kA .byte z (vs.set i (.int (nar .byte x))) dv → Wp wd l Z a0 EL R y bytes maxL ret hs ws Q h' F k n pc' Ls S) : Wp wd l Z a0 EL R y bytes maxL ret hs ws Q h F k n pc Ls (.int x :: .int j :: .ref a :: S) := by
  subst hp
  obtain ⟨cl, A, hz0, hz1, hz2, H, G⟩ := V
  have hin := inb_of hz1 ⟨h1, h2⟩
  exact Wp.put hw sf (fun p e s m args below meth c T locs X hx hZ hown hby hnm eT => Jvm.RoadKit.stB X hx hZ eT A hin (g := mkF m pc Ls (.int x :: .int j :: .ref a :: S)) rfl rfl (hb hby hd)) (fun h' W => K h' W (Arv.set A hz0 hz1 hz2 H G (fits_nar_byte _) W i hj hi))
theorem Wp.iastore {kA : ClassId} {z j x : Int32} {vs : List Value} {dv : Value} {i : Nat} (V : Arv Z h a kA .int z vs dv) (h1 : ¬ j < 0) (h2 : j < z) (hj : j.toNatClampNeg = i) (hi : i < vs.length) (hd : decode bytes pc = .ok (.iastore, 1)) (hp : pc + 1 = pc')
    (hw : a ∈ ws ∨ hs.size ≤ a) (K : ∀ h', Wr h h' a j.toNatClampNeg (.int x) → Arv Z h' a kA .int z (vs.set i (.int x)) dv → Wp wd l Z a0 EL R y bytes maxL ret hs ws Q h' F k n pc' Ls S) : Wp wd l Z a0 EL R y bytes maxL ret hs ws Q h F k n pc Ls (.int x :: .int j :: .ref a :: S) := by
  subst hp
  obtain ⟨cl, A, hz0, hz1, hz2, H, G⟩ := V
  have hin := inb_of hz1 ⟨h1, h2⟩
  exact Wp.put hw (Sfe.arr A (by decide)) (fun p e s m args below meth c T locs X hx hZ hown hby hnm eT => Jvm.RoadKit.stI X hx hZ eT A hin (g := mkF m pc Ls (.int x :: .int j :: .ref a :: S)) rfl rfl (hb hby hd)) (fun h' W => K h' W (Arv.set A hz0 hz1 hz2 H G rfl W i hj hi))
theorem Wp.lastore {kA : ClassId} {z j : Int32} {x : Int64} {vs : List Value} {dv : Value} {i : Nat} (V : Arv Z h a kA .long z vs dv) (h1 : ¬ j < 0) (h2 : j < z) (hj : j.toNatClampNeg = i) (hi : i < vs.length) (hd : decode bytes pc = .ok (.lastore, 1)) (hp : pc + 1 = pc')
    (hw : a ∈ ws ∨ hs.size ≤ a) (K : ∀ h', Wr h h' a j.toNatClampNeg (.long x) → Arv Z h' a kA .long z (vs.set i (.long x)) dv → Wp wd l Z a0 EL R y bytes maxL ret hs ws Q h' F k n pc' Ls S) : Wp wd l Z a0 EL R y bytes maxL ret hs ws Q h F k n pc Ls (.long x :: .int j :: .ref a :: S) := by
  subst hp
  obtain ⟨cl, A, hz0, hz1, hz2, H, G⟩ := V
  have hin := inb_of hz1 ⟨h1, h2⟩
  exact Wp.put hw (Sfe.arr A (by decide)) (fun p e s m args below meth c T locs X hx hZ hown hby hnm eT => Jvm.RoadKit.stJ X hx hZ eT A hin (g := mkF m pc Ls (.long x :: .int j :: .ref a :: S)) rfl rfl (hb hby hd)) (fun h' W => K h' W (Arv.set A hz0 hz1 hz2 H G rfl W i hj hi))
theorem Wp.aastore {kA : ClassId} {z j : Int32} {vs : List Value} {dv : Value} {i : Nat} (V : Arv Z h a kA ty z vs dv) (hty : ty.isReference = true) (hby0 : ty ≠ .byte) (hfit : fits ty v = true) (St : v = .null ∨ ∃ D y', v = .ref y' ∧ Ovr Z kA D ∧ Ins Z h y' D true) (h1 : ¬ j < 0) (h2 : j < z) (hj : j.toNatClampNeg = i) (hi : i < vs.length) (hd : decode bytes pc = .ok (.aastore, 1)) (hp : pc + 1 = pc')
    (hw : a ∈ ws ∨ hs.size ≤ a) (K : ∀ h', Wr h h' a j.toNatClampNeg v → Arv Z h' a kA ty z (vs.set i v) dv → Wp wd l Z a0 EL R y bytes maxL ret hs ws Q h' F k n pc' Ls S) : Wp wd l Z a0 EL R y bytes maxL ret hs ws Q h F k n pc Ls (v :: .int j :: .ref a :: S) := by
  subst hp
  obtain ⟨cl, A, hz0, hz1, hz2, H, G⟩ := V
  have hin := inb_of hz1 ⟨h1, h2⟩
  have hSt : Sto Z h a v := by
    rcases St with rfl | ⟨D, y', rfl, Ov, I⟩
    · exact Or.inl rfl
    · exact Sto.ofV A hz0 Ov I
  exact Wp.put hw (Sfe.arr A hby0) (fun p e s m args below meth c T locs X hx hZ hown hby hnm eT => Jvm.RoadKit.stR X hx hZ eT A hin hty hSt (g := mkF m pc Ls (v :: .int j :: .ref a :: S)) rfl rfl (hb hby hd)) (fun h' W => K h' W (Arv.set A hz0 hz1 hz2 H G hfit W i hj hi))
theorem Wp.new {own : String} {index : Nat} (hown0 : y.cls = own) (lk : (Cond.classLink own index C).before a0 Z = true) (wi : (Cond.instantiable C sl).before a0 Z = true) (wz : (Cond.initialized C).before a0 Z = true) (hd : decode bytes pc = .ok (.new index, 3)) (hp : pc + 3 = pc') (hk : k + 1 = k') (hn : n + sl = n') (hk' : k' ≤ R.cells) (hn' : n' ≤ R.slots)
    (K : ∀ h' b, b = h.size → hs.size ≤ b → Ext h h' → Exa Z h' b C → (∀ {O nm d : String} {ty : FieldType}, Laid Z a0 C O nm d → parseFieldDescriptor d = some ty → Fld Z h' b O nm d (defaultValue ty)) → Wp wd l Z a0 EL R y bytes maxL ret hs ws Q h' (b :: F) k' n' pc' Ls (.ref b :: S)) : Wp wd l Z a0 EL R y bytes maxL ret hs ws Q h F k n pc Ls S := by
  subst hp hown0 hk hn
  exact Wp.mk (fun h' => Exa Z h' h.size C ∧ ∀ {O nm d : String} {ty : FieldType}, Laid Z a0 C O nm d → parseFieldDescriptor d = some ty → Fld Z h' h.size O nm d (defaultValue ty)) (fun h' q => q.1.lt)
    (fun p e s m args below meth c T locs X hx hZ hown hby eT => by obtain ⟨T', h', X', e', E, A, D, -, st⟩ := Jvm.RoadKit.newO X hx hZ hown lk wi wz eT (g := mkF m pc Ls S) rfl (hb hby hd) hk' hn'; exact ⟨T', h', X', e', E, ⟨A, D⟩, st⟩) (fun h' z E q => K h' _ rfl z E q.1 q.2)
theorem Wp.newP {aty : ArrayType} {z : Int32} {cap : Nat} (wa : (Cond.arrayClass (newarray.typeOf aty)).before a0 Z = true) (hz : ¬ z < 0) (hcap : z.toNatClampNeg ≤ cap) (hb8 : cap * 8 ≤ 536870912) (hd : decode bytes pc = .ok (.newarray aty, 2)) (hp : pc + 2 = pc') (hk : k + 1 = k') (hn : n + cap = n') (hk' : k' ≤ R.cells) (hn' : n' ≤ R.slots)
    (K : ∀ h' b kA, b = h.size → hs.size ≤ b → Ext h h' → Arv Z h' b kA (newarray.typeOf aty) z [] (defaultValue (newarray.typeOf aty)) → Wp wd l Z a0 EL R y bytes maxL ret hs ws Q h' (b :: F) k' n' pc' Ls (.ref b :: S)) : Wp wd l Z a0 EL R y bytes maxL ret hs ws Q h F k n pc Ls (.int z :: S) := by
  subst hp hk hn
  exact Wp.mk (fun h' => ∃ kA, Arv Z h' h.size kA (newarray.typeOf aty) z [] (defaultValue (newarray.typeOf aty))) (fun h' q => q.elim fun _ A => A.lt)
    (fun p e s m args below meth c T locs X hx hZ hown hby eT => by obtain ⟨T', h', kA, X', e', E, A, st⟩ := Jvm.RoadKit.newP X hx hZ wa eT (g := mkF m pc Ls (.int z :: S)) rfl (hb hby hd) rfl hz hcap hb8 hk' hn'; exact ⟨T', h', X', e', E, ⟨kA, Arv.new A hz⟩, st⟩) (fun h' z E q => q.elim fun kA A => K h' _ kA rfl z E A)
theorem Wp.newR {own : String} {index : Nat} {z : Int32} {cap : Nat} (hown0 : y.cls = own) (lk : (Cond.classLink own index C).before a0 Z = true) (wa : (Cond.arrayOver (.object C)).before a0 Z = true) (hz : ¬ z < 0) (hcap : z.toNatClampNeg ≤ cap) (hb8 : cap * 8 ≤ 536870912) (hd : decode bytes pc = .ok (.anewarray index, 3)) (hp : pc + 3 = pc') (hk : k + 1 = k') (hn : n + cap = n') (hk' : k' ≤ R.cells) (hn' : n' ≤ R.slots)
    (K : ∀ h' b kA, b = h.size → hs.size ≤ b → Ext h h' → Arv Z h' b kA (.object C) z [] .null → Ovr Z kA C → Wp wd l Z a0 EL R y bytes maxL ret hs ws Q h' (b :: F) k' n' pc' Ls (.ref b :: S)) : Wp wd l Z a0 EL R y bytes maxL ret hs ws Q h F k n pc Ls (.int z :: S) := by
  subst hp hk hn hown0
  exact Wp.mk (fun h' => ∃ kA, Arv Z h' h.size kA (.object C) z [] .null ∧ Ovr Z kA C) (fun h' q => q.elim fun _ A => A.1.lt)
    (fun p e s m args below meth c T locs X hx hZ hown hby eT => by obtain ⟨T', h', kA, X', e', E, A, Ov, st⟩ := Jvm.RoadKit.newR X hx hZ hown lk wa eT (g := mkF m pc Ls (.int z :: S)) rfl (hb hby hd) rfl hz hcap hb8 hk' hn'; exact ⟨T', h', X', e', E, ⟨kA, Arv.new A hz, Ov⟩, st⟩) (fun h' z E q => q.elim fun kA A => K h' _ kA rfl z E A.1 A.2)
theorem Wp.retn (hr : ret = none) (hd : decode bytes pc = .ok (.return_, 1)) (hk : k ≤ R.cells) (hn : n ≤ R.slots) (hQ : Q none h) : Wp wd l Z a0 EL R y bytes maxL ret hs ws Q h F k n pc Ls [] :=
  Wp.leave hk hn (fun _ => rfl) hQ (fun p e s m args below meth c T locs fs X hx hby hret hl => X.returnOut hx (hret.trans hr) (hb hby hd) hl)
theorem Wp.retN {t : FieldType} {x x' : Int32} (hr : ret = some t) (ht : t = .boolean ∨ t = .byte ∨ t = .char ∨ t = .short) (hx' : nar t x = x') (hd : decode bytes pc = .ok (.ireturn, 1)) (hk : k ≤ R.cells) (hn : n ≤ R.slots) (hQ : Q (some (.int x')) h) : Wp wd l Z a0 EL R y bytes maxL ret hs ws Q h F k n pc Ls (.int x :: S) := by
  subst hx'
  exact Wp.leave hk hn (fun q => by rw [hr] at q; cases q) hQ (fun p e s m args below meth c T locs fs X hx hby hret hl => Jvm.RoadKit.retN X hx (hret.trans hr) ht (hb hby hd) hl)
theorem Wp.retV {i : Instr} {t : FieldType} (hr : ret = some t) (hn' : narrow t v = v) (hi : (i = .ireturn ∧ (t = .int ∨ t = .boolean ∨ t = .byte ∨ t = .char ∨ t = .short) ∧ ∃ z, v = .int z) ∨ (i = .lreturn ∧ t = .long ∧ ∃ z, v = .long z) ∨ (i = .dreturn ∧ t = .double ∧ ∃ z, v = .double z) ∨ (i = .freturn ∧ t = .float ∧ ∃ z, v = .float z) ∨ (i = .areturn ∧ t.isReference = true ∧ v.isRef = true))
    (hd : decode bytes pc = .ok (i, 1)) (hk : k ≤ R.cells) (hn : n ≤ R.slots) (hQ : Q (some v) h) : Wp wd l Z a0 EL R y bytes maxL ret hs ws Q h F k n pc Ls (v :: S) :=
  Wp.leave hk hn (fun q => by rw [hr] at q; cases q) hQ (fun p e s m args below meth c T locs fs X hx hby hret hl => Jvm.RoadKit.retOut X hx (hret.trans hr) hn' hi (hb hby hd) hl)
theorem Wp.retI {x : Int32} (hr : ret = some .int) (hd : decode bytes pc = .ok (.ireturn, 1)) (hk : k ≤ R.cells) (hn : n ≤ R.slots) (hQ : Q (some (.int x)) h) : Wp wd l Z a0 EL R y bytes maxL ret hs ws Q h F k n pc Ls (.int x :: S) :=
  Wp.retV hr rfl (Or.inl ⟨rfl, Or.inl rfl, _, rfl⟩) hd hk hn hQ
theorem Wp.retL {x : Int64} (hr : ret = some .long) (hd : decode bytes pc = .ok (.lreturn, 1)) (hk : k ≤ R.cells) (hn : n ≤ R.slots) (hQ : Q (some (.long x)) h) : Wp wd l Z a0 EL R y bytes maxL ret hs ws Q h F k n pc Ls (.long x :: S) :=
  Wp.retV hr rfl (Or.inr (Or.inl ⟨rfl, rfl, _, rfl⟩)) hd hk hn hQ
theorem Wp.retA {t : FieldType} (hr : ret = some t) (ht : t.isReference = true) (hv : v.isRef = true) (hd : decode bytes pc = .ok (.areturn, 1)) (hk : k ≤ R.cells) (hn : n ≤ R.slots) (hQ : Q (some v) h) : Wp wd l Z a0 EL R y bytes maxL ret hs ws Q h F k n pc Ls (v :: S) :=
  Wp.retV hr (by cases t <;> first | rfl | cases ht) (Or.inr (Or.inr (Or.inr (Or.inr ⟨rfl, ht, hv⟩)))) hd hk hn hQ
end Rules
end Jvm.Own
namespace Jvm.Own
open Sem ClassFile Op Lib Jvm.Stand Jvm.Free Jvm.LawKit Jvm.RoadKit
section Calls
variable {wd : Bool} {l : Launch} {Z : State} {EL : List (String × Nat)} {R : Room} {y : MethodName} {bytes : ByteArray} {maxL : Nat} {ret : Option FieldType} {hs : Heap} {ws : List Addr} {Q : Option Value → Heap → Prop} {h h' : Heap} {F F' : List Addr} {k n k' n' pc pc' pc1 : Nat} {Ls Ls' : Array Slot} {S S' : List Value}
variable {a0 : Array Value} {a b : Addr} {C O nm d : String} {v w : Value} {sl : Nat} {cl : Cell} {ty : FieldType}
variable {y' : MethodName} {bytes' : ByteArray} {maxL' : Nat} {ret' : Option FieldType} {rm : Room} {as : Array Value} {Fc wc : List Addr} {Qc : Option Value → Heap → Prop}
theorem mvMN {s : State} {args : Array Value} {own host : String} {idx : Nat} (hZ : Z.Warmed39 s.vm) (w : (Cond.methodLinkNest own idx y' host).before a0 Z = true) : (Cond.methodLinkNest own idx y' host).before args s = true := (Cond.methodLinkNest_wide hZ w :)
/-- a body's contract, from its walk -/
theorem Ct.of_wp {cw : List Cond} (hpl : plainFor y = true) (hE : EW Z a0 EL) (hO : Ext Z.heap h) (hws : ∀ x ∈ ws, Z.heap.size ≤ x) (hef : ∀ m, entryFrame m as maxL = mkF m 0 Ls []) (K : Wp wd l Z a0 EL rm y bytes maxL ret h ws Q h F 0 0 0 Ls []) : Ct wd l Z EL cw y bytes maxL ret rm as h F ws Q := by
  refine MetFree.of_bodySF (code := bytes) (maxLocals := maxL) (ret := ret) hpl hisR ?_
  intro p e s m args below meth c s₁ Bd hml0 hP hK
  obtain ⟨rfl, hZ, rfl, hC, hF⟩ := hP
  have e0 : s₁.heap = s.heap := by rw [Bd.state]; rfl
  obtain ⟨v, t, h1, h2, h3, L, r1, r2, r3, r4⟩ := K p e s m args below meth c s.vm s.heap.size s₁ [] ⟨⟨hE, Bd.exec, Bd.bytes, hml0, Bd.returns, (name_of_methodNamed Bd.named Bd.method).1, Bd.notSynchronized⟩, ⟨rfl, hws, hO.1, (fun _ q => nomatch q), hO⟩, ⟨findClass_of_methodNamed Bd.named, (State.WarmedH.refl s).since _, Nat.le_refl _, fun _ => State.WarmedH.refl s, hZ, CHr.refl hC, hF⟩, Stand.of_body Bd, e0⟩
  exact ⟨t, _, castTop (hef m) h1, h2, h3, v, L, rfl, ⟨r1, r2⟩, r3, r4⟩
/-- a contract pays a call -/
theorem Ct.pays {p : Program} {e : Env} {below : List Frame} {s : State} {args : Array Value} {vm0 : Vm} {len W : Nat} (hM : Ct wd l Z EL [] y' bytes' maxL' ret' rm as h Fc wc Qc) (hE : EW Z a0 EL) (hZ : Z.Warmed39 vm0) (wcode : (Cond.code y' bytes' maxL' ret').before a0 Z = true) (wz : (Cond.initialized y'.cls).before a0 Z = true) (hf : rm.frames + 1 ≤ R.frames) (hl : W + (maxL' + 11) + rm.locals ≤ R.locals) (H : CHv Z EL vm0 h) (HF : Sf Z EL vm0 h Fc) :
    BackS l R p e below (s.setVm vm0) args y' len W (fun A a => a = as ∧ A.U.heap = h ∧ A.cells + rm.cells ≤ R.cells ∧ A.slots + rm.slots ≤ R.slots)
      (fun A _ v B => ∃ L, (Wh h wc L ∧ Qc v B.U.heap) ∧ B.locs = A.locs ++ L ∧ B.cells = A.cells + rm.cells ∧ B.slots = A.slots + rm.slots ∧ CHr Z EL vm0 h B.U.vm B.U.heap ∧ Keep h B.U.heap wc ∧ (wd = false → (s.setVm vm0).WarmedH B.U.vm)) :=
  BackS.of_freeW (bytes := bytes') (maxL := maxL') (ret := ret') (E := fun _ first o t L k n => k = rm.cells ∧ n = rm.slots ∧ (∃ v, o = .returned v ∧ Wh first.heap wc L ∧ Qc v t.heap) ∧ CHr Z EL first.vm first.heap t.vm t.heap ∧ Keep first.heap t.heap wc ∧ (wd = false → first.WarmedH t.vm)) hM hf hl
    (fun m meth c A a Y hp => have hU : Z.Warmed39 A.U.vm := wtrans (s := s.setVm vm0) hZ Y.warmed
      ⟨by show (Cond.and _ .tt).before a A.U = true; rw [Cond.before_and, mv hU wcode]; rfl, mv hU wcode, mv hU wz, hp.2.2.1, hp.2.2.2⟩)
    (fun m meth c A a g mk Y hp => ⟨hp.1, wtrans (s := s.setVm vm0) hZ Y.warmed, hp.2.1, (CHv.at Y hZ hE H).1, fun x hx => ⟨(HF x hx).1, CHr.safe (CHv.at Y hZ hE H) (HF x hx).1 (HF x hx).2⟩⟩) (fun _ _ _ _ _ _ _ _ _ => trivial)
    (fun _ first _ t ⟨v, L, h1, h2, h3, h4⟩ => ⟨L, _, _, h4.1, rfl, rfl, ⟨v, h1, h2⟩, h3, (show Keep first.heap t.heap wc from keep_of (T := ({ t with vm := first.vm } : State)) h4.1.2.2.2 h2.1), h4.2⟩)
    (fun m meth c A a g mk v t L k n Y hp _ _ ⟨e1, e2, ⟨v', e3, e4, e5⟩, e6, e7, e8⟩ => by
      cases e3; subst e1 e2
      have eh : (A.U.calling g mk a).heap = h := hp.2.1
      rw [eh] at e4 e6 e7
      exact ⟨L, ⟨e4, e5⟩, rfl, rfl, rfl, (CHv.at Y hZ hE H).trans e6, e7, fun z => State.WarmedH.trans (t := A.U) Y.warmed (e8 z)⟩)
/-- a call, whatever its kind -/
theorem Wp.call {len W : Nat} {rest : List Value} (Cc : Ct wd l Z EL [] y' bytes' maxL' ret' rm as h Fc wc Qc) (wcode : (Cond.code y' bytes' maxL' ret').before a0 Z = true) (wz : (Cond.initialized y'.cls).before a0 Z = true) (hFc : ∀ x ∈ Fc, x ∈ F) (hwc : ∀ x ∈ wc, x ∈ ws ∨ hs.size ≤ x) (hf : rm.frames + 1 ≤ R.frames) (hl : W + (maxL' + 11) + rm.locals ≤ R.locals) (hk : k + rm.cells = k') (hn : n + rm.slots = n') (hk' : k' ≤ R.cells) (hn' : n' ≤ R.slots)
    (law : ∀ (p : Program) (e : Env) (s : State) (m : MethodId) (args : Array Value) (below : List Frame) (meth : Method) (c : Code) (T : State) (locs : List Loc) (Pre : Pt → Array Value → Prop) (Post : Pt → Array Value → Option Value → Pt → Prop), Stand p l e R s m args below meth c T locs k n → p.tables.exec = Jvm.exec → Z.Warmed39 s.vm → s.vm.findClass y.cls = some m.cls → c.code = bytes → c.maxLocals = maxL → T.heap = h →
      BackS l R p e below s args y' len W Pre Post → (∀ vm₁, s.WarmedH vm₁ → Pre ⟨T.setVm vm₁, locs, k, n⟩ as) →
      ∃ (v : Option Value) (vm₁ : Vm) (B : Pt), s.WarmedH vm₁ ∧ Stand p l e R (s.setVm B.U.vm) m args below meth c B.U B.locs B.cells B.slots ∧ s.Since B.U.vm B.U.heap.size ∧ T.heap.size ≤ B.U.heap.size ∧ Post ⟨T.setVm vm₁, locs, k, n⟩ as v B ∧
        Steps p.tables e below (T.setTop (mkF m pc Ls S)) (B.U.setTop (mkF m pc' Ls (v.toList ++ rest))))
    (K : ∀ v h', hs.size ≤ h.size → Keep h h' wc → Qc v h' → Wp wd l Z a0 EL R y bytes maxL ret hs ws Q h' F k' n' pc' Ls (v.toList ++ rest)) : Wp wd l Z a0 EL R y bytes maxL ret hs ws Q h F k n pc Ls S := fun p e s m args below meth c vm0 k0 T locs I => by
  obtain ⟨⟨i1, i2, i3, i4, i5⟩, ⟨q1, q2, q3, q4, q5⟩, ⟨j1, j2, j3, j4, j5, j6, j7⟩, X, eT⟩ := I
  subst hk hn
  obtain ⟨v, vm₁, ⟨U, L', kk, nn⟩, hW₁, X', hS', hgr, ⟨L, ⟨c1, c2⟩, c3, c4, c5, c6, c7, c8⟩, st⟩ := law p e (s.setVm vm0) m args below meth c T locs _ _ X i2 j5 j1 i3 i4 eT (Ct.pays Cc i1 j5 wcode wz hf hl j6.1 fun x hx => j7 x (hFc x hx)) (fun _ _ => ⟨rfl, eT, hk', hn'⟩)
  dsimp only [Pt.U, Pt.locs, Pt.cells, Pt.slots] at X' hS' hgr c2 c3 c4 c5 c6 c7 c8 st
  subst c3 c4 c5
  have hhs : hs.size ≤ h.size := j6.2.1
  have hSin : s.Since U.vm U.heap.size := j2.trans hS' (Nat.le_trans j3 (by rw [← eT]; exact hgr))
  refine (K v U.heap hhs c7 c2 p e s m args below meth c U.vm U.heap.size U _ ⟨⟨i1, i2, i3, i4, i5⟩, ⟨q1, q2, q3, fun z hz => ?_, ext_keep q5 c7 fun x hx => (hwc x hx).elim (q2 x) (Nat.le_trans q3)⟩, ⟨(hS'.1.alike.findClass _ _).trans j1, hSin, Nat.le_refl _, fun z => State.WarmedH.trans (t := s.setVm vm0) (j4 z) (c8 z), State.Warmed39.trans (t := s.setVm vm0) j5 hS'.1, j6.trans c6, fun x hx => ⟨Nat.lt_of_lt_of_le (j7 x hx).1 c7.1, CHr.safe c6 (j7 x hx).1 (j7 x hx).2⟩⟩, X', rfl⟩).back fun t => st.trans
  rcases List.mem_append.mp hz with hz | hz
  · exact q4 z hz
  · rcases c1 z hz with q | q
    · exact hwc _ q
    · exact Or.inr (Nat.le_trans hhs q)

theorem Wp.callS {own : String} {idx W : Nat} {argsL rest : List Value} (hown0 : y.cls = own) (Cc : Ct wd l Z EL [] y' bytes' maxL' ret' rm as h Fc wc Qc) (wl : (Cond.methodLink own idx y').before a0 Z = true) (wst : (Cond.static y').before a0 Z = true) (wcode : (Cond.code y' bytes' maxL' ret').before a0 Z = true) (wz : (Cond.initialized y'.cls).before a0 Z = true) (hy : y'.cls ≠ "java/lang/invoke/MethodHandle" ∧ y'.cls ≠ "java/lang/invoke/VarHandle") (hlen : ∀ sig, parseMethodDescriptor y'.desc = some sig → argsL.length = sig.parameters.length) (hd : decode bytes pc = .ok (.invokestatic idx, 3))
    (hsz : Ls.size = maxL) (hst : S = argsL.reverse ++ rest) (has : argsL.toArray = as) (hW : (rest.map fun v => v.category).sum ≤ W) (hp : pc + 3 = pc') (hFc : ∀ x ∈ Fc, x ∈ F) (hwc : ∀ x ∈ wc, x ∈ ws ∨ hs.size ≤ x) (hf : rm.frames + 1 ≤ R.frames) (hl : W + (maxL' + 11) + rm.locals ≤ R.locals) (hk : k + rm.cells = k') (hn : n + rm.slots = n') (hk' : k' ≤ R.cells) (hn' : n' ≤ R.slots)
    (K : ∀ v h', hs.size ≤ h.size → Keep h h' wc → Qc v h' → Wp wd l Z a0 EL R y bytes maxL ret hs ws Q h' F k' n' pc' Ls (v.toList ++ rest)) : Wp wd l Z a0 EL R y bytes maxL ret hs ws Q h F k n pc Ls S := by
  subst hown0 hst has hp
  exact Wp.call Cc wcode wz hFc hwc hf hl hk hn hk' hn' (fun p e s m args below meth c T locs Pre Post X hx hZ hown hby hml eT hK hpre => callSS X hx hown (mvT hZ wl) (mvT hZ wst) (mvT hZ wz) (mvT hZ wcode) hy hK (g := mkF m pc Ls (argsL.reverse ++ rest)) rfl (by rw [hml]; exact hsz) hlen rfl (by show 2 * 0 + _ ≤ _; omega) (hb hby hd) hpre) K
theorem Wp.callI {own : String} {idx W : Nat} {argsL rest : List Value} (hown0 : y.cls = own) (Cc : Ct wd l Z EL [] y' bytes' maxL' ret' rm as h Fc wc Qc) (hy1 : y'.name = "<init>") (hr' : ret' = none) (wl : (Cond.methodLink own idx y').before a0 Z = true) (wi : (Cond.instanceMethod y').before a0 Z = true) (wcode : (Cond.code y' bytes' maxL' ret').before a0 Z = true) (wz : (Cond.initialized y'.cls).before a0 Z = true) (hy : y'.cls ≠ "java/lang/invoke/MethodHandle" ∧ y'.cls ≠ "java/lang/invoke/VarHandle") (hlen : ∀ sig, parseMethodDescriptor y'.desc = some sig → argsL.length = sig.parameters.length) (hd : decode bytes pc = .ok (.invokespecial idx, 3))
    (hsz : Ls.size = maxL) (hst : S = argsL.reverse ++ .ref a :: rest) (has : (Value.ref a :: argsL).toArray = as) (hW : (rest.map fun v => v.category).sum ≤ W) (hp : pc + 3 = pc') (hFc : ∀ x ∈ Fc, x ∈ F) (hwc : ∀ x ∈ wc, x ∈ ws ∨ hs.size ≤ x) (hf : rm.frames + 1 ≤ R.frames) (hl : W + (maxL' + 11) + rm.locals ≤ R.locals) (hk : k + rm.cells = k') (hn : n + rm.slots = n') (hk' : k' ≤ R.cells) (hn' : n' ≤ R.slots)
    (K : ∀ v h', hs.size ≤ h.size → Keep h h' wc → Qc v h' → Wp wd l Z a0 EL R y bytes maxL ret hs ws Q h' F k' n' pc' Ls (v.toList ++ rest)) : Wp wd l Z a0 EL R y bytes maxL ret hs ws Q h F k n pc Ls S := by
  subst hown0 hst has hp hr'
  exact Wp.call Cc wcode wz hFc hwc hf hl hk hn hk' hn' (fun p e s m args below meth c T locs Pre Post X hx hZ hown hby hml eT hK hpre => X.specialBackS hx hy1 hown (mvT hZ wl) (mvT hZ wi) (mvT hZ wcode) hy hK (g := mkF m pc Ls (argsL.reverse ++ .ref a :: rest)) rfl (by rw [hml]; exact hsz) (Steps.refl _) hlen rfl (by show 2 * 0 + _ ≤ _; omega) (hb hby hd) hpre) K
theorem Wp.callIN {host : String} {own : String} {idx W : Nat} {argsL rest : List Value} (hown0 : y.cls = own) (Cc : Ct wd l Z EL [] y' bytes' maxL' ret' rm as h Fc wc Qc) (hy1 : y'.name = "<init>") (hr' : ret' = none) (wl : (Cond.methodLinkNest own idx y' host).before a0 Z = true) (wi : (Cond.instanceMethod y').before a0 Z = true) (wcode : (Cond.code y' bytes' maxL' ret').before a0 Z = true) (wz : (Cond.initialized y'.cls).before a0 Z = true) (hy : y'.cls ≠ "java/lang/invoke/MethodHandle" ∧ y'.cls ≠ "java/lang/invoke/VarHandle") (hlen : ∀ sig, parseMethodDescriptor y'.desc = some sig → argsL.length = sig.parameters.length) (hd : decode bytes pc = .ok (.invokespecial idx, 3))
    (hsz : Ls.size = maxL) (hst : S = argsL.reverse ++ .ref a :: rest) (has : (Value.ref a :: argsL).toArray = as) (hW : (rest.map fun v => v.category).sum ≤ W) (hp : pc + 3 = pc') (hFc : ∀ x ∈ Fc, x ∈ F) (hwc : ∀ x ∈ wc, x ∈ ws ∨ hs.size ≤ x) (hf : rm.frames + 1 ≤ R.frames) (hl : W + (maxL' + 11) + rm.locals ≤ R.locals) (hk : k + rm.cells = k') (hn : n + rm.slots = n') (hk' : k' ≤ R.cells) (hn' : n' ≤ R.slots)
    (K : ∀ v h', hs.size ≤ h.size → Keep h h' wc → Qc v h' → Wp wd l Z a0 EL R y bytes maxL ret hs ws Q h' F k' n' pc' Ls (v.toList ++ rest)) : Wp wd l Z a0 EL R y bytes maxL ret hs ws Q h F k n pc Ls S := by
  subst hown0 hst has hp hr'
  exact Wp.call Cc wcode wz hFc hwc hf hl hk hn hk' hn' (fun p e s m args below meth c T locs Pre Post X hx hZ hown hby hml eT hK hpre => X.specialBackNestS hx hy1 hown (mvMN hZ wl) (mvT hZ wi) (mvT hZ wcode) hy hK (g := mkF m pc Ls (argsL.reverse ++ .ref a :: rest)) rfl (by rw [hml]; exact hsz) (Steps.refl _) hlen rfl (by show 2 * 0 + _ ≤ _; omega) (hb hby hd) hpre) K
theorem Wp.callV {x' : MethodName} {own : String} {idx W : Nat} {argsL rest : List Value} (hown0 : y.cls = own) (Cc : Ct wd l Z EL [] y' bytes' maxL' ret' rm as h Fc wc Qc) (wl : (Cond.methodLink own idx x').before a0 Z = true) (wd' : (Cond.declares x').before a0 Z = true) (wsel : (Cond.selects C x' y').before a0 Z = true) (wi : (Cond.instanceMethod y').before a0 Z = true) (wcode : (Cond.code y' bytes' maxL' ret').before a0 Z = true) (wz : (Cond.initialized y'.cls).before a0 Z = true) (nf : ∀ s : State, Z.Warmed39 s.vm → NotFace s x') (E : Exa Z h a C) (hy : x'.cls ≠ "java/lang/invoke/MethodHandle" ∧ x'.cls ≠ "java/lang/invoke/VarHandle") (hlen : ∀ sig, parseMethodDescriptor x'.desc = some sig → argsL.length = sig.parameters.length) (hd : decode bytes pc = .ok (.invokevirtual idx, 3))
    (hsz : Ls.size = maxL) (hst : S = argsL.reverse ++ .ref a :: rest) (has : (Value.ref a :: argsL).toArray = as) (hW : (rest.map fun v => v.category).sum ≤ W) (hp : pc + 3 = pc') (hFc : ∀ x ∈ Fc, x ∈ F) (hwc : ∀ x ∈ wc, x ∈ ws ∨ hs.size ≤ x) (hf : rm.frames + 1 ≤ R.frames) (hl : W + (maxL' + 11) + rm.locals ≤ R.locals) (hk : k + rm.cells = k') (hn : n + rm.slots = n') (hk' : k' ≤ R.cells) (hn' : n' ≤ R.slots)
    (K : ∀ v h', hs.size ≤ h.size → Keep h h' wc → Qc v h' → Wp wd l Z a0 EL R y bytes maxL ret hs ws Q h' F k' n' pc' Ls (v.toList ++ rest)) : Wp wd l Z a0 EL R y bytes maxL ret hs ws Q h F k n pc Ls S := by
  subst hown0 hst has hp
  exact Wp.call Cc wcode wz hFc hwc hf hl hk hn hk' hn' (fun p e s m args below meth c T locs Pre Post X hx hZ hown hby hml eT hK hpre => by
    obtain ⟨cq, kq, qa, qb, qc⟩ := isOf (T := T) hZ eT E
    exact X.virtualBackS hx hown (mvT hZ wl) (mvT hZ wd') (nf s hZ) (mvT hZ wsel) (mvT hZ wi) hy hK qa qc (g := mkF m pc Ls (argsL.reverse ++ .ref a :: rest)) rfl (by rw [hml]; exact hsz) (Steps.refl _) hlen rfl (by show 2 * 0 + _ ≤ _; omega) (hb hby hd) hpre) K
theorem nf_sel {x' y'' : MethodName} (hc : C = x'.cls) (wsel : (Cond.selects C x' y'').before a0 Z = true) (s : State) (hZ : Z.Warmed39 s.vm) (h1 : x' = y'') : NotFace s x' := by
  subst h1 hc; exact notFace_of_selects (args := #[]) (mvT hZ wsel)
theorem Wp.callF {x' : MethodName} {count : Nat} {own : String} {idx W : Nat} {argsL rest : List Value} (hown0 : y.cls = own) (Cc : Ct wd l Z EL [] y' bytes' maxL' ret' rm as h Fc wc Qc) (wl : (Cond.methodLink own idx x').before a0 Z = true) (wd' : (Cond.declares x').before a0 Z = true) (wf : (Cond.interfaceMethod x'.cls x'.cls x'.name x'.desc).before a0 Z = true) (wsel : (Cond.selects C x' y').before a0 Z = true) (wi : (Cond.instanceMethod y').before a0 Z = true) (wp : (Cond.publicMethod y').before a0 Z = true) (hfa : ((Cond.interfaceMethod x'.cls x'.cls x'.name x'.desc).onTables && (Cond.interfaceMethod x'.cls x'.cls x'.name x'.desc).keepsFace) = true) (wu : (Cond.unhidden C x'.name x'.desc).before a0 Z = true) (wca : (Cond.castable C x'.cls).before a0 Z = true) (wcode : (Cond.code y' bytes' maxL' ret').before a0 Z = true) (wz : (Cond.initialized y'.cls).before a0 Z = true) (E : Exa Z h a C) (hy : x'.cls ≠ "java/lang/invoke/MethodHandle" ∧ x'.cls ≠ "java/lang/invoke/VarHandle") (hlen : ∀ sig, parseMethodDescriptor x'.desc = some sig → argsL.length = sig.parameters.length) (hd : decode bytes pc = .ok (.invokeinterface idx count, 5))
    (hsz : Ls.size = maxL) (hst : S = argsL.reverse ++ .ref a :: rest) (has : (Value.ref a :: argsL).toArray = as) (hW : (rest.map fun v => v.category).sum ≤ W) (hp : pc + 5 = pc') (hFc : ∀ x ∈ Fc, x ∈ F) (hwc : ∀ x ∈ wc, x ∈ ws ∨ hs.size ≤ x) (hf : rm.frames + 1 ≤ R.frames) (hl : W + (maxL' + 11) + rm.locals ≤ R.locals) (hk : k + rm.cells = k') (hn : n + rm.slots = n') (hk' : k' ≤ R.cells) (hn' : n' ≤ R.slots)
    (K : ∀ v h', hs.size ≤ h.size → Keep h h' wc → Qc v h' → Wp wd l Z a0 EL R y bytes maxL ret hs ws Q h' F k' n' pc' Ls (v.toList ++ rest)) : Wp wd l Z a0 EL R y bytes maxL ret hs ws Q h F k n pc Ls S := by
  subst hown0 hst has hp
  exact Wp.call Cc wcode wz hFc hwc hf hl hk hn hk' hn' (fun p e s m args below meth c T locs Pre Post X hx hZ hown hby hml eT hK hpre => by
    obtain ⟨cq, kq, qa, qb, qc⟩ := isOf (T := T) hZ eT E
    exact X.interfaceBackS hx hown (mvT hZ wl) (mvT hZ wd') (mvT hZ wf hfa) (mvT hZ wsel) (mvT hZ wi) (mvT hZ wp) (mvT hZ wu) (mvT hZ wca) hy hK qa qb qc (g := mkF m pc Ls (argsL.reverse ++ .ref a :: rest)) rfl (by rw [hml]; exact hsz) (Steps.refl _) hlen rfl (by show 2 * 0 + _ ≤ _; omega) (hb hby hd) hpre) K
/-- ldc of a String constant, opaque -/
theorem Wp.ldcO {own text : String} {idx nn : Nat} (hwd : wd = true) (hown0 : y.cls = own) (lk : (Cond.stringLink own idx text).before a0 Z = true) (wS : ∀ d ∈ Bundle.stringAtoms, d.before a0 Z = true) (hd : decode bytes pc = .ok (.ldc idx, 2)) (hp : pc + 2 = pc') (hnn : 4 * text.toList.length ≤ nn) (hbig : nn ≤ 536870912) (hk : k + 2 = k') (hn : n + (nn + 4) = n') (hk' : k' ≤ R.cells) (hn' : n' ≤ R.slots)
    (K : ∀ h' b, Ext h h' → Wp wd l Z a0 EL R y bytes maxL ret hs ws Q h' F k' n' pc' Ls (.ref b :: S)) : Wp wd l Z a0 EL R y bytes maxL ret hs ws Q h F k n pc Ls S := fun p e s m args below meth c vm0 k0 T locs I => by
  obtain ⟨⟨i1, i2, i3, i4, i5⟩, ⟨q1, q2, q3, q4, q5⟩, ⟨j1, j2, j3, j4, j5, j6, j7⟩, X, eT⟩ := I
  subst hk hn hp hown0
  obtain ⟨b, T', h', k1, X', e', E, hS, hk1, hW, hf, hC, -, st⟩ := ldcOH X i2 j5 j1 lk wS eT j2 j3 i1 j6.1 (g := mkF m pc Ls S) rfl (hb i3 hd) hnn hbig hk' hn'
  exact (K h' b E p e s m args below meth c T'.vm k1 T' locs ⟨⟨i1, i2, i3, i4, i5⟩, ⟨q1, q2, q3, q4, Ext.trans q5 E⟩, ⟨hf, hS, hk1, (fun z => by rw [hwd] at z; cases z), hW, j6.trans hC, fun x hx => ⟨Nat.lt_of_lt_of_le (j7 x hx).1 E.1, CHr.safe hC (j7 x hx).1 (j7 x hx).2⟩⟩, X', e'⟩).back st
/-- ldc of a String constant whose text is read -/
theorem Wp.ldcC {own text : String} {idx nn : Nat} {vs : List Value} {z : Int32} (hwd : wd = true) (hown0 : y.cls = own) (lk : (Cond.stringLink own idx text).before a0 Z = true) (wS : ∀ d ∈ Bundle.stringAtoms, d.before a0 Z = true) (hmem : (own, idx) ∈ EL) (ht : (∀ c ∈ text.toList, c.toNat < 256) ∧ text.toList.map (fun c => Value.int (Jvm.Lit.byteI c.toNat.toUInt16)) = vs) (hz : ¬ z < 0) (hl : z.toNatClampNeg = vs.length)
    (hd : decode bytes pc = .ok (.ldc idx, 2)) (hp : pc + 2 = pc') (hnn : 4 * text.toList.length ≤ nn) (hbig : nn ≤ 536870912) (hk : k + 2 = k') (hn : n + (nn + 4) = n') (hk' : k' ≤ R.cells) (hn' : n' ≤ R.slots)
    (K : ∀ h' b c kA, Ext h h' → Exa Z h' b "java/lang/String" → Fld Z h' b "java/lang/String" "coder" "B" (.int 0) → Fld Z h' b "java/lang/String" "value" "[B" (.ref c) → Arv Z h' c kA .byte z vs (.int 0) → (∀ x ∈ F, x ≠ b ∧ x ≠ c) → Wp wd l Z a0 EL R y bytes maxL ret hs ws Q h' F k' n' pc' Ls (.ref b :: S)) : Wp wd l Z a0 EL R y bytes maxL ret hs ws Q h F k n pc Ls S := fun p e s m args below meth c vm0 k0 T locs I => by
  obtain ⟨⟨i1, i2, i3, i4, i5⟩, ⟨q1, q2, q3, q4, q5⟩, ⟨j1, j2, j3, j4, j5, j6, j7⟩, X, eT⟩ := I
  subst hk hn hp hown0
  obtain ⟨b, T', h', k1, cc, kA, X', e', E, hS, hk1, hW, hf, r1, r2, r3, r4, -, -, hC, -, hne, st⟩ := ldcCH X i2 j5 j1 lk wS eT j2 j3 i1 hmem j6.1 ht hz hl (g := mkF m pc Ls S) rfl (hb i3 hd) hnn hbig hk' hn'
  have hSf : Sf Z EL T'.vm h' F := fun x hx => ⟨Nat.lt_of_lt_of_le (j7 x hx).1 E.1, CHr.safe hC (j7 x hx).1 (j7 x hx).2⟩
  exact (K h' b cc kA E r1 r2 r3 r4 (fun x hx => hne x (hSf x hx).2) p e s m args below meth c T'.vm k1 T' locs ⟨⟨i1, i2, i3, i4, i5⟩, ⟨q1, q2, q3, q4, Ext.trans q5 E⟩, ⟨hf, hS, hk1, (fun z => by rw [hwd] at z; cases z), hW, j6.trans hC, hSf⟩, X', e'⟩).back st
end Calls
end Jvm.Own
namespace Jvm.Own
open Sem ClassFile Op Lib Jvm.Stand Jvm.Free Jvm.LawKit Jvm.RoadKit
/-! small naturals as ints -/
theorem on_toInt {i : Nat} (h : i < 2147483648) : (Int32.ofNat i).toInt = i := Int32.toInt_ofNat_of_lt h
theorem on_lt {i n : Nat} (hn : n < 2147483648) (h : i < n) : Int32.ofNat i < Int32.ofNat n := by rw [Int32.lt_iff_toInt_lt, on_toInt (by omega), on_toInt hn]; omega
theorem on_nlt {i n : Nat} (hi : i < 2147483648) (h : n ≤ i) : ¬ Int32.ofNat i < Int32.ofNat n := by rw [Int32.lt_iff_toInt_lt, on_toInt hi, on_toInt (i := n) (by omega)]; omega
theorem on_nneg {i : Nat} (hi : i < 2147483648) : ¬ Int32.ofNat i < 0 := by rw [Int32.lt_iff_toInt_lt, on_toInt hi]; show ¬ ((i : Int) < 0); omega
theorem on_clamp {i : Nat} (hi : i < 2147483648) : (Int32.ofNat i).toNatClampNeg = i := by simp only [Int32.toNatClampNeg, on_toInt hi]; omega
theorem on_succ (i : Nat) : Int32.ofNat i + (1 : Int32) = Int32.ofNat (i + 1) := (Int32.ofNat_add i 1).symm
theorem on_eq {i n : Nat} (hi : i < 2147483648) (hn : n < 2147483648) : Int32.ofNat i = Int32.ofNat n ↔ i = n := by
  rw [← Int32.toInt_inj, on_toInt hi, on_toInt hn]; omega
/-- what the low byte of a char is, as the JVM keeps it -/
def lb (c : Int32) : Int32 := c.toInt8.toInt32
theorem nar_lb (c : Int32) : nar .byte c.toInt8.toInt32 = lb c := by show (c.toInt8.toInt32).toInt8.toInt32 = _; rw [Int8.toInt8_toInt32]; rfl
theorem set_step {f : Int32 → Value} {cs : List Int32} {i j : Nat} {c : Int32} {z v : Value} (hc : cs[i]? = some c) (hv : v = f c) : ((cs.take i).map f ++ List.replicate (j + 1) z).set i v = (cs.take (i + 1)).map f ++ List.replicate j z := by
  obtain ⟨hi, rfl⟩ := List.getElem?_eq_some_iff.mp hc
  have hl : ((cs.take i).map f).length = i := by simp; omega
  rw [List.set_append_right _ _ (by omega), hl, Nat.sub_self, List.replicate_succ, List.set_cons_zero, List.take_add_one, List.map_append, hv, hc]
  simp
/-- an object of C is none of K: neither C nor its only superclass O is K -/
theorem ns_no {Z : State} {a0 : Array Value} {C O K : String} {n : Nat} (w : (Cond.superclass C O).before a0 Z = true) (wr : (Cond.noSuperclass O).before a0 Z = true) (wk : (Cond.instantiable K n).before a0 Z = true) (hn : C ≠ K) (hn2 : O ≠ K) : ∃ c t, Z.vm.findClass C = some c ∧ Z.vm.findClass K = some t ∧ Z.vm.assignable c t = false := by
  obtain ⟨t, kt, g1, g2, g3, g4, -⟩ := Cond.instantiable_spec wk
  have hN : NS Z O K := by
    obtain ⟨c, k, h1, h2, h3, -, -⟩ := Cond.noSuperclass_spec wr
    have ne := ids_ne h1 g1 hn2
    refine ⟨c, t, h1, g1, fun fuel => ?_⟩
    cases fuel with
    | zero => rfl
    | succ f => simp [Vm.isSubclassAux, ne, h2, h3]
  obtain ⟨c, t', h0, g0, n3⟩ := NS.step w hN hn
  cases g1.symm.trans g0
  obtain ⟨p, k, kp, h1, h2, h3, h4, h5, -, h7⟩ := Cond.superclass_spec h0 w
  have ne := ids_ne h0 g0 hn
  have g5 : kt.isInterface = false := (Bool.or_eq_false_iff.mp g4).1
  refine ⟨c, t, h0, g1, ?_⟩
  show Z.vm.assignableAux (255 + 1) c t = false
  simp [Vm.assignableAux, ne, h2, g2, h5, g3, g5, Vm.isSubclass, n3]
section Str
variable {Z : State} {a0 : Array Value} {h h' : Heap} {s w : Addr} {bs : List Int32} {C : String} {n sl : Nat} {v : Value} {k : ClassId} {ty : FieldType} {z : Int32} {vs : List Value} {d : Value}
/-- a Latin-1 String: its bytes, as ints -/
def SL (Z : State) (h : Heap) (s : Addr) (bs : List Int32) : Prop := Exa Z h s "java/lang/String" ∧ Fld Z h s "java/lang/String" "coder" "B" (.int 0) ∧ ∃ b k, Fld Z h s "java/lang/String" "value" "[B" (.ref b) ∧ Arv Z h b k .byte (Int32.ofNat bs.length) (bs.map Value.int) (.int 0)
theorem SL.lt (S : SL Z h s bs) : s < h.size := S.1.lt
theorem SL.ext (S : SL Z h s bs) (E : Ext h h') : SL Z h' s bs := by
  obtain ⟨A, B, b, k, D, G⟩ := S; exact ⟨A.ext E, B.ext E, b, k, D.ext E, G.ext E⟩
theorem SL.keep0 (S : SL Z h s bs) (K : Keep h h' []) : SL Z h' s bs := by
  obtain ⟨A, B, b, k, D, G⟩ := S; exact ⟨A.keep K, B.keep K nin0, b, k, D.keep K nin0, G.keep K nin0⟩
theorem SL.keep1 (S : SL Z h s bs) (K : Keep h h' [w]) (q : s ≠ w) (E : Exa Z h w C) (wi : (Cond.instantiable C n).before a0 Z = true) : SL Z h' s bs := by
  obtain ⟨A, B, b, k, D, G⟩ := S; exact ⟨A.keep K, B.keep K (ninS q nin0), b, k, D.keep K (ninS q nin0), G.keep K (ninS (Ne.symm (Exa.neArv E G wi)) nin0)⟩
theorem SL.wr (S : SL Z h s bs) (W : Wr h h' w sl v) (q : s ≠ w) (E : Exa Z h w C) (wi : (Cond.instantiable C n).before a0 Z = true) : SL Z h' s bs := S.keep1 (Keep.of_wr W) q E wi
theorem Arv.neTy {a b : Addr} {k' : ClassId} {ty' : FieldType} {z' : Int32} {vs' : List Value} {d' : Value} (A : Arv Z h a k ty z vs d) (B : Arv Z h b k' ty' z' vs' d') (q : ty ≠ ty') : a ≠ b := fun e => by
  subst e
  obtain ⟨c, ⟨h1, ⟨-, kk, h2, cm, h3⟩, -⟩, -⟩ := A
  obtain ⟨c', ⟨g1, ⟨-, kk', g2, cm', g3⟩, -⟩, -⟩ := B
  cases h1.symm.trans g1
  cases h2.symm.trans g2
  rw [h3] at g3; injection g3 with _ g3; exact q g3
theorem SL.keepA (S : SL Z h s bs) (K : Keep h h' [w]) (V : Arv Z h w k ty z vs d) (ht : ty ≠ .byte) (wi : (Cond.instantiable "java/lang/String" n).before a0 Z = true) : SL Z h' s bs := by
  obtain ⟨A, B, b, k, D, G⟩ := S
  have q : s ≠ w := Exa.neArv A V wi
  exact ⟨A.keep K, B.keep K (ninS q nin0), b, k, D.keep K (ninS q nin0), G.keep K (ninS (Arv.neTy G V (Ne.symm ht)) nin0)⟩
theorem SL.wrA (S : SL Z h s bs) (W : Wr h h' w sl v) (V : Arv Z h w k ty z vs d) (ht : ty ≠ .byte) (wi : (Cond.instantiable "java/lang/String" n).before a0 Z = true) : SL Z h' s bs := S.keepA (Keep.of_wr W) V ht wi
end Str
end Jvm.Own
namespace Jvm.Own
/-- two lists of one length that are alike up to i, and at i .. -/
theorem take_step {α : Type} {xs ys : List α} {i : Nat} {x y : α} (hx : xs[i]? = some x) (hy : ys[i]? = some y) (h : xs.take i = ys.take i) : (xs.take (i + 1) = ys.take (i + 1)) ↔ x = y := by
  rw [List.take_add_one, List.take_add_one, hx, hy, h]; simp
theorem ne_at {α : Type} {xs ys : List α} {i : Nat} {x y : α} (hx : xs[i]? = some x) (hy : ys[i]? = some y) (h : ¬ x = y) : ¬ xs = ys := fun e => by
  rw [e, hy] at hx; exact h (Option.some.inj hx).symm
theorem ne_len {α : Type} {xs ys : List α} (hx : xs.length < 2147483647) (hy : ys.length < 2147483647) (h : ¬ Int32.ofNat xs.length = Int32.ofNat ys.length) : ¬ xs = ys := fun e => h (by rw [e])
theorem all_take {α : Type} {xs ys : List α} (hl : xs.length = ys.length) (h : xs.take xs.length = ys.take xs.length) : xs = ys := by
  rw [List.take_length] at h; rw [hl, List.take_length] at h; exact h
end Jvm.Own
@@BLOCK:NumsL.lean.txt@@
namespace Jvm.Pilot.@@N@@
open Jvm Jvm.ClassFile Sem Op Lib Jvm.Free Jvm.Stand Jvm.LawKit Jvm.RoadKit Bundle Jvm.Own Jvm.Pilot.@@N@@.Jvm.D
theorem own_idx (x : Int32) : ¬ ((x &&& (2147483647 : Int32)) % (12 : Int32)) < (0 : Int32) ∧ ((x &&& (2147483647 : Int32)) % (12 : Int32)) < (12 : Int32) := by
  have e1 : (x &&& (2147483647 : Int32)).toInt = x.toInt % 2 ^ 31 := Jvm.Kit.i32_mask x 2147483647 (k := 31) (by decide) (by decide)
  have e2 : ((x &&& (2147483647 : Int32)) % (12 : Int32)).toInt = (x.toInt % 2 ^ 31).tmod 12 := by rw [Int32.toInt_mod, e1]; rfl
  have e3 : (x.toInt % 2 ^ 31).tmod 12 = (x.toInt % 2 ^ 31) % 12 := Int.tmod_eq_emod_of_nonneg (by omega)
  rw [e3] at e2
  have e5 : (0 : Int32).toInt = 0 := rfl
  have e6 : (12 : Int32).toInt = 12 := rfl
  constructor <;> rw [Int32.lt_iff_toInt_lt, e2] <;> omega
theorem own_pick {W : List Addr} (hl : W.length = 12) {i : Int32} (h1 : ¬ i < 0) (h2 : i < 12) : ∃ x, W[i.toNatClampNeg]? = some x ∧ x ∈ W ∧ (W.map Value.ref).getD i.toNatClampNeg .null = .ref x := by
  have hn : i.toNatClampNeg < W.length := by
    rw [Int32.lt_iff_toInt_lt] at h1 h2
    have e0 : (0 : Int32).toInt = 0 := rfl
    have e6 : (12 : Int32).toInt = 12 := rfl
    rw [hl]; simp only [Int32.toNatClampNeg]; omega
  exact ⟨W[i.toNatClampNeg], List.getElem?_eq_getElem hn, List.getElem_mem hn, by simp [List.getD_eq_getElem?_getD, hn]⟩
theorem own_inj {W : List Addr} (hd : W.Nodup) {i j : Int32} (h1 : ¬ i < 0) (h2 : ¬ j < 0) {x : Addr} (hi : W[i.toNatClampNeg]? = some x) (hj : W[j.toNatClampNeg]? = some x) : i = j := by
  have hn : i.toNatClampNeg = j.toNatClampNeg := by
    obtain ⟨a1, b1⟩ := List.getElem?_eq_some_iff.mp hi
    obtain ⟨a2, b2⟩ := List.getElem?_eq_some_iff.mp hj
    exact (List.getElem_inj hd).mp (b1.trans b2.symm)
  rw [Int32.lt_iff_toInt_lt] at h1 h2
  have e0 : (0 : Int32).toInt = 0 := rfl
  apply Int32.toInt_inj.mp
  simp only [Int32.toNatClampNeg] at hn
  omega
theorem d1_0 : decode prog_16_method_1_code 0 = .ok (.aload_n 0, 1) := by decide +kernel
theorem d1_1 : decode prog_16_method_1_code 1 = .ok (.invokespecial 1, 3) := by decide +kernel
theorem d1_4 : decode prog_16_method_1_code 4 = .ok (.return_, 1) := by decide +kernel
theorem pn_com_example_portwright_portwright_check_ReferenceRules : plainName "com/example/portwright/portwright/check/ReferenceRules" = true := by first | (simp [plainName, overriddenIn]; done) | decide +kernel
theorem ef_ct1 (m : MethodId) (x0 : Addr) : entryFrame m #[(.ref x0)] 1 = mkF m 0 #[.val (.ref x0)] [] := by first | (simp [entryFrame, mkF, argsToLocals, Value.category]; done) | rfl
set_option maxRecDepth 65536 in
set_option maxHeartbeats 40000000 in
theorem ct1 (l : Launch) (Z : State) (a0 : Array Value) (hw : ∀ d ∈ tables_1, d.before a0 Z = true) (hE : EW Z a0 []) (b : Addr) (h0 : Heap) (hO : Ext Z.heap h0) :
    Ct false l Z [] [] (⟨"com/example/portwright/portwright/check/ReferenceRules", "<init>", "()V"⟩ : MethodName) prog_16_method_1_code 1 none ({ frames := 1, cells := 0, slots := 0, locals := 12 } : Room) #[(.ref b)] h0 [] [] (fun v h => v = none) := by
  refine Ct.of_wp (a0 := a0) (Ls := #[.val (.ref b)]) (plainFor_of_name pn_com_example_portwright_portwright_check_ReferenceRules) hE hO nofun (fun m => ef_ct1 m b) ?_
  refine Wp.aloadN d1_0 (pc' := 1) rfl rfl rfl ?_
  refine Wp.initO (W := 0) rfl (hw _ (List.mem_of_getElem? (i := 7) rfl)) (hw _ (List.mem_of_getElem? (i := 8) rfl)) (hw _ (List.mem_of_getElem? (i := 9) rfl)) d1_1 (pc' := 4) rfl rfl (by decide) (Nat.le_of_eq rfl) (by decide) ?_
  refine Wp.retn rfl d1_4 (by decide) (by decide) ?_
  rfl
theorem d10_0 : decode jdk_22_method_1_code 0 = .ok (.aload_n 0, 1) := by decide +kernel
theorem d10_1 : decode jdk_22_method_1_code 1 = .ok (.invokespecial 1, 3) := by decide +kernel
theorem d10_4 : decode jdk_22_method_1_code 4 = .ok (.return_, 1) := by decide +kernel
theorem pn_java_util_AbstractCollection : plainName "java/util/AbstractCollection" = true := by first | (simp [plainName, overriddenIn]; done) | decide +kernel
theorem ef_ct10 (m : MethodId) (x0 : Addr) : entryFrame m #[(.ref x0)] 1 = mkF m 0 #[.val (.ref x0)] [] := by first | (simp [entryFrame, mkF, argsToLocals, Value.category]; done) | rfl
set_option maxRecDepth 65536 in
set_option maxHeartbeats 40000000 in
theorem ct10 (l : Launch) (Z : State) (a0 : Array Value) (hw : ∀ d ∈ tables_1, d.before a0 Z = true) (hE : EW Z a0 []) (b : Addr) (h0 : Heap) (hO : Ext Z.heap h0) :
    Ct false l Z [] [] (⟨"java/util/AbstractCollection", "<init>", "()V"⟩ : MethodName) jdk_22_method_1_code 1 none ({ frames := 1, cells := 0, slots := 0, locals := 12 } : Room) #[(.ref b)] h0 [] [] (fun v h => v = none) := by
  refine Ct.of_wp (a0 := a0) (Ls := #[.val (.ref b)]) (plainFor_of_name pn_java_util_AbstractCollection) hE hO nofun (fun m => ef_ct10 m b) ?_
  refine Wp.aloadN d10_0 (pc' := 1) rfl rfl rfl ?_
  refine Wp.initO (W := 0) rfl (hw _ (List.mem_of_getElem? (i := 82) rfl)) (hw _ (List.mem_of_getElem? (i := 8) rfl)) (hw _ (List.mem_of_getElem? (i := 9) rfl)) d10_1 (pc' := 4) rfl rfl (by decide) (Nat.le_of_eq rfl) (by decide) ?_
  refine Wp.retn rfl d10_4 (by decide) (by decide) ?_
  rfl
theorem d9_0 : decode jdk_47_method_1_code 0 = .ok (.aload_n 0, 1) := by decide +kernel
theorem d9_1 : decode jdk_47_method_1_code 1 = .ok (.invokespecial 1, 3) := by decide +kernel
theorem d9_4 : decode jdk_47_method_1_code 4 = .ok (.return_, 1) := by decide +kernel
theorem pn_java_util_ImmutableCollections_AbstractImmutableCollection : plainName "java/util/ImmutableCollections$AbstractImmutableCollection" = true := by first | (simp [plainName, overriddenIn]; done) | decide +kernel
theorem ef_ct9 (m : MethodId) (x0 : Addr) : entryFrame m #[(.ref x0)] 1 = mkF m 0 #[.val (.ref x0)] [] := by first | (simp [entryFrame, mkF, argsToLocals, Value.category]; done) | rfl
theorem pd___V : parseMethodDescriptor "()V" = some ⟨[], none⟩ := by decide +kernel
set_option maxRecDepth 65536 in
set_option maxHeartbeats 40000000 in
theorem ct9 (l : Launch) (Z : State) (a0 : Array Value) (hw : ∀ d ∈ tables_1, d.before a0 Z = true) (hE : EW Z a0 []) (b : Addr) (h0 : Heap) (hO : Ext Z.heap h0) :
    Ct false l Z [] [] (⟨"java/util/ImmutableCollections$AbstractImmutableCollection", "<init>", "()V"⟩ : MethodName) jdk_47_method_1_code 1 none ({ frames := 2, cells := 0, slots := 0, locals := 24 } : Room) #[(.ref b)] h0 [] [] (fun v h => v = none) := by
  refine Ct.of_wp (a0 := a0) (Ls := #[.val (.ref b)]) (plainFor_of_name pn_java_util_ImmutableCollections_AbstractImmutableCollection) hE hO nofun (fun m => ef_ct9 m b) ?_
  refine Wp.aloadN d9_0 (pc' := 1) rfl rfl rfl ?_
  refine Wp.old fun hOc => ?_
  refine Wp.callI (a := b) (W := 0) (argsL := []) (rest := []) rfl (ct10 l Z a0 hw hE b h0 hOc) rfl rfl (hw _ (List.mem_of_getElem? (i := 76) rfl)) (hw _ (List.mem_of_getElem? (i := 77) rfl)) (hw _ (List.mem_of_getElem? (i := 81) rfl)) (hw _ (List.mem_of_getElem? (i := 80) rfl)) (by decide) (lenOf pd___V rfl) d9_1 rfl rfl rfl (Nat.le_of_eq rfl) (pc' := 4) rfl nofun nofun (by decide) (by decide) (k' := 0) (n' := 0) rfl rfl (by decide) (by decide) (fun vh1 h1 zh1 Kh1 qh1 => ?_)
  obtain rfl := qh1
  refine Wp.eqS (S' := []) rfl ?_
  refine Wp.retn rfl d9_4 (by decide) (by decide) ?_
  rfl
theorem d8_0 : decode jdk_46_method_1_code 0 = .ok (.aload_n 0, 1) := by decide +kernel
theorem d8_1 : decode jdk_46_method_1_code 1 = .ok (.invokespecial 1, 3) := by decide +kernel
theorem d8_4 : decode jdk_46_method_1_code 4 = .ok (.return_, 1) := by decide +kernel
theorem pn_java_util_ImmutableCollections_AbstractImmutableList : plainName "java/util/ImmutableCollections$AbstractImmutableList" = true := by first | (simp [plainName, overriddenIn]; done) | decide +kernel
theorem ef_ct8 (m : MethodId) (x0 : Addr) : entryFrame m #[(.ref x0)] 1 = mkF m 0 #[.val (.ref x0)] [] := by first | (simp [entryFrame, mkF, argsToLocals, Value.category]; done) | rfl
set_option maxRecDepth 65536 in
set_option maxHeartbeats 40000000 in
theorem ct8 (l : Launch) (Z : State) (a0 : Array Value) (hw : ∀ d ∈ tables_1, d.before a0 Z = true) (hE : EW Z a0 []) (b : Addr) (h0 : Heap) (hO : Ext Z.heap h0) :
    Ct false l Z [] [] (⟨"java/util/ImmutableCollections$AbstractImmutableList", "<init>", "()V"⟩ : MethodName) jdk_46_method_1_code 1 none ({ frames := 3, cells := 0, slots := 0, locals := 36 } : Room) #[(.ref b)] h0 [] [] (fun v h => v = none) := by
  refine Ct.of_wp (a0 := a0) (Ls := #[.val (.ref b)]) (plainFor_of_name pn_java_util_ImmutableCollections_AbstractImmutableList) hE hO nofun (fun m => ef_ct8 m b) ?_
  refine Wp.aloadN d8_0 (pc' := 1) rfl rfl rfl ?_
  refine Wp.old fun hOc => ?_
  refine Wp.callI (a := b) (W := 0) (argsL := []) (rest := []) rfl (ct9 l Z a0 hw hE b h0 hOc) rfl rfl (hw _ (List.mem_of_getElem? (i := 70) rfl)) (hw _ (List.mem_of_getElem? (i := 71) rfl)) (hw _ (List.mem_of_getElem? (i := 75) rfl)) (hw _ (List.mem_of_getElem? (i := 74) rfl)) (by decide) (lenOf pd___V rfl) d8_1 rfl rfl rfl (Nat.le_of_eq rfl) (pc' := 4) rfl nofun nofun (by decide) (by decide) (k' := 0) (n' := 0) rfl rfl (by decide) (by decide) (fun vh1 h1 zh1 Kh1 qh1 => ?_)
  obtain rfl := qh1
  refine Wp.eqS (S' := []) rfl ?_
  refine Wp.retn rfl d8_4 (by decide) (by decide) ?_
  rfl
theorem d7_0 : decode jdk_45_method_1_code 0 = .ok (.aload_n 0, 1) := by decide +kernel
theorem d7_1 : decode jdk_45_method_1_code 1 = .ok (.invokespecial 1, 3) := by decide +kernel
theorem d7_4 : decode jdk_45_method_1_code 4 = .ok (.aload_n 0, 1) := by decide +kernel
theorem d7_5 : decode jdk_45_method_1_code 5 = .ok (.aload_n 1, 1) := by decide +kernel
theorem d7_6 : decode jdk_45_method_1_code 6 = .ok (.putfield 7, 3) := by decide +kernel
theorem d7_9 : decode jdk_45_method_1_code 9 = .ok (.aload_n 0, 1) := by decide +kernel
theorem d7_10 : decode jdk_45_method_1_code 10 = .ok (.iload_n 2, 1) := by decide +kernel
theorem d7_11 : decode jdk_45_method_1_code 11 = .ok (.putfield 13, 3) := by decide +kernel
theorem d7_14 : decode jdk_45_method_1_code 14 = .ok (.return_, 1) := by decide +kernel
theorem pn_java_util_ImmutableCollections_ListN : plainName "java/util/ImmutableCollections$ListN" = true := by first | (simp [plainName, overriddenIn]; done) | decide +kernel
theorem ef_ct7 (m : MethodId) (x0 : Addr) (x1 : Addr) (x2 : Int32) : entryFrame m #[(.ref x0), (.ref x1), (.int x2)] 3 = mkF m 0 #[.val (.ref x0), .val (.ref x1), .val (.int x2)] [] := by first | (simp [entryFrame, mkF, argsToLocals, Value.category]; done) | rfl
set_option maxRecDepth 65536 in
set_option maxHeartbeats 40000000 in
theorem ct7 (l : Launch) (Z : State) (a0 : Array Value) (hw : ∀ d ∈ tables_1, d.before a0 Z = true) (hE : EW Z a0 []) (b e : Addr) (o1 o2 : Value) (h0 : Heap) (hO : Ext Z.heap h0) (hb0 : Z.heap.size ≤ b) (E_b : Exa Z h0 b "java/util/ImmutableCollections$ListN") (F1 : Fld Z h0 b "java/util/ImmutableCollections$ListN" "elements" "[Ljava/lang/Object;" o1) (F2 : Fld Z h0 b "java/util/ImmutableCollections$ListN" "allowNulls" "Z" o2) :
    Ct false l Z [] [] (⟨"java/util/ImmutableCollections$ListN", "<init>", "([Ljava/lang/Object;Z)V"⟩ : MethodName) jdk_45_method_1_code 3 none ({ frames := 4, cells := 0, slots := 0, locals := 48 } : Room) #[(.ref b), (.ref e), (.int (0 : Int32))] h0 [] [b] (fun v h => v = none ∧ Fld Z h b "java/util/ImmutableCollections$ListN" "elements" "[Ljava/lang/Object;" (.ref e)) := by
  refine Ct.of_wp (a0 := a0) (Ls := #[.val (.ref b), .val (.ref e), .val (.int (0 : Int32))]) (plainFor_of_name pn_java_util_ImmutableCollections_ListN) hE hO (by intro x hx; cases List.mem_singleton.mp hx; exact hb0) (fun m => ef_ct7 m b e (0 : Int32)) ?_
  refine Wp.aloadN d7_0 (pc' := 1) rfl rfl rfl ?_
  refine Wp.old fun hOc => ?_
  refine Wp.callI (a := b) (W := 0) (argsL := []) (rest := []) rfl (ct8 l Z a0 hw hE b h0 hOc) rfl rfl (hw _ (List.mem_of_getElem? (i := 64) rfl)) (hw _ (List.mem_of_getElem? (i := 65) rfl)) (hw _ (List.mem_of_getElem? (i := 69) rfl)) (hw _ (List.mem_of_getElem? (i := 68) rfl)) (by decide) (lenOf pd___V rfl) d7_1 rfl rfl rfl (Nat.le_of_eq rfl) (pc' := 4) rfl nofun nofun (by decide) (by decide) (k' := 0) (n' := 0) rfl rfl (by decide) (by decide) (fun vh1 h1 zh1 Kh1 qh1 => ?_)
  obtain rfl := qh1
  replace E_b := E_b.keep Kh1
  replace F1 := F1.keep Kh1 nin0
  replace F2 := F2.keep Kh1 nin0
  refine Wp.eqS (S' := []) rfl ?_
  refine Wp.aloadN d7_4 (pc' := 5) rfl rfl rfl ?_
  refine Wp.aloadN d7_5 (pc' := 6) rfl rfl rfl ?_
  refine Wp.putF rfl (host := "") (Or.inl (hw _ (List.mem_of_getElem? (i := 83) rfl))) Via.refl F1 E_b (Or.inr ⟨(hw _ (List.mem_of_getElem? (i := 84) rfl)), rfl, rfl⟩) (hw _ (List.mem_of_getElem? (i := 58) rfl)) (ty := (.array (.object "java/lang/Object"))) (by decide) rfl rfl d7_6 (pc' := 9) rfl (Or.inl (by simp)) (Sfe.exa E_b (by decide) (by decide)) (fun h2 W2 Fh2 => ?_)
  replace E_b := E_b.wr W2
  replace F2 := F2.other W2 (Or.inr (slot_ne (Or.inr (hw _ (List.mem_of_getElem? (i := 86) rfl))) (Or.inr (hw _ (List.mem_of_getElem? (i := 84) rfl))) (by decide) (t := .boolean) (t' := (.array (.object "java/lang/Object"))) (by decide) (by decide)))
  replace F1 := Fh2
  refine Wp.aloadN d7_9 (pc' := 10) rfl rfl rfl ?_
  refine Wp.iloadN d7_10 (pc' := 11) rfl rfl ?_
  refine Wp.putFN rfl (hw _ (List.mem_of_getElem? (i := 85) rfl)) Via.refl F2 E_b (Or.inr ⟨(hw _ (List.mem_of_getElem? (i := 86) rfl)), rfl, rfl⟩) (hw _ (List.mem_of_getElem? (i := 58) rfl)) (ty := .boolean) (v' := .int (0 : Int32)) (by decide) rfl rfl d7_11 (pc' := 14) rfl (Or.inl (by simp)) (Sfe.exa E_b (by decide) (by decide)) (fun h3 W3 Fh3 => ?_)
  replace E_b := E_b.wr W3
  replace F1 := F1.other W3 (Or.inr (slot_ne (Or.inr (hw _ (List.mem_of_getElem? (i := 84) rfl))) (Or.inr (hw _ (List.mem_of_getElem? (i := 86) rfl))) (by decide) (t := (.array (.object "java/lang/Object"))) (t' := .boolean) (by decide) (by decide)))
  replace F2 := Fh3
  refine Wp.retn rfl d7_14 (by decide) (by decide) ?_
  exact ⟨rfl, F1⟩
theorem d6_0 : decode jdk_31_method_10_code 0 = .ok (.aload_n 0, 1) := by decide +kernel
theorem d6_1 : decode jdk_31_method_10_code 1 = .ok (.ifnonnull 11, 3) := by decide +kernel
theorem d6_4 : decode jdk_31_method_10_code 4 = .ok (.new 84, 3) := by decide +kernel
theorem d6_7 : decode jdk_31_method_10_code 7 = .ok (.dup, 1) := by decide +kernel
theorem d6_8 : decode jdk_31_method_10_code 8 = .ok (.invokespecial 86, 3) := by decide +kernel
theorem d6_11 : decode jdk_31_method_10_code 11 = .ok (.athrow, 1) := by decide +kernel
theorem d6_12 : decode jdk_31_method_10_code 12 = .ok (.aload_n 0, 1) := by decide +kernel
theorem d6_13 : decode jdk_31_method_10_code 13 = .ok (.areturn, 1) := by decide +kernel
theorem pn_java_util_Objects : plainName "java/util/Objects" = true := by first | (simp [plainName, overriddenIn]; done) | decide +kernel
theorem ef_ct6 (m : MethodId) (x0 : Addr) : entryFrame m #[(.ref x0)] 1 = mkF m 0 #[.val (.ref x0)] [] := by first | (simp [entryFrame, mkF, argsToLocals, Value.category]; done) | rfl
set_option maxRecDepth 65536 in
set_option maxHeartbeats 40000000 in
theorem ct6 (l : Launch) (Z : State) (a0 : Array Value) (hw : ∀ d ∈ tables_1, d.before a0 Z = true) (hE : EW Z a0 []) (a : Addr) (h0 : Heap) (hO : Ext Z.heap h0) :
    Ct false l Z [] [] (⟨"java/util/Objects", "requireNonNull", "(Ljava/lang/Object;)Ljava/lang/Object;"⟩ : MethodName) jdk_31_method_10_code 1 (some (.object "java/lang/Object")) ({ frames := 0, cells := 0, slots := 0, locals := 0 } : Room) #[(.ref a)] h0 [] [] (fun v h => v = some (.ref a)) := by
  refine Ct.of_wp (a0 := a0) (Ls := #[.val (.ref a)]) (plainFor_of_name pn_java_util_Objects) hE hO nofun (fun m => ef_ct6 m a) ?_
  refine Wp.aloadN d6_0 (pc' := 1) rfl rfl rfl ?_
  refine Wp.ifnonnullYes (pc' := 12) d6_1 (by decide) (by decide) ?_
  refine Wp.aloadN d6_12 (pc' := 13) rfl rfl rfl ?_
  refine Wp.retA rfl rfl rfl d6_13 (by decide) (by decide) ?_
  rfl
theorem d5_0 : decode jdk_56_method_4_code 0 = .ok (.aload_n 0, 1) := by decide +kernel
theorem d5_1 : decode jdk_56_method_4_code 1 = .ok (.arraylength, 1) := by decide +kernel
theorem d5_2 : decode jdk_56_method_4_code 2 = .ok (.anewarray 2, 3) := by decide +kernel
theorem d5_5 : decode jdk_56_method_4_code 5 = .ok (.astore_n 1, 1) := by decide +kernel
theorem d5_6 : decode jdk_56_method_4_code 6 = .ok (.iconst 0, 1) := by decide +kernel
theorem d5_7 : decode jdk_56_method_4_code 7 = .ok (.istore_n 2, 1) := by decide +kernel
theorem d5_8 : decode jdk_56_method_4_code 8 = .ok (.iload_n 2, 1) := by decide +kernel
theorem d5_9 : decode jdk_56_method_4_code 9 = .ok (.aload_n 0, 1) := by decide +kernel
theorem d5_10 : decode jdk_56_method_4_code 10 = .ok (.arraylength, 1) := by decide +kernel
theorem d5_11 : decode jdk_56_method_4_code 11 = .ok (.if_icmp .ge 18, 3) := by decide +kernel
theorem d5_14 : decode jdk_56_method_4_code 14 = .ok (.aload_n 1, 1) := by decide +kernel
theorem d5_15 : decode jdk_56_method_4_code 15 = .ok (.iload_n 2, 1) := by decide +kernel
theorem d5_16 : decode jdk_56_method_4_code 16 = .ok (.aload_n 0, 1) := by decide +kernel
theorem d5_17 : decode jdk_56_method_4_code 17 = .ok (.iload_n 2, 1) := by decide +kernel
theorem d5_18 : decode jdk_56_method_4_code 18 = .ok (.aaload, 1) := by decide +kernel
theorem d5_19 : decode jdk_56_method_4_code 19 = .ok (.invokestatic 37, 3) := by decide +kernel
theorem d5_22 : decode jdk_56_method_4_code 22 = .ok (.aastore, 1) := by decide +kernel
theorem d5_23 : decode jdk_56_method_4_code 23 = .ok (.iinc 2 1, 3) := by decide +kernel
theorem d5_26 : decode jdk_56_method_4_code 26 = .ok (.goto (-18), 3) := by decide +kernel
theorem d5_29 : decode jdk_56_method_4_code 29 = .ok (.new 12, 3) := by decide +kernel
theorem d5_32 : decode jdk_56_method_4_code 32 = .ok (.dup, 1) := by decide +kernel
theorem d5_33 : decode jdk_56_method_4_code 33 = .ok (.aload_n 1, 1) := by decide +kernel
theorem d5_34 : decode jdk_56_method_4_code 34 = .ok (.iconst 0, 1) := by decide +kernel
theorem d5_35 : decode jdk_56_method_4_code 35 = .ok (.invokespecial 43, 3) := by decide +kernel
theorem d5_38 : decode jdk_56_method_4_code 38 = .ok (.areturn, 1) := by decide +kernel
theorem pn_java_util_ImmutableCollections : plainName "java/util/ImmutableCollections" = true := by first | (simp [plainName, overriddenIn]; done) | decide +kernel
theorem ef_ct5 (m : MethodId) (x0 : Addr) : entryFrame m #[(.ref x0)] 3 = mkF m 0 #[.val (.ref x0), .unset, .unset] [] := by first | (simp [entryFrame, mkF, argsToLocals, Value.category]; done) | rfl
theorem pd__Ljava_lang_Object__Ljava_lang_Object_ : parseMethodDescriptor "(Ljava/lang/Object;)Ljava/lang/Object;" = some ⟨[(.object "java/lang/Object")], some (.object "java/lang/Object")⟩ := by decide +kernel
theorem pd___Ljava_lang_Object_Z_V : parseMethodDescriptor "([Ljava/lang/Object;Z)V" = some ⟨[(.array (.object "java/lang/Object")), .boolean], none⟩ := by decide +kernel
set_option maxRecDepth 65536 in
set_option maxHeartbeats 40000000 in
theorem ct5 (l : Launch) (Z : State) (a0 : Array Value) (hw : ∀ d ∈ tables_1, d.before a0 Z = true) (hE : EW Z a0 []) (e : Addr) (k_e : ClassId) (w_W2001 w_W2002 w_W2003 w_W2004 w_W2005 w_W2006 w_W2007 w_W2008 w_W2009 w_R2101 w_R2102 w_R2206 : Addr) (h0 : Heap) (hO : Ext Z.heap h0) (V_e : Arv Z h0 e k_e (.object "com/example/portwright/portwright/check/Rule") (12 : Int32) [(.ref w_W2001), (.ref w_W2002), (.ref w_W2003), (.ref w_W2004), (.ref w_W2005), (.ref w_W2006), (.ref w_W2007), (.ref w_W2008), (.ref w_W2009), (.ref w_R2101), (.ref w_R2102), (.ref w_R2206)] .null) (X_W2001 : Exa Z Z.heap w_W2001 "com/example/portwright/portwright/check/Rule") (X_W2002 : Exa Z Z.heap w_W2002 "com/example/portwright/portwright/check/Rule") (X_W2003 : Exa Z Z.heap w_W2003 "com/example/portwright/portwright/check/Rule") (X_W2004 : Exa Z Z.heap w_W2004 "com/example/portwright/portwright/check/Rule") (X_W2005 : Exa Z Z.heap w_W2005 "com/example/portwright/portwright/check/Rule") (X_W2006 : Exa Z Z.heap w_W2006 "com/example/portwright/portwright/check/Rule") (X_W2007 : Exa Z Z.heap w_W2007 "com/example/portwright/portwright/check/Rule") (X_W2008 : Exa Z Z.heap w_W2008 "com/example/portwright/portwright/check/Rule") (X_W2009 : Exa Z Z.heap w_W2009 "com/example/portwright/portwright/check/Rule") (X_R2101 : Exa Z Z.heap w_R2101 "com/example/portwright/portwright/check/Rule") (X_R2102 : Exa Z Z.heap w_R2102 "com/example/portwright/portwright/check/Rule") (X_R2206 : Exa Z Z.heap w_R2206 "com/example/portwright/portwright/check/Rule") :
    Ct false l Z [] [] (⟨"java/util/ImmutableCollections", "listFromArray", "([Ljava/lang/Object;)Ljava/util/List;"⟩ : MethodName) jdk_56_method_4_code 3 (some (.object "java/util/List")) ({ frames := 5, cells := 2, slots := 14, locals := 63 } : Room) #[(.ref e)] h0 [] [] (fun v h => ∃ b e' k', v = some (.ref b) ∧ h0.size ≤ b ∧ Exa Z h b "java/util/ImmutableCollections$ListN" ∧ Fld Z h b "java/util/ImmutableCollections$ListN" "elements" "[Ljava/lang/Object;" (.ref e') ∧ Arv Z h e' k' (.object "java/lang/Object") (12 : Int32) [(.ref w_W2001), (.ref w_W2002), (.ref w_W2003), (.ref w_W2004), (.ref w_W2005), (.ref w_W2006), (.ref w_W2007), (.ref w_W2008), (.ref w_W2009), (.ref w_R2101), (.ref w_R2102), (.ref w_R2206)] .null) := by
  refine Ct.of_wp (a0 := a0) (Ls := #[.val (.ref e), .unset, .unset]) (plainFor_of_name pn_java_util_ImmutableCollections) hE hO nofun (fun m => ef_ct5 m e) ?_
  refine Wp.aloadN d5_0 (pc' := 1) rfl rfl rfl ?_
  refine Wp.alen V_e d5_1 (pc' := 2) rfl ?_
  refine Wp.newR (cap := 12) rfl (hw _ (List.mem_of_getElem? (i := 50) rfl)) (hw _ (List.mem_of_getElem? (i := 51) rfl)) (by decide) (by decide) (by decide) d5_2 (pc' := 5) rfl (k' := 1) (n' := 12) rfl rfl (by decide) (by decide) (fun h1 b1 k_b1 g_b1 sz_b1 Xh1 V_b1 O_b1 => ?_)
  have ne_e_b1 : e ≠ b1 := Nat.ne_of_lt (Nat.lt_of_lt_of_eq V_e.lt g_b1.symm)
  replace V_e := V_e.ext Xh1
  replace V_b1 : Arv Z h1 b1 k_b1 (.object "java/lang/Object") (12 : Int32) [.null, .null, .null, .null, .null, .null, .null, .null, .null, .null, .null, .null] .null := V_b1.pad (pad_rep [] .null 12)
  refine Wp.astoreN (l' := #[.val (.ref e), .val (.ref b1), .unset]) d5_5 (pc' := 6) rfl rfl rfl ?_
  refine Wp.iconst (x := (0 : Int32)) d5_6 (pc' := 7) rfl rfl ?_
  refine Wp.istoreN (l' := #[.val (.ref e), .val (.ref b1), .val (.int (0 : Int32))]) d5_7 (pc' := 8) rfl rfl ?_
  refine Wp.iloadN d5_8 (pc' := 9) rfl rfl ?_
  refine Wp.aloadN d5_9 (pc' := 10) rfl rfl rfl ?_
  refine Wp.alen V_e d5_10 (pc' := 11) rfl ?_
  refine Wp.icmp_ge (pc1 := 29) (pc' := 14) d5_11 (by decide) (by decide) rfl (fun hc2 => by exact absurd hc2 (by decide)) (fun hc2 => ?_)
  refine Wp.aloadN d5_14 (pc' := 15) rfl rfl rfl ?_
  refine Wp.iloadN d5_15 (pc' := 16) rfl rfl ?_
  refine Wp.aloadN d5_16 (pc' := 17) rfl rfl rfl ?_
  refine Wp.iloadN d5_17 (pc' := 18) rfl rfl ?_
  refine Wp.aaload V_e rfl (by decide) (by decide) (v := (.ref w_W2001)) rfl d5_18 (pc' := 19) rfl ?_
  refine Wp.old fun hOc => ?_
  refine Wp.callS (W := 2) (argsL := [(.ref w_W2001)]) (rest := [(.int (0 : Int32)), (.ref b1)]) rfl (ct6 l Z a0 hw hE w_W2001 h1 hOc) (hw _ (List.mem_of_getElem? (i := 52) rfl)) (hw _ (List.mem_of_getElem? (i := 53) rfl)) (hw _ (List.mem_of_getElem? (i := 55) rfl)) (hw _ (List.mem_of_getElem? (i := 54) rfl)) (by decide) (lenOf pd__Ljava_lang_Object__Ljava_lang_Object_ rfl) d5_19 rfl rfl rfl (Nat.le_of_eq rfl) (pc' := 22) rfl nofun nofun (by decide) (by decide) (k' := 1) (n' := 12) rfl rfl (by decide) (by decide) (fun vh3 h3 zh3 Kh3 qh3 => ?_)
  obtain rfl := qh3
  replace V_e := V_e.keep Kh3 nin0
  replace V_b1 := V_b1.keep Kh3 nin0
  refine Wp.eqS (S' := [(.ref w_W2001), (.int (0 : Int32)), (.ref b1)]) rfl ?_
  refine Wp.old fun hOc => ?_
  refine Wp.aastore V_b1 rfl (by decide) rfl (Or.inr ⟨_, _, rfl, O_b1, Ins.of_exa (X_W2001.ext hOc) (hw _ (List.mem_of_getElem? (i := 56) rfl))⟩) (by decide) (by decide) (i := 0) rfl (Nat.le_of_ble_eq_true rfl) d5_22 (pc' := 23) rfl (Or.inr sz_b1) (fun h4 W4 Vh4 => ?_)
  replace V_e := V_e.other W4 ne_e_b1
  replace V_b1 : Arv Z h4 b1 k_b1 (.object "java/lang/Object") (12 : Int32) [(.ref w_W2001), .null, .null, .null, .null, .null, .null, .null, .null, .null, .null, .null] .null := Vh4
  refine Wp.iinc (l' := #[.val (.ref e), .val (.ref b1), .val (.int (1 : Int32))]) d5_23 (pc' := 26) rfl rfl rfl ?_
  refine Wp.goto (pc' := 8) d5_26 (by decide) (by decide) ?_
  refine Wp.iloadN d5_8 (pc' := 9) rfl rfl ?_
  refine Wp.aloadN d5_9 (pc' := 10) rfl rfl rfl ?_
  refine Wp.alen V_e d5_10 (pc' := 11) rfl ?_
  refine Wp.icmp_ge (pc1 := 29) (pc' := 14) d5_11 (by decide) (by decide) rfl (fun hc5 => by exact absurd hc5 (by decide)) (fun hc5 => ?_)
  refine Wp.aloadN d5_14 (pc' := 15) rfl rfl rfl ?_
  refine Wp.iloadN d5_15 (pc' := 16) rfl rfl ?_
  refine Wp.aloadN d5_16 (pc' := 17) rfl rfl rfl ?_
  refine Wp.iloadN d5_17 (pc' := 18) rfl rfl ?_
  refine Wp.aaload V_e rfl (by decide) (by decide) (v := (.ref w_W2002)) rfl d5_18 (pc' := 19) rfl ?_
  refine Wp.old fun hOc => ?_
  refine Wp.callS (W := 2) (argsL := [(.ref w_W2002)]) (rest := [(.int (1 : Int32)), (.ref b1)]) rfl (ct6 l Z a0 hw hE w_W2002 h4 hOc) (hw _ (List.mem_of_getElem? (i := 52) rfl)) (hw _ (List.mem_of_getElem? (i := 53) rfl)) (hw _ (List.mem_of_getElem? (i := 55) rfl)) (hw _ (List.mem_of_getElem? (i := 54) rfl)) (by decide) (lenOf pd__Ljava_lang_Object__Ljava_lang_Object_ rfl) d5_19 rfl rfl rfl (Nat.le_of_eq rfl) (pc' := 22) rfl nofun nofun (by decide) (by decide) (k' := 1) (n' := 12) rfl rfl (by decide) (by decide) (fun vh6 h6 zh6 Kh6 qh6 => ?_)
  obtain rfl := qh6
  replace V_e := V_e.keep Kh6 nin0
  replace V_b1 := V_b1.keep Kh6 nin0
  refine Wp.eqS (S' := [(.ref w_W2002), (.int (1 : Int32)), (.ref b1)]) rfl ?_
  refine Wp.old fun hOc => ?_
  refine Wp.aastore V_b1 rfl (by decide) rfl (Or.inr ⟨_, _, rfl, O_b1, Ins.of_exa (X_W2002.ext hOc) (hw _ (List.mem_of_getElem? (i := 56) rfl))⟩) (by decide) (by decide) (i := 1) rfl (Nat.le_of_ble_eq_true rfl) d5_22 (pc' := 23) rfl (Or.inr sz_b1) (fun h7 W7 Vh7 => ?_)
  replace V_e := V_e.other W7 ne_e_b1
  replace V_b1 : Arv Z h7 b1 k_b1 (.object "java/lang/Object") (12 : Int32) [(.ref w_W2001), (.ref w_W2002), .null, .null, .null, .null, .null, .null, .null, .null, .null, .null] .null := Vh7
  refine Wp.iinc (l' := #[.val (.ref e), .val (.ref b1), .val (.int (2 : Int32))]) d5_23 (pc' := 26) rfl rfl rfl ?_
  refine Wp.goto (pc' := 8) d5_26 (by decide) (by decide) ?_
  refine Wp.iloadN d5_8 (pc' := 9) rfl rfl ?_
  refine Wp.aloadN d5_9 (pc' := 10) rfl rfl rfl ?_
  refine Wp.alen V_e d5_10 (pc' := 11) rfl ?_
  refine Wp.icmp_ge (pc1 := 29) (pc' := 14) d5_11 (by decide) (by decide) rfl (fun hc8 => by exact absurd hc8 (by decide)) (fun hc8 => ?_)
  refine Wp.aloadN d5_14 (pc' := 15) rfl rfl rfl ?_
  refine Wp.iloadN d5_15 (pc' := 16) rfl rfl ?_
  refine Wp.aloadN d5_16 (pc' := 17) rfl rfl rfl ?_
  refine Wp.iloadN d5_17 (pc' := 18) rfl rfl ?_
  refine Wp.aaload V_e rfl (by decide) (by decide) (v := (.ref w_W2003)) rfl d5_18 (pc' := 19) rfl ?_
  refine Wp.old fun hOc => ?_
  refine Wp.callS (W := 2) (argsL := [(.ref w_W2003)]) (rest := [(.int (2 : Int32)), (.ref b1)]) rfl (ct6 l Z a0 hw hE w_W2003 h7 hOc) (hw _ (List.mem_of_getElem? (i := 52) rfl)) (hw _ (List.mem_of_getElem? (i := 53) rfl)) (hw _ (List.mem_of_getElem? (i := 55) rfl)) (hw _ (List.mem_of_getElem? (i := 54) rfl)) (by decide) (lenOf pd__Ljava_lang_Object__Ljava_lang_Object_ rfl) d5_19 rfl rfl rfl (Nat.le_of_eq rfl) (pc' := 22) rfl nofun nofun (by decide) (by decide) (k' := 1) (n' := 12) rfl rfl (by decide) (by decide) (fun vh9 h9 zh9 Kh9 qh9 => ?_)
  obtain rfl := qh9
  replace V_e := V_e.keep Kh9 nin0
  replace V_b1 := V_b1.keep Kh9 nin0
  refine Wp.eqS (S' := [(.ref w_W2003), (.int (2 : Int32)), (.ref b1)]) rfl ?_
  refine Wp.old fun hOc => ?_
  refine Wp.aastore V_b1 rfl (by decide) rfl (Or.inr ⟨_, _, rfl, O_b1, Ins.of_exa (X_W2003.ext hOc) (hw _ (List.mem_of_getElem? (i := 56) rfl))⟩) (by decide) (by decide) (i := 2) rfl (Nat.le_of_ble_eq_true rfl) d5_22 (pc' := 23) rfl (Or.inr sz_b1) (fun h10 W10 Vh10 => ?_)
  replace V_e := V_e.other W10 ne_e_b1
  replace V_b1 : Arv Z h10 b1 k_b1 (.object "java/lang/Object") (12 : Int32) [(.ref w_W2001), (.ref w_W2002), (.ref w_W2003), .null, .null, .null, .null, .null, .null, .null, .null, .null] .null := Vh10
  refine Wp.iinc (l' := #[.val (.ref e), .val (.ref b1), .val (.int (3 : Int32))]) d5_23 (pc' := 26) rfl rfl rfl ?_
  refine Wp.goto (pc' := 8) d5_26 (by decide) (by decide) ?_
  refine Wp.iloadN d5_8 (pc' := 9) rfl rfl ?_
  refine Wp.aloadN d5_9 (pc' := 10) rfl rfl rfl ?_
  refine Wp.alen V_e d5_10 (pc' := 11) rfl ?_
  refine Wp.icmp_ge (pc1 := 29) (pc' := 14) d5_11 (by decide) (by decide) rfl (fun hc11 => by exact absurd hc11 (by decide)) (fun hc11 => ?_)
  refine Wp.aloadN d5_14 (pc' := 15) rfl rfl rfl ?_
  refine Wp.iloadN d5_15 (pc' := 16) rfl rfl ?_
  refine Wp.aloadN d5_16 (pc' := 17) rfl rfl rfl ?_
  refine Wp.iloadN d5_17 (pc' := 18) rfl rfl ?_
  refine Wp.aaload V_e rfl (by decide) (by decide) (v := (.ref w_W2004)) rfl d5_18 (pc' := 19) rfl ?_
  refine Wp.old fun hOc => ?_
  refine Wp.callS (W := 2) (argsL := [(.ref w_W2004)]) (rest := [(.int (3 : Int32)), (.ref b1)]) rfl (ct6 l Z a0 hw hE w_W2004 h10 hOc) (hw _ (List.mem_of_getElem? (i := 52) rfl)) (hw _ (List.mem_of_getElem? (i := 53) rfl)) (hw _ (List.mem_of_getElem? (i := 55) rfl)) (hw _ (List.mem_of_getElem? (i := 54) rfl)) (by decide) (lenOf pd__Ljava_lang_Object__Ljava_lang_Object_ rfl) d5_19 rfl rfl rfl (Nat.le_of_eq rfl) (pc' := 22) rfl nofun nofun (by decide) (by decide) (k' := 1) (n' := 12) rfl rfl (by decide) (by decide) (fun vh12 h12 zh12 Kh12 qh12 => ?_)
  obtain rfl := qh12
  replace V_e := V_e.keep Kh12 nin0
  replace V_b1 := V_b1.keep Kh12 nin0
  refine Wp.eqS (S' := [(.ref w_W2004), (.int (3 : Int32)), (.ref b1)]) rfl ?_
  refine Wp.old fun hOc => ?_
  refine Wp.aastore V_b1 rfl (by decide) rfl (Or.inr ⟨_, _, rfl, O_b1, Ins.of_exa (X_W2004.ext hOc) (hw _ (List.mem_of_getElem? (i := 56) rfl))⟩) (by decide) (by decide) (i := 3) rfl (Nat.le_of_ble_eq_true rfl) d5_22 (pc' := 23) rfl (Or.inr sz_b1) (fun h13 W13 Vh13 => ?_)
  replace V_e := V_e.other W13 ne_e_b1
  replace V_b1 : Arv Z h13 b1 k_b1 (.object "java/lang/Object") (12 : Int32) [(.ref w_W2001), (.ref w_W2002), (.ref w_W2003), (.ref w_W2004), .null, .null, .null, .null, .null, .null, .null, .null] .null := Vh13
  refine Wp.iinc (l' := #[.val (.ref e), .val (.ref b1), .val (.int (4 : Int32))]) d5_23 (pc' := 26) rfl rfl rfl ?_
  refine Wp.goto (pc' := 8) d5_26 (by decide) (by decide) ?_
  refine Wp.iloadN d5_8 (pc' := 9) rfl rfl ?_
  refine Wp.aloadN d5_9 (pc' := 10) rfl rfl rfl ?_
  refine Wp.alen V_e d5_10 (pc' := 11) rfl ?_
  refine Wp.icmp_ge (pc1 := 29) (pc' := 14) d5_11 (by decide) (by decide) rfl (fun hc14 => by exact absurd hc14 (by decide)) (fun hc14 => ?_)
  refine Wp.aloadN d5_14 (pc' := 15) rfl rfl rfl ?_
  refine Wp.iloadN d5_15 (pc' := 16) rfl rfl ?_
  refine Wp.aloadN d5_16 (pc' := 17) rfl rfl rfl ?_
  refine Wp.iloadN d5_17 (pc' := 18) rfl rfl ?_
  refine Wp.aaload V_e rfl (by decide) (by decide) (v := (.ref w_W2005)) rfl d5_18 (pc' := 19) rfl ?_
  refine Wp.old fun hOc => ?_
  refine Wp.callS (W := 2) (argsL := [(.ref w_W2005)]) (rest := [(.int (4 : Int32)), (.ref b1)]) rfl (ct6 l Z a0 hw hE w_W2005 h13 hOc) (hw _ (List.mem_of_getElem? (i := 52) rfl)) (hw _ (List.mem_of_getElem? (i := 53) rfl)) (hw _ (List.mem_of_getElem? (i := 55) rfl)) (hw _ (List.mem_of_getElem? (i := 54) rfl)) (by decide) (lenOf pd__Ljava_lang_Object__Ljava_lang_Object_ rfl) d5_19 rfl rfl rfl (Nat.le_of_eq rfl) (pc' := 22) rfl nofun nofun (by decide) (by decide) (k' := 1) (n' := 12) rfl rfl (by decide) (by decide) (fun vh15 h15 zh15 Kh15 qh15 => ?_)
  obtain rfl := qh15
  replace V_e := V_e.keep Kh15 nin0
  replace V_b1 := V_b1.keep Kh15 nin0
  refine Wp.eqS (S' := [(.ref w_W2005), (.int (4 : Int32)), (.ref b1)]) rfl ?_
  refine Wp.old fun hOc => ?_
  refine Wp.aastore V_b1 rfl (by decide) rfl (Or.inr ⟨_, _, rfl, O_b1, Ins.of_exa (X_W2005.ext hOc) (hw _ (List.mem_of_getElem? (i := 56) rfl))⟩) (by decide) (by decide) (i := 4) rfl (Nat.le_of_ble_eq_true rfl) d5_22 (pc' := 23) rfl (Or.inr sz_b1) (fun h16 W16 Vh16 => ?_)
  replace V_e := V_e.other W16 ne_e_b1
  replace V_b1 : Arv Z h16 b1 k_b1 (.object "java/lang/Object") (12 : Int32) [(.ref w_W2001), (.ref w_W2002), (.ref w_W2003), (.ref w_W2004), (.ref w_W2005), .null, .null, .null, .null, .null, .null, .null] .null := Vh16
  refine Wp.iinc (l' := #[.val (.ref e), .val (.ref b1), .val (.int (5 : Int32))]) d5_23 (pc' := 26) rfl rfl rfl ?_
  refine Wp.goto (pc' := 8) d5_26 (by decide) (by decide) ?_
  refine Wp.iloadN d5_8 (pc' := 9) rfl rfl ?_
  refine Wp.aloadN d5_9 (pc' := 10) rfl rfl rfl ?_
  refine Wp.alen V_e d5_10 (pc' := 11) rfl ?_
  refine Wp.icmp_ge (pc1 := 29) (pc' := 14) d5_11 (by decide) (by decide) rfl (fun hc17 => by exact absurd hc17 (by decide)) (fun hc17 => ?_)
  refine Wp.aloadN d5_14 (pc' := 15) rfl rfl rfl ?_
  refine Wp.iloadN d5_15 (pc' := 16) rfl rfl ?_
  refine Wp.aloadN d5_16 (pc' := 17) rfl rfl rfl ?_
  refine Wp.iloadN d5_17 (pc' := 18) rfl rfl ?_
  refine Wp.aaload V_e rfl (by decide) (by decide) (v := (.ref w_W2006)) rfl d5_18 (pc' := 19) rfl ?_
  refine Wp.old fun hOc => ?_
  refine Wp.callS (W := 2) (argsL := [(.ref w_W2006)]) (rest := [(.int (5 : Int32)), (.ref b1)]) rfl (ct6 l Z a0 hw hE w_W2006 h16 hOc) (hw _ (List.mem_of_getElem? (i := 52) rfl)) (hw _ (List.mem_of_getElem? (i := 53) rfl)) (hw _ (List.mem_of_getElem? (i := 55) rfl)) (hw _ (List.mem_of_getElem? (i := 54) rfl)) (by decide) (lenOf pd__Ljava_lang_Object__Ljava_lang_Object_ rfl) d5_19 rfl rfl rfl (Nat.le_of_eq rfl) (pc' := 22) rfl nofun nofun (by decide) (by decide) (k' := 1) (n' := 12) rfl rfl (by decide) (by decide) (fun vh18 h18 zh18 Kh18 qh18 => ?_)
  obtain rfl := qh18
  replace V_e := V_e.keep Kh18 nin0
  replace V_b1 := V_b1.keep Kh18 nin0
  refine Wp.eqS (S' := [(.ref w_W2006), (.int (5 : Int32)), (.ref b1)]) rfl ?_
  refine Wp.old fun hOc => ?_
  refine Wp.aastore V_b1 rfl (by decide) rfl (Or.inr ⟨_, _, rfl, O_b1, Ins.of_exa (X_W2006.ext hOc) (hw _ (List.mem_of_getElem? (i := 56) rfl))⟩) (by decide) (by decide) (i := 5) rfl (Nat.le_of_ble_eq_true rfl) d5_22 (pc' := 23) rfl (Or.inr sz_b1) (fun h19 W19 Vh19 => ?_)
  replace V_e := V_e.other W19 ne_e_b1
  replace V_b1 : Arv Z h19 b1 k_b1 (.object "java/lang/Object") (12 : Int32) [(.ref w_W2001), (.ref w_W2002), (.ref w_W2003), (.ref w_W2004), (.ref w_W2005), (.ref w_W2006), .null, .null, .null, .null, .null, .null] .null := Vh19
  refine Wp.iinc (l' := #[.val (.ref e), .val (.ref b1), .val (.int (6 : Int32))]) d5_23 (pc' := 26) rfl rfl rfl ?_
  refine Wp.goto (pc' := 8) d5_26 (by decide) (by decide) ?_
  refine Wp.iloadN d5_8 (pc' := 9) rfl rfl ?_
  refine Wp.aloadN d5_9 (pc' := 10) rfl rfl rfl ?_
  refine Wp.alen V_e d5_10 (pc' := 11) rfl ?_
  refine Wp.icmp_ge (pc1 := 29) (pc' := 14) d5_11 (by decide) (by decide) rfl (fun hc20 => by exact absurd hc20 (by decide)) (fun hc20 => ?_)
  refine Wp.aloadN d5_14 (pc' := 15) rfl rfl rfl ?_
  refine Wp.iloadN d5_15 (pc' := 16) rfl rfl ?_
  refine Wp.aloadN d5_16 (pc' := 17) rfl rfl rfl ?_
  refine Wp.iloadN d5_17 (pc' := 18) rfl rfl ?_
  refine Wp.aaload V_e rfl (by decide) (by decide) (v := (.ref w_W2007)) rfl d5_18 (pc' := 19) rfl ?_
  refine Wp.old fun hOc => ?_
  refine Wp.callS (W := 2) (argsL := [(.ref w_W2007)]) (rest := [(.int (6 : Int32)), (.ref b1)]) rfl (ct6 l Z a0 hw hE w_W2007 h19 hOc) (hw _ (List.mem_of_getElem? (i := 52) rfl)) (hw _ (List.mem_of_getElem? (i := 53) rfl)) (hw _ (List.mem_of_getElem? (i := 55) rfl)) (hw _ (List.mem_of_getElem? (i := 54) rfl)) (by decide) (lenOf pd__Ljava_lang_Object__Ljava_lang_Object_ rfl) d5_19 rfl rfl rfl (Nat.le_of_eq rfl) (pc' := 22) rfl nofun nofun (by decide) (by decide) (k' := 1) (n' := 12) rfl rfl (by decide) (by decide) (fun vh21 h21 zh21 Kh21 qh21 => ?_)
  obtain rfl := qh21
  replace V_e := V_e.keep Kh21 nin0
  replace V_b1 := V_b1.keep Kh21 nin0
  refine Wp.eqS (S' := [(.ref w_W2007), (.int (6 : Int32)), (.ref b1)]) rfl ?_
  refine Wp.old fun hOc => ?_
  refine Wp.aastore V_b1 rfl (by decide) rfl (Or.inr ⟨_, _, rfl, O_b1, Ins.of_exa (X_W2007.ext hOc) (hw _ (List.mem_of_getElem? (i := 56) rfl))⟩) (by decide) (by decide) (i := 6) rfl (Nat.le_of_ble_eq_true rfl) d5_22 (pc' := 23) rfl (Or.inr sz_b1) (fun h22 W22 Vh22 => ?_)
  replace V_e := V_e.other W22 ne_e_b1
  replace V_b1 : Arv Z h22 b1 k_b1 (.object "java/lang/Object") (12 : Int32) [(.ref w_W2001), (.ref w_W2002), (.ref w_W2003), (.ref w_W2004), (.ref w_W2005), (.ref w_W2006), (.ref w_W2007), .null, .null, .null, .null, .null] .null := Vh22
  refine Wp.iinc (l' := #[.val (.ref e), .val (.ref b1), .val (.int (7 : Int32))]) d5_23 (pc' := 26) rfl rfl rfl ?_
  refine Wp.goto (pc' := 8) d5_26 (by decide) (by decide) ?_
  refine Wp.iloadN d5_8 (pc' := 9) rfl rfl ?_
  refine Wp.aloadN d5_9 (pc' := 10) rfl rfl rfl ?_
  refine Wp.alen V_e d5_10 (pc' := 11) rfl ?_
  refine Wp.icmp_ge (pc1 := 29) (pc' := 14) d5_11 (by decide) (by decide) rfl (fun hc23 => by exact absurd hc23 (by decide)) (fun hc23 => ?_)
  refine Wp.aloadN d5_14 (pc' := 15) rfl rfl rfl ?_
  refine Wp.iloadN d5_15 (pc' := 16) rfl rfl ?_
  refine Wp.aloadN d5_16 (pc' := 17) rfl rfl rfl ?_
  refine Wp.iloadN d5_17 (pc' := 18) rfl rfl ?_
  refine Wp.aaload V_e rfl (by decide) (by decide) (v := (.ref w_W2008)) rfl d5_18 (pc' := 19) rfl ?_
  refine Wp.old fun hOc => ?_
  refine Wp.callS (W := 2) (argsL := [(.ref w_W2008)]) (rest := [(.int (7 : Int32)), (.ref b1)]) rfl (ct6 l Z a0 hw hE w_W2008 h22 hOc) (hw _ (List.mem_of_getElem? (i := 52) rfl)) (hw _ (List.mem_of_getElem? (i := 53) rfl)) (hw _ (List.mem_of_getElem? (i := 55) rfl)) (hw _ (List.mem_of_getElem? (i := 54) rfl)) (by decide) (lenOf pd__Ljava_lang_Object__Ljava_lang_Object_ rfl) d5_19 rfl rfl rfl (Nat.le_of_eq rfl) (pc' := 22) rfl nofun nofun (by decide) (by decide) (k' := 1) (n' := 12) rfl rfl (by decide) (by decide) (fun vh24 h24 zh24 Kh24 qh24 => ?_)
  obtain rfl := qh24
  replace V_e := V_e.keep Kh24 nin0
  replace V_b1 := V_b1.keep Kh24 nin0
  refine Wp.eqS (S' := [(.ref w_W2008), (.int (7 : Int32)), (.ref b1)]) rfl ?_
  refine Wp.old fun hOc => ?_
  refine Wp.aastore V_b1 rfl (by decide) rfl (Or.inr ⟨_, _, rfl, O_b1, Ins.of_exa (X_W2008.ext hOc) (hw _ (List.mem_of_getElem? (i := 56) rfl))⟩) (by decide) (by decide) (i := 7) rfl (Nat.le_of_ble_eq_true rfl) d5_22 (pc' := 23) rfl (Or.inr sz_b1) (fun h25 W25 Vh25 => ?_)
  replace V_e := V_e.other W25 ne_e_b1
  replace V_b1 : Arv Z h25 b1 k_b1 (.object "java/lang/Object") (12 : Int32) [(.ref w_W2001), (.ref w_W2002), (.ref w_W2003), (.ref w_W2004), (.ref w_W2005), (.ref w_W2006), (.ref w_W2007), (.ref w_W2008), .null, .null, .null, .null] .null := Vh25
  refine Wp.iinc (l' := #[.val (.ref e), .val (.ref b1), .val (.int (8 : Int32))]) d5_23 (pc' := 26) rfl rfl rfl ?_
  refine Wp.goto (pc' := 8) d5_26 (by decide) (by decide) ?_
  refine Wp.iloadN d5_8 (pc' := 9) rfl rfl ?_
  refine Wp.aloadN d5_9 (pc' := 10) rfl rfl rfl ?_
  refine Wp.alen V_e d5_10 (pc' := 11) rfl ?_
  refine Wp.icmp_ge (pc1 := 29) (pc' := 14) d5_11 (by decide) (by decide) rfl (fun hc26 => by exact absurd hc26 (by decide)) (fun hc26 => ?_)
  refine Wp.aloadN d5_14 (pc' := 15) rfl rfl rfl ?_
  refine Wp.iloadN d5_15 (pc' := 16) rfl rfl ?_
  refine Wp.aloadN d5_16 (pc' := 17) rfl rfl rfl ?_
  refine Wp.iloadN d5_17 (pc' := 18) rfl rfl ?_
  refine Wp.aaload V_e rfl (by decide) (by decide) (v := (.ref w_W2009)) rfl d5_18 (pc' := 19) rfl ?_
  refine Wp.old fun hOc => ?_
  refine Wp.callS (W := 2) (argsL := [(.ref w_W2009)]) (rest := [(.int (8 : Int32)), (.ref b1)]) rfl (ct6 l Z a0 hw hE w_W2009 h25 hOc) (hw _ (List.mem_of_getElem? (i := 52) rfl)) (hw _ (List.mem_of_getElem? (i := 53) rfl)) (hw _ (List.mem_of_getElem? (i := 55) rfl)) (hw _ (List.mem_of_getElem? (i := 54) rfl)) (by decide) (lenOf pd__Ljava_lang_Object__Ljava_lang_Object_ rfl) d5_19 rfl rfl rfl (Nat.le_of_eq rfl) (pc' := 22) rfl nofun nofun (by decide) (by decide) (k' := 1) (n' := 12) rfl rfl (by decide) (by decide) (fun vh27 h27 zh27 Kh27 qh27 => ?_)
  obtain rfl := qh27
  replace V_e := V_e.keep Kh27 nin0
  replace V_b1 := V_b1.keep Kh27 nin0
  refine Wp.eqS (S' := [(.ref w_W2009), (.int (8 : Int32)), (.ref b1)]) rfl ?_
  refine Wp.old fun hOc => ?_
  refine Wp.aastore V_b1 rfl (by decide) rfl (Or.inr ⟨_, _, rfl, O_b1, Ins.of_exa (X_W2009.ext hOc) (hw _ (List.mem_of_getElem? (i := 56) rfl))⟩) (by decide) (by decide) (i := 8) rfl (Nat.le_of_ble_eq_true rfl) d5_22 (pc' := 23) rfl (Or.inr sz_b1) (fun h28 W28 Vh28 => ?_)
  replace V_e := V_e.other W28 ne_e_b1
  replace V_b1 : Arv Z h28 b1 k_b1 (.object "java/lang/Object") (12 : Int32) [(.ref w_W2001), (.ref w_W2002), (.ref w_W2003), (.ref w_W2004), (.ref w_W2005), (.ref w_W2006), (.ref w_W2007), (.ref w_W2008), (.ref w_W2009), .null, .null, .null] .null := Vh28
  refine Wp.iinc (l' := #[.val (.ref e), .val (.ref b1), .val (.int (9 : Int32))]) d5_23 (pc' := 26) rfl rfl rfl ?_
  refine Wp.goto (pc' := 8) d5_26 (by decide) (by decide) ?_
  refine Wp.iloadN d5_8 (pc' := 9) rfl rfl ?_
  refine Wp.aloadN d5_9 (pc' := 10) rfl rfl rfl ?_
  refine Wp.alen V_e d5_10 (pc' := 11) rfl ?_
  refine Wp.icmp_ge (pc1 := 29) (pc' := 14) d5_11 (by decide) (by decide) rfl (fun hc29 => by exact absurd hc29 (by decide)) (fun hc29 => ?_)
  refine Wp.aloadN d5_14 (pc' := 15) rfl rfl rfl ?_
  refine Wp.iloadN d5_15 (pc' := 16) rfl rfl ?_
  refine Wp.aloadN d5_16 (pc' := 17) rfl rfl rfl ?_
  refine Wp.iloadN d5_17 (pc' := 18) rfl rfl ?_
  refine Wp.aaload V_e rfl (by decide) (by decide) (v := (.ref w_R2101)) rfl d5_18 (pc' := 19) rfl ?_
  refine Wp.old fun hOc => ?_
  refine Wp.callS (W := 2) (argsL := [(.ref w_R2101)]) (rest := [(.int (9 : Int32)), (.ref b1)]) rfl (ct6 l Z a0 hw hE w_R2101 h28 hOc) (hw _ (List.mem_of_getElem? (i := 52) rfl)) (hw _ (List.mem_of_getElem? (i := 53) rfl)) (hw _ (List.mem_of_getElem? (i := 55) rfl)) (hw _ (List.mem_of_getElem? (i := 54) rfl)) (by decide) (lenOf pd__Ljava_lang_Object__Ljava_lang_Object_ rfl) d5_19 rfl rfl rfl (Nat.le_of_eq rfl) (pc' := 22) rfl nofun nofun (by decide) (by decide) (k' := 1) (n' := 12) rfl rfl (by decide) (by decide) (fun vh30 h30 zh30 Kh30 qh30 => ?_)
  obtain rfl := qh30
  replace V_e := V_e.keep Kh30 nin0
  replace V_b1 := V_b1.keep Kh30 nin0
  refine Wp.eqS (S' := [(.ref w_R2101), (.int (9 : Int32)), (.ref b1)]) rfl ?_
  refine Wp.old fun hOc => ?_
  refine Wp.aastore V_b1 rfl (by decide) rfl (Or.inr ⟨_, _, rfl, O_b1, Ins.of_exa (X_R2101.ext hOc) (hw _ (List.mem_of_getElem? (i := 56) rfl))⟩) (by decide) (by decide) (i := 9) rfl (Nat.le_of_ble_eq_true rfl) d5_22 (pc' := 23) rfl (Or.inr sz_b1) (fun h31 W31 Vh31 => ?_)
  replace V_e := V_e.other W31 ne_e_b1
  replace V_b1 : Arv Z h31 b1 k_b1 (.object "java/lang/Object") (12 : Int32) [(.ref w_W2001), (.ref w_W2002), (.ref w_W2003), (.ref w_W2004), (.ref w_W2005), (.ref w_W2006), (.ref w_W2007), (.ref w_W2008), (.ref w_W2009), (.ref w_R2101), .null, .null] .null := Vh31
  refine Wp.iinc (l' := #[.val (.ref e), .val (.ref b1), .val (.int (10 : Int32))]) d5_23 (pc' := 26) rfl rfl rfl ?_
  refine Wp.goto (pc' := 8) d5_26 (by decide) (by decide) ?_
  refine Wp.iloadN d5_8 (pc' := 9) rfl rfl ?_
  refine Wp.aloadN d5_9 (pc' := 10) rfl rfl rfl ?_
  refine Wp.alen V_e d5_10 (pc' := 11) rfl ?_
  refine Wp.icmp_ge (pc1 := 29) (pc' := 14) d5_11 (by decide) (by decide) rfl (fun hc32 => by exact absurd hc32 (by decide)) (fun hc32 => ?_)
  refine Wp.aloadN d5_14 (pc' := 15) rfl rfl rfl ?_
  refine Wp.iloadN d5_15 (pc' := 16) rfl rfl ?_
  refine Wp.aloadN d5_16 (pc' := 17) rfl rfl rfl ?_
  refine Wp.iloadN d5_17 (pc' := 18) rfl rfl ?_
  refine Wp.aaload V_e rfl (by decide) (by decide) (v := (.ref w_R2102)) rfl d5_18 (pc' := 19) rfl ?_
  refine Wp.old fun hOc => ?_
  refine Wp.callS (W := 2) (argsL := [(.ref w_R2102)]) (rest := [(.int (10 : Int32)), (.ref b1)]) rfl (ct6 l Z a0 hw hE w_R2102 h31 hOc) (hw _ (List.mem_of_getElem? (i := 52) rfl)) (hw _ (List.mem_of_getElem? (i := 53) rfl)) (hw _ (List.mem_of_getElem? (i := 55) rfl)) (hw _ (List.mem_of_getElem? (i := 54) rfl)) (by decide) (lenOf pd__Ljava_lang_Object__Ljava_lang_Object_ rfl) d5_19 rfl rfl rfl (Nat.le_of_eq rfl) (pc' := 22) rfl nofun nofun (by decide) (by decide) (k' := 1) (n' := 12) rfl rfl (by decide) (by decide) (fun vh33 h33 zh33 Kh33 qh33 => ?_)
  obtain rfl := qh33
  replace V_e := V_e.keep Kh33 nin0
  replace V_b1 := V_b1.keep Kh33 nin0
  refine Wp.eqS (S' := [(.ref w_R2102), (.int (10 : Int32)), (.ref b1)]) rfl ?_
  refine Wp.old fun hOc => ?_
  refine Wp.aastore V_b1 rfl (by decide) rfl (Or.inr ⟨_, _, rfl, O_b1, Ins.of_exa (X_R2102.ext hOc) (hw _ (List.mem_of_getElem? (i := 56) rfl))⟩) (by decide) (by decide) (i := 10) rfl (Nat.le_of_ble_eq_true rfl) d5_22 (pc' := 23) rfl (Or.inr sz_b1) (fun h34 W34 Vh34 => ?_)
  replace V_e := V_e.other W34 ne_e_b1
  replace V_b1 : Arv Z h34 b1 k_b1 (.object "java/lang/Object") (12 : Int32) [(.ref w_W2001), (.ref w_W2002), (.ref w_W2003), (.ref w_W2004), (.ref w_W2005), (.ref w_W2006), (.ref w_W2007), (.ref w_W2008), (.ref w_W2009), (.ref w_R2101), (.ref w_R2102), .null] .null := Vh34
  refine Wp.iinc (l' := #[.val (.ref e), .val (.ref b1), .val (.int (11 : Int32))]) d5_23 (pc' := 26) rfl rfl rfl ?_
  refine Wp.goto (pc' := 8) d5_26 (by decide) (by decide) ?_
  refine Wp.iloadN d5_8 (pc' := 9) rfl rfl ?_
  refine Wp.aloadN d5_9 (pc' := 10) rfl rfl rfl ?_
  refine Wp.alen V_e d5_10 (pc' := 11) rfl ?_
  refine Wp.icmp_ge (pc1 := 29) (pc' := 14) d5_11 (by decide) (by decide) rfl (fun hc35 => by exact absurd hc35 (by decide)) (fun hc35 => ?_)
  refine Wp.aloadN d5_14 (pc' := 15) rfl rfl rfl ?_
  refine Wp.iloadN d5_15 (pc' := 16) rfl rfl ?_
  refine Wp.aloadN d5_16 (pc' := 17) rfl rfl rfl ?_
  refine Wp.iloadN d5_17 (pc' := 18) rfl rfl ?_
  refine Wp.aaload V_e rfl (by decide) (by decide) (v := (.ref w_R2206)) rfl d5_18 (pc' := 19) rfl ?_
  refine Wp.old fun hOc => ?_
  refine Wp.callS (W := 2) (argsL := [(.ref w_R2206)]) (rest := [(.int (11 : Int32)), (.ref b1)]) rfl (ct6 l Z a0 hw hE w_R2206 h34 hOc) (hw _ (List.mem_of_getElem? (i := 52) rfl)) (hw _ (List.mem_of_getElem? (i := 53) rfl)) (hw _ (List.mem_of_getElem? (i := 55) rfl)) (hw _ (List.mem_of_getElem? (i := 54) rfl)) (by decide) (lenOf pd__Ljava_lang_Object__Ljava_lang_Object_ rfl) d5_19 rfl rfl rfl (Nat.le_of_eq rfl) (pc' := 22) rfl nofun nofun (by decide) (by decide) (k' := 1) (n' := 12) rfl rfl (by decide) (by decide) (fun vh36 h36 zh36 Kh36 qh36 => ?_)
  obtain rfl := qh36
  replace V_e := V_e.keep Kh36 nin0
  replace V_b1 := V_b1.keep Kh36 nin0
  refine Wp.eqS (S' := [(.ref w_R2206), (.int (11 : Int32)), (.ref b1)]) rfl ?_
  refine Wp.old fun hOc => ?_
  refine Wp.aastore V_b1 rfl (by decide) rfl (Or.inr ⟨_, _, rfl, O_b1, Ins.of_exa (X_R2206.ext hOc) (hw _ (List.mem_of_getElem? (i := 56) rfl))⟩) (by decide) (by decide) (i := 11) rfl (Nat.le_of_ble_eq_true rfl) d5_22 (pc' := 23) rfl (Or.inr sz_b1) (fun h37 W37 Vh37 => ?_)
  replace V_e := V_e.other W37 ne_e_b1
  replace V_b1 : Arv Z h37 b1 k_b1 (.object "java/lang/Object") (12 : Int32) [(.ref w_W2001), (.ref w_W2002), (.ref w_W2003), (.ref w_W2004), (.ref w_W2005), (.ref w_W2006), (.ref w_W2007), (.ref w_W2008), (.ref w_W2009), (.ref w_R2101), (.ref w_R2102), (.ref w_R2206)] .null := Vh37
  refine Wp.iinc (l' := #[.val (.ref e), .val (.ref b1), .val (.int (12 : Int32))]) d5_23 (pc' := 26) rfl rfl rfl ?_
  refine Wp.goto (pc' := 8) d5_26 (by decide) (by decide) ?_
  refine Wp.iloadN d5_8 (pc' := 9) rfl rfl ?_
  refine Wp.aloadN d5_9 (pc' := 10) rfl rfl rfl ?_
  refine Wp.alen V_e d5_10 (pc' := 11) rfl ?_
  refine Wp.icmp_ge (pc1 := 29) (pc' := 14) d5_11 (by decide) (by decide) rfl (fun hc38 => ?_) (fun hc38 => by exact absurd hc38 (by decide))
  refine Wp.new rfl (hw _ (List.mem_of_getElem? (i := 57) rfl)) (hw _ (List.mem_of_getElem? (i := 58) rfl)) (hw _ (List.mem_of_getElem? (i := 59) rfl)) d5_29 (pc' := 32) rfl (k' := 2) (n' := 14) rfl rfl (by decide) (by decide) (fun h39 b39 g_b39 sz_b39 Xh39 E_b39 D_b39 => ?_)
  have ne_e_b39 : e ≠ b39 := Nat.ne_of_lt (Nat.lt_of_lt_of_eq V_e.lt g_b39.symm)
  have ne_b1_b39 : b1 ≠ b39 := Nat.ne_of_lt (Nat.lt_of_lt_of_eq V_b1.lt g_b39.symm)
  replace V_e := V_e.ext Xh39
  replace V_b1 := V_b1.ext Xh39
  have F_elements_b39 : Fld Z h39 b39 "java/util/ImmutableCollections$ListN" "elements" "[Ljava/lang/Object;" .null := D_b39 (Or.inr (hw _ (List.mem_of_getElem? (i := 84) rfl))) (ty := (.array (.object "java/lang/Object"))) (by decide)
  have F_allowNulls_b39 : Fld Z h39 b39 "java/util/ImmutableCollections$ListN" "allowNulls" "Z" (.int (0 : Int32)) := D_b39 (Or.inr (hw _ (List.mem_of_getElem? (i := 86) rfl))) (ty := .boolean) (by decide)
  clear D_b39
  refine Wp.dup d5_32 (pc' := 33) rfl rfl ?_
  refine Wp.aloadN d5_33 (pc' := 34) rfl rfl rfl ?_
  refine Wp.iconst (x := (0 : Int32)) d5_34 (pc' := 35) rfl rfl ?_
  refine Wp.old fun hOc => ?_
  refine Wp.callIN (a := b39) (W := 1) (argsL := [(.ref b1), (.int (0 : Int32))]) (rest := [(.ref b39)]) rfl (ct7 l Z a0 hw hE b39 b1 _ _ h39 hOc (Nat.le_trans hO.1 sz_b39) E_b39 F_elements_b39 F_allowNulls_b39) rfl rfl (hw _ (List.mem_of_getElem? (i := 60) rfl)) (hw _ (List.mem_of_getElem? (i := 61) rfl)) (hw _ (List.mem_of_getElem? (i := 63) rfl)) (hw _ (List.mem_of_getElem? (i := 59) rfl)) (by decide) (lenOf pd___Ljava_lang_Object_Z_V rfl) d5_35 rfl rfl rfl (Nat.le_of_eq rfl) (pc' := 38) rfl nofun (by intro x hx; simp only [List.mem_cons, List.not_mem_nil, or_false] at hx; rcases hx with rfl; exact (Or.inr sz_b39)) (by decide) (by decide) (k' := 2) (n' := 14) rfl rfl (by decide) (by decide) (fun vh40 h40 zh40 Kh40 qh40 => ?_)
  obtain ⟨rfl, G1⟩ := qh40
  replace V_e := V_e.keep Kh40 (ninS ne_e_b39 nin0)
  replace V_b1 := V_b1.keep Kh40 (ninS ne_b1_b39 nin0)
  replace E_b39 := E_b39.keep Kh40
  refine Wp.eqS (S' := [(.ref b39)]) rfl ?_
  refine Wp.retA rfl rfl rfl d5_38 (by decide) (by decide) ?_
  exact ⟨_, _, _, rfl, sz_b39, E_b39, G1, V_b1⟩
theorem d4_0 : decode jdk_40_method_47_code 0 = .ok (.aload_n 0, 1) := by decide +kernel
theorem d4_1 : decode jdk_40_method_47_code 1 = .ok (.arraylength, 1) := by decide +kernel
theorem d4_2 : decode jdk_40_method_47_code 2 = .ok (.tableswitch 57 0 2 #[26, 32, 43], 26) := by decide +kernel
theorem d4_28 : decode jdk_40_method_47_code 28 = .ok (.getstatic 90, 3) := by decide +kernel
theorem d4_31 : decode jdk_40_method_47_code 31 = .ok (.astore_n 1, 1) := by decide +kernel
theorem d4_32 : decode jdk_40_method_47_code 32 = .ok (.aload_n 1, 1) := by decide +kernel
theorem d4_33 : decode jdk_40_method_47_code 33 = .ok (.areturn, 1) := by decide +kernel
theorem d4_34 : decode jdk_40_method_47_code 34 = .ok (.new 96, 3) := by decide +kernel
theorem d4_37 : decode jdk_40_method_47_code 37 = .ok (.dup, 1) := by decide +kernel
theorem d4_38 : decode jdk_40_method_47_code 38 = .ok (.aload_n 0, 1) := by decide +kernel
theorem d4_39 : decode jdk_40_method_47_code 39 = .ok (.iconst 0, 1) := by decide +kernel
theorem d4_40 : decode jdk_40_method_47_code 40 = .ok (.aaload, 1) := by decide +kernel
theorem d4_41 : decode jdk_40_method_47_code 41 = .ok (.invokespecial 98, 3) := by decide +kernel
theorem d4_44 : decode jdk_40_method_47_code 44 = .ok (.areturn, 1) := by decide +kernel
theorem d4_45 : decode jdk_40_method_47_code 45 = .ok (.new 96, 3) := by decide +kernel
theorem d4_48 : decode jdk_40_method_47_code 48 = .ok (.dup, 1) := by decide +kernel
theorem d4_49 : decode jdk_40_method_47_code 49 = .ok (.aload_n 0, 1) := by decide +kernel
theorem d4_50 : decode jdk_40_method_47_code 50 = .ok (.iconst 0, 1) := by decide +kernel
theorem d4_51 : decode jdk_40_method_47_code 51 = .ok (.aaload, 1) := by decide +kernel
theorem d4_52 : decode jdk_40_method_47_code 52 = .ok (.aload_n 0, 1) := by decide +kernel
theorem d4_53 : decode jdk_40_method_47_code 53 = .ok (.iconst 1, 1) := by decide +kernel
theorem d4_54 : decode jdk_40_method_47_code 54 = .ok (.aaload, 1) := by decide +kernel
theorem d4_55 : decode jdk_40_method_47_code 55 = .ok (.invokespecial 100, 3) := by decide +kernel
theorem d4_58 : decode jdk_40_method_47_code 58 = .ok (.areturn, 1) := by decide +kernel
theorem d4_59 : decode jdk_40_method_47_code 59 = .ok (.aload_n 0, 1) := by decide +kernel
theorem d4_60 : decode jdk_40_method_47_code 60 = .ok (.invokestatic 109, 3) := by decide +kernel
theorem d4_63 : decode jdk_40_method_47_code 63 = .ok (.areturn, 1) := by decide +kernel
theorem pn_java_util_List : plainName "java/util/List" = true := by first | (simp [plainName, overriddenIn]; done) | decide +kernel
theorem ef_ct4 (m : MethodId) (x0 : Addr) : entryFrame m #[(.ref x0)] 2 = mkF m 0 #[.val (.ref x0), .unset] [] := by first | (simp [entryFrame, mkF, argsToLocals, Value.category]; done) | rfl
theorem pd___Ljava_lang_Object__Ljava_util_List_ : parseMethodDescriptor "([Ljava/lang/Object;)Ljava/util/List;" = some ⟨[(.array (.object "java/lang/Object"))], some (.object "java/util/List")⟩ := by decide +kernel
set_option maxRecDepth 65536 in
set_option maxHeartbeats 40000000 in
theorem ct4 (l : Launch) (Z : State) (a0 : Array Value) (hw : ∀ d ∈ tables_1, d.before a0 Z = true) (hE : EW Z a0 []) (e : Addr) (k_e : ClassId) (w_W2001 w_W2002 w_W2003 w_W2004 w_W2005 w_W2006 w_W2007 w_W2008 w_W2009 w_R2101 w_R2102 w_R2206 : Addr) (h0 : Heap) (hO : Ext Z.heap h0) (V_e : Arv Z h0 e k_e (.object "com/example/portwright/portwright/check/Rule") (12 : Int32) [(.ref w_W2001), (.ref w_W2002), (.ref w_W2003), (.ref w_W2004), (.ref w_W2005), (.ref w_W2006), (.ref w_W2007), (.ref w_W2008), (.ref w_W2009), (.ref w_R2101), (.ref w_R2102), (.ref w_R2206)] .null) (X_W2001 : Exa Z Z.heap w_W2001 "com/example/portwright/portwright/check/Rule") (X_W2002 : Exa Z Z.heap w_W2002 "com/example/portwright/portwright/check/Rule") (X_W2003 : Exa Z Z.heap w_W2003 "com/example/portwright/portwright/check/Rule") (X_W2004 : Exa Z Z.heap w_W2004 "com/example/portwright/portwright/check/Rule") (X_W2005 : Exa Z Z.heap w_W2005 "com/example/portwright/portwright/check/Rule") (X_W2006 : Exa Z Z.heap w_W2006 "com/example/portwright/portwright/check/Rule") (X_W2007 : Exa Z Z.heap w_W2007 "com/example/portwright/portwright/check/Rule") (X_W2008 : Exa Z Z.heap w_W2008 "com/example/portwright/portwright/check/Rule") (X_W2009 : Exa Z Z.heap w_W2009 "com/example/portwright/portwright/check/Rule") (X_R2101 : Exa Z Z.heap w_R2101 "com/example/portwright/portwright/check/Rule") (X_R2102 : Exa Z Z.heap w_R2102 "com/example/portwright/portwright/check/Rule") (X_R2206 : Exa Z Z.heap w_R2206 "com/example/portwright/portwright/check/Rule") :
    Ct false l Z [] [] (⟨"java/util/List", "of", "([Ljava/lang/Object;)Ljava/util/List;"⟩ : MethodName) jdk_40_method_47_code 2 (some (.object "java/util/List")) ({ frames := 6, cells := 2, slots := 14, locals := 77 } : Room) #[(.ref e)] h0 [] [] (fun v h => ∃ b e' k', v = some (.ref b) ∧ h0.size ≤ b ∧ Exa Z h b "java/util/ImmutableCollections$ListN" ∧ Fld Z h b "java/util/ImmutableCollections$ListN" "elements" "[Ljava/lang/Object;" (.ref e') ∧ Arv Z h e' k' (.object "java/lang/Object") (12 : Int32) [(.ref w_W2001), (.ref w_W2002), (.ref w_W2003), (.ref w_W2004), (.ref w_W2005), (.ref w_W2006), (.ref w_W2007), (.ref w_W2008), (.ref w_W2009), (.ref w_R2101), (.ref w_R2102), (.ref w_R2206)] .null) := by
  refine Ct.of_wp (a0 := a0) (Ls := #[.val (.ref e), .unset]) (plainFor_of_name pn_java_util_List) hE hO nofun (fun m => ef_ct4 m e) ?_
  refine Wp.aloadN d4_0 (pc' := 1) rfl rfl rfl ?_
  refine Wp.alen V_e d4_1 (pc' := 2) rfl ?_
  refine Wp.tswOut (pc' := 59) d4_2 (by decide) (by decide) (by decide) ?_
  refine Wp.aloadN d4_59 (pc' := 60) rfl rfl rfl ?_
  refine Wp.old fun hOc => ?_
  refine Wp.callS (W := 0) (argsL := [(.ref e)]) (rest := []) rfl (ct5 l Z a0 hw hE e k_e w_W2001 w_W2002 w_W2003 w_W2004 w_W2005 w_W2006 w_W2007 w_W2008 w_W2009 w_R2101 w_R2102 w_R2206 h0 hOc V_e X_W2001 X_W2002 X_W2003 X_W2004 X_W2005 X_W2006 X_W2007 X_W2008 X_W2009 X_R2101 X_R2102 X_R2206) (hw _ (List.mem_of_getElem? (i := 46) rfl)) (hw _ (List.mem_of_getElem? (i := 47) rfl)) (hw _ (List.mem_of_getElem? (i := 49) rfl)) (hw _ (List.mem_of_getElem? (i := 48) rfl)) (by decide) (lenOf pd___Ljava_lang_Object__Ljava_util_List_ rfl) d4_60 rfl rfl rfl (Nat.le_of_eq rfl) (pc' := 63) rfl nofun nofun (by decide) (by decide) (k' := 2) (n' := 14) rfl rfl (by decide) (by decide) (fun vh1 h1 zh1 Kh1 qh1 => ?_)
  obtain ⟨b960, e_b960, kk_b960, rfl, sb_b960, E_b960, Fe_b960, V_e_b960⟩ := qh1
  have ne_e_b960 : e ≠ b960 := Nat.ne_of_lt (Nat.lt_of_lt_of_le V_e.lt sb_b960)
  replace V_e := V_e.keep Kh1 nin0
  refine Wp.eqS (S' := [(.ref b960)]) rfl ?_
  have sz_b960 : h0.size ≤ b960 := Nat.le_trans zh1 sb_b960
  refine Wp.retA rfl rfl rfl d4_63 (by decide) (by decide) ?_
  exact ⟨b960, e_b960, kk_b960, rfl, sz_b960, E_b960, Fe_b960, V_e_b960⟩
theorem d3_0 : decode prog_16_method_2_code 0 = .ok (.bipush 12, 2) := by decide +kernel
theorem d3_2 : decode prog_16_method_2_code 2 = .ok (.anewarray 7, 3) := by decide +kernel
theorem d3_5 : decode prog_16_method_2_code 5 = .ok (.dup, 1) := by decide +kernel
theorem d3_6 : decode prog_16_method_2_code 6 = .ok (.iconst 0, 1) := by decide +kernel
theorem d3_7 : decode prog_16_method_2_code 7 = .ok (.getstatic 9, 3) := by decide +kernel
theorem d3_10 : decode prog_16_method_2_code 10 = .ok (.aastore, 1) := by decide +kernel
theorem d3_11 : decode prog_16_method_2_code 11 = .ok (.dup, 1) := by decide +kernel
theorem d3_12 : decode prog_16_method_2_code 12 = .ok (.iconst 1, 1) := by decide +kernel
theorem d3_13 : decode prog_16_method_2_code 13 = .ok (.getstatic 15, 3) := by decide +kernel
theorem d3_16 : decode prog_16_method_2_code 16 = .ok (.aastore, 1) := by decide +kernel
theorem d3_17 : decode prog_16_method_2_code 17 = .ok (.dup, 1) := by decide +kernel
theorem d3_18 : decode prog_16_method_2_code 18 = .ok (.iconst 2, 1) := by decide +kernel
theorem d3_19 : decode prog_16_method_2_code 19 = .ok (.getstatic 18, 3) := by decide +kernel
theorem d3_22 : decode prog_16_method_2_code 22 = .ok (.aastore, 1) := by decide +kernel
theorem d3_23 : decode prog_16_method_2_code 23 = .ok (.dup, 1) := by decide +kernel
theorem d3_24 : decode prog_16_method_2_code 24 = .ok (.iconst 3, 1) := by decide +kernel
theorem d3_25 : decode prog_16_method_2_code 25 = .ok (.getstatic 21, 3) := by decide +kernel
theorem d3_28 : decode prog_16_method_2_code 28 = .ok (.aastore, 1) := by decide +kernel
theorem d3_29 : decode prog_16_method_2_code 29 = .ok (.dup, 1) := by decide +kernel
theorem d3_30 : decode prog_16_method_2_code 30 = .ok (.iconst 4, 1) := by decide +kernel
theorem d3_31 : decode prog_16_method_2_code 31 = .ok (.getstatic 24, 3) := by decide +kernel
theorem d3_34 : decode prog_16_method_2_code 34 = .ok (.aastore, 1) := by decide +kernel
theorem d3_35 : decode prog_16_method_2_code 35 = .ok (.dup, 1) := by decide +kernel
theorem d3_36 : decode prog_16_method_2_code 36 = .ok (.iconst 5, 1) := by decide +kernel
theorem d3_37 : decode prog_16_method_2_code 37 = .ok (.getstatic 27, 3) := by decide +kernel
theorem d3_40 : decode prog_16_method_2_code 40 = .ok (.aastore, 1) := by decide +kernel
theorem d3_41 : decode prog_16_method_2_code 41 = .ok (.dup, 1) := by decide +kernel
theorem d3_42 : decode prog_16_method_2_code 42 = .ok (.bipush 6, 2) := by decide +kernel
theorem d3_44 : decode prog_16_method_2_code 44 = .ok (.getstatic 30, 3) := by decide +kernel
theorem d3_47 : decode prog_16_method_2_code 47 = .ok (.aastore, 1) := by decide +kernel
theorem d3_48 : decode prog_16_method_2_code 48 = .ok (.dup, 1) := by decide +kernel
theorem d3_49 : decode prog_16_method_2_code 49 = .ok (.bipush 7, 2) := by decide +kernel
theorem d3_51 : decode prog_16_method_2_code 51 = .ok (.getstatic 33, 3) := by decide +kernel
theorem d3_54 : decode prog_16_method_2_code 54 = .ok (.aastore, 1) := by decide +kernel
theorem d3_55 : decode prog_16_method_2_code 55 = .ok (.dup, 1) := by decide +kernel
theorem d3_56 : decode prog_16_method_2_code 56 = .ok (.bipush 8, 2) := by decide +kernel
theorem d3_58 : decode prog_16_method_2_code 58 = .ok (.getstatic 36, 3) := by decide +kernel
theorem d3_61 : decode prog_16_method_2_code 61 = .ok (.aastore, 1) := by decide +kernel
theorem d3_62 : decode prog_16_method_2_code 62 = .ok (.dup, 1) := by decide +kernel
theorem d3_63 : decode prog_16_method_2_code 63 = .ok (.bipush 9, 2) := by decide +kernel
theorem d3_65 : decode prog_16_method_2_code 65 = .ok (.getstatic 39, 3) := by decide +kernel
theorem d3_68 : decode prog_16_method_2_code 68 = .ok (.aastore, 1) := by decide +kernel
theorem d3_69 : decode prog_16_method_2_code 69 = .ok (.dup, 1) := by decide +kernel
theorem d3_70 : decode prog_16_method_2_code 70 = .ok (.bipush 10, 2) := by decide +kernel
theorem d3_72 : decode prog_16_method_2_code 72 = .ok (.getstatic 42, 3) := by decide +kernel
theorem d3_75 : decode prog_16_method_2_code 75 = .ok (.aastore, 1) := by decide +kernel
theorem d3_76 : decode prog_16_method_2_code 76 = .ok (.dup, 1) := by decide +kernel
theorem d3_77 : decode prog_16_method_2_code 77 = .ok (.bipush 11, 2) := by decide +kernel
theorem d3_79 : decode prog_16_method_2_code 79 = .ok (.getstatic 45, 3) := by decide +kernel
theorem d3_82 : decode prog_16_method_2_code 82 = .ok (.aastore, 1) := by decide +kernel
theorem d3_83 : decode prog_16_method_2_code 83 = .ok (.invokestatic 48, 3) := by decide +kernel
theorem d3_86 : decode prog_16_method_2_code 86 = .ok (.areturn, 1) := by decide +kernel
theorem ef_ct3 (m : MethodId) (x0 : Addr) : entryFrame m #[(.ref x0)] 1 = mkF m 0 #[.val (.ref x0)] [] := by first | (simp [entryFrame, mkF, argsToLocals, Value.category]; done) | rfl
set_option maxRecDepth 65536 in
set_option maxHeartbeats 40000000 in
theorem ct3 (l : Launch) (Z : State) (a0 : Array Value) (hw : ∀ d ∈ tables_1, d.before a0 Z = true) (hE : EW Z a0 []) (a : Addr) (w_W2001 w_W2002 w_W2003 w_W2004 w_W2005 w_W2006 w_W2007 w_W2008 w_W2009 w_R2101 w_R2102 w_R2206 : Addr) (h0 : Heap) (hO : Ext Z.heap h0) (S_W2001 : Sta Z Z.heap "com/example/portwright/portwright/check/ReferenceRules" "W2001" "Lcom/example/portwright/portwright/check/Rule;" (.ref w_W2001)) (S_W2002 : Sta Z Z.heap "com/example/portwright/portwright/check/ReferenceRules" "W2002" "Lcom/example/portwright/portwright/check/Rule;" (.ref w_W2002)) (S_W2003 : Sta Z Z.heap "com/example/portwright/portwright/check/ReferenceRules" "W2003" "Lcom/example/portwright/portwright/check/Rule;" (.ref w_W2003)) (S_W2004 : Sta Z Z.heap "com/example/portwright/portwright/check/ReferenceRules" "W2004" "Lcom/example/portwright/portwright/check/Rule;" (.ref w_W2004)) (S_W2005 : Sta Z Z.heap "com/example/portwright/portwright/check/ReferenceRules" "W2005" "Lcom/example/portwright/portwright/check/Rule;" (.ref w_W2005)) (S_W2006 : Sta Z Z.heap "com/example/portwright/portwright/check/ReferenceRules" "W2006" "Lcom/example/portwright/portwright/check/Rule;" (.ref w_W2006)) (S_W2007 : Sta Z Z.heap "com/example/portwright/portwright/check/ReferenceRules" "W2007" "Lcom/example/portwright/portwright/check/Rule;" (.ref w_W2007)) (S_W2008 : Sta Z Z.heap "com/example/portwright/portwright/check/ReferenceRules" "W2008" "Lcom/example/portwright/portwright/check/Rule;" (.ref w_W2008)) (S_W2009 : Sta Z Z.heap "com/example/portwright/portwright/check/ReferenceRules" "W2009" "Lcom/example/portwright/portwright/check/Rule;" (.ref w_W2009)) (S_R2101 : Sta Z Z.heap "com/example/portwright/portwright/check/ReferenceRules" "R2101" "Lcom/example/portwright/portwright/check/Rule;" (.ref w_R2101)) (S_R2102 : Sta Z Z.heap "com/example/portwright/portwright/check/ReferenceRules" "R2102" "Lcom/example/portwright/portwright/check/Rule;" (.ref w_R2102)) (S_R2206 : Sta Z Z.heap "com/example/portwright/portwright/check/ReferenceRules" "R2206" "Lcom/example/portwright/portwright/check/Rule;" (.ref w_R2206)) (X_W2001 : Exa Z Z.heap w_W2001 "com/example/portwright/portwright/check/Rule") (X_W2002 : Exa Z Z.heap w_W2002 "com/example/portwright/portwright/check/Rule") (X_W2003 : Exa Z Z.heap w_W2003 "com/example/portwright/portwright/check/Rule") (X_W2004 : Exa Z Z.heap w_W2004 "com/example/portwright/portwright/check/Rule") (X_W2005 : Exa Z Z.heap w_W2005 "com/example/portwright/portwright/check/Rule") (X_W2006 : Exa Z Z.heap w_W2006 "com/example/portwright/portwright/check/Rule") (X_W2007 : Exa Z Z.heap w_W2007 "com/example/portwright/portwright/check/Rule") (X_W2008 : Exa Z Z.heap w_W2008 "com/example/portwright/portwright/check/Rule") (X_W2009 : Exa Z Z.heap w_W2009 "com/example/portwright/portwright/check/Rule") (X_R2101 : Exa Z Z.heap w_R2101 "com/example/portwright/portwright/check/Rule") (X_R2102 : Exa Z Z.heap w_R2102 "com/example/portwright/portwright/check/Rule") (X_R2206 : Exa Z Z.heap w_R2206 "com/example/portwright/portwright/check/Rule") :
    Ct false l Z [] [] (⟨"com/example/portwright/portwright/check/ReferenceRules", "rules", "()Ljava/util/List;"⟩ : MethodName) prog_16_method_2_code 1 (some (.object "java/util/List")) ({ frames := 7, cells := 3, slots := 26, locals := 90 } : Room) #[(.ref a)] h0 [] [] (fun v h => ∃ b e' k', v = some (.ref b) ∧ h0.size ≤ b ∧ Exa Z h b "java/util/ImmutableCollections$ListN" ∧ Fld Z h b "java/util/ImmutableCollections$ListN" "elements" "[Ljava/lang/Object;" (.ref e') ∧ Arv Z h e' k' (.object "java/lang/Object") (12 : Int32) [(.ref w_W2001), (.ref w_W2002), (.ref w_W2003), (.ref w_W2004), (.ref w_W2005), (.ref w_W2006), (.ref w_W2007), (.ref w_W2008), (.ref w_W2009), (.ref w_R2101), (.ref w_R2102), (.ref w_R2206)] .null) := by
  refine Ct.of_wp (a0 := a0) (Ls := #[.val (.ref a)]) (plainFor_of_name pn_com_example_portwright_portwright_check_ReferenceRules) hE hO nofun (fun m => ef_ct3 m a) ?_
  refine Wp.bipush (x := (12 : Int32)) d3_0 (pc' := 2) rfl rfl ?_
  refine Wp.newR (cap := 12) rfl (hw _ (List.mem_of_getElem? (i := 15) rfl)) (hw _ (List.mem_of_getElem? (i := 16) rfl)) (by decide) (by decide) (by decide) d3_2 (pc' := 5) rfl (k' := 1) (n' := 12) rfl rfl (by decide) (by decide) (fun h1 b1 k_b1 g_b1 sz_b1 Xh1 V_b1 O_b1 => ?_)
  replace V_b1 : Arv Z h1 b1 k_b1 (.object "com/example/portwright/portwright/check/Rule") (12 : Int32) [.null, .null, .null, .null, .null, .null, .null, .null, .null, .null, .null, .null] .null := V_b1.pad (pad_rep [] .null 12)
  refine Wp.dup d3_5 (pc' := 6) rfl rfl ?_
  refine Wp.iconst (x := (0 : Int32)) d3_6 (pc' := 7) rfl rfl ?_
  refine Wp.getS rfl (host := "") (Or.inl (hw _ (List.mem_of_getElem? (i := 17) rfl))) Via.refl S_W2001 d3_7 (pc' := 10) rfl ?_
  refine Wp.old fun hOc => ?_
  refine Wp.aastore V_b1 rfl (by decide) rfl (Or.inr ⟨_, _, rfl, O_b1, Ins.self (X_W2001.ext hOc)⟩) (by decide) (by decide) (i := 0) rfl (Nat.le_of_ble_eq_true rfl) d3_10 (pc' := 11) rfl (Or.inr sz_b1) (fun h2 W2 Vh2 => ?_)
  replace V_b1 : Arv Z h2 b1 k_b1 (.object "com/example/portwright/portwright/check/Rule") (12 : Int32) [(.ref w_W2001), .null, .null, .null, .null, .null, .null, .null, .null, .null, .null, .null] .null := Vh2
  refine Wp.dup d3_11 (pc' := 12) rfl rfl ?_
  refine Wp.iconst (x := (1 : Int32)) d3_12 (pc' := 13) rfl rfl ?_
  refine Wp.getS rfl (host := "") (Or.inl (hw _ (List.mem_of_getElem? (i := 20) rfl))) Via.refl S_W2002 d3_13 (pc' := 16) rfl ?_
  refine Wp.old fun hOc => ?_
  refine Wp.aastore V_b1 rfl (by decide) rfl (Or.inr ⟨_, _, rfl, O_b1, Ins.self (X_W2002.ext hOc)⟩) (by decide) (by decide) (i := 1) rfl (Nat.le_of_ble_eq_true rfl) d3_16 (pc' := 17) rfl (Or.inr sz_b1) (fun h3 W3 Vh3 => ?_)
  replace V_b1 : Arv Z h3 b1 k_b1 (.object "com/example/portwright/portwright/check/Rule") (12 : Int32) [(.ref w_W2001), (.ref w_W2002), .null, .null, .null, .null, .null, .null, .null, .null, .null, .null] .null := Vh3
  refine Wp.dup d3_17 (pc' := 18) rfl rfl ?_
  refine Wp.iconst (x := (2 : Int32)) d3_18 (pc' := 19) rfl rfl ?_
  refine Wp.getS rfl (host := "") (Or.inl (hw _ (List.mem_of_getElem? (i := 22) rfl))) Via.refl S_W2003 d3_19 (pc' := 22) rfl ?_
  refine Wp.old fun hOc => ?_
  refine Wp.aastore V_b1 rfl (by decide) rfl (Or.inr ⟨_, _, rfl, O_b1, Ins.self (X_W2003.ext hOc)⟩) (by decide) (by decide) (i := 2) rfl (Nat.le_of_ble_eq_true rfl) d3_22 (pc' := 23) rfl (Or.inr sz_b1) (fun h4 W4 Vh4 => ?_)
  replace V_b1 : Arv Z h4 b1 k_b1 (.object "com/example/portwright/portwright/check/Rule") (12 : Int32) [(.ref w_W2001), (.ref w_W2002), (.ref w_W2003), .null, .null, .null, .null, .null, .null, .null, .null, .null] .null := Vh4
  refine Wp.dup d3_23 (pc' := 24) rfl rfl ?_
  refine Wp.iconst (x := (3 : Int32)) d3_24 (pc' := 25) rfl rfl ?_
  refine Wp.getS rfl (host := "") (Or.inl (hw _ (List.mem_of_getElem? (i := 24) rfl))) Via.refl S_W2004 d3_25 (pc' := 28) rfl ?_
  refine Wp.old fun hOc => ?_
  refine Wp.aastore V_b1 rfl (by decide) rfl (Or.inr ⟨_, _, rfl, O_b1, Ins.self (X_W2004.ext hOc)⟩) (by decide) (by decide) (i := 3) rfl (Nat.le_of_ble_eq_true rfl) d3_28 (pc' := 29) rfl (Or.inr sz_b1) (fun h5 W5 Vh5 => ?_)
  replace V_b1 : Arv Z h5 b1 k_b1 (.object "com/example/portwright/portwright/check/Rule") (12 : Int32) [(.ref w_W2001), (.ref w_W2002), (.ref w_W2003), (.ref w_W2004), .null, .null, .null, .null, .null, .null, .null, .null] .null := Vh5
  refine Wp.dup d3_29 (pc' := 30) rfl rfl ?_
  refine Wp.iconst (x := (4 : Int32)) d3_30 (pc' := 31) rfl rfl ?_
  refine Wp.getS rfl (host := "") (Or.inl (hw _ (List.mem_of_getElem? (i := 26) rfl))) Via.refl S_W2005 d3_31 (pc' := 34) rfl ?_
  refine Wp.old fun hOc => ?_
  refine Wp.aastore V_b1 rfl (by decide) rfl (Or.inr ⟨_, _, rfl, O_b1, Ins.self (X_W2005.ext hOc)⟩) (by decide) (by decide) (i := 4) rfl (Nat.le_of_ble_eq_true rfl) d3_34 (pc' := 35) rfl (Or.inr sz_b1) (fun h6 W6 Vh6 => ?_)
  replace V_b1 : Arv Z h6 b1 k_b1 (.object "com/example/portwright/portwright/check/Rule") (12 : Int32) [(.ref w_W2001), (.ref w_W2002), (.ref w_W2003), (.ref w_W2004), (.ref w_W2005), .null, .null, .null, .null, .null, .null, .null] .null := Vh6
  refine Wp.dup d3_35 (pc' := 36) rfl rfl ?_
  refine Wp.iconst (x := (5 : Int32)) d3_36 (pc' := 37) rfl rfl ?_
  refine Wp.getS rfl (host := "") (Or.inl (hw _ (List.mem_of_getElem? (i := 28) rfl))) Via.refl S_W2006 d3_37 (pc' := 40) rfl ?_
  refine Wp.old fun hOc => ?_
  refine Wp.aastore V_b1 rfl (by decide) rfl (Or.inr ⟨_, _, rfl, O_b1, Ins.self (X_W2006.ext hOc)⟩) (by decide) (by decide) (i := 5) rfl (Nat.le_of_ble_eq_true rfl) d3_40 (pc' := 41) rfl (Or.inr sz_b1) (fun h7 W7 Vh7 => ?_)
  replace V_b1 : Arv Z h7 b1 k_b1 (.object "com/example/portwright/portwright/check/Rule") (12 : Int32) [(.ref w_W2001), (.ref w_W2002), (.ref w_W2003), (.ref w_W2004), (.ref w_W2005), (.ref w_W2006), .null, .null, .null, .null, .null, .null] .null := Vh7
  refine Wp.dup d3_41 (pc' := 42) rfl rfl ?_
  refine Wp.bipush (x := (6 : Int32)) d3_42 (pc' := 44) rfl rfl ?_
  refine Wp.getS rfl (host := "") (Or.inl (hw _ (List.mem_of_getElem? (i := 30) rfl))) Via.refl S_W2007 d3_44 (pc' := 47) rfl ?_
  refine Wp.old fun hOc => ?_
  refine Wp.aastore V_b1 rfl (by decide) rfl (Or.inr ⟨_, _, rfl, O_b1, Ins.self (X_W2007.ext hOc)⟩) (by decide) (by decide) (i := 6) rfl (Nat.le_of_ble_eq_true rfl) d3_47 (pc' := 48) rfl (Or.inr sz_b1) (fun h8 W8 Vh8 => ?_)
  replace V_b1 : Arv Z h8 b1 k_b1 (.object "com/example/portwright/portwright/check/Rule") (12 : Int32) [(.ref w_W2001), (.ref w_W2002), (.ref w_W2003), (.ref w_W2004), (.ref w_W2005), (.ref w_W2006), (.ref w_W2007), .null, .null, .null, .null, .null] .null := Vh8
  refine Wp.dup d3_48 (pc' := 49) rfl rfl ?_
  refine Wp.bipush (x := (7 : Int32)) d3_49 (pc' := 51) rfl rfl ?_
  refine Wp.getS rfl (host := "") (Or.inl (hw _ (List.mem_of_getElem? (i := 32) rfl))) Via.refl S_W2008 d3_51 (pc' := 54) rfl ?_
  refine Wp.old fun hOc => ?_
  refine Wp.aastore V_b1 rfl (by decide) rfl (Or.inr ⟨_, _, rfl, O_b1, Ins.self (X_W2008.ext hOc)⟩) (by decide) (by decide) (i := 7) rfl (Nat.le_of_ble_eq_true rfl) d3_54 (pc' := 55) rfl (Or.inr sz_b1) (fun h9 W9 Vh9 => ?_)
  replace V_b1 : Arv Z h9 b1 k_b1 (.object "com/example/portwright/portwright/check/Rule") (12 : Int32) [(.ref w_W2001), (.ref w_W2002), (.ref w_W2003), (.ref w_W2004), (.ref w_W2005), (.ref w_W2006), (.ref w_W2007), (.ref w_W2008), .null, .null, .null, .null] .null := Vh9
  refine Wp.dup d3_55 (pc' := 56) rfl rfl ?_
  refine Wp.bipush (x := (8 : Int32)) d3_56 (pc' := 58) rfl rfl ?_
  refine Wp.getS rfl (host := "") (Or.inl (hw _ (List.mem_of_getElem? (i := 34) rfl))) Via.refl S_W2009 d3_58 (pc' := 61) rfl ?_
  refine Wp.old fun hOc => ?_
  refine Wp.aastore V_b1 rfl (by decide) rfl (Or.inr ⟨_, _, rfl, O_b1, Ins.self (X_W2009.ext hOc)⟩) (by decide) (by decide) (i := 8) rfl (Nat.le_of_ble_eq_true rfl) d3_61 (pc' := 62) rfl (Or.inr sz_b1) (fun h10 W10 Vh10 => ?_)
  replace V_b1 : Arv Z h10 b1 k_b1 (.object "com/example/portwright/portwright/check/Rule") (12 : Int32) [(.ref w_W2001), (.ref w_W2002), (.ref w_W2003), (.ref w_W2004), (.ref w_W2005), (.ref w_W2006), (.ref w_W2007), (.ref w_W2008), (.ref w_W2009), .null, .null, .null] .null := Vh10
  refine Wp.dup d3_62 (pc' := 63) rfl rfl ?_
  refine Wp.bipush (x := (9 : Int32)) d3_63 (pc' := 65) rfl rfl ?_
  refine Wp.getS rfl (host := "") (Or.inl (hw _ (List.mem_of_getElem? (i := 36) rfl))) Via.refl S_R2101 d3_65 (pc' := 68) rfl ?_
  refine Wp.old fun hOc => ?_
  refine Wp.aastore V_b1 rfl (by decide) rfl (Or.inr ⟨_, _, rfl, O_b1, Ins.self (X_R2101.ext hOc)⟩) (by decide) (by decide) (i := 9) rfl (Nat.le_of_ble_eq_true rfl) d3_68 (pc' := 69) rfl (Or.inr sz_b1) (fun h11 W11 Vh11 => ?_)
  replace V_b1 : Arv Z h11 b1 k_b1 (.object "com/example/portwright/portwright/check/Rule") (12 : Int32) [(.ref w_W2001), (.ref w_W2002), (.ref w_W2003), (.ref w_W2004), (.ref w_W2005), (.ref w_W2006), (.ref w_W2007), (.ref w_W2008), (.ref w_W2009), (.ref w_R2101), .null, .null] .null := Vh11
  refine Wp.dup d3_69 (pc' := 70) rfl rfl ?_
  refine Wp.bipush (x := (10 : Int32)) d3_70 (pc' := 72) rfl rfl ?_
  refine Wp.getS rfl (host := "") (Or.inl (hw _ (List.mem_of_getElem? (i := 38) rfl))) Via.refl S_R2102 d3_72 (pc' := 75) rfl ?_
  refine Wp.old fun hOc => ?_
  refine Wp.aastore V_b1 rfl (by decide) rfl (Or.inr ⟨_, _, rfl, O_b1, Ins.self (X_R2102.ext hOc)⟩) (by decide) (by decide) (i := 10) rfl (Nat.le_of_ble_eq_true rfl) d3_75 (pc' := 76) rfl (Or.inr sz_b1) (fun h12 W12 Vh12 => ?_)
  replace V_b1 : Arv Z h12 b1 k_b1 (.object "com/example/portwright/portwright/check/Rule") (12 : Int32) [(.ref w_W2001), (.ref w_W2002), (.ref w_W2003), (.ref w_W2004), (.ref w_W2005), (.ref w_W2006), (.ref w_W2007), (.ref w_W2008), (.ref w_W2009), (.ref w_R2101), (.ref w_R2102), .null] .null := Vh12
  refine Wp.dup d3_76 (pc' := 77) rfl rfl ?_
  refine Wp.bipush (x := (11 : Int32)) d3_77 (pc' := 79) rfl rfl ?_
  refine Wp.getS rfl (host := "") (Or.inl (hw _ (List.mem_of_getElem? (i := 40) rfl))) Via.refl S_R2206 d3_79 (pc' := 82) rfl ?_
  refine Wp.old fun hOc => ?_
  refine Wp.aastore V_b1 rfl (by decide) rfl (Or.inr ⟨_, _, rfl, O_b1, Ins.self (X_R2206.ext hOc)⟩) (by decide) (by decide) (i := 11) rfl (Nat.le_of_ble_eq_true rfl) d3_82 (pc' := 83) rfl (Or.inr sz_b1) (fun h13 W13 Vh13 => ?_)
  replace V_b1 : Arv Z h13 b1 k_b1 (.object "com/example/portwright/portwright/check/Rule") (12 : Int32) [(.ref w_W2001), (.ref w_W2002), (.ref w_W2003), (.ref w_W2004), (.ref w_W2005), (.ref w_W2006), (.ref w_W2007), (.ref w_W2008), (.ref w_W2009), (.ref w_R2101), (.ref w_R2102), (.ref w_R2206)] .null := Vh13
  refine Wp.old fun hOc => ?_
  refine Wp.callS (W := 0) (argsL := [(.ref b1)]) (rest := []) rfl (ct4 l Z a0 hw hE b1 k_b1 w_W2001 w_W2002 w_W2003 w_W2004 w_W2005 w_W2006 w_W2007 w_W2008 w_W2009 w_R2101 w_R2102 w_R2206 h13 hOc V_b1 X_W2001 X_W2002 X_W2003 X_W2004 X_W2005 X_W2006 X_W2007 X_W2008 X_W2009 X_R2101 X_R2102 X_R2206) (hw _ (List.mem_of_getElem? (i := 42) rfl)) (hw _ (List.mem_of_getElem? (i := 43) rfl)) (hw _ (List.mem_of_getElem? (i := 45) rfl)) (hw _ (List.mem_of_getElem? (i := 44) rfl)) (by decide) (lenOf pd___Ljava_lang_Object__Ljava_util_List_ rfl) d3_83 rfl rfl rfl (Nat.le_of_eq rfl) (pc' := 86) rfl nofun nofun (by decide) (by decide) (k' := 3) (n' := 26) rfl rfl (by decide) (by decide) (fun vh14 h14 zh14 Kh14 qh14 => ?_)
  obtain ⟨b983, e_b983, kk_b983, rfl, sb_b983, E_b983, Fe_b983, V_e_b983⟩ := qh14
  have ne_b1_b983 : b1 ≠ b983 := Nat.ne_of_lt (Nat.lt_of_lt_of_le V_b1.lt sb_b983)
  replace V_b1 := V_b1.keep Kh14 nin0
  refine Wp.eqS (S' := [(.ref b983)]) rfl ?_
  have sz_b983 : h0.size ≤ b983 := Nat.le_trans zh14 sb_b983
  refine Wp.retA rfl rfl rfl d3_86 (by decide) (by decide) ?_
  exact ⟨b983, e_b983, kk_b983, rfl, sz_b983, E_b983, Fe_b983, V_e_b983⟩
theorem d11_0 : decode jdk_45_method_3_code 0 = .ok (.aload_n 0, 1) := by decide +kernel
theorem d11_1 : decode jdk_45_method_3_code 1 = .ok (.getfield 7, 3) := by decide +kernel
theorem d11_4 : decode jdk_45_method_3_code 4 = .ok (.arraylength, 1) := by decide +kernel
theorem d11_5 : decode jdk_45_method_3_code 5 = .ok (.ireturn, 1) := by decide +kernel
theorem ef_ct11 (m : MethodId) (x0 : Addr) : entryFrame m #[(.ref x0)] 1 = mkF m 0 #[.val (.ref x0)] [] := by first | (simp [entryFrame, mkF, argsToLocals, Value.category]; done) | rfl
set_option maxRecDepth 65536 in
set_option maxHeartbeats 40000000 in
theorem ct11 (l : Launch) (Z : State) (a0 : Array Value) (hw : ∀ d ∈ tables_1, d.before a0 Z = true) (hE : EW Z a0 []) (b e : Addr) (k_e : ClassId) (vs : List Value) (h0 : Heap) (hO : Ext Z.heap h0) (Fe : Fld Z h0 b "java/util/ImmutableCollections$ListN" "elements" "[Ljava/lang/Object;" (.ref e)) (V_e : Arv Z h0 e k_e (.object "java/lang/Object") (12 : Int32) vs .null) :
    Ct false l Z [] [] (⟨"java/util/ImmutableCollections$ListN", "size", "()I"⟩ : MethodName) jdk_45_method_3_code 1 (some .int) ({ frames := 0, cells := 0, slots := 0, locals := 0 } : Room) #[(.ref b)] h0 [] [] (fun v h => v = some (.int 12)) := by
  refine Ct.of_wp (a0 := a0) (Ls := #[.val (.ref b)]) (plainFor_of_name pn_java_util_ImmutableCollections_ListN) hE hO nofun (fun m => ef_ct11 m b) ?_
  refine Wp.aloadN d11_0 (pc' := 1) rfl rfl rfl ?_
  refine Wp.getF rfl (host := "") (Or.inl (hw _ (List.mem_of_getElem? (i := 83) rfl))) Via.refl Fe d11_1 (pc' := 4) rfl ?_
  refine Wp.alen V_e d11_4 (pc' := 5) rfl ?_
  refine Wp.retI rfl d11_5 (by decide) (by decide) ?_
  rfl
theorem d12_0 : decode jdk_45_method_4_code 0 = .ok (.aload_n 0, 1) := by decide +kernel
theorem d12_1 : decode jdk_45_method_4_code 1 = .ok (.getfield 7, 3) := by decide +kernel
theorem d12_4 : decode jdk_45_method_4_code 4 = .ok (.iload_n 1, 1) := by decide +kernel
theorem d12_5 : decode jdk_45_method_4_code 5 = .ok (.aaload, 1) := by decide +kernel
theorem d12_6 : decode jdk_45_method_4_code 6 = .ok (.areturn, 1) := by decide +kernel
theorem ef_ct12 (m : MethodId) (x0 : Addr) (x1 : Int32) : entryFrame m #[(.ref x0), (.int x1)] 2 = mkF m 0 #[.val (.ref x0), .val (.int x1)] [] := by first | (simp [entryFrame, mkF, argsToLocals, Value.category]; done) | rfl
set_option maxRecDepth 65536 in
set_option maxHeartbeats 40000000 in
theorem ct12 (l : Launch) (Z : State) (a0 : Array Value) (hw : ∀ d ∈ tables_1, d.before a0 Z = true) (hE : EW Z a0 []) (b e : Addr) (k_e : ClassId) (vs : List Value) (j : Int32) (x : Addr) (h0 : Heap) (hO : Ext Z.heap h0) (Fe : Fld Z h0 b "java/util/ImmutableCollections$ListN" "elements" "[Ljava/lang/Object;" (.ref e)) (V_e : Arv Z h0 e k_e (.object "java/lang/Object") (12 : Int32) vs .null) (h1 : ¬ j < 0) (h2 : j < 12) (hv : vs.getD j.toNatClampNeg .null = .ref x) :
    Ct false l Z [] [] (⟨"java/util/ImmutableCollections$ListN", "get", "(I)Ljava/lang/Object;"⟩ : MethodName) jdk_45_method_4_code 2 (some (.object "java/lang/Object")) ({ frames := 0, cells := 0, slots := 0, locals := 0 } : Room) #[(.ref b), (.int j)] h0 [] [] (fun v h => v = some (.ref x)) := by
  refine Ct.of_wp (a0 := a0) (Ls := #[.val (.ref b), .val (.int j)]) (plainFor_of_name pn_java_util_ImmutableCollections_ListN) hE hO nofun (fun m => ef_ct12 m b j) ?_
  refine Wp.aloadN d12_0 (pc' := 1) rfl rfl rfl ?_
  refine Wp.getF rfl (host := "") (Or.inl (hw _ (List.mem_of_getElem? (i := 83) rfl))) Via.refl Fe d12_1 (pc' := 4) rfl ?_
  refine Wp.iloadN d12_4 (pc' := 5) rfl rfl ?_
  refine Wp.aaload V_e rfl h1 h2 (v := .ref x) hv d12_5 (pc' := 6) rfl ?_
  refine Wp.retA rfl rfl rfl d12_6 (by decide) (by decide) ?_
  rfl
theorem d13_0 : decode method_2_code 0 = .ok (.aload_n 0, 1) := by decide +kernel
theorem d13_1 : decode method_2_code 1 = .ok (.getstatic 7, 3) := by decide +kernel
theorem d13_4 : decode method_2_code 4 = .ok (.if_acmp .eq 80, 3) := by decide +kernel
theorem d13_7 : decode method_2_code 7 = .ok (.aload_n 0, 1) := by decide +kernel
theorem d13_8 : decode method_2_code 8 = .ok (.getstatic 13, 3) := by decide +kernel
theorem d13_11 : decode method_2_code 11 = .ok (.if_acmp .eq 73, 3) := by decide +kernel
theorem d13_14 : decode method_2_code 14 = .ok (.aload_n 0, 1) := by decide +kernel
theorem d13_15 : decode method_2_code 15 = .ok (.getstatic 16, 3) := by decide +kernel
theorem d13_18 : decode method_2_code 18 = .ok (.if_acmp .eq 66, 3) := by decide +kernel
theorem d13_21 : decode method_2_code 21 = .ok (.aload_n 0, 1) := by decide +kernel
theorem d13_22 : decode method_2_code 22 = .ok (.getstatic 19, 3) := by decide +kernel
theorem d13_25 : decode method_2_code 25 = .ok (.if_acmp .eq 59, 3) := by decide +kernel
theorem d13_28 : decode method_2_code 28 = .ok (.aload_n 0, 1) := by decide +kernel
theorem d13_29 : decode method_2_code 29 = .ok (.getstatic 22, 3) := by decide +kernel
theorem d13_32 : decode method_2_code 32 = .ok (.if_acmp .eq 52, 3) := by decide +kernel
theorem d13_35 : decode method_2_code 35 = .ok (.aload_n 0, 1) := by decide +kernel
theorem d13_36 : decode method_2_code 36 = .ok (.getstatic 25, 3) := by decide +kernel
theorem d13_39 : decode method_2_code 39 = .ok (.if_acmp .eq 45, 3) := by decide +kernel
theorem d13_42 : decode method_2_code 42 = .ok (.aload_n 0, 1) := by decide +kernel
theorem d13_43 : decode method_2_code 43 = .ok (.getstatic 28, 3) := by decide +kernel
theorem d13_46 : decode method_2_code 46 = .ok (.if_acmp .eq 38, 3) := by decide +kernel
theorem d13_49 : decode method_2_code 49 = .ok (.aload_n 0, 1) := by decide +kernel
theorem d13_50 : decode method_2_code 50 = .ok (.getstatic 31, 3) := by decide +kernel
theorem d13_53 : decode method_2_code 53 = .ok (.if_acmp .eq 31, 3) := by decide +kernel
theorem d13_56 : decode method_2_code 56 = .ok (.aload_n 0, 1) := by decide +kernel
theorem d13_57 : decode method_2_code 57 = .ok (.getstatic 34, 3) := by decide +kernel
theorem d13_60 : decode method_2_code 60 = .ok (.if_acmp .eq 24, 3) := by decide +kernel
theorem d13_63 : decode method_2_code 63 = .ok (.aload_n 0, 1) := by decide +kernel
theorem d13_64 : decode method_2_code 64 = .ok (.getstatic 37, 3) := by decide +kernel
theorem d13_67 : decode method_2_code 67 = .ok (.if_acmp .eq 17, 3) := by decide +kernel
theorem d13_70 : decode method_2_code 70 = .ok (.aload_n 0, 1) := by decide +kernel
theorem d13_71 : decode method_2_code 71 = .ok (.getstatic 40, 3) := by decide +kernel
theorem d13_74 : decode method_2_code 74 = .ok (.if_acmp .eq 10, 3) := by decide +kernel
theorem d13_77 : decode method_2_code 77 = .ok (.aload_n 0, 1) := by decide +kernel
theorem d13_78 : decode method_2_code 78 = .ok (.getstatic 43, 3) := by decide +kernel
theorem d13_81 : decode method_2_code 81 = .ok (.if_acmp .ne 7, 3) := by decide +kernel
theorem d13_84 : decode method_2_code 84 = .ok (.iconst 1, 1) := by decide +kernel
theorem d13_85 : decode method_2_code 85 = .ok (.goto 4, 3) := by decide +kernel
theorem d13_88 : decode method_2_code 88 = .ok (.iconst 0, 1) := by decide +kernel
theorem d13_89 : decode method_2_code 89 = .ok (.ireturn, 1) := by decide +kernel
theorem pn_com_example_portwright_portwright_check_ReferenceRulesRulesPinLaw : plainName "com/example/portwright/portwright/check/ReferenceRulesRulesPinLaw" = true := by first | (simp [plainName, overriddenIn]; done) | decide +kernel
theorem ef_ct13 (m : MethodId) (x0 : Addr) : entryFrame m #[(.ref x0)] 1 = mkF m 0 #[.val (.ref x0)] [] := by first | (simp [entryFrame, mkF, argsToLocals, Value.category]; done) | rfl
set_option maxRecDepth 65536 in
set_option maxHeartbeats 40000000 in
theorem ct13 (l : Launch) (Z : State) (a0 : Array Value) (hw : ∀ d ∈ tables_1, d.before a0 Z = true) (hE : EW Z a0 []) (a : Addr) (w_W2001 w_W2002 w_W2003 w_W2004 w_W2005 w_W2006 w_W2007 w_W2008 w_W2009 w_R2101 w_R2102 w_R2206 : Addr) (h0 : Heap) (hO : Ext Z.heap h0) (S_W2001 : Sta Z Z.heap "com/example/portwright/portwright/check/ReferenceRules" "W2001" "Lcom/example/portwright/portwright/check/Rule;" (.ref w_W2001)) (S_W2002 : Sta Z Z.heap "com/example/portwright/portwright/check/ReferenceRules" "W2002" "Lcom/example/portwright/portwright/check/Rule;" (.ref w_W2002)) (S_W2003 : Sta Z Z.heap "com/example/portwright/portwright/check/ReferenceRules" "W2003" "Lcom/example/portwright/portwright/check/Rule;" (.ref w_W2003)) (S_W2004 : Sta Z Z.heap "com/example/portwright/portwright/check/ReferenceRules" "W2004" "Lcom/example/portwright/portwright/check/Rule;" (.ref w_W2004)) (S_W2005 : Sta Z Z.heap "com/example/portwright/portwright/check/ReferenceRules" "W2005" "Lcom/example/portwright/portwright/check/Rule;" (.ref w_W2005)) (S_W2006 : Sta Z Z.heap "com/example/portwright/portwright/check/ReferenceRules" "W2006" "Lcom/example/portwright/portwright/check/Rule;" (.ref w_W2006)) (S_W2007 : Sta Z Z.heap "com/example/portwright/portwright/check/ReferenceRules" "W2007" "Lcom/example/portwright/portwright/check/Rule;" (.ref w_W2007)) (S_W2008 : Sta Z Z.heap "com/example/portwright/portwright/check/ReferenceRules" "W2008" "Lcom/example/portwright/portwright/check/Rule;" (.ref w_W2008)) (S_W2009 : Sta Z Z.heap "com/example/portwright/portwright/check/ReferenceRules" "W2009" "Lcom/example/portwright/portwright/check/Rule;" (.ref w_W2009)) (S_R2101 : Sta Z Z.heap "com/example/portwright/portwright/check/ReferenceRules" "R2101" "Lcom/example/portwright/portwright/check/Rule;" (.ref w_R2101)) (S_R2102 : Sta Z Z.heap "com/example/portwright/portwright/check/ReferenceRules" "R2102" "Lcom/example/portwright/portwright/check/Rule;" (.ref w_R2102)) (S_R2206 : Sta Z Z.heap "com/example/portwright/portwright/check/ReferenceRules" "R2206" "Lcom/example/portwright/portwright/check/Rule;" (.ref w_R2206)) (hin : a ∈ [w_W2001, w_W2002, w_W2003, w_W2004, w_W2005, w_W2006, w_W2007, w_W2008, w_W2009, w_R2101, w_R2102, w_R2206]) :
    Ct false l Z [] [] (⟨"com/example/portwright/portwright/check/ReferenceRulesRulesPinLaw", "known", "(Lcom/example/portwright/portwright/check/Rule;)Z"⟩ : MethodName) method_2_code 1 (some .boolean) ({ frames := 0, cells := 0, slots := 0, locals := 0 } : Room) #[(.ref a)] h0 [] [] (fun v h => v = some (.int 1)) := by
  refine Ct.of_wp (a0 := a0) (Ls := #[.val (.ref a)]) (plainFor_of_name pn_com_example_portwright_portwright_check_ReferenceRulesRulesPinLaw) hE hO nofun (fun m => ef_ct13 m a) ?_
  refine Wp.aloadN d13_0 (pc' := 1) rfl rfl rfl ?_
  refine Wp.getS rfl (host := "") (Or.inl (hw _ (List.mem_of_getElem? (i := 109) rfl))) Via.refl S_W2001 d13_1 (pc' := 4) rfl ?_
  refine Wp.acmp_eq (pc1 := 84) (pc' := 7) rfl rfl d13_4 (by decide) (by decide) rfl (fun hc1 => ?_) (fun hc1 => ?_)
  · have hc1 : (Value.ref a) = (Value.ref w_W2001) := hc1
    have hc1a : a = w_W2001 := Value.ref.inj hc1
    refine Wp.iconst (x := (1 : Int32)) d13_84 (pc' := 85) rfl rfl ?_
    refine Wp.goto (pc' := 89) d13_85 (by decide) (by decide) ?_
    refine Wp.retN (x' := (1 : Int32)) (t := .boolean) rfl (by simp) rfl d13_89 (by decide) (by decide) ?_
    rfl
  · have hc1 : ¬ ((Value.ref a) = (Value.ref w_W2001)) := hc1
    have hc1a : ¬ a = w_W2001 := fun e => hc1 (congrArg Value.ref e)
    refine Wp.aloadN d13_7 (pc' := 8) rfl rfl rfl ?_
    refine Wp.getS rfl (host := "") (Or.inl (hw _ (List.mem_of_getElem? (i := 110) rfl))) Via.refl S_W2002 d13_8 (pc' := 11) rfl ?_
    refine Wp.acmp_eq (pc1 := 84) (pc' := 14) rfl rfl d13_11 (by decide) (by decide) rfl (fun hc2 => ?_) (fun hc2 => ?_)
    · have hc2 : (Value.ref a) = (Value.ref w_W2002) := hc2
      have hc2a : a = w_W2002 := Value.ref.inj hc2
      refine Wp.iconst (x := (1 : Int32)) d13_84 (pc' := 85) rfl rfl ?_
      refine Wp.goto (pc' := 89) d13_85 (by decide) (by decide) ?_
      refine Wp.retN (x' := (1 : Int32)) (t := .boolean) rfl (by simp) rfl d13_89 (by decide) (by decide) ?_
      rfl
    · have hc2 : ¬ ((Value.ref a) = (Value.ref w_W2002)) := hc2
      have hc2a : ¬ a = w_W2002 := fun e => hc2 (congrArg Value.ref e)
      refine Wp.aloadN d13_14 (pc' := 15) rfl rfl rfl ?_
      refine Wp.getS rfl (host := "") (Or.inl (hw _ (List.mem_of_getElem? (i := 111) rfl))) Via.refl S_W2003 d13_15 (pc' := 18) rfl ?_
      refine Wp.acmp_eq (pc1 := 84) (pc' := 21) rfl rfl d13_18 (by decide) (by decide) rfl (fun hc3 => ?_) (fun hc3 => ?_)
      · have hc3 : (Value.ref a) = (Value.ref w_W2003) := hc3
        have hc3a : a = w_W2003 := Value.ref.inj hc3
        refine Wp.iconst (x := (1 : Int32)) d13_84 (pc' := 85) rfl rfl ?_
        refine Wp.goto (pc' := 89) d13_85 (by decide) (by decide) ?_
        refine Wp.retN (x' := (1 : Int32)) (t := .boolean) rfl (by simp) rfl d13_89 (by decide) (by decide) ?_
        rfl
      · have hc3 : ¬ ((Value.ref a) = (Value.ref w_W2003)) := hc3
        have hc3a : ¬ a = w_W2003 := fun e => hc3 (congrArg Value.ref e)
        refine Wp.aloadN d13_21 (pc' := 22) rfl rfl rfl ?_
        refine Wp.getS rfl (host := "") (Or.inl (hw _ (List.mem_of_getElem? (i := 112) rfl))) Via.refl S_W2004 d13_22 (pc' := 25) rfl ?_
        refine Wp.acmp_eq (pc1 := 84) (pc' := 28) rfl rfl d13_25 (by decide) (by decide) rfl (fun hc4 => ?_) (fun hc4 => ?_)
        · have hc4 : (Value.ref a) = (Value.ref w_W2004) := hc4
          have hc4a : a = w_W2004 := Value.ref.inj hc4
          refine Wp.iconst (x := (1 : Int32)) d13_84 (pc' := 85) rfl rfl ?_
          refine Wp.goto (pc' := 89) d13_85 (by decide) (by decide) ?_
          refine Wp.retN (x' := (1 : Int32)) (t := .boolean) rfl (by simp) rfl d13_89 (by decide) (by decide) ?_
          rfl
        · have hc4 : ¬ ((Value.ref a) = (Value.ref w_W2004)) := hc4
          have hc4a : ¬ a = w_W2004 := fun e => hc4 (congrArg Value.ref e)
          refine Wp.aloadN d13_28 (pc' := 29) rfl rfl rfl ?_
          refine Wp.getS rfl (host := "") (Or.inl (hw _ (List.mem_of_getElem? (i := 113) rfl))) Via.refl S_W2005 d13_29 (pc' := 32) rfl ?_
          refine Wp.acmp_eq (pc1 := 84) (pc' := 35) rfl rfl d13_32 (by decide) (by decide) rfl (fun hc5 => ?_) (fun hc5 => ?_)
          · have hc5 : (Value.ref a) = (Value.ref w_W2005) := hc5
            have hc5a : a = w_W2005 := Value.ref.inj hc5
            refine Wp.iconst (x := (1 : Int32)) d13_84 (pc' := 85) rfl rfl ?_
            refine Wp.goto (pc' := 89) d13_85 (by decide) (by decide) ?_
            refine Wp.retN (x' := (1 : Int32)) (t := .boolean) rfl (by simp) rfl d13_89 (by decide) (by decide) ?_
            rfl
          · have hc5 : ¬ ((Value.ref a) = (Value.ref w_W2005)) := hc5
            have hc5a : ¬ a = w_W2005 := fun e => hc5 (congrArg Value.ref e)
            refine Wp.aloadN d13_35 (pc' := 36) rfl rfl rfl ?_
            refine Wp.getS rfl (host := "") (Or.inl (hw _ (List.mem_of_getElem? (i := 114) rfl))) Via.refl S_W2006 d13_36 (pc' := 39) rfl ?_
            refine Wp.acmp_eq (pc1 := 84) (pc' := 42) rfl rfl d13_39 (by decide) (by decide) rfl (fun hc6 => ?_) (fun hc6 => ?_)
            · have hc6 : (Value.ref a) = (Value.ref w_W2006) := hc6
              have hc6a : a = w_W2006 := Value.ref.inj hc6
              refine Wp.iconst (x := (1 : Int32)) d13_84 (pc' := 85) rfl rfl ?_
              refine Wp.goto (pc' := 89) d13_85 (by decide) (by decide) ?_
              refine Wp.retN (x' := (1 : Int32)) (t := .boolean) rfl (by simp) rfl d13_89 (by decide) (by decide) ?_
              rfl
            · have hc6 : ¬ ((Value.ref a) = (Value.ref w_W2006)) := hc6
              have hc6a : ¬ a = w_W2006 := fun e => hc6 (congrArg Value.ref e)
              refine Wp.aloadN d13_42 (pc' := 43) rfl rfl rfl ?_
              refine Wp.getS rfl (host := "") (Or.inl (hw _ (List.mem_of_getElem? (i := 115) rfl))) Via.refl S_W2007 d13_43 (pc' := 46) rfl ?_
              refine Wp.acmp_eq (pc1 := 84) (pc' := 49) rfl rfl d13_46 (by decide) (by decide) rfl (fun hc7 => ?_) (fun hc7 => ?_)
              · have hc7 : (Value.ref a) = (Value.ref w_W2007) := hc7
                have hc7a : a = w_W2007 := Value.ref.inj hc7
                refine Wp.iconst (x := (1 : Int32)) d13_84 (pc' := 85) rfl rfl ?_
                refine Wp.goto (pc' := 89) d13_85 (by decide) (by decide) ?_
                refine Wp.retN (x' := (1 : Int32)) (t := .boolean) rfl (by simp) rfl d13_89 (by decide) (by decide) ?_
                rfl
              · have hc7 : ¬ ((Value.ref a) = (Value.ref w_W2007)) := hc7
                have hc7a : ¬ a = w_W2007 := fun e => hc7 (congrArg Value.ref e)
                refine Wp.aloadN d13_49 (pc' := 50) rfl rfl rfl ?_
                refine Wp.getS rfl (host := "") (Or.inl (hw _ (List.mem_of_getElem? (i := 116) rfl))) Via.refl S_W2008 d13_50 (pc' := 53) rfl ?_
                refine Wp.acmp_eq (pc1 := 84) (pc' := 56) rfl rfl d13_53 (by decide) (by decide) rfl (fun hc8 => ?_) (fun hc8 => ?_)
                · have hc8 : (Value.ref a) = (Value.ref w_W2008) := hc8
                  have hc8a : a = w_W2008 := Value.ref.inj hc8
                  refine Wp.iconst (x := (1 : Int32)) d13_84 (pc' := 85) rfl rfl ?_
                  refine Wp.goto (pc' := 89) d13_85 (by decide) (by decide) ?_
                  refine Wp.retN (x' := (1 : Int32)) (t := .boolean) rfl (by simp) rfl d13_89 (by decide) (by decide) ?_
                  rfl
                · have hc8 : ¬ ((Value.ref a) = (Value.ref w_W2008)) := hc8
                  have hc8a : ¬ a = w_W2008 := fun e => hc8 (congrArg Value.ref e)
                  refine Wp.aloadN d13_56 (pc' := 57) rfl rfl rfl ?_
                  refine Wp.getS rfl (host := "") (Or.inl (hw _ (List.mem_of_getElem? (i := 117) rfl))) Via.refl S_W2009 d13_57 (pc' := 60) rfl ?_
                  refine Wp.acmp_eq (pc1 := 84) (pc' := 63) rfl rfl d13_60 (by decide) (by decide) rfl (fun hc9 => ?_) (fun hc9 => ?_)
                  · have hc9 : (Value.ref a) = (Value.ref w_W2009) := hc9
                    have hc9a : a = w_W2009 := Value.ref.inj hc9
                    refine Wp.iconst (x := (1 : Int32)) d13_84 (pc' := 85) rfl rfl ?_
                    refine Wp.goto (pc' := 89) d13_85 (by decide) (by decide) ?_
                    refine Wp.retN (x' := (1 : Int32)) (t := .boolean) rfl (by simp) rfl d13_89 (by decide) (by decide) ?_
                    rfl
                  · have hc9 : ¬ ((Value.ref a) = (Value.ref w_W2009)) := hc9
                    have hc9a : ¬ a = w_W2009 := fun e => hc9 (congrArg Value.ref e)
                    refine Wp.aloadN d13_63 (pc' := 64) rfl rfl rfl ?_
                    refine Wp.getS rfl (host := "") (Or.inl (hw _ (List.mem_of_getElem? (i := 118) rfl))) Via.refl S_R2101 d13_64 (pc' := 67) rfl ?_
                    refine Wp.acmp_eq (pc1 := 84) (pc' := 70) rfl rfl d13_67 (by decide) (by decide) rfl (fun hc10 => ?_) (fun hc10 => ?_)
                    · have hc10 : (Value.ref a) = (Value.ref w_R2101) := hc10
                      have hc10a : a = w_R2101 := Value.ref.inj hc10
                      refine Wp.iconst (x := (1 : Int32)) d13_84 (pc' := 85) rfl rfl ?_
                      refine Wp.goto (pc' := 89) d13_85 (by decide) (by decide) ?_
                      refine Wp.retN (x' := (1 : Int32)) (t := .boolean) rfl (by simp) rfl d13_89 (by decide) (by decide) ?_
                      rfl
                    · have hc10 : ¬ ((Value.ref a) = (Value.ref w_R2101)) := hc10
                      have hc10a : ¬ a = w_R2101 := fun e => hc10 (congrArg Value.ref e)
                      refine Wp.aloadN d13_70 (pc' := 71) rfl rfl rfl ?_
                      refine Wp.getS rfl (host := "") (Or.inl (hw _ (List.mem_of_getElem? (i := 119) rfl))) Via.refl S_R2102 d13_71 (pc' := 74) rfl ?_
                      refine Wp.acmp_eq (pc1 := 84) (pc' := 77) rfl rfl d13_74 (by decide) (by decide) rfl (fun hc11 => ?_) (fun hc11 => ?_)
                      · have hc11 : (Value.ref a) = (Value.ref w_R2102) := hc11
                        have hc11a : a = w_R2102 := Value.ref.inj hc11
                        refine Wp.iconst (x := (1 : Int32)) d13_84 (pc' := 85) rfl rfl ?_
                        refine Wp.goto (pc' := 89) d13_85 (by decide) (by decide) ?_
                        refine Wp.retN (x' := (1 : Int32)) (t := .boolean) rfl (by simp) rfl d13_89 (by decide) (by decide) ?_
                        rfl
                      · have hc11 : ¬ ((Value.ref a) = (Value.ref w_R2102)) := hc11
                        have hc11a : ¬ a = w_R2102 := fun e => hc11 (congrArg Value.ref e)
                        refine Wp.aloadN d13_77 (pc' := 78) rfl rfl rfl ?_
                        refine Wp.getS rfl (host := "") (Or.inl (hw _ (List.mem_of_getElem? (i := 120) rfl))) Via.refl S_R2206 d13_78 (pc' := 81) rfl ?_
                        refine Wp.acmp_ne (pc1 := 88) (pc' := 84) rfl rfl d13_81 (by decide) (by decide) rfl (fun hc12 => ?_) (fun hc12 => ?_)
                        · have hc12 : ¬ ((Value.ref a) = (Value.ref w_R2206)) := hc12
                          have hc12a : ¬ a = w_R2206 := fun e => hc12 (congrArg Value.ref e)
                          exfalso
                          simp only [List.mem_cons, List.not_mem_nil, or_false] at hin
                          rcases hin with hin | hin | hin | hin | hin | hin | hin | hin | hin | hin | hin | hin
                          · exact hc1 (congrArg Value.ref hin)
                          · exact hc2 (congrArg Value.ref hin)
                          · exact hc3 (congrArg Value.ref hin)
                          · exact hc4 (congrArg Value.ref hin)
                          · exact hc5 (congrArg Value.ref hin)
                          · exact hc6 (congrArg Value.ref hin)
                          · exact hc7 (congrArg Value.ref hin)
                          · exact hc8 (congrArg Value.ref hin)
                          · exact hc9 (congrArg Value.ref hin)
                          · exact hc10 (congrArg Value.ref hin)
                          · exact hc11 (congrArg Value.ref hin)
                          · exact hc12 (congrArg Value.ref hin)
                        · have hc12 : (Value.ref a) = (Value.ref w_R2206) := hc12
                          have hc12a : a = w_R2206 := Value.ref.inj hc12
                          refine Wp.iconst (x := (1 : Int32)) d13_84 (pc' := 85) rfl rfl ?_
                          refine Wp.goto (pc' := 89) d13_85 (by decide) (by decide) ?_
                          refine Wp.retN (x' := (1 : Int32)) (t := .boolean) rfl (by simp) rfl d13_89 (by decide) (by decide) ?_
                          rfl
theorem ef_ct0 (m : MethodId) (x0 : Int32) (x1 : Int32) : entryFrame m #[(.int x0), (.int x1)] maxLocals = mkF m 0 #[.val (.int x0), .val (.int x1), .unset, .unset, .unset, .unset, .unset] [] := by first | (simp [entryFrame, mkF, argsToLocals, Value.category, maxLocals]; done) | rfl
theorem pd___Ljava_util_List_ : parseMethodDescriptor "()Ljava/util/List;" = some ⟨[], some (.object "java/util/List")⟩ := by decide +kernel
theorem pd___I : parseMethodDescriptor "()I" = some ⟨[], some .int⟩ := by decide +kernel
theorem pd__I_Ljava_lang_Object_ : parseMethodDescriptor "(I)Ljava/lang/Object;" = some ⟨[.int], some (.object "java/lang/Object")⟩ := by decide +kernel
theorem pd__Lcom_example_portwright_portwright_check_Rule__Z : parseMethodDescriptor "(Lcom/example/portwright/portwright/check/Rule;)Z" = some ⟨[(.object "com/example/portwright/portwright/check/Rule")], some .boolean⟩ := by decide +kernel
set_option maxRecDepth 65536 in
set_option maxHeartbeats 40000000 in
theorem ct0 (l : Launch) (Z : State) (a0 : Array Value) (hw : ∀ d ∈ tables_1, d.before a0 Z = true) (hE : EW Z a0 []) (p1 p2 : Int32) (w_W2001 w_W2002 w_W2003 w_W2004 w_W2005 w_W2006 w_W2007 w_W2008 w_W2009 w_R2101 w_R2102 w_R2206 : Addr) (h0 : Heap) (hO : Ext Z.heap h0) (S_W2001 : Sta Z Z.heap "com/example/portwright/portwright/check/ReferenceRules" "W2001" "Lcom/example/portwright/portwright/check/Rule;" (.ref w_W2001)) (S_W2002 : Sta Z Z.heap "com/example/portwright/portwright/check/ReferenceRules" "W2002" "Lcom/example/portwright/portwright/check/Rule;" (.ref w_W2002)) (S_W2003 : Sta Z Z.heap "com/example/portwright/portwright/check/ReferenceRules" "W2003" "Lcom/example/portwright/portwright/check/Rule;" (.ref w_W2003)) (S_W2004 : Sta Z Z.heap "com/example/portwright/portwright/check/ReferenceRules" "W2004" "Lcom/example/portwright/portwright/check/Rule;" (.ref w_W2004)) (S_W2005 : Sta Z Z.heap "com/example/portwright/portwright/check/ReferenceRules" "W2005" "Lcom/example/portwright/portwright/check/Rule;" (.ref w_W2005)) (S_W2006 : Sta Z Z.heap "com/example/portwright/portwright/check/ReferenceRules" "W2006" "Lcom/example/portwright/portwright/check/Rule;" (.ref w_W2006)) (S_W2007 : Sta Z Z.heap "com/example/portwright/portwright/check/ReferenceRules" "W2007" "Lcom/example/portwright/portwright/check/Rule;" (.ref w_W2007)) (S_W2008 : Sta Z Z.heap "com/example/portwright/portwright/check/ReferenceRules" "W2008" "Lcom/example/portwright/portwright/check/Rule;" (.ref w_W2008)) (S_W2009 : Sta Z Z.heap "com/example/portwright/portwright/check/ReferenceRules" "W2009" "Lcom/example/portwright/portwright/check/Rule;" (.ref w_W2009)) (S_R2101 : Sta Z Z.heap "com/example/portwright/portwright/check/ReferenceRules" "R2101" "Lcom/example/portwright/portwright/check/Rule;" (.ref w_R2101)) (S_R2102 : Sta Z Z.heap "com/example/portwright/portwright/check/ReferenceRules" "R2102" "Lcom/example/portwright/portwright/check/Rule;" (.ref w_R2102)) (S_R2206 : Sta Z Z.heap "com/example/portwright/portwright/check/ReferenceRules" "R2206" "Lcom/example/portwright/portwright/check/Rule;" (.ref w_R2206)) (X_W2001 : Exa Z Z.heap w_W2001 "com/example/portwright/portwright/check/Rule") (X_W2002 : Exa Z Z.heap w_W2002 "com/example/portwright/portwright/check/Rule") (X_W2003 : Exa Z Z.heap w_W2003 "com/example/portwright/portwright/check/Rule") (X_W2004 : Exa Z Z.heap w_W2004 "com/example/portwright/portwright/check/Rule") (X_W2005 : Exa Z Z.heap w_W2005 "com/example/portwright/portwright/check/Rule") (X_W2006 : Exa Z Z.heap w_W2006 "com/example/portwright/portwright/check/Rule") (X_W2007 : Exa Z Z.heap w_W2007 "com/example/portwright/portwright/check/Rule") (X_W2008 : Exa Z Z.heap w_W2008 "com/example/portwright/portwright/check/Rule") (X_W2009 : Exa Z Z.heap w_W2009 "com/example/portwright/portwright/check/Rule") (X_R2101 : Exa Z Z.heap w_R2101 "com/example/portwright/portwright/check/Rule") (X_R2102 : Exa Z Z.heap w_R2102 "com/example/portwright/portwright/check/Rule") (X_R2206 : Exa Z Z.heap w_R2206 "com/example/portwright/portwright/check/Rule") (hnd : List.Nodup [w_W2001, w_W2002, w_W2003, w_W2004, w_W2005, w_W2006, w_W2007, w_W2008, w_W2009, w_R2101, w_R2102, w_R2206]) :
    Ct false l Z [] tables_1 x code maxLocals ret room_1 #[(.int p1), (.int p2)] h0 [] [] (fun v h => v = some (.int 1)) := by
  refine Ct.of_wp (a0 := a0) (Ls := #[.val (.int p1), .val (.int p2), .unset, .unset, .unset, .unset, .unset]) (plainFor_of_name pn_com_example_portwright_portwright_check_ReferenceRulesRulesPinLaw) hE hO nofun (fun m => ef_ct0 m p1 p2) ?_
  have hX : ∀ z ∈ [w_W2001, w_W2002, w_W2003, w_W2004, w_W2005, w_W2006, w_W2007, w_W2008, w_W2009, w_R2101, w_R2102, w_R2206], Exa Z Z.heap z "com/example/portwright/portwright/check/Rule" := by
    intro z hz
    simp only [List.mem_cons, List.not_mem_nil, or_false] at hz
    rcases hz with rfl | rfl | rfl | rfl | rfl | rfl | rfl | rfl | rfl | rfl | rfl | rfl
    · exact X_W2001
    · exact X_W2002
    · exact X_W2003
    · exact X_W2004
    · exact X_W2005
    · exact X_W2006
    · exact X_W2007
    · exact X_W2008
    · exact X_W2009
    · exact X_R2101
    · exact X_R2102
    · exact X_R2206
  refine Wp.iloadN at_0 (pc' := 1) rfl rfl ?_
  refine Wp.ldcI rfl (hw _ (List.mem_of_getElem? (i := 0) rfl)) at_1 (pc' := 3) rfl ?_
  refine Wp.iand at_3 (pc' := 4) rfl ?_
  refine Wp.bipush (x := (12 : Int32)) at_4 (pc' := 6) rfl rfl ?_
  refine Wp.irem at_6 (pc' := 7) rfl (by decide) ?_
  generalize g_i2 : ((p1 &&& (2147483647 : Int32)) % (12 : Int32)) = i2
  have r_i2 := own_idx p1
  rw [g_i2] at r_i2
  obtain ⟨x, hx_x, hin_x, hv_x⟩ := own_pick (W := [w_W2001, w_W2002, w_W2003, w_W2004, w_W2005, w_W2006, w_W2007, w_W2008, w_W2009, w_R2101, w_R2102, w_R2206]) rfl r_i2.1 r_i2.2
  have XX_x : Exa Z Z.heap x "com/example/portwright/portwright/check/Rule" := hX x hin_x
  refine Wp.istoreN (l' := #[.val (.int p1), .val (.int p2), .val (.int i2), .unset, .unset, .unset, .unset]) at_7 (pc' := 8) rfl rfl ?_
  refine Wp.iloadN at_8 (pc' := 9) rfl rfl ?_
  refine Wp.ldcI rfl (hw _ (List.mem_of_getElem? (i := 0) rfl)) at_9 (pc' := 11) rfl ?_
  refine Wp.iand at_11 (pc' := 12) rfl ?_
  refine Wp.bipush (x := (12 : Int32)) at_12 (pc' := 14) rfl rfl ?_
  refine Wp.irem at_14 (pc' := 15) rfl (by decide) ?_
  generalize g_i3 : ((p2 &&& (2147483647 : Int32)) % (12 : Int32)) = i3
  have r_i3 := own_idx p2
  rw [g_i3] at r_i3
  obtain ⟨y, hx_y, hin_y, hv_y⟩ := own_pick (W := [w_W2001, w_W2002, w_W2003, w_W2004, w_W2005, w_W2006, w_W2007, w_W2008, w_W2009, w_R2101, w_R2102, w_R2206]) rfl r_i3.1 r_i3.2
  have XX_y : Exa Z Z.heap y "com/example/portwright/portwright/check/Rule" := hX y hin_y
  refine Wp.istoreN (l' := #[.val (.int p1), .val (.int p2), .val (.int i2), .val (.int i3), .unset, .unset, .unset]) at_15 (pc' := 16) rfl rfl ?_
  refine Wp.new rfl (hw _ (List.mem_of_getElem? (i := 1) rfl)) (hw _ (List.mem_of_getElem? (i := 2) rfl)) (hw _ (List.mem_of_getElem? (i := 3) rfl)) at_16 (pc' := 19) rfl (k' := 1) (n' := 0) rfl rfl (by decide) (by decide) (fun h1 b1 g_b1 sz_b1 Xh1 E_b1 D_b1 => ?_)
  clear D_b1
  refine Wp.dup at_19 (pc' := 20) rfl rfl ?_
  refine Wp.old fun hOc => ?_
  refine Wp.callI (a := b1) (W := 1) (argsL := []) (rest := [(.ref b1)]) rfl (ct1 l Z a0 hw hE b1 h1 hOc) rfl rfl (hw _ (List.mem_of_getElem? (i := 4) rfl)) (hw _ (List.mem_of_getElem? (i := 5) rfl)) (hw _ (List.mem_of_getElem? (i := 6) rfl)) (hw _ (List.mem_of_getElem? (i := 3) rfl)) (by decide) (lenOf pd___V rfl) at_20 rfl rfl rfl (Nat.le_of_eq rfl) (pc' := 23) rfl nofun nofun (by decide) (by decide) (k' := 1) (n' := 0) rfl rfl (by decide) (by decide) (fun vh2 h2 zh2 Kh2 qh2 => ?_)
  obtain rfl := qh2
  replace E_b1 := E_b1.keep Kh2
  refine Wp.eqS (S' := [(.ref b1)]) rfl ?_
  refine Wp.old fun hOc => ?_
  refine Wp.callV (a := b1) (x' := (⟨"com/example/portwright/portwright/check/ReferenceRules", "rules", "()Ljava/util/List;"⟩ : MethodName)) (W := 0) (argsL := []) (rest := []) rfl (ct3 l Z a0 hw hE b1 w_W2001 w_W2002 w_W2003 w_W2004 w_W2005 w_W2006 w_W2007 w_W2008 w_W2009 w_R2101 w_R2102 w_R2206 h2 hOc S_W2001 S_W2002 S_W2003 S_W2004 S_W2005 S_W2006 S_W2007 S_W2008 S_W2009 S_R2101 S_R2102 S_R2206 X_W2001 X_W2002 X_W2003 X_W2004 X_W2005 X_W2006 X_W2007 X_W2008 X_W2009 X_R2101 X_R2102 X_R2206) (hw _ (List.mem_of_getElem? (i := 10) rfl)) (hw _ (List.mem_of_getElem? (i := 11) rfl)) (hw _ (List.mem_of_getElem? (i := 13) rfl)) (hw _ (List.mem_of_getElem? (i := 12) rfl)) (hw _ (List.mem_of_getElem? (i := 14) rfl)) (hw _ (List.mem_of_getElem? (i := 3) rfl)) (fun s hZ => nf_sel rfl (hw _ (List.mem_of_getElem? (i := 13) rfl)) s hZ rfl) E_b1 (by decide) (lenOf pd___Ljava_util_List_ rfl) at_23 rfl rfl rfl (Nat.le_of_eq rfl) (pc' := 26) rfl nofun nofun (by decide) (by decide) (k' := 4) (n' := 26) rfl rfl (by decide) (by decide) (fun vh3 h3 zh3 Kh3 qh3 => ?_)
  obtain ⟨b923, e_b923, kk_b923, rfl, sb_b923, E_b923, Fe_b923, V_e_b923⟩ := qh3
  have ne_b1_b923 : b1 ≠ b923 := Nat.ne_of_lt (Nat.lt_of_lt_of_le E_b1.lt sb_b923)
  replace E_b1 := E_b1.keep Kh3
  refine Wp.eqS (S' := [(.ref b923)]) rfl ?_
  have sz_b923 : h0.size ≤ b923 := Nat.le_trans zh3 sb_b923
  refine Wp.astore (l' := #[.val (.int p1), .val (.int p2), .val (.int i2), .val (.int i3), .val (.ref b923), .unset, .unset]) at_26 (pc' := 28) rfl rfl rfl ?_
  refine Wp.aload at_28 (pc' := 30) rfl rfl rfl ?_
  refine Wp.old fun hOc => ?_
  refine Wp.callF (a := b923) (x' := (⟨"java/util/List", "size", "()I"⟩ : MethodName)) (W := 0) (argsL := []) (rest := []) rfl (ct11 l Z a0 hw hE b923 e_b923 kk_b923 _ h3 hOc Fe_b923 V_e_b923) (hw _ (List.mem_of_getElem? (i := 87) rfl)) (hw _ (List.mem_of_getElem? (i := 88) rfl)) (hw _ (List.mem_of_getElem? (i := 89) rfl)) (hw _ (List.mem_of_getElem? (i := 90) rfl)) (hw _ (List.mem_of_getElem? (i := 91) rfl)) (hw _ (List.mem_of_getElem? (i := 92) rfl)) rfl (hw _ (List.mem_of_getElem? (i := 93) rfl)) (hw _ (List.mem_of_getElem? (i := 94) rfl)) (hw _ (List.mem_of_getElem? (i := 95) rfl)) (hw _ (List.mem_of_getElem? (i := 59) rfl)) E_b923 (by decide) (lenOf pd___I rfl) at_30 rfl rfl rfl (Nat.le_of_eq rfl) (pc' := 35) rfl nofun nofun (by decide) (by decide) (k' := 4) (n' := 26) rfl rfl (by decide) (by decide) (fun vh4 h4 zh4 Kh4 qh4 => ?_)
  obtain rfl := qh4
  replace E_b1 := E_b1.keep Kh4
  replace E_b923 := E_b923.keep Kh4
  replace Fe_b923 := Fe_b923.keep Kh4 nin0
  replace V_e_b923 := V_e_b923.keep Kh4 nin0
  refine Wp.eqS (S' := [(.int (12 : Int32))]) rfl ?_
  refine Wp.bipush (x := (12 : Int32)) at_35 (pc' := 37) rfl rfl ?_
  refine Wp.icmp_eq (pc1 := 42) (pc' := 40) at_37 (by decide) (by decide) rfl (fun hc5 => ?_) (fun hc5 => by exact absurd hc5 (by decide))
  refine Wp.aload at_42 (pc' := 44) rfl rfl rfl ?_
  refine Wp.iloadN at_44 (pc' := 45) rfl rfl ?_
  refine Wp.old fun hOc => ?_
  refine Wp.callF (a := b923) (x' := (⟨"java/util/List", "get", "(I)Ljava/lang/Object;"⟩ : MethodName)) (W := 0) (argsL := [(.int i2)]) (rest := []) rfl (ct12 l Z a0 hw hE b923 e_b923 kk_b923 _ i2 x h4 hOc Fe_b923 V_e_b923 r_i2.1 r_i2.2 hv_x) (hw _ (List.mem_of_getElem? (i := 96) rfl)) (hw _ (List.mem_of_getElem? (i := 97) rfl)) (hw _ (List.mem_of_getElem? (i := 98) rfl)) (hw _ (List.mem_of_getElem? (i := 99) rfl)) (hw _ (List.mem_of_getElem? (i := 100) rfl)) (hw _ (List.mem_of_getElem? (i := 101) rfl)) rfl (hw _ (List.mem_of_getElem? (i := 102) rfl)) (hw _ (List.mem_of_getElem? (i := 94) rfl)) (hw _ (List.mem_of_getElem? (i := 103) rfl)) (hw _ (List.mem_of_getElem? (i := 59) rfl)) E_b923 (by decide) (lenOf pd__I_Ljava_lang_Object_ rfl) at_45 rfl rfl rfl (Nat.le_of_eq rfl) (pc' := 50) rfl nofun nofun (by decide) (by decide) (k' := 4) (n' := 26) rfl rfl (by decide) (by decide) (fun vh6 h6 zh6 Kh6 qh6 => ?_)
  obtain rfl := qh6
  replace E_b1 := E_b1.keep Kh6
  replace E_b923 := E_b923.keep Kh6
  replace Fe_b923 := Fe_b923.keep Kh6 nin0
  replace V_e_b923 := V_e_b923.keep Kh6 nin0
  refine Wp.eqS (S' := [(.ref x)]) rfl ?_
  refine Wp.old fun hOc => ?_
  refine Wp.castY rfl (hw _ (List.mem_of_getElem? (i := 104) rfl)) (Ins.self (XX_x.ext hOc)) at_50 (pc' := 53) rfl ?_
  refine Wp.astore (l' := #[.val (.int p1), .val (.int p2), .val (.int i2), .val (.int i3), .val (.ref b923), .val (.ref x), .unset]) at_53 (pc' := 55) rfl rfl rfl ?_
  refine Wp.aload at_55 (pc' := 57) rfl rfl rfl ?_
  refine Wp.iloadN at_57 (pc' := 58) rfl rfl ?_
  refine Wp.old fun hOc => ?_
  refine Wp.callF (a := b923) (x' := (⟨"java/util/List", "get", "(I)Ljava/lang/Object;"⟩ : MethodName)) (W := 0) (argsL := [(.int i3)]) (rest := []) rfl (ct12 l Z a0 hw hE b923 e_b923 kk_b923 _ i3 y h6 hOc Fe_b923 V_e_b923 r_i3.1 r_i3.2 hv_y) (hw _ (List.mem_of_getElem? (i := 96) rfl)) (hw _ (List.mem_of_getElem? (i := 97) rfl)) (hw _ (List.mem_of_getElem? (i := 98) rfl)) (hw _ (List.mem_of_getElem? (i := 99) rfl)) (hw _ (List.mem_of_getElem? (i := 100) rfl)) (hw _ (List.mem_of_getElem? (i := 101) rfl)) rfl (hw _ (List.mem_of_getElem? (i := 102) rfl)) (hw _ (List.mem_of_getElem? (i := 94) rfl)) (hw _ (List.mem_of_getElem? (i := 103) rfl)) (hw _ (List.mem_of_getElem? (i := 59) rfl)) E_b923 (by decide) (lenOf pd__I_Ljava_lang_Object_ rfl) at_58 rfl rfl rfl (Nat.le_of_eq rfl) (pc' := 63) rfl nofun nofun (by decide) (by decide) (k' := 4) (n' := 26) rfl rfl (by decide) (by decide) (fun vh7 h7 zh7 Kh7 qh7 => ?_)
  obtain rfl := qh7
  replace E_b1 := E_b1.keep Kh7
  replace E_b923 := E_b923.keep Kh7
  replace Fe_b923 := Fe_b923.keep Kh7 nin0
  replace V_e_b923 := V_e_b923.keep Kh7 nin0
  refine Wp.eqS (S' := [(.ref y)]) rfl ?_
  refine Wp.old fun hOc => ?_
  refine Wp.castY rfl (hw _ (List.mem_of_getElem? (i := 104) rfl)) (Ins.self (XX_y.ext hOc)) at_63 (pc' := 66) rfl ?_
  refine Wp.astore (l' := #[.val (.int p1), .val (.int p2), .val (.int i2), .val (.int i3), .val (.ref b923), .val (.ref x), .val (.ref y)]) at_66 (pc' := 68) rfl rfl rfl ?_
  refine Wp.aload at_68 (pc' := 70) rfl rfl rfl ?_
  refine Wp.ifnullNo (pc' := 73) at_70 rfl ?_
  refine Wp.aload at_73 (pc' := 75) rfl rfl rfl ?_
  refine Wp.ifnonnullYes (pc' := 80) at_75 (by decide) (by decide) ?_
  refine Wp.aload at_80 (pc' := 82) rfl rfl rfl ?_
  refine Wp.old fun hOc => ?_
  refine Wp.callS (W := 0) (argsL := [(.ref x)]) (rest := []) rfl (ct13 l Z a0 hw hE x w_W2001 w_W2002 w_W2003 w_W2004 w_W2005 w_W2006 w_W2007 w_W2008 w_W2009 w_R2101 w_R2102 w_R2206 h7 hOc S_W2001 S_W2002 S_W2003 S_W2004 S_W2005 S_W2006 S_W2007 S_W2008 S_W2009 S_R2101 S_R2102 S_R2206 hin_x) (hw _ (List.mem_of_getElem? (i := 105) rfl)) (hw _ (List.mem_of_getElem? (i := 106) rfl)) (hw _ (List.mem_of_getElem? (i := 108) rfl)) (hw _ (List.mem_of_getElem? (i := 107) rfl)) (by decide) (lenOf pd__Lcom_example_portwright_portwright_check_Rule__Z rfl) at_82 rfl rfl rfl (Nat.le_of_eq rfl) (pc' := 85) rfl nofun nofun (by decide) (by decide) (k' := 4) (n' := 26) rfl rfl (by decide) (by decide) (fun vh8 h8 zh8 Kh8 qh8 => ?_)
  obtain rfl := qh8
  replace E_b1 := E_b1.keep Kh8
  replace E_b923 := E_b923.keep Kh8
  replace Fe_b923 := Fe_b923.keep Kh8 nin0
  replace V_e_b923 := V_e_b923.keep Kh8 nin0
  refine Wp.eqS (S' := [(.int (1 : Int32))]) rfl ?_
  refine Wp.if_eq (pc1 := 125) (pc' := 88) at_85 (by decide) (by decide) rfl (fun hc9 => by exact absurd hc9 (by decide)) (fun hc9 => ?_)
  refine Wp.aload at_88 (pc' := 90) rfl rfl rfl ?_
  refine Wp.old fun hOc => ?_
  refine Wp.callS (W := 0) (argsL := [(.ref y)]) (rest := []) rfl (ct13 l Z a0 hw hE y w_W2001 w_W2002 w_W2003 w_W2004 w_W2005 w_W2006 w_W2007 w_W2008 w_W2009 w_R2101 w_R2102 w_R2206 h8 hOc S_W2001 S_W2002 S_W2003 S_W2004 S_W2005 S_W2006 S_W2007 S_W2008 S_W2009 S_R2101 S_R2102 S_R2206 hin_y) (hw _ (List.mem_of_getElem? (i := 105) rfl)) (hw _ (List.mem_of_getElem? (i := 106) rfl)) (hw _ (List.mem_of_getElem? (i := 108) rfl)) (hw _ (List.mem_of_getElem? (i := 107) rfl)) (by decide) (lenOf pd__Lcom_example_portwright_portwright_check_Rule__Z rfl) at_90 rfl rfl rfl (Nat.le_of_eq rfl) (pc' := 93) rfl nofun nofun (by decide) (by decide) (k' := 4) (n' := 26) rfl rfl (by decide) (by decide) (fun vh10 h10 zh10 Kh10 qh10 => ?_)
  obtain rfl := qh10
  replace E_b1 := E_b1.keep Kh10
  replace E_b923 := E_b923.keep Kh10
  replace Fe_b923 := Fe_b923.keep Kh10 nin0
  replace V_e_b923 := V_e_b923.keep Kh10 nin0
  refine Wp.eqS (S' := [(.int (1 : Int32))]) rfl ?_
  refine Wp.if_eq (pc1 := 125) (pc' := 96) at_93 (by decide) (by decide) rfl (fun hc11 => by exact absurd hc11 (by decide)) (fun hc11 => ?_)
  refine Wp.iloadN at_96 (pc' := 97) rfl rfl ?_
  refine Wp.iloadN at_97 (pc' := 98) rfl rfl ?_
  refine Wp.icmp_ne (pc1 := 105) (pc' := 101) at_98 (by decide) (by decide) rfl (fun hc12 => ?_) (fun hc12 => ?_)
  · have hc12 : ¬ (i2 = i3) := hc12
    refine Wp.iconst (x := (0 : Int32)) at_105 (pc' := 106) rfl rfl ?_
    refine Wp.aload at_106 (pc' := 108) rfl rfl rfl ?_
    refine Wp.aload at_108 (pc' := 110) rfl rfl rfl ?_
    refine Wp.acmp_ne (pc1 := 117) (pc' := 113) rfl rfl at_110 (by decide) (by decide) rfl (fun hc13 => ?_) (fun hc13 => by exact absurd (own_inj hnd r_i2.1 r_i3.1 hx_x (by rw [Value.ref.inj hc13]; exact hx_y)) hc12)
    refine Wp.iconst (x := (0 : Int32)) at_117 (pc' := 118) rfl rfl ?_
    refine Wp.icmp_ne (pc1 := 125) (pc' := 121) at_118 (by decide) (by decide) rfl (fun hc14 => by exact absurd hc14 (by decide)) (fun hc14 => ?_)
    refine Wp.iconst (x := (1 : Int32)) at_121 (pc' := 122) rfl rfl ?_
    refine Wp.goto (pc' := 126) at_122 (by decide) (by decide) ?_
    refine Wp.retN (x' := (1 : Int32)) (t := .boolean) rfl (by simp) rfl at_126 (by decide) (by decide) ?_
    rfl
  · have hc12 : i2 = i3 := hc12
    refine Wp.iconst (x := (1 : Int32)) at_101 (pc' := 102) rfl rfl ?_
    refine Wp.goto (pc' := 106) at_102 (by decide) (by decide) ?_
    refine Wp.aload at_106 (pc' := 108) rfl rfl rfl ?_
    refine Wp.aload at_108 (pc' := 110) rfl rfl rfl ?_
    refine Wp.acmp_ne (pc1 := 117) (pc' := 113) rfl rfl at_110 (by decide) (by decide) rfl (fun hc15 => by exact absurd (congrArg Value.ref (Option.some.inj (hx_x.symm.trans (by rw [hc12]; exact hx_y)))) hc15) (fun hc15 => ?_)
    refine Wp.iconst (x := (1 : Int32)) at_113 (pc' := 114) rfl rfl ?_
    refine Wp.goto (pc' := 118) at_114 (by decide) (by decide) ?_
    refine Wp.icmp_ne (pc1 := 125) (pc' := 121) at_118 (by decide) (by decide) rfl (fun hc16 => by exact absurd hc16 (by decide)) (fun hc16 => ?_)
    refine Wp.iconst (x := (1 : Int32)) at_121 (pc' := 122) rfl rfl ?_
    refine Wp.goto (pc' := 126) at_122 (by decide) (by decide) ?_
    refine Wp.retN (x' := (1 : Int32)) (t := .boolean) rfl (by simp) rfl at_126 (by decide) (by decide) ?_
    rfl
set_option maxRecDepth 65536 in
set_option maxHeartbeats 40000000 in
theorem comes_1 {Post : Tables → Env → Array Value → State → Outcome → State → Prop} (hpost : ∀ tb e args s v u, (limb_1_1.after args s (.returned v) u = true ∧ limb_1_2.after args s (.returned v) u = true ∧ True) → FrameEnd s (.returned v) u (Jvm.fieldLocs frame_1_writes args s ++ Jvm.arrayLocs frame_1_arrays args s ++ Jvm.staticLocs frame_1_statics s) 16 128 → Post tb e args s (.returned v) u) :
    ArmFor flags0 classFile x code maxLocals ret World_1 tables_1 room_1 Calls_1 rest_1 Pre_1 Post := by
  intro l hfl _ _ p e ha hc hk s m args below hf hA hF happ hP
  obtain ⟨hcalls, hrest, hpre⟩ := hP
  obtain ⟨-, -, -, hnamed, -, -, -, hat⟩ := (Spec.applies_iff hf).mp happ
  obtain ⟨hg, hn⟩ := and_e (Cond.before_iff.mp (show (Jvm.Cond.and given_1 narrow_1).before args s = true from hpre))
  obtain ⟨gc, ga0⟩ := and_e hg
  obtain ⟨ga0, ga1⟩ := and_e ga0
  obtain ⟨w0, w1, rfl⟩ : ∃ w0 w1 : Value, args = #[w0, w1] := by
    have hs : args.size = 2 := by simpa [Cond.value, given_1] using gc
    obtain ⟨L⟩ := args
    match L, hs with
    | [w0, w1], _ => exact ⟨w0, w1, rfl⟩
  have hw := fun d (hd : d ∈ tables_1) => atoms_spec (ws := Jvm.Cond.code x code maxLocals ret :: tables_1) hat d (List.mem_cons_of_mem _ hd)
  obtain ⟨i0, ei0⟩ := is_v ga0
  obtain rfl : w0 = (.int i0) := Option.some.inj ei0
  obtain ⟨i1, ei1⟩ := is_v ga1
  obtain rfl : w1 = (.int i1) := Option.some.inj ei1
  obtain ⟨m0, r0⟩ := and_e hn
  obtain ⟨m1, r1⟩ := and_e r0
  obtain ⟨m2, r2⟩ := and_e r1
  obtain ⟨m3, r3⟩ := and_e r2
  obtain ⟨m4, r4⟩ := and_e r3
  obtain ⟨m5, r5⟩ := and_e r4
  obtain ⟨m6, r6⟩ := and_e r5
  obtain ⟨m7, r7⟩ := and_e r6
  obtain ⟨m8, r8⟩ := and_e r7
  obtain ⟨m9, r9⟩ := and_e r8
  obtain ⟨m10, r10⟩ := and_e r9
  obtain ⟨m11, r11⟩ := and_e r10
  obtain ⟨m12, r12⟩ := and_e r11
  obtain ⟨m13, r13⟩ := and_e r12
  obtain ⟨m14, r14⟩ := and_e r13
  obtain ⟨m15, r15⟩ := and_e r14
  obtain ⟨m16, r16⟩ := and_e r15
  obtain ⟨m17, r17⟩ := and_e r16
  obtain ⟨m18, r18⟩ := and_e r17
  obtain ⟨m19, r19⟩ := and_e r18
  obtain ⟨m20, r20⟩ := and_e r19
  obtain ⟨m21, r21⟩ := and_e r20
  obtain ⟨m22, r22⟩ := and_e r21
  obtain ⟨m23, r23⟩ := and_e r22
  obtain ⟨m24, r24⟩ := and_e r23
  obtain ⟨m25, r25⟩ := and_e r24
  obtain ⟨m26, r26⟩ := and_e r25
  obtain ⟨m27, r27⟩ := and_e r26
  obtain ⟨m28, r28⟩ := and_e r27
  obtain ⟨m29, r29⟩ := and_e r28
  obtain ⟨m30, r30⟩ := and_e r29
  obtain ⟨m31, r31⟩ := and_e r30
  obtain ⟨m32, r32⟩ := and_e r31
  obtain ⟨m33, r33⟩ := and_e r32
  obtain ⟨m34, r34⟩ := and_e r33
  obtain ⟨m35, r35⟩ := and_e r34
  obtain ⟨m36, r36⟩ := and_e r35
  obtain ⟨m37, r37⟩ := and_e r36
  obtain ⟨m38, r38⟩ := and_e r37
  obtain ⟨m39, r39⟩ := and_e r38
  obtain ⟨m40, r40⟩ := and_e r39
  obtain ⟨m41, r41⟩ := and_e r40
  obtain ⟨m42, r42⟩ := and_e r41
  obtain ⟨m43, r43⟩ := and_e r42
  obtain ⟨m44, r44⟩ := and_e r43
  obtain ⟨m45, r45⟩ := and_e r44
  obtain ⟨m46, r46⟩ := and_e r45
  obtain ⟨m47, r47⟩ := and_e r46
  obtain ⟨m48, r48⟩ := and_e r47
  obtain ⟨m49, r49⟩ := and_e r48
  obtain ⟨m50, r50⟩ := and_e r49
  obtain ⟨m51, r51⟩ := and_e r50
  obtain ⟨m52, r52⟩ := and_e r51
  obtain ⟨m53, r53⟩ := and_e r52
  obtain ⟨m54, r54⟩ := and_e r53
  obtain ⟨m55, r55⟩ := and_e r54
  obtain ⟨m56, r56⟩ := and_e r55
  obtain ⟨m57, r57⟩ := and_e r56
  obtain ⟨m58, r58⟩ := and_e r57
  obtain ⟨m59, r59⟩ := and_e r58
  obtain ⟨m60, r60⟩ := and_e r59
  obtain ⟨m61, r61⟩ := and_e r60
  obtain ⟨m62, r62⟩ := and_e r61
  obtain ⟨m63, r63⟩ := and_e r62
  obtain ⟨m64, r64⟩ := and_e r63
  obtain ⟨m65, r65⟩ := and_e r64
  obtain ⟨m66, r66⟩ := and_e r65
  obtain ⟨m67, r67⟩ := and_e r66
  obtain ⟨m68, r68⟩ := and_e r67
  obtain ⟨m69, r69⟩ := and_e r68
  obtain ⟨m70, r70⟩ := and_e r69
  obtain ⟨m71, r71⟩ := and_e r70
  obtain ⟨m72, r72⟩ := and_e r71
  obtain ⟨m73, r73⟩ := and_e r72
  obtain ⟨m74, r74⟩ := and_e r73
  obtain ⟨m75, r75⟩ := and_e r74
  obtain ⟨m76, r76⟩ := and_e r75
  have m77 := r76
  obtain ⟨w_W2001, e_W2001⟩ := exa_v m0
  have S_W2001 := Sta.start e_W2001 (Or.inr ⟨(hw _ (List.mem_of_getElem? (i := 3) rfl)), (hw _ (List.mem_of_getElem? (i := 18) rfl))⟩)
  have X_W2001 := Exa.start e_W2001 m0
  obtain ⟨w_W2002, e_W2002⟩ := exa_v m1
  have S_W2002 := Sta.start e_W2002 (Or.inr ⟨(hw _ (List.mem_of_getElem? (i := 3) rfl)), (hw _ (List.mem_of_getElem? (i := 21) rfl))⟩)
  have X_W2002 := Exa.start e_W2002 m1
  obtain ⟨w_W2003, e_W2003⟩ := exa_v m2
  have S_W2003 := Sta.start e_W2003 (Or.inr ⟨(hw _ (List.mem_of_getElem? (i := 3) rfl)), (hw _ (List.mem_of_getElem? (i := 23) rfl))⟩)
  have X_W2003 := Exa.start e_W2003 m2
  obtain ⟨w_W2004, e_W2004⟩ := exa_v m3
  have S_W2004 := Sta.start e_W2004 (Or.inr ⟨(hw _ (List.mem_of_getElem? (i := 3) rfl)), (hw _ (List.mem_of_getElem? (i := 25) rfl))⟩)
  have X_W2004 := Exa.start e_W2004 m3
  obtain ⟨w_W2005, e_W2005⟩ := exa_v m4
  have S_W2005 := Sta.start e_W2005 (Or.inr ⟨(hw _ (List.mem_of_getElem? (i := 3) rfl)), (hw _ (List.mem_of_getElem? (i := 27) rfl))⟩)
  have X_W2005 := Exa.start e_W2005 m4
  obtain ⟨w_W2006, e_W2006⟩ := exa_v m5
  have S_W2006 := Sta.start e_W2006 (Or.inr ⟨(hw _ (List.mem_of_getElem? (i := 3) rfl)), (hw _ (List.mem_of_getElem? (i := 29) rfl))⟩)
  have X_W2006 := Exa.start e_W2006 m5
  obtain ⟨w_W2007, e_W2007⟩ := exa_v m6
  have S_W2007 := Sta.start e_W2007 (Or.inr ⟨(hw _ (List.mem_of_getElem? (i := 3) rfl)), (hw _ (List.mem_of_getElem? (i := 31) rfl))⟩)
  have X_W2007 := Exa.start e_W2007 m6
  obtain ⟨w_W2008, e_W2008⟩ := exa_v m7
  have S_W2008 := Sta.start e_W2008 (Or.inr ⟨(hw _ (List.mem_of_getElem? (i := 3) rfl)), (hw _ (List.mem_of_getElem? (i := 33) rfl))⟩)
  have X_W2008 := Exa.start e_W2008 m7
  obtain ⟨w_W2009, e_W2009⟩ := exa_v m8
  have S_W2009 := Sta.start e_W2009 (Or.inr ⟨(hw _ (List.mem_of_getElem? (i := 3) rfl)), (hw _ (List.mem_of_getElem? (i := 35) rfl))⟩)
  have X_W2009 := Exa.start e_W2009 m8
  obtain ⟨w_R2101, e_R2101⟩ := exa_v m9
  have S_R2101 := Sta.start e_R2101 (Or.inr ⟨(hw _ (List.mem_of_getElem? (i := 3) rfl)), (hw _ (List.mem_of_getElem? (i := 37) rfl))⟩)
  have X_R2101 := Exa.start e_R2101 m9
  obtain ⟨w_R2102, e_R2102⟩ := exa_v m10
  have S_R2102 := Sta.start e_R2102 (Or.inr ⟨(hw _ (List.mem_of_getElem? (i := 3) rfl)), (hw _ (List.mem_of_getElem? (i := 39) rfl))⟩)
  have X_R2102 := Exa.start e_R2102 m10
  obtain ⟨w_R2206, e_R2206⟩ := exa_v m11
  have S_R2206 := Sta.start e_R2206 (Or.inr ⟨(hw _ (List.mem_of_getElem? (i := 3) rfl)), (hw _ (List.mem_of_getElem? (i := 41) rfl))⟩)
  have X_R2206 := Exa.start e_R2206 m11
  have ne_W2001_W2004 : w_W2001 ≠ w_W2004 := fun q => gotF (eq_R e_W2001 e_W2004 rfl rfl) (not_v m12) (congrArg Value.ref q)
  have ne_W2002_W2004 : w_W2002 ≠ w_W2004 := fun q => gotF (eq_R e_W2002 e_W2004 rfl rfl) (not_v m13) (congrArg Value.ref q)
  have ne_W2003_W2004 : w_W2003 ≠ w_W2004 := fun q => gotF (eq_R e_W2003 e_W2004 rfl rfl) (not_v m14) (congrArg Value.ref q)
  have ne_W2001_W2003 : w_W2001 ≠ w_W2003 := fun q => gotF (eq_R e_W2001 e_W2003 rfl rfl) (not_v m15) (congrArg Value.ref q)
  have ne_W2002_W2003 : w_W2002 ≠ w_W2003 := fun q => gotF (eq_R e_W2002 e_W2003 rfl rfl) (not_v m16) (congrArg Value.ref q)
  have ne_W2001_W2002 : w_W2001 ≠ w_W2002 := fun q => gotF (eq_R e_W2001 e_W2002 rfl rfl) (not_v m17) (congrArg Value.ref q)
  have ne_R2206_W2001 : w_R2206 ≠ w_W2001 := fun q => gotF (eq_R e_R2206 e_W2001 rfl rfl) (not_v m18) (congrArg Value.ref q)
  have ne_R2206_W2002 : w_R2206 ≠ w_W2002 := fun q => gotF (eq_R e_R2206 e_W2002 rfl rfl) (not_v m19) (congrArg Value.ref q)
  have ne_R2206_W2003 : w_R2206 ≠ w_W2003 := fun q => gotF (eq_R e_R2206 e_W2003 rfl rfl) (not_v m20) (congrArg Value.ref q)
  have ne_R2206_W2004 : w_R2206 ≠ w_W2004 := fun q => gotF (eq_R e_R2206 e_W2004 rfl rfl) (not_v m21) (congrArg Value.ref q)
  have ne_R2206_W2005 : w_R2206 ≠ w_W2005 := fun q => gotF (eq_R e_R2206 e_W2005 rfl rfl) (not_v m22) (congrArg Value.ref q)
  have ne_R2206_W2006 : w_R2206 ≠ w_W2006 := fun q => gotF (eq_R e_R2206 e_W2006 rfl rfl) (not_v m23) (congrArg Value.ref q)
  have ne_R2206_W2007 : w_R2206 ≠ w_W2007 := fun q => gotF (eq_R e_R2206 e_W2007 rfl rfl) (not_v m24) (congrArg Value.ref q)
  have ne_R2206_W2008 : w_R2206 ≠ w_W2008 := fun q => gotF (eq_R e_R2206 e_W2008 rfl rfl) (not_v m25) (congrArg Value.ref q)
  have ne_R2206_W2009 : w_R2206 ≠ w_W2009 := fun q => gotF (eq_R e_R2206 e_W2009 rfl rfl) (not_v m26) (congrArg Value.ref q)
  have ne_R2101_R2206 : w_R2101 ≠ w_R2206 := fun q => gotF (eq_R e_R2101 e_R2206 rfl rfl) (not_v m27) (congrArg Value.ref q)
  have ne_R2102_R2206 : w_R2102 ≠ w_R2206 := fun q => gotF (eq_R e_R2102 e_R2206 rfl rfl) (not_v m28) (congrArg Value.ref q)
  have ne_W2001_W2009 : w_W2001 ≠ w_W2009 := fun q => gotF (eq_R e_W2001 e_W2009 rfl rfl) (not_v m29) (congrArg Value.ref q)
  have ne_W2002_W2009 : w_W2002 ≠ w_W2009 := fun q => gotF (eq_R e_W2002 e_W2009 rfl rfl) (not_v m30) (congrArg Value.ref q)
  have ne_W2003_W2009 : w_W2003 ≠ w_W2009 := fun q => gotF (eq_R e_W2003 e_W2009 rfl rfl) (not_v m31) (congrArg Value.ref q)
  have ne_W2004_W2009 : w_W2004 ≠ w_W2009 := fun q => gotF (eq_R e_W2004 e_W2009 rfl rfl) (not_v m32) (congrArg Value.ref q)
  have ne_W2005_W2009 : w_W2005 ≠ w_W2009 := fun q => gotF (eq_R e_W2005 e_W2009 rfl rfl) (not_v m33) (congrArg Value.ref q)
  have ne_W2006_W2009 : w_W2006 ≠ w_W2009 := fun q => gotF (eq_R e_W2006 e_W2009 rfl rfl) (not_v m34) (congrArg Value.ref q)
  have ne_W2007_W2009 : w_W2007 ≠ w_W2009 := fun q => gotF (eq_R e_W2007 e_W2009 rfl rfl) (not_v m35) (congrArg Value.ref q)
  have ne_W2008_W2009 : w_W2008 ≠ w_W2009 := fun q => gotF (eq_R e_W2008 e_W2009 rfl rfl) (not_v m36) (congrArg Value.ref q)
  have ne_W2001_W2005 : w_W2001 ≠ w_W2005 := fun q => gotF (eq_R e_W2001 e_W2005 rfl rfl) (not_v m37) (congrArg Value.ref q)
  have ne_W2002_W2005 : w_W2002 ≠ w_W2005 := fun q => gotF (eq_R e_W2002 e_W2005 rfl rfl) (not_v m38) (congrArg Value.ref q)
  have ne_W2003_W2005 : w_W2003 ≠ w_W2005 := fun q => gotF (eq_R e_W2003 e_W2005 rfl rfl) (not_v m39) (congrArg Value.ref q)
  have ne_W2004_W2005 : w_W2004 ≠ w_W2005 := fun q => gotF (eq_R e_W2004 e_W2005 rfl rfl) (not_v m40) (congrArg Value.ref q)
  have ne_W2001_W2007 : w_W2001 ≠ w_W2007 := fun q => gotF (eq_R e_W2001 e_W2007 rfl rfl) (not_v m41) (congrArg Value.ref q)
  have ne_W2002_W2007 : w_W2002 ≠ w_W2007 := fun q => gotF (eq_R e_W2002 e_W2007 rfl rfl) (not_v m42) (congrArg Value.ref q)
  have ne_W2003_W2007 : w_W2003 ≠ w_W2007 := fun q => gotF (eq_R e_W2003 e_W2007 rfl rfl) (not_v m43) (congrArg Value.ref q)
  have ne_W2004_W2007 : w_W2004 ≠ w_W2007 := fun q => gotF (eq_R e_W2004 e_W2007 rfl rfl) (not_v m44) (congrArg Value.ref q)
  have ne_W2005_W2007 : w_W2005 ≠ w_W2007 := fun q => gotF (eq_R e_W2005 e_W2007 rfl rfl) (not_v m45) (congrArg Value.ref q)
  have ne_W2006_W2007 : w_W2006 ≠ w_W2007 := fun q => gotF (eq_R e_W2006 e_W2007 rfl rfl) (not_v m46) (congrArg Value.ref q)
  have ne_W2001_W2008 : w_W2001 ≠ w_W2008 := fun q => gotF (eq_R e_W2001 e_W2008 rfl rfl) (not_v m47) (congrArg Value.ref q)
  have ne_W2002_W2008 : w_W2002 ≠ w_W2008 := fun q => gotF (eq_R e_W2002 e_W2008 rfl rfl) (not_v m48) (congrArg Value.ref q)
  have ne_W2003_W2008 : w_W2003 ≠ w_W2008 := fun q => gotF (eq_R e_W2003 e_W2008 rfl rfl) (not_v m49) (congrArg Value.ref q)
  have ne_W2004_W2008 : w_W2004 ≠ w_W2008 := fun q => gotF (eq_R e_W2004 e_W2008 rfl rfl) (not_v m50) (congrArg Value.ref q)
  have ne_W2005_W2008 : w_W2005 ≠ w_W2008 := fun q => gotF (eq_R e_W2005 e_W2008 rfl rfl) (not_v m51) (congrArg Value.ref q)
  have ne_W2006_W2008 : w_W2006 ≠ w_W2008 := fun q => gotF (eq_R e_W2006 e_W2008 rfl rfl) (not_v m52) (congrArg Value.ref q)
  have ne_W2007_W2008 : w_W2007 ≠ w_W2008 := fun q => gotF (eq_R e_W2007 e_W2008 rfl rfl) (not_v m53) (congrArg Value.ref q)
  have ne_W2001_W2006 : w_W2001 ≠ w_W2006 := fun q => gotF (eq_R e_W2001 e_W2006 rfl rfl) (not_v m54) (congrArg Value.ref q)
  have ne_W2002_W2006 : w_W2002 ≠ w_W2006 := fun q => gotF (eq_R e_W2002 e_W2006 rfl rfl) (not_v m55) (congrArg Value.ref q)
  have ne_W2003_W2006 : w_W2003 ≠ w_W2006 := fun q => gotF (eq_R e_W2003 e_W2006 rfl rfl) (not_v m56) (congrArg Value.ref q)
  have ne_W2004_W2006 : w_W2004 ≠ w_W2006 := fun q => gotF (eq_R e_W2004 e_W2006 rfl rfl) (not_v m57) (congrArg Value.ref q)
  have ne_W2005_W2006 : w_W2005 ≠ w_W2006 := fun q => gotF (eq_R e_W2005 e_W2006 rfl rfl) (not_v m58) (congrArg Value.ref q)
  have ne_R2102_W2001 : w_R2102 ≠ w_W2001 := fun q => gotF (eq_R e_R2102 e_W2001 rfl rfl) (not_v m59) (congrArg Value.ref q)
  have ne_R2102_W2002 : w_R2102 ≠ w_W2002 := fun q => gotF (eq_R e_R2102 e_W2002 rfl rfl) (not_v m60) (congrArg Value.ref q)
  have ne_R2102_W2003 : w_R2102 ≠ w_W2003 := fun q => gotF (eq_R e_R2102 e_W2003 rfl rfl) (not_v m61) (congrArg Value.ref q)
  have ne_R2102_W2004 : w_R2102 ≠ w_W2004 := fun q => gotF (eq_R e_R2102 e_W2004 rfl rfl) (not_v m62) (congrArg Value.ref q)
  have ne_R2102_W2005 : w_R2102 ≠ w_W2005 := fun q => gotF (eq_R e_R2102 e_W2005 rfl rfl) (not_v m63) (congrArg Value.ref q)
  have ne_R2102_W2006 : w_R2102 ≠ w_W2006 := fun q => gotF (eq_R e_R2102 e_W2006 rfl rfl) (not_v m64) (congrArg Value.ref q)
  have ne_R2102_W2007 : w_R2102 ≠ w_W2007 := fun q => gotF (eq_R e_R2102 e_W2007 rfl rfl) (not_v m65) (congrArg Value.ref q)
  have ne_R2102_W2008 : w_R2102 ≠ w_W2008 := fun q => gotF (eq_R e_R2102 e_W2008 rfl rfl) (not_v m66) (congrArg Value.ref q)
  have ne_R2102_W2009 : w_R2102 ≠ w_W2009 := fun q => gotF (eq_R e_R2102 e_W2009 rfl rfl) (not_v m67) (congrArg Value.ref q)
  have ne_R2101_R2102 : w_R2101 ≠ w_R2102 := fun q => gotF (eq_R e_R2101 e_R2102 rfl rfl) (not_v m68) (congrArg Value.ref q)
  have ne_R2101_W2001 : w_R2101 ≠ w_W2001 := fun q => gotF (eq_R e_R2101 e_W2001 rfl rfl) (not_v m69) (congrArg Value.ref q)
  have ne_R2101_W2002 : w_R2101 ≠ w_W2002 := fun q => gotF (eq_R e_R2101 e_W2002 rfl rfl) (not_v m70) (congrArg Value.ref q)
  have ne_R2101_W2003 : w_R2101 ≠ w_W2003 := fun q => gotF (eq_R e_R2101 e_W2003 rfl rfl) (not_v m71) (congrArg Value.ref q)
  have ne_R2101_W2004 : w_R2101 ≠ w_W2004 := fun q => gotF (eq_R e_R2101 e_W2004 rfl rfl) (not_v m72) (congrArg Value.ref q)
  have ne_R2101_W2005 : w_R2101 ≠ w_W2005 := fun q => gotF (eq_R e_R2101 e_W2005 rfl rfl) (not_v m73) (congrArg Value.ref q)
  have ne_R2101_W2006 : w_R2101 ≠ w_W2006 := fun q => gotF (eq_R e_R2101 e_W2006 rfl rfl) (not_v m74) (congrArg Value.ref q)
  have ne_R2101_W2007 : w_R2101 ≠ w_W2007 := fun q => gotF (eq_R e_R2101 e_W2007 rfl rfl) (not_v m75) (congrArg Value.ref q)
  have ne_R2101_W2008 : w_R2101 ≠ w_W2008 := fun q => gotF (eq_R e_R2101 e_W2008 rfl rfl) (not_v m76) (congrArg Value.ref q)
  have ne_R2101_W2009 : w_R2101 ≠ w_W2009 := fun q => gotF (eq_R e_R2101 e_W2009 rfl rfl) (not_v m77) (congrArg Value.ref q)
  have hnd : List.Nodup [w_W2001, w_W2002, w_W2003, w_W2004, w_W2005, w_W2006, w_W2007, w_W2008, w_W2009, w_R2101, w_R2102, w_R2206] := by
    simp only [List.nodup_cons, List.mem_cons, List.not_mem_nil, or_false, not_or, List.nodup_nil, not_false_eq_true, and_true]
    refine ⟨⟨ne_W2001_W2002, ne_W2001_W2003, ne_W2001_W2004, ne_W2001_W2005, ne_W2001_W2006, ne_W2001_W2007, ne_W2001_W2008, ne_W2001_W2009, Ne.symm ne_R2101_W2001, Ne.symm ne_R2102_W2001, Ne.symm ne_R2206_W2001⟩, ⟨ne_W2002_W2003, ne_W2002_W2004, ne_W2002_W2005, ne_W2002_W2006, ne_W2002_W2007, ne_W2002_W2008, ne_W2002_W2009, Ne.symm ne_R2101_W2002, Ne.symm ne_R2102_W2002, Ne.symm ne_R2206_W2002⟩, ⟨ne_W2003_W2004, ne_W2003_W2005, ne_W2003_W2006, ne_W2003_W2007, ne_W2003_W2008, ne_W2003_W2009, Ne.symm ne_R2101_W2003, Ne.symm ne_R2102_W2003, Ne.symm ne_R2206_W2003⟩, ⟨ne_W2004_W2005, ne_W2004_W2006, ne_W2004_W2007, ne_W2004_W2008, ne_W2004_W2009, Ne.symm ne_R2101_W2004, Ne.symm ne_R2102_W2004, Ne.symm ne_R2206_W2004⟩, ⟨ne_W2005_W2006, ne_W2005_W2007, ne_W2005_W2008, ne_W2005_W2009, Ne.symm ne_R2101_W2005, Ne.symm ne_R2102_W2005, Ne.symm ne_R2206_W2005⟩, ⟨ne_W2006_W2007, ne_W2006_W2008, ne_W2006_W2009, Ne.symm ne_R2101_W2006, Ne.symm ne_R2102_W2006, Ne.symm ne_R2206_W2006⟩, ⟨ne_W2007_W2008, ne_W2007_W2009, Ne.symm ne_R2101_W2007, Ne.symm ne_R2102_W2007, Ne.symm ne_R2206_W2007⟩, ⟨ne_W2008_W2009, Ne.symm ne_R2101_W2008, Ne.symm ne_R2102_W2008, Ne.symm ne_R2206_W2008⟩, ⟨Ne.symm ne_R2101_W2009, Ne.symm ne_R2102_W2009, Ne.symm ne_R2206_W2009⟩, ⟨ne_R2101_R2102, ne_R2101_R2206⟩, ne_R2102_R2206⟩
  obtain ⟨n, o, h1, h2, h3, _, L, rfl, ⟨N, rfl⟩, -, hq⟩ := (ct0 l s _ hw EW.nil i0 i1 w_W2001 w_W2002 w_W2003 w_W2004 w_W2005 w_W2006 w_W2007 w_W2008 w_W2009 w_R2101 w_R2102 w_R2206 s.heap ⟨Nat.le_refl _, fun _ _ q => q⟩ S_W2001 S_W2002 S_W2003 S_W2004 S_W2005 S_W2006 S_W2007 S_W2008 S_W2009 S_R2101 S_R2102 S_R2206 X_W2001 X_W2002 X_W2003 X_W2004 X_W2005 X_W2006 X_W2007 X_W2008 X_W2009 X_R2101 X_R2102 X_R2206 hnd) p e ha hc hk s m _ below hf ((Spec.applies_iff_loose hf).mp happ).1 ⟨rfl, State.Warmed39.refl s, rfl, (fun p hp => nomatch hp), fun x hx => nomatch hx⟩ trivial
  refine ⟨n, _, h1, h2, h3, hpost _ _ _ _ _ _ ⟨Cond.after_iff.mpr rfl, Cond.after_iff.mpr (eq_i res_at (Term.int_eval (1)) rfl), trivial⟩ ⟨hq.1.1, hq.2 rfl, (hq.1.2.2.2.sift fun y hy => Or.inr ((N y hy).resolve_left (fun q => nomatch q))).mono (by decide) (by decide)⟩⟩
theorem main_1_1 : Claimed_1_1 := comes_1 fun _ _ _ _ _ _ h hF => ⟨h.1, hF⟩
theorem main_1_2 : Claimed_1_2 := comes_1 fun _ _ _ _ _ _ h hF => ⟨h.2.1, hF⟩
end Jvm.Pilot.@@N@@
namespace Jvm.Pilot.@@N@@
open Jvm Jvm.ClassFile Sem Op Lib Jvm.Free Jvm.Stand Jvm.Pilot.@@N@@.Jvm.D
/-! MADE BY PROGRAM (witnessworld.py) out of the Statement's table words and the real class files: 24 classes; the members and pool entries that the words name. The judged class is class 1, her method 2. -/
namespace start1
open Jvm.ClassFile
def u (s : String) : CpInfo := .utf8 (stringToUtf16 s)
/-- a pool by its gaps: so many unusable entries, then the entry; so many at the end -/
def gap : Nat → List CpInfo → List CpInfo
  | 0, r => r
  | n + 1, r => .unusable :: gap n r
def poolList (es : List (Nat × CpInfo)) (last : Nat) : List CpInfo := es.foldr (fun e r => gap e.1 (e.2 :: r)) (gap last [])
def pool (es : List (Nat × CpInfo)) (last : Nat) : Array CpInfo := ⟨poolList es last⟩
def fileOf (pool : Array CpInfo) (this : Nat) (attrs : Array Attribute := #[]) (ms : Array MethodInfo := #[]) (fl : Nat := 33) (sup : Nat := 0) (ifs : Array Nat := #[]) (fds : Array FieldInfo := #[]) : ClassFile where
  minorVersion := 0
  majorVersion := 65
  constantPool := pool
  accessFlags := fl
  thisClass := this
  superClass := sup
  interfaces := ifs
  fields := fds
  methods := ms
  attributes := attrs
def plain (name : String) (sup : Option ClassId) : Class where
  name := name
  kind := .ordinary
  loader := none
  accessFlags := 33
  super := sup
  interfaces := #[]
  cf := none
  fields := #[]
  methods := #[]
  instanceTypes := #[]
  staticTypes := #[]
  resolved := #[]
  callSites := []
  init := .initialized
  statics := none
  mirror := none

def pool0 : Array CpInfo := pool [(5, u "<init>"), (0, u "()V"), (1, .class_ 10), (1, u "java/lang/Object")] 113

def k0c0 : Code := { maxStack := 0, maxLocals := 1, code := object_method_1_code, exceptionTable := #[], attributes := #[] }
def k0m0 : Method := { name := "<init>", desc := "()V", sig := { parameters := [], returnType := none }, accessFlags := 1, code := some k0c0 }
/-- java/lang/Object -/
def k0 : Class := { plain "java/lang/Object" none with
  accessFlags := 33
  interfaces := #[]
  cf := some (fileOf pool0 8 #[] #[{ accessFlags := 1, nameIndex := 5, descriptorIndex := 6, attributes := #[] }] 33 0 #[] #[])
  fields := #[]
  methods := #[k0m0]
  instanceTypes := #[]
  staticTypes := #[]
  resolved := Array.replicate 124 none
  statics := none }

def pool1 : Array CpInfo := pool [(2, .class_ 4), (0, .nameAndType 5 6), (0, u "java/lang/Object"), (0, u "<init>"), (0, u "()V"), (0, .fieldref 8 9), (0, .class_ 10), (0, .nameAndType 11 12), (0, u "com/example/portwright/portwright/check/ReferenceRules"), (0, u "W2001"), (0, u "Lcom/example/portwright/portwright/check/Rule;"), (0, .fieldref 8 14), (0, .nameAndType 15 12), (0, u "W2002"), (0, .fieldref 8 17), (0, .nameAndType 18 12), (0, u "W2003"), (0, .fieldref 8 20), (0, .nameAndType 21 12), (0, u "W2004"), (0, .fieldref 8 23), (0, .nameAndType 24 12), (0, u "W2005"), (0, .fieldref 8 26), (0, .nameAndType 27 12), (0, u "W2006"), (0, .fieldref 8 29), (0, .nameAndType 30 12), (0, u "W2007"), (0, .fieldref 8 32), (0, .nameAndType 33 12), (0, u "W2008"), (0, .fieldref 8 35), (0, .nameAndType 36 12), (0, u "W2009"), (0, .fieldref 8 38), (0, .nameAndType 39 12), (0, u "R2101"), (0, .fieldref 8 41), (0, .nameAndType 42 12), (0, u "R2102"), (0, .fieldref 8 44), (0, .nameAndType 45 12), (0, u "R2206"), (0, .integer 2147483647), (0, .methodref 8 3), (0, .methodref 8 49), (0, .nameAndType 50 51), (0, u "rules"), (0, u "()Ljava/util/List;"), (0, .interfaceMethodref 53 54), (0, .class_ 55), (0, .nameAndType 56 57), (0, u "java/util/List"), (0, u "size"), (0, u "()I"), (0, .interfaceMethodref 53 59), (0, .nameAndType 60 61), (0, u "get"), (0, u "(I)Ljava/lang/Object;"), (0, .class_ 63), (0, u "com/example/portwright/portwright/check/Rule"), (0, .methodref 65 66), (0, .class_ 67), (0, .nameAndType 68 69), (0, u "com/example/portwright/portwright/check/ReferenceRulesRulesPinLaw"), (0, u "known"), (0, u "(Lcom/example/portwright/portwright/check/Rule;)Z"), (3, u "law"), (0, u "(II)Z")] 2

def k1m0 : Method := { name := "<init>", desc := "()V", sig := { parameters := [], returnType := none }, accessFlags := 2, code := none }
def k1c1 : Code := { maxStack := 2, maxLocals := 1, code := method_2_code, exceptionTable := #[], attributes := #[] }
def k1m1 : Method := { name := "known", desc := "(Lcom/example/portwright/portwright/check/Rule;)Z", sig := { parameters := [(.object "com/example/portwright/portwright/check/Rule")], returnType := some .boolean }, accessFlags := 10, code := some k1c1 }
def k1c2 : Code := { maxStack := 3, maxLocals := 7, code := code, exceptionTable := #[], attributes := #[] }
def k1m2 : Method := { name := "law", desc := "(II)Z", sig := { parameters := [.int, .int], returnType := some .boolean }, accessFlags := 9, code := some k1c2 }
/-- com/example/portwright/portwright/check/ReferenceRulesRulesPinLaw -/
def k1 : Class := { plain "com/example/portwright/portwright/check/ReferenceRulesRulesPinLaw" (some 0) with
  accessFlags := 49
  interfaces := #[]
  cf := some (fileOf pool1 65 #[] #[{ accessFlags := 2, nameIndex := 5, descriptorIndex := 6, attributes := #[] }, { accessFlags := 10, nameIndex := 68, descriptorIndex := 69, attributes := #[] }, { accessFlags := 9, nameIndex := 73, descriptorIndex := 74, attributes := #[] }] 49 2 #[] #[])
  fields := #[]
  methods := #[k1m0, k1m1, k1m2]
  instanceTypes := #[]
  staticTypes := #[]
  resolved := Array.replicate 77 none
  statics := none }

def pool2 : Array CpInfo := pool [(1, .class_ 2), (0, u "com/example/portwright/portwright/check/RuleGroup"), (0, .class_ 4), (0, u "java/lang/Object")] 9

/-- com/example/portwright/portwright/check/RuleGroup -/
def k2 : Class := { plain "com/example/portwright/portwright/check/RuleGroup" (some 0) with
  accessFlags := 1536
  interfaces := #[]
  cf := some (fileOf pool2 1 #[] #[] 1536 3 #[] #[])
  fields := #[]
  methods := #[]
  instanceTypes := #[]
  staticTypes := #[]
  resolved := Array.replicate 14 none
  statics := none }

def pool3 : Array CpInfo := pool [(1, .methodref 2 3), (0, .class_ 4), (0, .nameAndType 5 6), (0, u "java/lang/Object"), (0, u "<init>"), (0, u "()V"), (0, .class_ 8), (0, u "com/example/portwright/portwright/check/Rule"), (0, .fieldref 10 11), (0, .class_ 12), (0, .nameAndType 13 14), (0, u "com/example/portwright/portwright/check/ReferenceRules"), (0, u "W2001"), (0, u "Lcom/example/portwright/portwright/check/Rule;"), (0, .fieldref 10 16), (0, .nameAndType 17 14), (0, u "W2002"), (0, .fieldref 10 19), (0, .nameAndType 20 14), (0, u "W2003"), (0, .fieldref 10 22), (0, .nameAndType 23 14), (0, u "W2004"), (0, .fieldref 10 25), (0, .nameAndType 26 14), (0, u "W2005"), (0, .fieldref 10 28), (0, .nameAndType 29 14), (0, u "W2006"), (0, .fieldref 10 31), (0, .nameAndType 32 14), (0, u "W2007"), (0, .fieldref 10 34), (0, .nameAndType 35 14), (0, u "W2008"), (0, .fieldref 10 37), (0, .nameAndType 38 14), (0, u "W2009"), (0, .fieldref 10 40), (0, .nameAndType 41 14), (0, u "R2101"), (0, .fieldref 10 43), (0, .nameAndType 44 14), (0, u "R2102"), (0, .fieldref 10 46), (0, .nameAndType 47 14), (0, u "R2206"), (0, .interfaceMethodref 49 50), (0, .class_ 51), (0, .nameAndType 52 53), (0, u "java/util/List"), (0, u "of"), (0, u "([Ljava/lang/Object;)Ljava/util/List;"), (10, u "()Ljava/util/List;"), (16, .class_ 82), (0, u "com/example/portwright/portwright/check/ReferenceRules$References"), (145, .class_ 229), (0, u "com/example/portwright/portwright/check/RuleGroup"), (2, u "rules")] 58

def k3c0 : Code := { maxStack := 1, maxLocals := 1, code := prog_16_method_1_code, exceptionTable := #[], attributes := #[] }
def k3m0 : Method := { name := "<init>", desc := "()V", sig := { parameters := [], returnType := none }, accessFlags := 0, code := some k3c0 }
def k3c1 : Code := { maxStack := 4, maxLocals := 1, code := prog_16_method_2_code, exceptionTable := #[], attributes := #[] }
def k3m1 : Method := { name := "rules", desc := "()Ljava/util/List;", sig := { parameters := [], returnType := some (.object "java/util/List") }, accessFlags := 1, code := some k3c1 }
/-- com/example/portwright/portwright/check/ReferenceRules -/
def k3 : Class := { plain "com/example/portwright/portwright/check/ReferenceRules" (some 0) with
  accessFlags := 48
  interfaces := #[2]
  cf := some (fileOf pool3 10 #[.nestMembers #[81]] #[{ accessFlags := 0, nameIndex := 5, descriptorIndex := 6, attributes := #[] }, { accessFlags := 1, nameIndex := 232, descriptorIndex := 64, attributes := #[] }] 48 2 #[228] #[{ accessFlags := 24, nameIndex := 13, descriptorIndex := 14, attributes := #[] }, { accessFlags := 24, nameIndex := 17, descriptorIndex := 14, attributes := #[] }, { accessFlags := 24, nameIndex := 20, descriptorIndex := 14, attributes := #[] }, { accessFlags := 24, nameIndex := 23, descriptorIndex := 14, attributes := #[] }, { accessFlags := 24, nameIndex := 26, descriptorIndex := 14, attributes := #[] }, { accessFlags := 24, nameIndex := 29, descriptorIndex := 14, attributes := #[] }, { accessFlags := 24, nameIndex := 35, descriptorIndex := 14, attributes := #[] }, { accessFlags := 24, nameIndex := 38, descriptorIndex := 14, attributes := #[] }, { accessFlags := 24, nameIndex := 47, descriptorIndex := 14, attributes := #[] }, { accessFlags := 24, nameIndex := 32, descriptorIndex := 14, attributes := #[] }, { accessFlags := 24, nameIndex := 41, descriptorIndex := 14, attributes := #[] }, { accessFlags := 24, nameIndex := 44, descriptorIndex := 14, attributes := #[] }])
  fields := #[{ name := "W2001", type := (.object "com/example/portwright/portwright/check/Rule"), accessFlags := 24, slot := 0, constantValue := 0 }, { name := "W2002", type := (.object "com/example/portwright/portwright/check/Rule"), accessFlags := 24, slot := 1, constantValue := 0 }, { name := "W2003", type := (.object "com/example/portwright/portwright/check/Rule"), accessFlags := 24, slot := 2, constantValue := 0 }, { name := "W2004", type := (.object "com/example/portwright/portwright/check/Rule"), accessFlags := 24, slot := 3, constantValue := 0 }, { name := "W2005", type := (.object "com/example/portwright/portwright/check/Rule"), accessFlags := 24, slot := 4, constantValue := 0 }, { name := "W2006", type := (.object "com/example/portwright/portwright/check/Rule"), accessFlags := 24, slot := 5, constantValue := 0 }, { name := "W2008", type := (.object "com/example/portwright/portwright/check/Rule"), accessFlags := 24, slot := 6, constantValue := 0 }, { name := "W2009", type := (.object "com/example/portwright/portwright/check/Rule"), accessFlags := 24, slot := 7, constantValue := 0 }, { name := "R2206", type := (.object "com/example/portwright/portwright/check/Rule"), accessFlags := 24, slot := 8, constantValue := 0 }, { name := "W2007", type := (.object "com/example/portwright/portwright/check/Rule"), accessFlags := 24, slot := 9, constantValue := 0 }, { name := "R2101", type := (.object "com/example/portwright/portwright/check/Rule"), accessFlags := 24, slot := 10, constantValue := 0 }, { name := "R2102", type := (.object "com/example/portwright/portwright/check/Rule"), accessFlags := 24, slot := 11, constantValue := 0 }]
  methods := #[k3m0, k3m1]
  instanceTypes := #[]
  staticTypes := #[(.object "com/example/portwright/portwright/check/Rule"), (.object "com/example/portwright/portwright/check/Rule"), (.object "com/example/portwright/portwright/check/Rule"), (.object "com/example/portwright/portwright/check/Rule"), (.object "com/example/portwright/portwright/check/Rule"), (.object "com/example/portwright/portwright/check/Rule"), (.object "com/example/portwright/portwright/check/Rule"), (.object "com/example/portwright/portwright/check/Rule"), (.object "com/example/portwright/portwright/check/Rule"), (.object "com/example/portwright/portwright/check/Rule"), (.object "com/example/portwright/portwright/check/Rule"), (.object "com/example/portwright/portwright/check/Rule")]
  resolved := Array.replicate 291 none
  statics := some 0 }

def pool4 : Array CpInfo := pool [(2, .class_ 4), (1, u "java/lang/Object"), (3, .class_ 10), (1, u "com/example/portwright/portwright/check/Rule"), (0, u "id"), (0, u "Ljava/lang/String;"), (2, u "level"), (0, u "Lcom/example/portwright/portwright/check/Level;"), (2, u "section"), (2, u "text")] 7

/-- com/example/portwright/portwright/check/Rule -/
def k4 : Class := { plain "com/example/portwright/portwright/check/Rule" (some 0) with
  accessFlags := 49
  interfaces := #[]
  cf := some (fileOf pool4 8 #[] #[] 49 2 #[] #[{ accessFlags := 18, nameIndex := 11, descriptorIndex := 12, attributes := #[] }, { accessFlags := 18, nameIndex := 15, descriptorIndex := 16, attributes := #[] }, { accessFlags := 18, nameIndex := 19, descriptorIndex := 12, attributes := #[] }, { accessFlags := 18, nameIndex := 22, descriptorIndex := 12, attributes := #[] }])
  fields := #[{ name := "id", type := (.object "java/lang/String"), accessFlags := 18, slot := 0, constantValue := 0 }, { name := "level", type := (.object "com/example/portwright/portwright/check/Level"), accessFlags := 18, slot := 1, constantValue := 0 }, { name := "section", type := (.object "java/lang/String"), accessFlags := 18, slot := 2, constantValue := 0 }, { name := "text", type := (.object "java/lang/String"), accessFlags := 18, slot := 3, constantValue := 0 }]
  methods := #[]
  instanceTypes := #[(.object "java/lang/String"), (.object "com/example/portwright/portwright/check/Level"), (.object "java/lang/String"), (.object "java/lang/String")]
  staticTypes := #[]
  resolved := Array.replicate 30 none
  statics := none }

def pool5 : Array CpInfo := pool [(8, .class_ 10), (1, u "java/lang/Iterable"), (24, .class_ 36), (0, u "java/lang/Object")] 25

/-- java/lang/Iterable -/
def k5 : Class := { plain "java/lang/Iterable" (some 0) with
  accessFlags := 1537
  interfaces := #[]
  cf := some (fileOf pool5 8 #[] #[] 1537 35 #[] #[])
  fields := #[]
  methods := #[]
  instanceTypes := #[]
  staticTypes := #[]
  resolved := Array.replicate 62 none
  statics := none }

def pool6 : Array CpInfo := pool [(10, .class_ 12), (1, u "java/util/Collection"), (47, .class_ 61), (0, u "java/lang/Object"), (0, .class_ 63), (0, u "java/lang/Iterable")] 51

/-- java/util/Collection -/
def k6 : Class := { plain "java/util/Collection" (some 0) with
  accessFlags := 1537
  interfaces := #[5]
  cf := some (fileOf pool6 10 #[] #[] 1537 60 #[62] #[])
  fields := #[]
  methods := #[]
  instanceTypes := #[]
  staticTypes := #[]
  resolved := Array.replicate 115 none
  statics := none }

def pool7 : Array CpInfo := pool [(8, .class_ 10), (1, u "java/util/SequencedCollection"), (15, .class_ 27), (0, u "java/lang/Object"), (0, .class_ 29), (0, u "java/util/Collection")] 27

/-- java/util/SequencedCollection -/
def k7 : Class := { plain "java/util/SequencedCollection" (some 0) with
  accessFlags := 1537
  interfaces := #[6]
  cf := some (fileOf pool7 8 #[] #[] 1537 26 #[28] #[])
  fields := #[]
  methods := #[]
  instanceTypes := #[]
  staticTypes := #[]
  resolved := Array.replicate 57 none
  statics := none }

def pool8 : Array CpInfo := pool [(8, .class_ 10), (1, u "java/util/List"), (64, u "get"), (0, u "(I)Ljava/lang/Object;"), (2, u "size"), (0, u "()I"), (7, u "of"), (2, .class_ 93), (1, u "java/util/ImmutableCollections"), (9, .class_ 104), (0, u "java/lang/Object"), (3, u "([Ljava/lang/Object;)Ljava/util/List;"), (0, .methodref 91 110), (0, .nameAndType 111 108), (0, u "listFromArray"), (8, .class_ 121), (0, u "java/util/SequencedCollection")] 129

def k8m0 : Method := { name := "size", desc := "()I", sig := { parameters := [], returnType := some .int }, accessFlags := 1025, code := none }
def k8m1 : Method := { name := "get", desc := "(I)Ljava/lang/Object;", sig := { parameters := [.int], returnType := some (.object "java/lang/Object") }, accessFlags := 1025, code := none }
def k8c2 : Code := { maxStack := 5, maxLocals := 2, code := jdk_40_method_47_code, exceptionTable := #[], attributes := #[] }
def k8m2 : Method := { name := "of", desc := "([Ljava/lang/Object;)Ljava/util/List;", sig := { parameters := [(.array (.object "java/lang/Object"))], returnType := some (.object "java/util/List") }, accessFlags := 137, code := some k8c2 }
/-- java/util/List -/
def k8 : Class := { plain "java/util/List" (some 0) with
  accessFlags := 1537
  interfaces := #[7]
  cf := some (fileOf pool8 8 #[] #[{ accessFlags := 1025, nameIndex := 79, descriptorIndex := 80, attributes := #[] }, { accessFlags := 1025, nameIndex := 75, descriptorIndex := 76, attributes := #[] }, { accessFlags := 137, nameIndex := 88, descriptorIndex := 108, attributes := #[] }] 1537 103 #[120] #[])
  fields := #[]
  methods := #[k8m0, k8m1, k8m2]
  instanceTypes := #[]
  staticTypes := #[]
  resolved := Array.replicate 251 none
  statics := none }

def pool9 : Array CpInfo := pool [(2, .class_ 4), (1, u "java/lang/Object"), (0, u "<init>"), (0, u "()V"), (3, .class_ 11), (0, u "java/util/ImmutableCollections$List12"), (0, .class_ 13), (0, u "java/util/ImmutableCollections$ListN"), (3, u "Z"), (18, u "([Ljava/lang/Object;)Ljava/util/List;"), (0, .methodref 38 39), (0, .class_ 40), (0, .nameAndType 41 42), (0, u "java/util/Objects"), (0, u "requireNonNull"), (0, u "(Ljava/lang/Object;)Ljava/lang/Object;"), (0, .methodref 12 44), (0, .nameAndType 5 45), (0, u "([Ljava/lang/Object;Z)V"), (1, .class_ 49), (1, u "java/util/ImmutableCollections"), (0, u "$assertionsDisabled"), (5, u "[Ljava/lang/Object;"), (5, u "EMPTY_LIST"), (0, u "Ljava/util/ImmutableCollections$ListN;"), (8, u "EMPTY_LIST_NULLS"), (22, u "SALT32L"), (0, u "J"), (2, u "REVERSE"), (6, u "archivedObjects"), (2, u "EMPTY"), (0, u "Ljava/lang/Object;"), (0, .class_ 112), (0, u "java/util/ImmutableCollections$SetN"), (5, u "EMPTY_SET"), (0, u "Ljava/util/ImmutableCollections$SetN;"), (0, .class_ 121), (0, u "java/util/ImmutableCollections$MapN"), (3, u "EMPTY_MAP"), (0, u "Ljava/util/ImmutableCollections$MapN;"), (4, u "EXPAND_FACTOR"), (0, u "I"), (18, u "listFromArray"), (17, .class_ 170), (0, u "java/util/ImmutableCollections$MapN$MapNIterator"), (0, .class_ 172), (0, u "java/util/ImmutableCollections$MapN$1"), (0, .class_ 174), (0, u "java/util/ImmutableCollections$Map1"), (0, .class_ 176), (0, u "java/util/ImmutableCollections$AbstractImmutableMap"), (0, .class_ 178), (0, u "java/util/ImmutableCollections$SetN$SetNIterator"), (0, .class_ 180), (0, u "java/util/ImmutableCollections$Set12"), (0, .class_ 182), (0, u "java/util/ImmutableCollections$Set12$1"), (0, .class_ 184), (0, u "java/util/ImmutableCollections$AbstractImmutableSet"), (0, .class_ 186), (0, u "java/util/ImmutableCollections$SubList"), (0, .class_ 188), (0, u "java/util/ImmutableCollections$ListItr"), (0, .class_ 190), (0, u "java/util/ImmutableCollections$AbstractImmutableList"), (0, .class_ 192), (0, u "java/util/ImmutableCollections$AbstractImmutableCollection"), (0, .class_ 194), (0, u "java/util/ImmutableCollections$Access"), (0, .class_ 196), (0, u "java/util/ImmutableCollections$Access$1")] 16

def k9m0 : Method := { name := "<init>", desc := "()V", sig := { parameters := [], returnType := none }, accessFlags := 2, code := none }
def k9c1 : Code := { maxStack := 4, maxLocals := 3, code := jdk_56_method_4_code, exceptionTable := #[], attributes := #[] }
def k9m1 : Method := { name := "listFromArray", desc := "([Ljava/lang/Object;)Ljava/util/List;", sig := { parameters := [(.array (.object "java/lang/Object"))], returnType := some (.object "java/util/List") }, accessFlags := 136, code := some k9c1 }
/-- java/util/ImmutableCollections -/
def k9 : Class := { plain "java/util/ImmutableCollections" (some 0) with
  accessFlags := 32
  interfaces := #[]
  cf := some (fileOf pool9 47 #[.nestMembers #[120, 169, 171, 173, 175, 111, 177, 179, 181, 183, 12, 10, 185, 187, 189, 191, 193, 195]] #[{ accessFlags := 2, nameIndex := 5, descriptorIndex := 6, attributes := #[] }, { accessFlags := 136, nameIndex := 151, descriptorIndex := 36, attributes := #[] }] 32 2 #[] #[{ accessFlags := 26, nameIndex := 95, descriptorIndex := 96, attributes := #[] }, { accessFlags := 26, nameIndex := 99, descriptorIndex := 17, attributes := #[] }, { accessFlags := 10, nameIndex := 106, descriptorIndex := 56, attributes := #[] }, { accessFlags := 26, nameIndex := 109, descriptorIndex := 110, attributes := #[] }, { accessFlags := 24, nameIndex := 62, descriptorIndex := 63, attributes := #[] }, { accessFlags := 24, nameIndex := 72, descriptorIndex := 63, attributes := #[] }, { accessFlags := 24, nameIndex := 118, descriptorIndex := 119, attributes := #[] }, { accessFlags := 24, nameIndex := 125, descriptorIndex := 126, attributes := #[] }, { accessFlags := 24, nameIndex := 131, descriptorIndex := 132, attributes := #[] }, { accessFlags := 4120, nameIndex := 50, descriptorIndex := 17, attributes := #[] }])
  fields := #[{ name := "SALT32L", type := .long, accessFlags := 26, slot := 0, constantValue := 0 }, { name := "REVERSE", type := .boolean, accessFlags := 26, slot := 1, constantValue := 0 }, { name := "archivedObjects", type := (.array (.object "java/lang/Object")), accessFlags := 10, slot := 2, constantValue := 0 }, { name := "EMPTY", type := (.object "java/lang/Object"), accessFlags := 26, slot := 3, constantValue := 0 }, { name := "EMPTY_LIST", type := (.object "java/util/ImmutableCollections$ListN"), accessFlags := 24, slot := 4, constantValue := 0 }, { name := "EMPTY_LIST_NULLS", type := (.object "java/util/ImmutableCollections$ListN"), accessFlags := 24, slot := 5, constantValue := 0 }, { name := "EMPTY_SET", type := (.object "java/util/ImmutableCollections$SetN"), accessFlags := 24, slot := 6, constantValue := 0 }, { name := "EMPTY_MAP", type := (.object "java/util/ImmutableCollections$MapN"), accessFlags := 24, slot := 7, constantValue := 0 }, { name := "EXPAND_FACTOR", type := .int, accessFlags := 24, slot := 8, constantValue := 0 }, { name := "$assertionsDisabled", type := .boolean, accessFlags := 4120, slot := 9, constantValue := 0 }]
  methods := #[k9m0, k9m1]
  instanceTypes := #[]
  staticTypes := #[.long, .boolean, (.array (.object "java/lang/Object")), (.object "java/lang/Object"), (.object "java/util/ImmutableCollections$ListN"), (.object "java/util/ImmutableCollections$ListN"), (.object "java/util/ImmutableCollections$SetN"), (.object "java/util/ImmutableCollections$MapN"), .int, .boolean]
  resolved := Array.replicate 213 none
  statics := none }

def pool10 : Array CpInfo := pool [(2, .class_ 4), (1, u "java/lang/Object"), (0, u "<init>"), (0, u "()V"), (35, .class_ 44), (1, u "java/util/Objects"), (0, u "requireNonNull"), (0, u "(Ljava/lang/Object;)Ljava/lang/Object;")] 137

def k10m0 : Method := { name := "<init>", desc := "()V", sig := { parameters := [], returnType := none }, accessFlags := 2, code := none }
def k10c1 : Code := { maxStack := 2, maxLocals := 1, code := jdk_31_method_10_code, exceptionTable := #[], attributes := #[] }
def k10m1 : Method := { name := "requireNonNull", desc := "(Ljava/lang/Object;)Ljava/lang/Object;", sig := { parameters := [(.object "java/lang/Object")], returnType := some (.object "java/lang/Object") }, accessFlags := 9, code := some k10c1 }
/-- java/util/Objects -/
def k10 : Class := { plain "java/util/Objects" (some 0) with
  accessFlags := 49
  interfaces := #[]
  cf := some (fileOf pool10 42 #[] #[{ accessFlags := 2, nameIndex := 5, descriptorIndex := 6, attributes := #[] }, { accessFlags := 9, nameIndex := 45, descriptorIndex := 46, attributes := #[] }] 49 2 #[] #[])
  fields := #[]
  methods := #[k10m0, k10m1]
  instanceTypes := #[]
  staticTypes := #[]
  resolved := Array.replicate 184 none
  statics := none }

def pool11 : Array CpInfo := pool [(1, .methodref 2 3), (0, .class_ 4), (0, .nameAndType 5 6), (0, u "java/lang/Object"), (0, u "<init>"), (0, u "()V"), (1, .class_ 10), (1, u "java/util/AbstractCollection"), (66, .class_ 78), (0, u "java/util/Collection")] 81

def k11c0 : Code := { maxStack := 1, maxLocals := 1, code := jdk_22_method_1_code, exceptionTable := #[], attributes := #[] }
def k11m0 : Method := { name := "<init>", desc := "()V", sig := { parameters := [], returnType := none }, accessFlags := 4, code := some k11c0 }
/-- java/util/AbstractCollection -/
def k11 : Class := { plain "java/util/AbstractCollection" (some 0) with
  accessFlags := 1057
  interfaces := #[6]
  cf := some (fileOf pool11 8 #[] #[{ accessFlags := 4, nameIndex := 5, descriptorIndex := 6, attributes := #[] }] 1057 2 #[77] #[])
  fields := #[]
  methods := #[k11m0]
  instanceTypes := #[]
  staticTypes := #[]
  resolved := Array.replicate 160 none
  statics := none }

def pool12 : Array CpInfo := pool [(1, .methodref 2 3), (0, .class_ 4), (0, .nameAndType 5 6), (0, u "java/util/AbstractCollection"), (0, u "<init>"), (0, u "()V"), (1, .class_ 10), (1, u "java/util/ImmutableCollections"), (2, .class_ 14), (0, u "java/util/ImmutableCollections$AbstractImmutableCollection")] 41

def k12c0 : Code := { maxStack := 1, maxLocals := 1, code := jdk_47_method_1_code, exceptionTable := #[], attributes := #[] }
def k12m0 : Method := { name := "<init>", desc := "()V", sig := { parameters := [], returnType := none }, accessFlags := 0, code := some k12c0 }
/-- java/util/ImmutableCollections$AbstractImmutableCollection -/
def k12 : Class := { plain "java/util/ImmutableCollections$AbstractImmutableCollection" (some 11) with
  accessFlags := 1056
  interfaces := #[]
  cf := some (fileOf pool12 13 #[.nestHost 8] #[{ accessFlags := 0, nameIndex := 5, descriptorIndex := 6, attributes := #[] }] 1056 2 #[] #[])
  fields := #[]
  methods := #[k12m0]
  instanceTypes := #[]
  staticTypes := #[]
  resolved := Array.replicate 56 none
  statics := none }

def pool13 : Array CpInfo := pool [(1, .class_ 2), (0, u "java/util/RandomAccess"), (0, .class_ 4), (0, u "java/lang/Object")] 2

/-- java/util/RandomAccess -/
def k13 : Class := { plain "java/util/RandomAccess" (some 0) with
  accessFlags := 1537
  interfaces := #[]
  cf := some (fileOf pool13 1 #[] #[] 1537 3 #[] #[])
  fields := #[]
  methods := #[]
  instanceTypes := #[]
  staticTypes := #[]
  resolved := Array.replicate 7 none
  statics := none }

def pool14 : Array CpInfo := pool [(1, .methodref 2 3), (0, .class_ 4), (0, .nameAndType 5 6), (0, u "java/util/ImmutableCollections$AbstractImmutableCollection"), (0, u "<init>"), (0, u "()V"), (1, .class_ 10), (1, u "java/util/ImmutableCollections"), (3, .class_ 16), (1, u "java/util/ImmutableCollections$AbstractImmutableList"), (60, .class_ 78), (0, u "java/util/List"), (45, .class_ 125), (0, u "java/util/RandomAccess")] 70

def k14c0 : Code := { maxStack := 1, maxLocals := 1, code := jdk_46_method_1_code, exceptionTable := #[], attributes := #[] }
def k14m0 : Method := { name := "<init>", desc := "()V", sig := { parameters := [], returnType := none }, accessFlags := 0, code := some k14c0 }
/-- java/util/ImmutableCollections$AbstractImmutableList -/
def k14 : Class := { plain "java/util/ImmutableCollections$AbstractImmutableList" (some 12) with
  accessFlags := 1056
  interfaces := #[8, 13]
  cf := some (fileOf pool14 14 #[.nestHost 8] #[{ accessFlags := 0, nameIndex := 5, descriptorIndex := 6, attributes := #[] }] 1056 2 #[77, 124] #[])
  fields := #[]
  methods := #[k14m0]
  instanceTypes := #[]
  staticTypes := #[]
  resolved := Array.replicate 196 none
  statics := none }

def pool15 : Array CpInfo := pool [(1, .class_ 2), (0, u "java/io/Serializable"), (0, .class_ 4), (0, u "java/lang/Object")] 2

/-- java/io/Serializable -/
def k15 : Class := { plain "java/io/Serializable" (some 0) with
  accessFlags := 1537
  interfaces := #[]
  cf := some (fileOf pool15 1 #[] #[] 1537 3 #[] #[])
  fields := #[]
  methods := #[]
  instanceTypes := #[]
  staticTypes := #[]
  resolved := Array.replicate 7 none
  statics := none }

def pool16 : Array CpInfo := pool [(1, .methodref 2 3), (0, .class_ 4), (0, .nameAndType 5 6), (0, u "java/util/ImmutableCollections$AbstractImmutableList"), (0, u "<init>"), (0, u "()V"), (0, .fieldref 8 9), (0, .class_ 10), (0, .nameAndType 11 12), (0, u "java/util/ImmutableCollections$ListN"), (0, u "elements"), (0, u "[Ljava/lang/Object;"), (0, .fieldref 8 14), (0, .nameAndType 15 16), (0, u "allowNulls"), (0, u "Z"), (42, .class_ 60), (0, u "java/io/Serializable"), (4, u "([Ljava/lang/Object;Z)V"), (11, u "size"), (0, u "()I"), (0, u "get"), (0, u "(I)Ljava/lang/Object;"), (33, .class_ 115), (0, u "java/util/ImmutableCollections")] 3

def k16c0 : Code := { maxStack := 2, maxLocals := 3, code := jdk_45_method_1_code, exceptionTable := #[], attributes := #[] }
def k16m0 : Method := { name := "<init>", desc := "([Ljava/lang/Object;Z)V", sig := { parameters := [(.array (.object "java/lang/Object")), .boolean], returnType := none }, accessFlags := 2, code := some k16c0 }
def k16c1 : Code := { maxStack := 1, maxLocals := 1, code := jdk_45_method_3_code, exceptionTable := #[], attributes := #[] }
def k16m1 : Method := { name := "size", desc := "()I", sig := { parameters := [], returnType := some .int }, accessFlags := 1, code := some k16c1 }
def k16c2 : Code := { maxStack := 2, maxLocals := 2, code := jdk_45_method_4_code, exceptionTable := #[], attributes := #[] }
def k16m2 : Method := { name := "get", desc := "(I)Ljava/lang/Object;", sig := { parameters := [.int], returnType := some (.object "java/lang/Object") }, accessFlags := 1, code := some k16c2 }
/-- java/util/ImmutableCollections$ListN -/
def k16 : Class := { plain "java/util/ImmutableCollections$ListN" (some 14) with
  accessFlags := 48
  interfaces := #[15]
  cf := some (fileOf pool16 8 #[.nestHost 114] #[{ accessFlags := 2, nameIndex := 5, descriptorIndex := 65, attributes := #[] }, { accessFlags := 1, nameIndex := 77, descriptorIndex := 78, attributes := #[] }, { accessFlags := 1, nameIndex := 79, descriptorIndex := 80, attributes := #[] }] 48 2 #[59] #[{ accessFlags := 18, nameIndex := 11, descriptorIndex := 12, attributes := #[] }, { accessFlags := 18, nameIndex := 15, descriptorIndex := 16, attributes := #[] }])
  fields := #[{ name := "elements", type := (.array (.object "java/lang/Object")), accessFlags := 18, slot := 0, constantValue := 0 }, { name := "allowNulls", type := .boolean, accessFlags := 18, slot := 1, constantValue := 0 }]
  methods := #[k16m0, k16m1, k16m2]
  instanceTypes := #[(.array (.object "java/lang/Object")), .boolean]
  staticTypes := #[]
  resolved := Array.replicate 119 none
  statics := none }

def pool17 : Array CpInfo := pool [(1, u "java/lang/Cloneable"), (0, .class_ 1), (0, u "java/lang/Object"), (0, .class_ 3)] 3

/-- java/lang/Cloneable -/
def k17 : Class := { plain "java/lang/Cloneable" (some 0) with
  accessFlags := 1537
  interfaces := #[]
  cf := some (fileOf pool17 2 #[] #[] 1537 4 #[] #[])
  fields := #[]
  methods := #[]
  instanceTypes := #[]
  staticTypes := #[]
  resolved := Array.replicate 8 none
  statics := none }

/-- the primitive byte -/
def k18 : Class := { plain "byte" none with kind := .primitive 'B', accessFlags := 0x411 }
/-- [B -/
def k19 : Class := { plain "[B" (some 0) with kind := .array 18 .byte, interfaces := #[17, 15], accessFlags := 1041 }

/-- the primitive int -/
def k20 : Class := { plain "int" none with kind := .primitive 'I', accessFlags := 0x411 }
/-- [I -/
def k21 : Class := { plain "[I" (some 0) with kind := .array 20 .int, interfaces := #[17, 15], accessFlags := 1041 }

/-- [Lcom/example/portwright/portwright/check/Rule; -/
def k22 : Class := { plain "[Lcom/example/portwright/portwright/check/Rule;" (some 0) with kind := .array 4 (.object "com/example/portwright/portwright/check/Rule"), interfaces := #[17, 15], accessFlags := 1041 }

/-- [Ljava/lang/Object; -/
def k23 : Class := { plain "[Ljava/lang/Object;" (some 0) with kind := .array 0 (.object "java/lang/Object"), interfaces := #[17, 15], accessFlags := 1041 }

def heap : Heap := #[{ cls := 3, slots := #[.ref 1, .ref 2, .ref 3, .ref 4, .ref 5, .ref 6, .ref 8, .ref 9, .ref 12, .ref 7, .ref 10, .ref 11], vm := .statics 3 },
  { cls := 4, slots := #[.null, .null, .null, .null], vm := .none },
  { cls := 4, slots := #[.null, .null, .null, .null], vm := .none },
  { cls := 4, slots := #[.null, .null, .null, .null], vm := .none },
  { cls := 4, slots := #[.null, .null, .null, .null], vm := .none },
  { cls := 4, slots := #[.null, .null, .null, .null], vm := .none },
  { cls := 4, slots := #[.null, .null, .null, .null], vm := .none },
  { cls := 4, slots := #[.null, .null, .null, .null], vm := .none },
  { cls := 4, slots := #[.null, .null, .null, .null], vm := .none },
  { cls := 4, slots := #[.null, .null, .null, .null], vm := .none },
  { cls := 4, slots := #[.null, .null, .null, .null], vm := .none },
  { cls := 4, slots := #[.null, .null, .null, .null], vm := .none },
  { cls := 4, slots := #[.null, .null, .null, .null], vm := .none }]
def classes : Array Class := #[k0, k1, k2, k3, k4, k5, k6, k7, k8, k9, k10, k11, k12, k13, k14, k15, k16, k17, k18, k19, k20, k21, k22, k23]
def interned : List (Array UInt16 × Addr) := []
def slotsUsed : Nat := 60
def theMethod : MethodId := ⟨1, 2⟩
def args0 : Array Value := #[.int 5, .int 6]
def aboutOver (below : List Frame) : State where
  vm := { classes := classes, interned := interned.toArray }
  heap := heap
  slotsUsed := slotsUsed
  threads := #[{ frames := .invoking theMethod args0 :: below }]
def below0 : List Frame := [.native { method := ⟨0, 0⟩, args := #[] }]
def about1 : State := aboutOver below0
def p0 : Program := .bare "" "" ""
def e0 : Env := launch0.env 0 0 0
theorem w_frames : about1.frames = Frame.invoking theMethod args0 :: below0 := rfl
set_option maxRecDepth 65536 in
theorem w_args : argsFit about1.vm theMethod args0 = true := by decide +kernel
set_option maxRecDepth 65536 in
theorem w_heap : heapFits about1 = true := by decide +kernel
set_option maxRecDepth 65536 in
theorem w_runnable : about1.curStatus? = some .runnable := by decide +kernel
set_option maxRecDepth 65536 in
theorem w_alone : about1.alone = true := by decide +kernel
set_option maxRecDepth 65536 in
theorem w_named : about1.methodNamed? x = some theMethod := by decide +kernel
set_option maxRecDepth 65536 in
theorem w_hears : about1.hears theMethod below0 = true := by decide +kernel
set_option maxRecDepth 65536 in
theorem w_ripe : about1.ripe theMethod args0 below0 = true := by decide +kernel
theorem w_running : about1.status = .running := rfl
set_option maxRecDepth 65536 in
theorem w_room : about1.hasRoom e0.platform room_1 = true :=
  launch0.hasRoom_least _ room_1 (by decide +kernel) (by decide +kernel) (by decide +kernel) (by decide +kernel) (by decide +kernel) (by decide +kernel)
theorem allAtoms_all (ts : List Jvm.Cond) (a : Array Jvm.Value) (st : Jvm.State) : (allAtoms ts).before a st = ts.all (fun c => c.before a st) := by
  induction ts with
  | nil => rfl
  | cons c t ih =>
    show (Jvm.Cond.and c (allAtoms t)).before a st = _
    rw [Jvm.Cond.before_and, ih, List.all_cons]
def words1 : List Jvm.Cond := Jvm.Cond.code x code maxLocals ret :: tables_1
/-- a 'code' word, met by the world's own term for the bytes: nothing is compared byte by byte -/
theorem code_word {y : MethodName} {bytes : ByteArray} {mx : Nat} {rt : Option FieldType} {a : Array Value} {s : State} {m : MethodId} {meth : Method} {c : Code} (h1 : s.methodNamed? y = some m) (h2 : s.vm.method? m = some meth) (h3 : meth.code = some c) (h4 : c.code = bytes)
    (h5 : (c.maxLocals == mx && c.exceptionTable.isEmpty && decide (c.maxStack ≤ mostOperands) && decide (meth.sig.returnType = rt) && !meth.locks && decide (parseMethodDescriptor y.desc = some meth.sig)) = true) : (Jvm.Cond.code y bytes mx rt).before a s = true := by
  simp only [Bool.and_eq_true, beq_iff_eq, Bool.not_eq_true', decide_eq_true_eq] at h5
  obtain ⟨⟨⟨⟨⟨g1, g2⟩, g3⟩, g4⟩, g5⟩, g6⟩ := h5
  simp [Cond.before, Cond.holds, Cond.value, h1, h2, h3, h4, g1, g2, g3, g4, g5, g6]
def isCode : Jvm.Cond → Bool
  | .code _ _ _ _ => true
  | _ => false
theorem all_split {L : List Jvm.Cond} {P : Jvm.Cond → Bool} (h1 : L.all (fun c => isCode c || P c) = true) (h2 : ∀ c ∈ L.filter isCode, P c = true) : L.all P = true := by
  refine List.all_eq_true.mpr fun c hc => ?_
  have h := List.all_eq_true.mp h1 c hc
  rcases Bool.eq_false_or_eq_true (isCode c) with hi | hi
  · exact h2 c (List.mem_filter.mpr ⟨hc, hi⟩)
  · simpa [hi] using h
set_option maxRecDepth 65536 in
theorem w_c0 : (Jvm.Cond.code x code maxLocals ret).before args0 about1 = true := code_word (m := ⟨1, 2⟩) (meth := k1m2) (c := k1c2) (by decide +kernel) rfl rfl rfl (by decide +kernel)
set_option maxRecDepth 65536 in
theorem w_c1 : (Jvm.Cond.code ({ cls := "com/example/portwright/portwright/check/ReferenceRules", name := "<init>", desc := "()V" } : Jvm.MethodName) prog_16_method_1_code (1 : Nat) (Option.none : Option Jvm.ClassFile.FieldType)).before args0 about1 = true := code_word (m := ⟨3, 0⟩) (meth := k3m0) (c := k3c0) (by decide +kernel) rfl rfl rfl (by decide +kernel)
set_option maxRecDepth 65536 in
theorem w_c2 : (Jvm.Cond.code ({ cls := "java/lang/Object", name := "<init>", desc := "()V" } : Jvm.MethodName) object_method_1_code (1 : Nat) (Option.none : Option Jvm.ClassFile.FieldType)).before args0 about1 = true := code_word (m := ⟨0, 0⟩) (meth := k0m0) (c := k0c0) (by decide +kernel) rfl rfl rfl (by decide +kernel)
set_option maxRecDepth 65536 in
theorem w_c3 : (Jvm.Cond.code ({ cls := "com/example/portwright/portwright/check/ReferenceRules", name := "rules", desc := "()Ljava/util/List;" } : Jvm.MethodName) prog_16_method_2_code (1 : Nat) (Option.some (Jvm.ClassFile.FieldType.object "java/util/List"))).before args0 about1 = true := code_word (m := ⟨3, 1⟩) (meth := k3m1) (c := k3c1) (by decide +kernel) rfl rfl rfl (by decide +kernel)
set_option maxRecDepth 65536 in
theorem w_c4 : (Jvm.Cond.code ({ cls := "java/util/List", name := "of", desc := "([Ljava/lang/Object;)Ljava/util/List;" } : Jvm.MethodName) jdk_40_method_47_code (2 : Nat) (Option.some (Jvm.ClassFile.FieldType.object "java/util/List"))).before args0 about1 = true := code_word (m := ⟨8, 2⟩) (meth := k8m2) (c := k8c2) (by decide +kernel) rfl rfl rfl (by decide +kernel)
set_option maxRecDepth 65536 in
theorem w_c5 : (Jvm.Cond.code ({ cls := "java/util/ImmutableCollections", name := "listFromArray", desc := "([Ljava/lang/Object;)Ljava/util/List;" } : Jvm.MethodName) jdk_56_method_4_code (3 : Nat) (Option.some (Jvm.ClassFile.FieldType.object "java/util/List"))).before args0 about1 = true := code_word (m := ⟨9, 1⟩) (meth := k9m1) (c := k9c1) (by decide +kernel) rfl rfl rfl (by decide +kernel)
set_option maxRecDepth 65536 in
theorem w_c6 : (Jvm.Cond.code ({ cls := "java/util/Objects", name := "requireNonNull", desc := "(Ljava/lang/Object;)Ljava/lang/Object;" } : Jvm.MethodName) jdk_31_method_10_code (1 : Nat) (Option.some (Jvm.ClassFile.FieldType.object "java/lang/Object"))).before args0 about1 = true := code_word (m := ⟨10, 1⟩) (meth := k10m1) (c := k10c1) (by decide +kernel) rfl rfl rfl (by decide +kernel)
set_option maxRecDepth 65536 in
theorem w_c7 : (Jvm.Cond.code ({ cls := "java/util/ImmutableCollections$ListN", name := "<init>", desc := "([Ljava/lang/Object;Z)V" } : Jvm.MethodName) jdk_45_method_1_code (3 : Nat) (Option.none : Option Jvm.ClassFile.FieldType)).before args0 about1 = true := code_word (m := ⟨16, 0⟩) (meth := k16m0) (c := k16c0) (by decide +kernel) rfl rfl rfl (by decide +kernel)
set_option maxRecDepth 65536 in
theorem w_c8 : (Jvm.Cond.code ({ cls := "java/util/ImmutableCollections$AbstractImmutableList", name := "<init>", desc := "()V" } : Jvm.MethodName) jdk_46_method_1_code (1 : Nat) (Option.none : Option Jvm.ClassFile.FieldType)).before args0 about1 = true := code_word (m := ⟨14, 0⟩) (meth := k14m0) (c := k14c0) (by decide +kernel) rfl rfl rfl (by decide +kernel)
set_option maxRecDepth 65536 in
theorem w_c9 : (Jvm.Cond.code ({ cls := "java/util/ImmutableCollections$AbstractImmutableCollection", name := "<init>", desc := "()V" } : Jvm.MethodName) jdk_47_method_1_code (1 : Nat) (Option.none : Option Jvm.ClassFile.FieldType)).before args0 about1 = true := code_word (m := ⟨12, 0⟩) (meth := k12m0) (c := k12c0) (by decide +kernel) rfl rfl rfl (by decide +kernel)
set_option maxRecDepth 65536 in
theorem w_c10 : (Jvm.Cond.code ({ cls := "java/util/AbstractCollection", name := "<init>", desc := "()V" } : Jvm.MethodName) jdk_22_method_1_code (1 : Nat) (Option.none : Option Jvm.ClassFile.FieldType)).before args0 about1 = true := code_word (m := ⟨11, 0⟩) (meth := k11m0) (c := k11c0) (by decide +kernel) rfl rfl rfl (by decide +kernel)
set_option maxRecDepth 65536 in
theorem w_c11 : (Jvm.Cond.code ({ cls := "java/util/ImmutableCollections$ListN", name := "size", desc := "()I" } : Jvm.MethodName) jdk_45_method_3_code (1 : Nat) (Option.some Jvm.ClassFile.FieldType.int)).before args0 about1 = true := code_word (m := ⟨16, 1⟩) (meth := k16m1) (c := k16c1) (by decide +kernel) rfl rfl rfl (by decide +kernel)
set_option maxRecDepth 65536 in
theorem w_c12 : (Jvm.Cond.code ({ cls := "java/util/ImmutableCollections$ListN", name := "get", desc := "(I)Ljava/lang/Object;" } : Jvm.MethodName) jdk_45_method_4_code (2 : Nat) (Option.some (Jvm.ClassFile.FieldType.object "java/lang/Object"))).before args0 about1 = true := code_word (m := ⟨16, 2⟩) (meth := k16m2) (c := k16c2) (by decide +kernel) rfl rfl rfl (by decide +kernel)
set_option maxRecDepth 65536 in
theorem w_c13 : (Jvm.Cond.code ({ cls := "com/example/portwright/portwright/check/ReferenceRulesRulesPinLaw", name := "known", desc := "(Lcom/example/portwright/portwright/check/Rule;)Z" } : Jvm.MethodName) method_2_code (1 : Nat) (Option.some Jvm.ClassFile.FieldType.boolean)).before args0 about1 = true := code_word (m := ⟨1, 1⟩) (meth := k1m1) (c := k1c1) (by decide +kernel) rfl rfl rfl (by decide +kernel)
def codes1 : List Jvm.Cond := [Jvm.Cond.code x code maxLocals ret, Jvm.Cond.code ({ cls := "com/example/portwright/portwright/check/ReferenceRules", name := "<init>", desc := "()V" } : Jvm.MethodName) prog_16_method_1_code (1 : Nat) (Option.none : Option Jvm.ClassFile.FieldType), Jvm.Cond.code ({ cls := "java/lang/Object", name := "<init>", desc := "()V" } : Jvm.MethodName) object_method_1_code (1 : Nat) (Option.none : Option Jvm.ClassFile.FieldType), Jvm.Cond.code ({ cls := "com/example/portwright/portwright/check/ReferenceRules", name := "rules", desc := "()Ljava/util/List;" } : Jvm.MethodName) prog_16_method_2_code (1 : Nat) (Option.some (Jvm.ClassFile.FieldType.object "java/util/List")), Jvm.Cond.code ({ cls := "java/util/List", name := "of", desc := "([Ljava/lang/Object;)Ljava/util/List;" } : Jvm.MethodName) jdk_40_method_47_code (2 : Nat) (Option.some (Jvm.ClassFile.FieldType.object "java/util/List")), Jvm.Cond.code ({ cls := "java/util/ImmutableCollections", name := "listFromArray", desc := "([Ljava/lang/Object;)Ljava/util/List;" } : Jvm.MethodName) jdk_56_method_4_code (3 : Nat) (Option.some (Jvm.ClassFile.FieldType.object "java/util/List")), Jvm.Cond.code ({ cls := "java/util/Objects", name := "requireNonNull", desc := "(Ljava/lang/Object;)Ljava/lang/Object;" } : Jvm.MethodName) jdk_31_method_10_code (1 : Nat) (Option.some (Jvm.ClassFile.FieldType.object "java/lang/Object")), Jvm.Cond.code ({ cls := "java/util/ImmutableCollections$ListN", name := "<init>", desc := "([Ljava/lang/Object;Z)V" } : Jvm.MethodName) jdk_45_method_1_code (3 : Nat) (Option.none : Option Jvm.ClassFile.FieldType), Jvm.Cond.code ({ cls := "java/util/ImmutableCollections$AbstractImmutableList", name := "<init>", desc := "()V" } : Jvm.MethodName) jdk_46_method_1_code (1 : Nat) (Option.none : Option Jvm.ClassFile.FieldType), Jvm.Cond.code ({ cls := "java/util/ImmutableCollections$AbstractImmutableCollection", name := "<init>", desc := "()V" } : Jvm.MethodName) jdk_47_method_1_code (1 : Nat) (Option.none : Option Jvm.ClassFile.FieldType), Jvm.Cond.code ({ cls := "java/util/AbstractCollection", name := "<init>", desc := "()V" } : Jvm.MethodName) jdk_22_method_1_code (1 : Nat) (Option.none : Option Jvm.ClassFile.FieldType), Jvm.Cond.code ({ cls := "java/util/ImmutableCollections$ListN", name := "size", desc := "()I" } : Jvm.MethodName) jdk_45_method_3_code (1 : Nat) (Option.some Jvm.ClassFile.FieldType.int), Jvm.Cond.code ({ cls := "java/util/ImmutableCollections$ListN", name := "get", desc := "(I)Ljava/lang/Object;" } : Jvm.MethodName) jdk_45_method_4_code (2 : Nat) (Option.some (Jvm.ClassFile.FieldType.object "java/lang/Object")), Jvm.Cond.code ({ cls := "com/example/portwright/portwright/check/ReferenceRulesRulesPinLaw", name := "known", desc := "(Lcom/example/portwright/portwright/check/Rule;)Z" } : Jvm.MethodName) method_2_code (1 : Nat) (Option.some Jvm.ClassFile.FieldType.boolean)]
set_option maxRecDepth 65536 in
theorem codes_eq : words1.filter isCode = codes1 := rfl
theorem w_codes : ∀ c ∈ words1.filter isCode, c.before args0 about1 = true := by
  rw [codes_eq]
  intro c hc
  simp only [codes1, List.mem_cons, List.not_mem_nil, or_false] at hc
  rcases hc with rfl | rfl | rfl | rfl | rfl | rfl | rfl | rfl | rfl | rfl | rfl | rfl | rfl | rfl
  · exact w_c0
  · exact w_c1
  · exact w_c2
  · exact w_c3
  · exact w_c4
  · exact w_c5
  · exact w_c6
  · exact w_c7
  · exact w_c8
  · exact w_c9
  · exact w_c10
  · exact w_c11
  · exact w_c12
  · exact w_c13
set_option maxRecDepth 65536 in
theorem w_t1 : (words1.take 24).all (fun c => isCode c || c.before args0 about1) = true := by decide +kernel
set_option maxRecDepth 65536 in
theorem w_t2 : ((words1.drop 24).take 24).all (fun c => isCode c || c.before args0 about1) = true := by decide +kernel
set_option maxRecDepth 65536 in
theorem w_t3 : (((words1.drop 24).drop 24).take 24).all (fun c => isCode c || c.before args0 about1) = true := by decide +kernel
set_option maxRecDepth 65536 in
theorem w_t4 : ((((words1.drop 24).drop 24).drop 24).take 24).all (fun c => isCode c || c.before args0 about1) = true := by decide +kernel
set_option maxRecDepth 65536 in
theorem w_t5 : (((((words1.drop 24).drop 24).drop 24).drop 24).take 24).all (fun c => isCode c || c.before args0 about1) = true := by decide +kernel
set_option maxRecDepth 65536 in
theorem w_t6 : (((((words1.drop 24).drop 24).drop 24).drop 24).drop 24).all (fun c => isCode c || c.before args0 about1) = true := by decide +kernel
theorem w_tables : (allAtoms (Jvm.Cond.code x code maxLocals ret :: tables_1)).before args0 about1 = true := by
  rw [allAtoms_all]
  show words1.all (fun c => c.before args0 about1) = true
  refine all_split ?_ w_codes
  rw [← List.take_append_drop 24 words1, List.all_append, w_t1, ← List.take_append_drop 24 (words1.drop 24), List.all_append, w_t2, ← List.take_append_drop 24 ((words1.drop 24).drop 24), List.all_append, w_t3, ← List.take_append_drop 24 (((words1.drop 24).drop 24).drop 24), List.all_append, w_t4, ← List.take_append_drop 24 ((((words1.drop 24).drop 24).drop 24).drop 24), List.all_append, w_t5, w_t6]
  rfl
set_option maxRecDepth 65536 in
theorem w_case : (Jvm.Cond.and given_1 narrow_1).before args0 about1 = true := by decide +kernel
theorem w_applies : (headSpec (Jvm.Cond.code x code maxLocals ret :: tables_1) room_1).applies x e0.platform about1 = true :=
  (Spec.applies_iff w_frames).mpr ⟨w_running, w_runnable, w_alone, w_named, w_hears, w_ripe, w_room, w_tables⟩
theorem atStart : AtStart classFile x code maxLocals ret World_1 tables_1 room_1 Calls_1 rest_1 Pre_1 launch0 p0 e0 about1 theMethod args0 below0 :=
  ⟨lists_1, trivial, launch0.admits_env _ _ _, launch0.least_env, fairChoices_fair.cas, fairChoices_fair.clock, w_frames, w_args, w_heap, w_applies, trivial, trivial, w_case⟩
end start1
theorem witness_1 : WitnessClaimed_1 := ⟨start1.p0, start1.e0, start1.about1, start1.theMethod, start1.args0, start1.below0, start1.atStart⟩
end Jvm.Pilot.@@N@@
