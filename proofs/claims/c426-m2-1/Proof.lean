import JvmDerived
import JvmDerived.Pilot.@@N@@Statement
import JvmDerived.Pilot.@@N@@Code
set_option linter.unusedVariables false
set_option linter.unusedSimpArgs false
namespace Jvm.Own
open Sem ClassFile Op Lib Jvm.Stand Jvm.Free Jvm.LawKit Jvm.RoadKit
/-! A small logic of walks: 'Wp' says of a point of a body (pc, locals, stack, heap) that from every state that stands there the run ends with Q; one rule an instruction. 'Ct' is a body's contract. -/
def Fen (wd : Bool) (U : State) (o : Outcome) (U' : State) (L : List Loc) (k n : Nat) : Prop := ReturnedEndW U o U' L k n ∧ (wd = false → U.WarmedH U'.vm)
def Wh (hs : Heap) (ws : List Addr) (L : List Loc) : Prop := ∀ y ∈ L, y.base ∈ ws ∨ hs.size ≤ y.base
def Sf (Z : State) (EL : List (String × Nat)) (vm : Vm) (h : Heap) (F : List Addr) : Prop := ∀ x ∈ F, x < h.size ∧ Safe Z EL vm h x
def Sfe (Z : State) (EL : List (String × Nat)) (h : Heap) (F : List Addr) (a : Addr) : Prop := ∀ vm, Z.vm.Alike vm → Sf Z EL vm h F → Safe Z EL vm h a
def Ct (wd : Bool) (l : Launch) (Z : State) (EL : List (String × Nat)) (cw : List Cond) (y : MethodName) (bytes : ByteArray) (maxL : Nat) (ret : Option FieldType) (rm : Room) (as : Array Value) (h : Heap) (F ws : List Addr) (Q : Option Value → Heap → Prop) : Prop :=
  MetFree l y (head1 (Cond.code y bytes maxL ret :: cw) rm)
    (fun a U => a = as ∧ Z.Warmed39 U.vm ∧ U.heap = h ∧ CHv Z EL U.vm h ∧ Sf Z EL U.vm h F) (fun _ _ _ _ _ => True)
    (fun _ U o U' => ∃ v L, o = .returned v ∧ (Wh U.heap ws L ∧ Q v U'.heap) ∧ CHr Z EL U.vm U.heap U'.vm U'.heap ∧ Fen wd U o U' L rm.cells rm.slots)
def Inv (wd : Bool) (l : Launch) (Z : State) (a0 : Array Value) (EL : List (String × Nat)) (R : Room) (y : MethodName) (bytes : ByteArray) (maxL : Nat) (ret : Option FieldType) (hs : Heap) (ws : List Addr) (h : Heap) (F : List Addr) (k n : Nat)
    (p : Program) (e : Env) (s : State) (m : MethodId) (args : Array Value) (below : List Frame) (meth : Method) (c : Code) (vm0 : Vm) (k0 : Nat) (T : State) (locs : List Loc) : Prop :=
  (EW Z a0 EL ∧ p.tables.exec = Jvm.exec ∧ c.code = bytes ∧ c.maxLocals = maxL ∧ meth.sig.returnType = ret ∧ meth.name = y.name ∧ meth.locks = false) ∧
  (s.heap = hs ∧ (∀ x ∈ ws, Z.heap.size ≤ x) ∧ Z.heap.size ≤ hs.size ∧ Wh hs ws locs ∧ Ext Z.heap h) ∧
  (vm0.findClass y.cls = some m.cls ∧ s.Since vm0 k0 ∧ k0 ≤ h.size ∧ (wd = false → s.WarmedH vm0) ∧ Z.Warmed39 vm0 ∧ CHr Z EL s.vm hs vm0 h ∧ Sf Z EL vm0 h F) ∧
  Stand p l e R (s.setVm vm0) m args below meth c T locs k n ∧ T.heap = h
def Out (wd : Bool) (Z : State) (EL : List (String × Nat)) (R : Room) (hs : Heap) (ws : List Addr) (Q : Option Value → Heap → Prop) (p : Program) (e : Env) (s : State) (below : List Frame) (st : State) : Prop :=
  ∃ (v : Option Value) (t : State), Steps p.tables e below st t ∧ t.status = .running ∧ Ended t below (.returned v) ∧ ∃ L, Wh hs ws L ∧ Q v t.heap ∧ CHr Z EL s.vm hs t.vm t.heap ∧ Fen wd s (.returned v) t L R.cells R.slots
def Wp (wd : Bool) (l : Launch) (Z : State) (a0 : Array Value) (EL : List (String × Nat)) (R : Room) (y : MethodName) (bytes : ByteArray) (maxL : Nat) (ret : Option FieldType) (hs : Heap) (ws : List Addr) (Q : Option Value → Heap → Prop) (h : Heap) (F : List Addr) (k n pc : Nat) (Ls : Array Slot) (S : List Value) : Prop :=
  ∀ (p : Program) (e : Env) (s : State) (m : MethodId) (args : Array Value) (below : List Frame) (meth : Method) (c : Code) (vm0 : Vm) (k0 : Nat) (T : State) (locs : List Loc),
    Inv wd l Z a0 EL R y bytes maxL ret hs ws h F k n p e s m args below meth c vm0 k0 T locs → Out wd Z EL R hs ws Q p e s below (T.setTop (mkF m pc Ls S))
section Kit
variable {wd : Bool} {l : Launch} {Z : State} {EL : List (String × Nat)} {R : Room} {y : MethodName} {bytes : ByteArray} {maxL : Nat} {ret : Option FieldType} {hs : Heap} {ws : List Addr} {Q : Option Value → Heap → Prop} {h h' : Heap} {F F' : List Addr} {k n k' n' pc pc' pc1 : Nat} {Ls Ls' : Array Slot} {S S' : List Value}
variable {a0 : Array Value} {a b : Addr} {C O nm d : String} {v w : Value} {sl : Nat} {cl : Cell} {ty : FieldType}
theorem Sfe.mem (q : a ∈ F) : Sfe Z EL h F a := fun _ _ S => (S a q).2
theorem Sfe.exa (E : Exa Z h a C) (h1 : C ≠ "java/lang/String") (h2 : C ≠ "[B") : Sfe Z EL h F a := fun _ hal _ => Safe.exa hal E h1 h2
theorem Sfe.arr (A : Arr Z h a cl ty) (ht : ty ≠ .byte) : Sfe Z EL h F a := fun _ hal _ => Safe.arr hal A ht
theorem Out.back {p : Program} {e : Env} {s : State} {below : List Frame} {st st' : State} (o : Out wd Z EL R hs ws Q p e s below st') (f : ∀ t, Steps p.tables e below st' t → Steps p.tables e below st t) : Out wd Z EL R hs ws Q p e s below st := by
  obtain ⟨v, t, h1, r⟩ := o; exact ⟨v, t, f t h1, r⟩
theorem Wp.lift (f : ∀ (p : Program) (e : Env) (m : MethodId) (below : List Frame) (c : Code) (T t : State), At T m c below → p.tables.exec = Jvm.exec → c.code = bytes → Steps p.tables e below (T.setTop (mkF m pc' Ls' S')) t → Steps p.tables e below (T.setTop (mkF m pc Ls S)) t)
    (K : Wp wd l Z a0 EL R y bytes maxL ret hs ws Q h F k n pc' Ls' S') : Wp wd l Z a0 EL R y bytes maxL ret hs ws Q h F k n pc Ls S :=
  fun p e s m args below meth c vm0 k0 T locs I => (K p e s m args below meth c vm0 k0 T locs I).back fun t st => f p e m below c T t I.2.2.2.1.here I.1.2.1 I.1.2.2.1 st
theorem Wp.old (K : Ext Z.heap h → Wp wd l Z a0 EL R y bytes maxL ret hs ws Q h F k n pc Ls S) : Wp wd l Z a0 EL R y bytes maxL ret hs ws Q h F k n pc Ls S :=
  fun p e s m args below meth c vm0 k0 T locs I => K I.2.1.2.2.2.2 p e s m args below meth c vm0 k0 T locs I
theorem Wp.eqS (q : S = S') (K : Wp wd l Z a0 EL R y bytes maxL ret hs ws Q h F k n pc Ls S') : Wp wd l Z a0 EL R y bytes maxL ret hs ws Q h F k n pc Ls S := q ▸ K
theorem Wp.more (hk : k ≤ k') (hn : n ≤ n') (K : Wp wd l Z a0 EL R y bytes maxL ret hs ws Q h F k' n' pc Ls S) : Wp wd l Z a0 EL R y bytes maxL ret hs ws Q h F k n pc Ls S :=
  fun p e s m args below meth c vm0 k0 T locs I => K p e s m args below meth c vm0 k0 T locs ⟨I.1, I.2.1, I.2.2.1, I.2.2.2.1.mono hk hn, I.2.2.2.2⟩
theorem Wp.less (hF : ∀ x ∈ F', x ∈ F) (K : Wp wd l Z a0 EL R y bytes maxL ret hs ws Q h F' k n pc Ls S) : Wp wd l Z a0 EL R y bytes maxL ret hs ws Q h F k n pc Ls S :=
  fun p e s m args below meth c vm0 k0 T locs I => K p e s m args below meth c vm0 k0 T locs ⟨I.1, I.2.1, ⟨I.2.2.1.1, I.2.2.1.2.1, I.2.2.1.2.2.1, I.2.2.1.2.2.2.1, I.2.2.1.2.2.2.2.1, I.2.2.1.2.2.2.2.2.1, fun x hx => I.2.2.1.2.2.2.2.2.2 x (hF x hx)⟩, I.2.2.2⟩
/-- the cells of the start stand, but for the listed -/
theorem keep_of {s T : State} {locs : List Loc} {kk nn : Nat} (hsm : s.sameButNew T locs kk nn) (hL : Wh s.heap ws locs) : Keep s.heap T.heap ws := by
  refine ⟨hsm.2.1, fun x c hx hn => ?_, fun x c hx => ?_⟩
  · obtain ⟨c', h1, h2, -, h4⟩ := hsm.2.2.2.2.2 x c hx
    have hb := (Array.getElem?_eq_some_iff.mp hx).1
    have hsl : c'.slots = c.slots := Array.ext_getElem? fun i => h4 i fun hm => (hL _ hm).elim hn fun q => absurd q (Nat.not_le.mpr hb)
    have hcc : c' = c := by rw [h2, hsl]
    rw [← hcc]; exact h1
  · obtain ⟨c', h1, h2, h3, -⟩ := hsm.2.2.2.2.2 x c hx
    exact ⟨c', h1, by rw [h2], by rw [h2], h3⟩
theorem Ext.trans {h1 h2 h3 : Heap} (A : Ext h1 h2) (B : Ext h2 h3) : Ext h1 h3 := ⟨Nat.le_trans A.1 B.1, fun x c q => B.2 x c (A.2 x c q)⟩
theorem ext_wr (O : Ext Z.heap h) (W : Wr h h' a sl v) (q : Z.heap.size ≤ a) : Ext Z.heap h' := ⟨by rw [W.size]; exact O.1, fun x c hx => by
  obtain ⟨c', h1, -, -, -, h5, -⟩ := wr_at W (O.2 x c hx)
  rw [← h5 (Nat.ne_of_lt (Nat.lt_of_lt_of_le (Array.getElem?_eq_some_iff.mp hx).1 q))]; exact h1⟩
theorem ext_keep {wc : List Addr} (O : Ext Z.heap h) (K : Keep h h' wc) (q : ∀ x ∈ wc, Z.heap.size ≤ x) : Ext Z.heap h' := ⟨Nat.le_trans O.1 K.1, fun x c hx => K.2.1 x c (O.2 x c hx) fun hm => absurd (Array.getElem?_eq_some_iff.mp hx).1 (Nat.not_lt.mpr (q x hm))⟩
/-- a step that reads the tables or the heap and moves neither but by resolving -/
theorem Wp.tab (law : ∀ (p : Program) (e : Env) (s : State) (m : MethodId) (args : Array Value) (below : List Frame) (meth : Method) (c : Code) (T : State) (locs : List Loc), Stand p l e R s m args below meth c T locs k n → p.tables.exec = Jvm.exec → Z.Warmed39 s.vm → s.vm.findClass y.cls = some m.cls → c.code = bytes → c.maxLocals = maxL → s.heap = hs → T.heap = h → Ext Z.heap h →
      ∃ T', Stand p l e R s m args below meth c T' locs k n ∧ T'.heap = h ∧ ∀ t, Steps p.tables e below (T'.setTop (mkF m pc' Ls' S')) t → Steps p.tables e below (T.setTop (mkF m pc Ls S)) t)
    (K : Wp wd l Z a0 EL R y bytes maxL ret hs ws Q h F k n pc' Ls' S') : Wp wd l Z a0 EL R y bytes maxL ret hs ws Q h F k n pc Ls S := fun p e s m args below meth c vm0 k0 T locs I => by
  obtain ⟨⟨i1, i2, i3, i4, i5⟩, J, ⟨j1, j2, j3, j4, j5, j6⟩, X, eT⟩ := I
  obtain ⟨T', X', eT', st⟩ := law p e (s.setVm vm0) m args below meth c T locs X i2 j5 j1 i3 i4 J.1 eT J.2.2.2.2
  exact (K p e s m args below meth c vm0 k0 T' locs ⟨⟨i1, i2, i3, i4, i5⟩, J, ⟨j1, j2, j3, j4, j5, j6⟩, X', eT'⟩).back st
/-- a step that writes one place -/
theorem Wp.put (hw : a ∈ ws ∨ hs.size ≤ a) (sf : Sfe Z EL h F a) (law : ∀ (p : Program) (e : Env) (s : State) (m : MethodId) (args : Array Value) (below : List Frame) (meth : Method) (c : Code) (T : State) (locs : List Loc), Stand p l e R s m args below meth c T locs k n → p.tables.exec = Jvm.exec → Z.Warmed39 s.vm → s.vm.findClass y.cls = some m.cls → c.code = bytes → meth.name = y.name → T.heap = h →
      ∃ T' h', Stand p l e R s m args below meth c T' (locs ++ [⟨a, sl⟩]) k n ∧ T'.heap = h' ∧ Wr h h' a sl v ∧ ∀ t, Steps p.tables e below (T'.setTop (mkF m pc' Ls' S')) t → Steps p.tables e below (T.setTop (mkF m pc Ls S)) t)
    (K : ∀ h', Wr h h' a sl v → Wp wd l Z a0 EL R y bytes maxL ret hs ws Q h' F k n pc' Ls' S') : Wp wd l Z a0 EL R y bytes maxL ret hs ws Q h F k n pc Ls S := fun p e s m args below meth c vm0 k0 T locs I => by
  obtain ⟨⟨i1, i2, i3, i4, i5, i6, i7⟩, ⟨q1, q2, q3, q4, q5⟩, ⟨j1, j2, j3, j4, j5, j6, j7⟩, X, eT⟩ := I
  obtain ⟨T', h', X', eT', W, st⟩ := law p e (s.setVm vm0) m args below meth c T locs X i2 j5 j1 i3 i6 eT
  have S := sf vm0 j5.alike j7
  refine (K h' W p e s m args below meth c vm0 k0 T' _ ⟨⟨i1, i2, i3, i4, i5, i6, i7⟩, ⟨q1, q2, q3, fun z hz => ?_, ext_wr q5 W (hw.elim (q2 a) (Nat.le_trans q3))⟩, ⟨j1, j2, by rw [W.size]; exact j3, j4, j5, j6.trans (CHr.wr W S j6.1), fun x hx => ⟨by rw [W.size]; exact (j7 x hx).1, Safe.wr W S j6.1 (j7 x hx).2⟩⟩, X', eT'⟩).back st
  rcases List.mem_append.mp hz with hz | hz
  · exact q4 z hz
  · cases List.mem_singleton.mp hz; exact hw
/-- a step that makes one cell -/
theorem Wp.mk (P : Heap → Prop) (hlt : ∀ h', P h' → h.size < h'.size) (law : ∀ (p : Program) (e : Env) (s : State) (m : MethodId) (args : Array Value) (below : List Frame) (meth : Method) (c : Code) (T : State) (locs : List Loc), Stand p l e R s m args below meth c T locs k n → p.tables.exec = Jvm.exec → Z.Warmed39 s.vm → s.vm.findClass y.cls = some m.cls → c.code = bytes → T.heap = h →
      ∃ T' h', Stand p l e R s m args below meth c T' locs k' n' ∧ T'.heap = h' ∧ Ext h h' ∧ P h' ∧ ∀ t, Steps p.tables e below (T'.setTop (mkF m pc' Ls' S')) t → Steps p.tables e below (T.setTop (mkF m pc Ls S)) t)
    (K : ∀ h', hs.size ≤ h.size → Ext h h' → P h' → Wp wd l Z a0 EL R y bytes maxL ret hs ws Q h' (h.size :: F) k' n' pc' Ls' S') : Wp wd l Z a0 EL R y bytes maxL ret hs ws Q h F k n pc Ls S := fun p e s m args below meth c vm0 k0 T locs I => by
  obtain ⟨⟨i1, i2, i3, i4, i5⟩, ⟨q1, q2, q3, q4, q5⟩, ⟨j1, j2, j3, j4, j5, j6, j7⟩, X, eT⟩ := I
  obtain ⟨T', h', X', eT', E, hP, st⟩ := law p e (s.setVm vm0) m args below meth c T locs X i2 j5 j1 i3 eT
  refine (K h' j6.2.1 E hP p e s m args below meth c vm0 k0 T' _ ⟨⟨i1, i2, i3, i4, i5⟩, ⟨q1, q2, q3, q4, Ext.trans q5 E⟩, ⟨j1, j2, Nat.le_trans j3 E.1, j4, j5, j6.trans (CHr.ext E j6.1), fun x hx => ?_⟩, X', eT'⟩).back st
  rcases List.mem_cons.mp hx with rfl | hx
  · exact ⟨hlt h' hP, Safe.ext E j6.1 (Safe.new (Nat.le_refl _))⟩
  · exact ⟨Nat.lt_of_lt_of_le (j7 x hx).1 E.1, Safe.ext E j6.1 (j7 x hx).2⟩
/-- the return -/
theorem Wp.leave (hk : k ≤ R.cells) (hn : n ≤ R.slots) {v' : Option Value} (hv : ret = none → v' = none) (hQ : Q v' h) (law : ∀ (p : Program) (e : Env) (s : State) (m : MethodId) (args : Array Value) (below : List Frame) (meth : Method) (c : Code) (T : State) (locs : List Loc) (fs : List Frame), Stand p l e R s m args below meth c T locs k n → p.tables.exec = Jvm.exec → c.code = bytes → meth.sig.returnType = ret →
      (∀ (f : JFrame) (acts : List Action), f.method = m → f.locked = none → f.entered = [] → (doReturn e (T.setTop f) acts v').1 = T.setFrames fs) → Steps p.tables e below (T.setTop (mkF m pc Ls S)) (T.setFrames fs)) :
    Wp wd l Z a0 EL R y bytes maxL ret hs ws Q h F k n pc Ls S := fun p e s m args below meth c vm0 k0 T locs I => by
  obtain ⟨⟨i1, i2, i3, i4, i5, i6, i7⟩, ⟨q1, q2, q3, q4, q5⟩, ⟨j1, j2, j3, j4, j5, j6, j7⟩, X, eT⟩ := I
  subst eT
  obtain ⟨fs, hr, hrun, hended, hE⟩ := X.leaveW j2 j3 (v := v') (by rw [i5]; exact hv) i7
  refine ⟨v', _, law p e (s.setVm vm0) m args below meth c T locs fs X i2 i3 i5 hr, hrun, hended, locs, q4, hQ, j6.trans (show CHr Z EL vm0 T.heap T.vm T.heap from CHv.at X j5 i1 j6.1), ⟨hE.1, hE.2.1, hE.2.2.1, hE.2.2.2.mono hk hn⟩, fun z => ?_⟩
  exact State.WarmedH.trans (t := s.setVm vm0) (j4 z) X.warmed
end Kit
end Jvm.Own
namespace Jvm.Own
open Sem ClassFile Op Lib Jvm.Stand Jvm.Free Jvm.LawKit Jvm.RoadKit
section Rules
variable {wd : Bool} {l : Launch} {Z : State} {EL : List (String × Nat)} {R : Room} {y : MethodName} {bytes : ByteArray} {maxL : Nat} {ret : Option FieldType} {hs : Heap} {ws : List Addr} {Q : Option Value → Heap → Prop} {h h' : Heap} {F F' : List Addr} {k n k' n' pc pc' pc1 : Nat} {Ls Ls' : Array Slot} {S S' : List Value}
variable {a0 : Array Value} {a b : Addr} {C O nm d : String} {v w : Value} {sl : Nat} {cl : Cell} {ty : FieldType}
theorem Wp.iloadN {i : Fin 4} {x : Int32} (hd : decode bytes pc = .ok (.iload_n i, 1)) (hp : pc + 1 = pc') (hl : Ls[i.val]? = some (.val (.int x))) (K : Wp wd l Z a0 EL R y bytes maxL ret hs ws Q h F k n pc' Ls (.int x :: S)) : Wp wd l Z a0 EL R y bytes maxL ret hs ws Q h F k n pc Ls S := by
  subst hp; exact Wp.lift (fun p e m below c T t A hx hby st => XS.iloadN A hx rfl (hb hby hd) hl st) K
theorem Wp.iload {i : Nat} {x : Int32} (hd : decode bytes pc = .ok (.iload i, 2)) (hp : pc + 2 = pc') (hl : Ls[i]? = some (.val (.int x))) (K : Wp wd l Z a0 EL R y bytes maxL ret hs ws Q h F k n pc' Ls (.int x :: S)) : Wp wd l Z a0 EL R y bytes maxL ret hs ws Q h F k n pc Ls S := by
  subst hp; exact Wp.lift (fun p e m below c T t A hx hby st => XS.iload A hx rfl (hb hby hd) hl st) K
theorem Wp.istoreN {i : Fin 4} {x : Int32} {l' : Array Slot} (hd : decode bytes pc = .ok (.istore_n i, 1)) (hp : pc + 1 = pc') (hl : storeLocals Ls i.val (.int x) = some l') (K : Wp wd l Z a0 EL R y bytes maxL ret hs ws Q h F k n pc' l' S) : Wp wd l Z a0 EL R y bytes maxL ret hs ws Q h F k n pc Ls (.int x :: S) := by
  subst hp; exact Wp.lift (fun p e m below c T t A hx hby st => XS.istoreN A hx rfl (hb hby hd) rfl hl st) K
theorem Wp.istore {i : Nat} {x : Int32} {l' : Array Slot} (hd : decode bytes pc = .ok (.istore i, 2)) (hp : pc + 2 = pc') (hl : storeLocals Ls i (.int x) = some l') (K : Wp wd l Z a0 EL R y bytes maxL ret hs ws Q h F k n pc' l' S) : Wp wd l Z a0 EL R y bytes maxL ret hs ws Q h F k n pc Ls (.int x :: S) := by
  subst hp; exact Wp.lift (fun p e m below c T t A hx hby st => XS.istore A hx rfl (hb hby hd) rfl hl st) K
theorem Wp.lloadN {i : Fin 4} {x : Int64} (hd : decode bytes pc = .ok (.lload_n i, 1)) (hp : pc + 1 = pc') (hl : Ls[i.val]? = some (.val (.long x))) (K : Wp wd l Z a0 EL R y bytes maxL ret hs ws Q h F k n pc' Ls (.long x :: S)) : Wp wd l Z a0 EL R y bytes maxL ret hs ws Q h F k n pc Ls S := by
  subst hp; exact Wp.lift (fun p e m below c T t A hx hby st => XS.lloadN A hx rfl (hb hby hd) hl st) K
theorem Wp.lload {i : Nat} {x : Int64} (hd : decode bytes pc = .ok (.lload i, 2)) (hp : pc + 2 = pc') (hl : Ls[i]? = some (.val (.long x))) (K : Wp wd l Z a0 EL R y bytes maxL ret hs ws Q h F k n pc' Ls (.long x :: S)) : Wp wd l Z a0 EL R y bytes maxL ret hs ws Q h F k n pc Ls S := by
  subst hp; exact Wp.lift (fun p e m below c T t A hx hby st => XS.lload A hx rfl (hb hby hd) hl st) K
theorem Wp.lstoreN {i : Fin 4} {x : Int64} {l' : Array Slot} (hd : decode bytes pc = .ok (.lstore_n i, 1)) (hp : pc + 1 = pc') (hl : storeLocals Ls i.val (.long x) = some l') (K : Wp wd l Z a0 EL R y bytes maxL ret hs ws Q h F k n pc' l' S) : Wp wd l Z a0 EL R y bytes maxL ret hs ws Q h F k n pc Ls (.long x :: S) := by
  subst hp; exact Wp.lift (fun p e m below c T t A hx hby st => XS.lstoreN A hx rfl (hb hby hd) rfl hl st) K
theorem Wp.lstore {i : Nat} {x : Int64} {l' : Array Slot} (hd : decode bytes pc = .ok (.lstore i, 2)) (hp : pc + 2 = pc') (hl : storeLocals Ls i (.long x) = some l') (K : Wp wd l Z a0 EL R y bytes maxL ret hs ws Q h F k n pc' l' S) : Wp wd l Z a0 EL R y bytes maxL ret hs ws Q h F k n pc Ls (.long x :: S) := by
  subst hp; exact Wp.lift (fun p e m below c T t A hx hby st => XS.lstore A hx rfl (hb hby hd) rfl hl st) K
theorem Wp.aloadN {i : Fin 4} {v : Value} (hd : decode bytes pc = .ok (.aload_n i, 1)) (hp : pc + 1 = pc') (hl : Ls[i.val]? = some (.val v)) (hv : v.isRef = true) (K : Wp wd l Z a0 EL R y bytes maxL ret hs ws Q h F k n pc' Ls (v :: S)) : Wp wd l Z a0 EL R y bytes maxL ret hs ws Q h F k n pc Ls S := by
  subst hp; exact Wp.lift (fun p e m below c T t A hx hby st => XS.aloadN A hx rfl (hb hby hd) hl hv st) K
theorem Wp.aload {i : Nat} {v : Value} (hd : decode bytes pc = .ok (.aload i, 2)) (hp : pc + 2 = pc') (hl : Ls[i]? = some (.val v)) (hv : v.isRef = true) (K : Wp wd l Z a0 EL R y bytes maxL ret hs ws Q h F k n pc' Ls (v :: S)) : Wp wd l Z a0 EL R y bytes maxL ret hs ws Q h F k n pc Ls S := by
  subst hp; exact Wp.lift (fun p e m below c T t A hx hby st => XS.aload A hx rfl (hb hby hd) hl hv st) K
theorem Wp.astoreN {i : Fin 4} {v : Value} {l' : Array Slot} (hd : decode bytes pc = .ok (.astore_n i, 1)) (hp : pc + 1 = pc') (hv : v.isRef = true) (hl : storeLocals Ls i.val v = some l') (K : Wp wd l Z a0 EL R y bytes maxL ret hs ws Q h F k n pc' l' S) : Wp wd l Z a0 EL R y bytes maxL ret hs ws Q h F k n pc Ls (v :: S) := by
  subst hp; exact Wp.lift (fun p e m below c T t A hx hby st => XS.astoreN A hx rfl (hb hby hd) rfl hv hl st) K
theorem Wp.astore {i : Nat} {v : Value} {l' : Array Slot} (hd : decode bytes pc = .ok (.astore i, 2)) (hp : pc + 2 = pc') (hv : v.isRef = true) (hl : storeLocals Ls i v = some l') (K : Wp wd l Z a0 EL R y bytes maxL ret hs ws Q h F k n pc' l' S) : Wp wd l Z a0 EL R y bytes maxL ret hs ws Q h F k n pc Ls (v :: S) := by
  subst hp; exact Wp.lift (fun p e m below c T t A hx hby st => XS.astore A hx rfl (hb hby hd) rfl hv hl st) K
theorem Wp.iconst {i : Int} {x : Int32} (hd : decode bytes pc = .ok (.iconst i, 1)) (hp : pc + 1 = pc') (hi : Int32.ofInt i = x) (K : Wp wd l Z a0 EL R y bytes maxL ret hs ws Q h F k n pc' Ls (.int x :: S)) : Wp wd l Z a0 EL R y bytes maxL ret hs ws Q h F k n pc Ls S := by
  subst hp; exact Wp.lift (fun p e m below c T t A hx hby st => XS.iconst A hx rfl (hb hby hd) (hi ▸ st)) K
theorem Wp.bipush {i : Int} {x : Int32} (hd : decode bytes pc = .ok (.bipush i, 2)) (hp : pc + 2 = pc') (hi : (Int8.ofInt i).toInt32 = x) (K : Wp wd l Z a0 EL R y bytes maxL ret hs ws Q h F k n pc' Ls (.int x :: S)) : Wp wd l Z a0 EL R y bytes maxL ret hs ws Q h F k n pc Ls S := by
  subst hp; exact Wp.lift (fun p e m below c T t A hx hby st => XS.bipush A hx rfl (hb hby hd) (hi ▸ st)) K
theorem Wp.sipush {i : Int} {x : Int32} (hd : decode bytes pc = .ok (.sipush i, 3)) (hp : pc + 3 = pc') (hi : (Int16.ofInt i).toInt32 = x) (K : Wp wd l Z a0 EL R y bytes maxL ret hs ws Q h F k n pc' Ls (.int x :: S)) : Wp wd l Z a0 EL R y bytes maxL ret hs ws Q h F k n pc Ls S := by
  subst hp; exact Wp.lift (fun p e m below c T t A hx hby st => XS.sipush A hx rfl (hb hby hd) (hi ▸ st)) K
theorem Wp.lconst {i : Fin 2} {x : Int64} (hd : decode bytes pc = .ok (.lconst i, 1)) (hp : pc + 1 = pc') (hi : Int64.ofNat i = x) (K : Wp wd l Z a0 EL R y bytes maxL ret hs ws Q h F k n pc' Ls (.long x :: S)) : Wp wd l Z a0 EL R y bytes maxL ret hs ws Q h F k n pc Ls S := by
  subst hp; exact Wp.lift (fun p e m below c T t A hx hby st => XS.lconst A hx rfl (hb hby hd) (hi ▸ st)) K
theorem Wp.aconstNull  (hd : decode bytes pc = .ok (.aconst_null, 1)) (hp : pc + 1 = pc') (K : Wp wd l Z a0 EL R y bytes maxL ret hs ws Q h F k n pc' Ls (.null :: S)) : Wp wd l Z a0 EL R y bytes maxL ret hs ws Q h F k n pc Ls S := by
  subst hp; exact Wp.lift (fun p e m below c T t A hx hby st => XS.aconstNull A hx rfl (hb hby hd) st) K
theorem Wp.iadd {x z : Int32} (hd : decode bytes pc = .ok (.iadd, 1)) (hp : pc + 1 = pc') (K : Wp wd l Z a0 EL R y bytes maxL ret hs ws Q h F k n pc' Ls (.int (x + z) :: S)) : Wp wd l Z a0 EL R y bytes maxL ret hs ws Q h F k n pc Ls (.int z :: .int x :: S) := by
  subst hp; exact Wp.lift (fun p e m below c T t A hx hby st => XS.iadd A hx rfl (hb hby hd) rfl st) K
theorem Wp.ladd {x z : Int64} (hd : decode bytes pc = .ok (.ladd, 1)) (hp : pc + 1 = pc') (K : Wp wd l Z a0 EL R y bytes maxL ret hs ws Q h F k n pc' Ls (.long (x + z) :: S)) : Wp wd l Z a0 EL R y bytes maxL ret hs ws Q h F k n pc Ls (.long z :: .long x :: S) := by
  subst hp; exact Wp.lift (fun p e m below c T t A hx hby st => XS.ladd A hx rfl (hb hby hd) rfl st) K
theorem Wp.isub {x z : Int32} (hd : decode bytes pc = .ok (.isub, 1)) (hp : pc + 1 = pc') (K : Wp wd l Z a0 EL R y bytes maxL ret hs ws Q h F k n pc' Ls (.int (x - z) :: S)) : Wp wd l Z a0 EL R y bytes maxL ret hs ws Q h F k n pc Ls (.int z :: .int x :: S) := by
  subst hp; exact Wp.lift (fun p e m below c T t A hx hby st => XS.isub A hx rfl (hb hby hd) rfl st) K
theorem Wp.lsub {x z : Int64} (hd : decode bytes pc = .ok (.lsub, 1)) (hp : pc + 1 = pc') (K : Wp wd l Z a0 EL R y bytes maxL ret hs ws Q h F k n pc' Ls (.long (x - z) :: S)) : Wp wd l Z a0 EL R y bytes maxL ret hs ws Q h F k n pc Ls (.long z :: .long x :: S) := by
  subst hp; exact Wp.lift (fun p e m below c T t A hx hby st => XS.lsub A hx rfl (hb hby hd) rfl st) K
theorem Wp.imul {x z : Int32} (hd : decode bytes pc = .ok (.imul, 1)) (hp : pc + 1 = pc') (K : Wp wd l Z a0 EL R y bytes maxL ret hs ws Q h F k n pc' Ls (.int (x * z) :: S)) : Wp wd l Z a0 EL R y bytes maxL ret hs ws Q h F k n pc Ls (.int z :: .int x :: S) := by
  subst hp; exact Wp.lift (fun p e m below c T t A hx hby st => XS.imul A hx rfl (hb hby hd) rfl st) K
theorem Wp.lmul {x z : Int64} (hd : decode bytes pc = .ok (.lmul, 1)) (hp : pc + 1 = pc') (K : Wp wd l Z a0 EL R y bytes maxL ret hs ws Q h F k n pc' Ls (.long (x * z) :: S)) : Wp wd l Z a0 EL R y bytes maxL ret hs ws Q h F k n pc Ls (.long z :: .long x :: S) := by
  subst hp; exact Wp.lift (fun p e m below c T t A hx hby st => XS.lmul A hx rfl (hb hby hd) rfl st) K
theorem Wp.iand {x z : Int32} (hd : decode bytes pc = .ok (.iand, 1)) (hp : pc + 1 = pc') (K : Wp wd l Z a0 EL R y bytes maxL ret hs ws Q h F k n pc' Ls (.int (x &&& z) :: S)) : Wp wd l Z a0 EL R y bytes maxL ret hs ws Q h F k n pc Ls (.int z :: .int x :: S) := by
  subst hp; exact Wp.lift (fun p e m below c T t A hx hby st => XS.iand A hx rfl (hb hby hd) rfl st) K
theorem Wp.land {x z : Int64} (hd : decode bytes pc = .ok (.land, 1)) (hp : pc + 1 = pc') (K : Wp wd l Z a0 EL R y bytes maxL ret hs ws Q h F k n pc' Ls (.long (x &&& z) :: S)) : Wp wd l Z a0 EL R y bytes maxL ret hs ws Q h F k n pc Ls (.long z :: .long x :: S) := by
  subst hp; exact Wp.lift (fun p e m below c T t A hx hby st => XS.land A hx rfl (hb hby hd) rfl st) K
theorem Wp.ior {x z : Int32} (hd : decode bytes pc = .ok (.ior, 1)) (hp : pc + 1 = pc') (K : Wp wd l Z a0 EL R y bytes maxL ret hs ws Q h F k n pc' Ls (.int (x ||| z) :: S)) : Wp wd l Z a0 EL R y bytes maxL ret hs ws Q h F k n pc Ls (.int z :: .int x :: S) := by
  subst hp; exact Wp.lift (fun p e m below c T t A hx hby st => XS.ior A hx rfl (hb hby hd) rfl st) K
theorem Wp.lor {x z : Int64} (hd : decode bytes pc = .ok (.lor, 1)) (hp : pc + 1 = pc') (K : Wp wd l Z a0 EL R y bytes maxL ret hs ws Q h F k n pc' Ls (.long (x ||| z) :: S)) : Wp wd l Z a0 EL R y bytes maxL ret hs ws Q h F k n pc Ls (.long z :: .long x :: S) := by
  subst hp; exact Wp.lift (fun p e m below c T t A hx hby st => XS.lor A hx rfl (hb hby hd) rfl st) K
theorem Wp.ixor {x z : Int32} (hd : decode bytes pc = .ok (.ixor, 1)) (hp : pc + 1 = pc') (K : Wp wd l Z a0 EL R y bytes maxL ret hs ws Q h F k n pc' Ls (.int (x ^^^ z) :: S)) : Wp wd l Z a0 EL R y bytes maxL ret hs ws Q h F k n pc Ls (.int z :: .int x :: S) := by
  subst hp; exact Wp.lift (fun p e m below c T t A hx hby st => XS.ixor A hx rfl (hb hby hd) rfl st) K
theorem Wp.lxor {x z : Int64} (hd : decode bytes pc = .ok (.lxor, 1)) (hp : pc + 1 = pc') (K : Wp wd l Z a0 EL R y bytes maxL ret hs ws Q h F k n pc' Ls (.long (x ^^^ z) :: S)) : Wp wd l Z a0 EL R y bytes maxL ret hs ws Q h F k n pc Ls (.long z :: .long x :: S) := by
  subst hp; exact Wp.lift (fun p e m below c T t A hx hby st => XS.lxor A hx rfl (hb hby hd) rfl st) K
theorem Wp.ineg {x : Int32} (hd : decode bytes pc = .ok (.ineg, 1)) (hp : pc + 1 = pc') (K : Wp wd l Z a0 EL R y bytes maxL ret hs ws Q h F k n pc' Ls (.int (-x) :: S)) : Wp wd l Z a0 EL R y bytes maxL ret hs ws Q h F k n pc Ls (.int x :: S) := by
  subst hp; exact Wp.lift (fun p e m below c T t A hx hby st => XS.ineg A hx rfl (hb hby hd) rfl st) K
theorem Wp.i2l {x : Int32} (hd : decode bytes pc = .ok (.i2l, 1)) (hp : pc + 1 = pc') (K : Wp wd l Z a0 EL R y bytes maxL ret hs ws Q h F k n pc' Ls (.long (x.toInt64) :: S)) : Wp wd l Z a0 EL R y bytes maxL ret hs ws Q h F k n pc Ls (.int x :: S) := by
  subst hp; exact Wp.lift (fun p e m below c T t A hx hby st => XS.i2l A hx rfl (hb hby hd) rfl st) K
theorem Wp.l2i {x : Int64} (hd : decode bytes pc = .ok (.l2i, 1)) (hp : pc + 1 = pc') (K : Wp wd l Z a0 EL R y bytes maxL ret hs ws Q h F k n pc' Ls (.int (x.toInt32) :: S)) : Wp wd l Z a0 EL R y bytes maxL ret hs ws Q h F k n pc Ls (.long x :: S) := by
  subst hp; exact Wp.lift (fun p e m below c T t A hx hby st => XS.l2i A hx rfl (hb hby hd) rfl st) K
theorem Wp.i2b {x : Int32} (hd : decode bytes pc = .ok (.i2b, 1)) (hp : pc + 1 = pc') (K : Wp wd l Z a0 EL R y bytes maxL ret hs ws Q h F k n pc' Ls (.int (x.toInt8.toInt32) :: S)) : Wp wd l Z a0 EL R y bytes maxL ret hs ws Q h F k n pc Ls (.int x :: S) := by
  subst hp; exact Wp.lift (fun p e m below c T t A hx hby st => XS.i2b A hx rfl (hb hby hd) rfl st) K
theorem Wp.i2s {x : Int32} (hd : decode bytes pc = .ok (.i2s, 1)) (hp : pc + 1 = pc') (K : Wp wd l Z a0 EL R y bytes maxL ret hs ws Q h F k n pc' Ls (.int (x.toInt16.toInt32) :: S)) : Wp wd l Z a0 EL R y bytes maxL ret hs ws Q h F k n pc Ls (.int x :: S) := by
  subst hp; exact Wp.lift (fun p e m below c T t A hx hby st => XS.i2s A hx rfl (hb hby hd) rfl st) K
theorem Wp.i2c {x : Int32} (hd : decode bytes pc = .ok (.i2c, 1)) (hp : pc + 1 = pc') (K : Wp wd l Z a0 EL R y bytes maxL ret hs ws Q h F k n pc' Ls (.int (x.toUInt32.toUInt16.toUInt32.toInt32) :: S)) : Wp wd l Z a0 EL R y bytes maxL ret hs ws Q h F k n pc Ls (.int x :: S) := by
  subst hp; exact Wp.lift (fun p e m below c T t A hx hby st => XS.i2c A hx rfl (hb hby hd) rfl st) K
theorem Wp.ishl {x : Int32} {z : Int32} (hd : decode bytes pc = .ok (.ishl, 1)) (hp : pc + 1 = pc') (K : Wp wd l Z a0 EL R y bytes maxL ret hs ws Q h F k n pc' Ls (.int (x <<< (z &&& 31)) :: S)) : Wp wd l Z a0 EL R y bytes maxL ret hs ws Q h F k n pc Ls (.int z :: .int x :: S) := by
  subst hp; exact Wp.lift (fun p e m below c T t A hx hby st => XS.ishl A hx rfl (hb hby hd) rfl st) K
theorem Wp.ishr {x : Int32} {z : Int32} (hd : decode bytes pc = .ok (.ishr, 1)) (hp : pc + 1 = pc') (K : Wp wd l Z a0 EL R y bytes maxL ret hs ws Q h F k n pc' Ls (.int (x >>> (z &&& 31)) :: S)) : Wp wd l Z a0 EL R y bytes maxL ret hs ws Q h F k n pc Ls (.int z :: .int x :: S) := by
  subst hp; exact Wp.lift (fun p e m below c T t A hx hby st => XS.ishr A hx rfl (hb hby hd) rfl st) K
theorem Wp.iushr {x : Int32} {z : Int32} (hd : decode bytes pc = .ok (.iushr, 1)) (hp : pc + 1 = pc') (K : Wp wd l Z a0 EL R y bytes maxL ret hs ws Q h F k n pc' Ls (.int ((x.toUInt32 >>> (z &&& 31).toUInt32).toInt32) :: S)) : Wp wd l Z a0 EL R y bytes maxL ret hs ws Q h F k n pc Ls (.int z :: .int x :: S) := by
  subst hp; exact Wp.lift (fun p e m below c T t A hx hby st => XS.iushr A hx rfl (hb hby hd) rfl st) K
theorem Wp.lshl {x : Int64} {z : Int32} (hd : decode bytes pc = .ok (.lshl, 1)) (hp : pc + 1 = pc') (K : Wp wd l Z a0 EL R y bytes maxL ret hs ws Q h F k n pc' Ls (.long (x <<< (z &&& 0x3f).toInt64) :: S)) : Wp wd l Z a0 EL R y bytes maxL ret hs ws Q h F k n pc Ls (.int z :: .long x :: S) := by
  subst hp; exact Wp.lift (fun p e m below c T t A hx hby st => XS.lshl A hx rfl (hb hby hd) rfl st) K
theorem Wp.lshr {x : Int64} {z : Int32} (hd : decode bytes pc = .ok (.lshr, 1)) (hp : pc + 1 = pc') (K : Wp wd l Z a0 EL R y bytes maxL ret hs ws Q h F k n pc' Ls (.long (x >>> (z &&& 0x3f).toInt64) :: S)) : Wp wd l Z a0 EL R y bytes maxL ret hs ws Q h F k n pc Ls (.int z :: .long x :: S) := by
  subst hp; exact Wp.lift (fun p e m below c T t A hx hby st => XS.lshr A hx rfl (hb hby hd) rfl st) K
theorem Wp.lushr {x : Int64} {z : Int32} (hd : decode bytes pc = .ok (.lushr, 1)) (hp : pc + 1 = pc') (K : Wp wd l Z a0 EL R y bytes maxL ret hs ws Q h F k n pc' Ls (.long ((x.toUInt64 >>> (z &&& 0x3f).toInt64.toUInt64).toInt64) :: S)) : Wp wd l Z a0 EL R y bytes maxL ret hs ws Q h F k n pc Ls (.int z :: .long x :: S) := by
  subst hp; exact Wp.lift (fun p e m below c T t A hx hby st => XS.lushr A hx rfl (hb hby hd) rfl st) K
theorem Wp.lcmp {x z : Int64} (hd : decode bytes pc = .ok (.lcmp, 1)) (hp : pc + 1 = pc') (K : Wp wd l Z a0 EL R y bytes maxL ret hs ws Q h F k n pc' Ls (.int (lcmpW x z) :: S)) : Wp wd l Z a0 EL R y bytes maxL ret hs ws Q h F k n pc Ls (.long z :: .long x :: S) := by
  subst hp; exact Wp.lift (fun p e m below c T t A hx hby st => XS.lcmp A hx rfl (hb hby hd) rfl st) K
theorem Wp.idiv {x z : Int32} (hd : decode bytes pc = .ok (.idiv, 1)) (hp : pc + 1 = pc') (hz : z ≠ 0) (K : Wp wd l Z a0 EL R y bytes maxL ret hs ws Q h F k n pc' Ls (.int (x / z) :: S)) : Wp wd l Z a0 EL R y bytes maxL ret hs ws Q h F k n pc Ls (.int z :: .int x :: S) := by
  subst hp; exact Wp.lift (fun p e m below c T t A hx hby st => XS.idiv A hx rfl (hb hby hd) rfl hz st) K
theorem Wp.irem {x z : Int32} (hd : decode bytes pc = .ok (.irem, 1)) (hp : pc + 1 = pc') (hz : z ≠ 0) (K : Wp wd l Z a0 EL R y bytes maxL ret hs ws Q h F k n pc' Ls (.int (x % z) :: S)) : Wp wd l Z a0 EL R y bytes maxL ret hs ws Q h F k n pc Ls (.int z :: .int x :: S) := by
  subst hp; exact Wp.lift (fun p e m below c T t A hx hby st => XS.irem A hx rfl (hb hby hd) rfl hz (by rw [irem_eq_mod]; exact st)) K
theorem Wp.ldiv {x z : Int64} (hd : decode bytes pc = .ok (.ldiv, 1)) (hp : pc + 1 = pc') (hz : z ≠ 0) (K : Wp wd l Z a0 EL R y bytes maxL ret hs ws Q h F k n pc' Ls (.long (x / z) :: S)) : Wp wd l Z a0 EL R y bytes maxL ret hs ws Q h F k n pc Ls (.long z :: .long x :: S) := by
  subst hp; exact Wp.lift (fun p e m below c T t A hx hby st => XS.ldiv A hx rfl (hb hby hd) rfl hz st) K
theorem Wp.lrem {x z : Int64} (hd : decode bytes pc = .ok (.lrem, 1)) (hp : pc + 1 = pc') (hz : z ≠ 0) (K : Wp wd l Z a0 EL R y bytes maxL ret hs ws Q h F k n pc' Ls (.long (x - (x / z) * z) :: S)) : Wp wd l Z a0 EL R y bytes maxL ret hs ws Q h F k n pc Ls (.long z :: .long x :: S) := by
  subst hp; exact Wp.lift (fun p e m below c T t A hx hby st => XS.lrem A hx rfl (hb hby hd) rfl hz st) K
theorem Wp.dup {v : Value} (hd : decode bytes pc = .ok (.dup, 1)) (hp : pc + 1 = pc') (hc : v.category = 1) (K : Wp wd l Z a0 EL R y bytes maxL ret hs ws Q h F k n pc' Ls (v :: v :: S)) : Wp wd l Z a0 EL R y bytes maxL ret hs ws Q h F k n pc Ls (v :: S) := by
  subst hp; exact Wp.lift (fun p e m below c T t A hx hby st => XS.dup A hx rfl (hb hby hd) rfl hc st) K
theorem Wp.pop {v : Value} (hd : decode bytes pc = .ok (.pop, 1)) (hp : pc + 1 = pc') (hc : v.category = 1) (K : Wp wd l Z a0 EL R y bytes maxL ret hs ws Q h F k n pc' Ls S) : Wp wd l Z a0 EL R y bytes maxL ret hs ws Q h F k n pc Ls (v :: S) := by
  subst hp; exact Wp.lift (fun p e m below c T t A hx hby st => XS.pop A hx rfl (hb hby hd) rfl hc st) K
theorem Wp.dupX1 {v w : Value} (hd : decode bytes pc = .ok (.dup_x1, 1)) (hp : pc + 1 = pc') (hc : v.category = 1) (hc' : w.category = 1) (K : Wp wd l Z a0 EL R y bytes maxL ret hs ws Q h F k n pc' Ls (v :: w :: v :: S)) : Wp wd l Z a0 EL R y bytes maxL ret hs ws Q h F k n pc Ls (v :: w :: S) := by
  subst hp; exact Wp.lift (fun p e m below c T t A hx hby st => XS.dupX1 A hx rfl (hb hby hd) rfl hc hc' st) K
theorem Wp.dup2 {v w : Value} (hd : decode bytes pc = .ok (.dup2, 1)) (hp : pc + 1 = pc') (hc : v.category = 1) (hc' : w.category = 1) (K : Wp wd l Z a0 EL R y bytes maxL ret hs ws Q h F k n pc' Ls (v :: w :: v :: w :: S)) : Wp wd l Z a0 EL R y bytes maxL ret hs ws Q h F k n pc Ls (v :: w :: S) := by
  subst hp; exact Wp.lift (fun p e m below c T t A hx hby st => XT.dup2 A hx rfl (hb hby hd) rfl hc hc' st) K
theorem Wp.iinc {i : Nat} {q : Int} {x : Int32} {l' : Array Slot} (hd : decode bytes pc = .ok (.iinc i q, 3)) (hp : pc + 3 = pc') (hl : Ls[i]? = some (.val (.int x))) (hs' : storeLocals Ls i (.int (x + Int32.ofInt q)) = some l') (K : Wp wd l Z a0 EL R y bytes maxL ret hs ws Q h F k n pc' l' S) : Wp wd l Z a0 EL R y bytes maxL ret hs ws Q h F k n pc Ls S := by
  subst hp; exact Wp.lift (fun p e m below c T t A hx hby st => XS.iinc A hx rfl (hb hby hd) hl hs' st) K
theorem Wp.goto {q : Int} (hd : decode bytes pc = .ok (.goto q, 3)) (h0 : 0 ≤ (pc : Int) + q) (hp : ((pc : Int) + q).toNat = pc') (K : Wp wd l Z a0 EL R y bytes maxL ret hs ws Q h F k n pc' Ls S) : Wp wd l Z a0 EL R y bytes maxL ret hs ws Q h F k n pc Ls S :=
  Wp.lift (fun p e m below c T t A hx hby st => XS.goto A hx rfl rfl (hb hby hd) h0 hp st) K
theorem Wp.tswOut {dflt low high : Int} {offs : Array Int} {len : Nat} {x : Int32} (hd : decode bytes pc = .ok (.tableswitch dflt low high offs, len)) (hout : x.toInt < low ∨ x.toInt > high) (h0 : 0 ≤ (pc : Int) + dflt) (hp : ((pc : Int) + dflt).toNat = pc') (K : Wp wd l Z a0 EL R y bytes maxL ret hs ws Q h F k n pc' Ls S) : Wp wd l Z a0 EL R y bytes maxL ret hs ws Q h F k n pc Ls (.int x :: S) :=
  Wp.lift (fun p e m below c T t A hx hby st => XS.tswOut A hx rfl rfl (hb hby hd) rfl hout h0 hp st) K
theorem Wp.tswIn {dflt low high q : Int} {offs : Array Int} {len : Nat} {x : Int32} (hd : decode bytes pc = .ok (.tableswitch dflt low high offs, len)) (hin : ¬ (x.toInt < low ∨ x.toInt > high)) (hoff : offs[(x.toInt - low).toNat]? = some q) (h0 : 0 ≤ (pc : Int) + q) (hp : ((pc : Int) + q).toNat = pc') (K : Wp wd l Z a0 EL R y bytes maxL ret hs ws Q h F k n pc' Ls S) : Wp wd l Z a0 EL R y bytes maxL ret hs ws Q h F k n pc Ls (.int x :: S) :=
  Wp.lift (fun p e m below c T t A hx hby st => XS.tswIn A hx rfl rfl (hb hby hd) rfl hin hoff h0 hp st) K
theorem Wp.icmp_lt {x z : Int32} {q : Int} (hd : decode bytes pc = .ok (.if_icmp .lt q, 3)) (h0 : 0 ≤ (pc : Int) + q) (h1 : ((pc : Int) + q).toNat = pc1) (hp : pc + 3 = pc') (K1 : x < z → Wp wd l Z a0 EL R y bytes maxL ret hs ws Q h F k n pc1 Ls S) (K2 : ¬ (x < z) → Wp wd l Z a0 EL R y bytes maxL ret hs ws Q h F k n pc' Ls S) : Wp wd l Z a0 EL R y bytes maxL ret hs ws Q h F k n pc Ls (.int z :: .int x :: S) := by
  subst hp
  exact (Classical.em (x < z)).elim (fun hc => Wp.lift (fun p e m below c T t A hx hby st => XS.icmpYes A hx rfl rfl (hb hby hd) rfl (tlt hc).1 h0 h1 st) (K1 hc)) (fun hc => Wp.lift (fun p e m below c T t A hx hby st => XS.icmpNo A hx rfl (hb hby hd) rfl (flt hc).1 st) (K2 hc))
theorem Wp.if_lt {x : Int32} {q : Int} (hd : decode bytes pc = .ok (.ifCond .lt q, 3)) (h0 : 0 ≤ (pc : Int) + q) (h1 : ((pc : Int) + q).toNat = pc1) (hp : pc + 3 = pc') (K1 : x < (0 : Int32) → Wp wd l Z a0 EL R y bytes maxL ret hs ws Q h F k n pc1 Ls S) (K2 : ¬ (x < (0 : Int32)) → Wp wd l Z a0 EL R y bytes maxL ret hs ws Q h F k n pc' Ls S) : Wp wd l Z a0 EL R y bytes maxL ret hs ws Q h F k n pc Ls (.int x :: S) := by
  subst hp
  exact (Classical.em (x < (0 : Int32))).elim (fun hc => Wp.lift (fun p e m below c T t A hx hby st => XS.ifYes A hx rfl rfl (hb hby hd) rfl ((if0 _ _).trans (tlt hc).1) h0 h1 st) (K1 hc)) (fun hc => Wp.lift (fun p e m below c T t A hx hby st => XS.ifNo A hx rfl (hb hby hd) rfl ((if0 _ _).trans (flt hc).1) st) (K2 hc))
theorem Wp.icmp_ge {x z : Int32} {q : Int} (hd : decode bytes pc = .ok (.if_icmp .ge q, 3)) (h0 : 0 ≤ (pc : Int) + q) (h1 : ((pc : Int) + q).toNat = pc1) (hp : pc + 3 = pc') (K1 : ¬ (x < z) → Wp wd l Z a0 EL R y bytes maxL ret hs ws Q h F k n pc1 Ls S) (K2 : x < z → Wp wd l Z a0 EL R y bytes maxL ret hs ws Q h F k n pc' Ls S) : Wp wd l Z a0 EL R y bytes maxL ret hs ws Q h F k n pc Ls (.int z :: .int x :: S) := by
  subst hp
  exact (Classical.em (x < z)).elim (fun hc => Wp.lift (fun p e m below c T t A hx hby st => XS.icmpNo A hx rfl (hb hby hd) rfl (tlt hc).2.1 st) (K2 hc)) (fun hc => Wp.lift (fun p e m below c T t A hx hby st => XS.icmpYes A hx rfl rfl (hb hby hd) rfl (flt hc).2.1 h0 h1 st) (K1 hc))
theorem Wp.if_ge {x : Int32} {q : Int} (hd : decode bytes pc = .ok (.ifCond .ge q, 3)) (h0 : 0 ≤ (pc : Int) + q) (h1 : ((pc : Int) + q).toNat = pc1) (hp : pc + 3 = pc') (K1 : ¬ (x < (0 : Int32)) → Wp wd l Z a0 EL R y bytes maxL ret hs ws Q h F k n pc1 Ls S) (K2 : x < (0 : Int32) → Wp wd l Z a0 EL R y bytes maxL ret hs ws Q h F k n pc' Ls S) : Wp wd l Z a0 EL R y bytes maxL ret hs ws Q h F k n pc Ls (.int x :: S) := by
  subst hp
  exact (Classical.em (x < (0 : Int32))).elim (fun hc => Wp.lift (fun p e m below c T t A hx hby st => XS.ifNo A hx rfl (hb hby hd) rfl ((if0 _ _).trans (tlt hc).2.1) st) (K2 hc)) (fun hc => Wp.lift (fun p e m below c T t A hx hby st => XS.ifYes A hx rfl rfl (hb hby hd) rfl ((if0 _ _).trans (flt hc).2.1) h0 h1 st) (K1 hc))
theorem Wp.icmp_gt {x z : Int32} {q : Int} (hd : decode bytes pc = .ok (.if_icmp .gt q, 3)) (h0 : 0 ≤ (pc : Int) + q) (h1 : ((pc : Int) + q).toNat = pc1) (hp : pc + 3 = pc') (K1 : z < x → Wp wd l Z a0 EL R y bytes maxL ret hs ws Q h F k n pc1 Ls S) (K2 : ¬ (z < x) → Wp wd l Z a0 EL R y bytes maxL ret hs ws Q h F k n pc' Ls S) : Wp wd l Z a0 EL R y bytes maxL ret hs ws Q h F k n pc Ls (.int z :: .int x :: S) := by
  subst hp
  exact (Classical.em (z < x)).elim (fun hc => Wp.lift (fun p e m below c T t A hx hby st => XS.icmpYes A hx rfl rfl (hb hby hd) rfl (tlt hc).2.2.1 h0 h1 st) (K1 hc)) (fun hc => Wp.lift (fun p e m below c T t A hx hby st => XS.icmpNo A hx rfl (hb hby hd) rfl (flt hc).2.2.1 st) (K2 hc))
theorem Wp.if_gt {x : Int32} {q : Int} (hd : decode bytes pc = .ok (.ifCond .gt q, 3)) (h0 : 0 ≤ (pc : Int) + q) (h1 : ((pc : Int) + q).toNat = pc1) (hp : pc + 3 = pc') (K1 : (0 : Int32) < x → Wp wd l Z a0 EL R y bytes maxL ret hs ws Q h F k n pc1 Ls S) (K2 : ¬ ((0 : Int32) < x) → Wp wd l Z a0 EL R y bytes maxL ret hs ws Q h F k n pc' Ls S) : Wp wd l Z a0 EL R y bytes maxL ret hs ws Q h F k n pc Ls (.int x :: S) := by
  subst hp
  exact (Classical.em ((0 : Int32) < x)).elim (fun hc => Wp.lift (fun p e m below c T t A hx hby st => XS.ifYes A hx rfl rfl (hb hby hd) rfl ((if0 _ _).trans (tlt hc).2.2.1) h0 h1 st) (K1 hc)) (fun hc => Wp.lift (fun p e m below c T t A hx hby st => XS.ifNo A hx rfl (hb hby hd) rfl ((if0 _ _).trans (flt hc).2.2.1) st) (K2 hc))
theorem Wp.icmp_le {x z : Int32} {q : Int} (hd : decode bytes pc = .ok (.if_icmp .le q, 3)) (h0 : 0 ≤ (pc : Int) + q) (h1 : ((pc : Int) + q).toNat = pc1) (hp : pc + 3 = pc') (K1 : ¬ (z < x) → Wp wd l Z a0 EL R y bytes maxL ret hs ws Q h F k n pc1 Ls S) (K2 : z < x → Wp wd l Z a0 EL R y bytes maxL ret hs ws Q h F k n pc' Ls S) : Wp wd l Z a0 EL R y bytes maxL ret hs ws Q h F k n pc Ls (.int z :: .int x :: S) := by
  subst hp
  exact (Classical.em (z < x)).elim (fun hc => Wp.lift (fun p e m below c T t A hx hby st => XS.icmpNo A hx rfl (hb hby hd) rfl (tlt hc).2.2.2 st) (K2 hc)) (fun hc => Wp.lift (fun p e m below c T t A hx hby st => XS.icmpYes A hx rfl rfl (hb hby hd) rfl (flt hc).2.2.2 h0 h1 st) (K1 hc))
theorem Wp.if_le {x : Int32} {q : Int} (hd : decode bytes pc = .ok (.ifCond .le q, 3)) (h0 : 0 ≤ (pc : Int) + q) (h1 : ((pc : Int) + q).toNat = pc1) (hp : pc + 3 = pc') (K1 : ¬ ((0 : Int32) < x) → Wp wd l Z a0 EL R y bytes maxL ret hs ws Q h F k n pc1 Ls S) (K2 : (0 : Int32) < x → Wp wd l Z a0 EL R y bytes maxL ret hs ws Q h F k n pc' Ls S) : Wp wd l Z a0 EL R y bytes maxL ret hs ws Q h F k n pc Ls (.int x :: S) := by
  subst hp
  exact (Classical.em ((0 : Int32) < x)).elim (fun hc => Wp.lift (fun p e m below c T t A hx hby st => XS.ifNo A hx rfl (hb hby hd) rfl ((if0 _ _).trans (tlt hc).2.2.2) st) (K2 hc)) (fun hc => Wp.lift (fun p e m below c T t A hx hby st => XS.ifYes A hx rfl rfl (hb hby hd) rfl ((if0 _ _).trans (flt hc).2.2.2) h0 h1 st) (K1 hc))
theorem Wp.icmp_eq {x z : Int32} {q : Int} (hd : decode bytes pc = .ok (.if_icmp .eq q, 3)) (h0 : 0 ≤ (pc : Int) + q) (h1 : ((pc : Int) + q).toNat = pc1) (hp : pc + 3 = pc') (K1 : x = z → Wp wd l Z a0 EL R y bytes maxL ret hs ws Q h F k n pc1 Ls S) (K2 : ¬ (x = z) → Wp wd l Z a0 EL R y bytes maxL ret hs ws Q h F k n pc' Ls S) : Wp wd l Z a0 EL R y bytes maxL ret hs ws Q h F k n pc Ls (.int z :: .int x :: S) := by
  subst hp
  exact (Classical.em (x = z)).elim (fun hc => Wp.lift (fun p e m below c T t A hx hby st => XS.icmpYes A hx rfl rfl (hb hby hd) rfl (teq hc).1 h0 h1 st) (K1 hc)) (fun hc => Wp.lift (fun p e m below c T t A hx hby st => XS.icmpNo A hx rfl (hb hby hd) rfl (feq hc).1 st) (K2 hc))
theorem Wp.if_eq {x : Int32} {q : Int} (hd : decode bytes pc = .ok (.ifCond .eq q, 3)) (h0 : 0 ≤ (pc : Int) + q) (h1 : ((pc : Int) + q).toNat = pc1) (hp : pc + 3 = pc') (K1 : x = (0 : Int32) → Wp wd l Z a0 EL R y bytes maxL ret hs ws Q h F k n pc1 Ls S) (K2 : ¬ (x = (0 : Int32)) → Wp wd l Z a0 EL R y bytes maxL ret hs ws Q h F k n pc' Ls S) : Wp wd l Z a0 EL R y bytes maxL ret hs ws Q h F k n pc Ls (.int x :: S) := by
  subst hp
  exact (Classical.em (x = (0 : Int32))).elim (fun hc => Wp.lift (fun p e m below c T t A hx hby st => XS.ifYes A hx rfl rfl (hb hby hd) rfl ((if0 _ _).trans (teq hc).1) h0 h1 st) (K1 hc)) (fun hc => Wp.lift (fun p e m below c T t A hx hby st => XS.ifNo A hx rfl (hb hby hd) rfl ((if0 _ _).trans (feq hc).1) st) (K2 hc))
theorem Wp.icmp_ne {x z : Int32} {q : Int} (hd : decode bytes pc = .ok (.if_icmp .ne q, 3)) (h0 : 0 ≤ (pc : Int) + q) (h1 : ((pc : Int) + q).toNat = pc1) (hp : pc + 3 = pc') (K1 : ¬ (x = z) → Wp wd l Z a0 EL R y bytes maxL ret hs ws Q h F k n pc1 Ls S) (K2 : x = z → Wp wd l Z a0 EL R y bytes maxL ret hs ws Q h F k n pc' Ls S) : Wp wd l Z a0 EL R y bytes maxL ret hs ws Q h F k n pc Ls (.int z :: .int x :: S) := by
  subst hp
  exact (Classical.em (x = z)).elim (fun hc => Wp.lift (fun p e m below c T t A hx hby st => XS.icmpNo A hx rfl (hb hby hd) rfl (teq hc).2 st) (K2 hc)) (fun hc => Wp.lift (fun p e m below c T t A hx hby st => XS.icmpYes A hx rfl rfl (hb hby hd) rfl (feq hc).2 h0 h1 st) (K1 hc))
theorem Wp.if_ne {x : Int32} {q : Int} (hd : decode bytes pc = .ok (.ifCond .ne q, 3)) (h0 : 0 ≤ (pc : Int) + q) (h1 : ((pc : Int) + q).toNat = pc1) (hp : pc + 3 = pc') (K1 : ¬ (x = (0 : Int32)) → Wp wd l Z a0 EL R y bytes maxL ret hs ws Q h F k n pc1 Ls S) (K2 : x = (0 : Int32) → Wp wd l Z a0 EL R y bytes maxL ret hs ws Q h F k n pc' Ls S) : Wp wd l Z a0 EL R y bytes maxL ret hs ws Q h F k n pc Ls (.int x :: S) := by
  subst hp
  exact (Classical.em (x = (0 : Int32))).elim (fun hc => Wp.lift (fun p e m below c T t A hx hby st => XS.ifNo A hx rfl (hb hby hd) rfl ((if0 _ _).trans (teq hc).2) st) (K2 hc)) (fun hc => Wp.lift (fun p e m below c T t A hx hby st => XS.ifYes A hx rfl rfl (hb hby hd) rfl ((if0 _ _).trans (feq hc).2) h0 h1 st) (K1 hc))
theorem Wp.ifnullYes {q : Int} (hd : decode bytes pc = .ok (.ifnull q, 3)) (h0 : 0 ≤ (pc : Int) + q) (h1 : ((pc : Int) + q).toNat = pc') (K : Wp wd l Z a0 EL R y bytes maxL ret hs ws Q h F k n pc' Ls S) : Wp wd l Z a0 EL R y bytes maxL ret hs ws Q h F k n pc Ls (.null :: S) :=
  Wp.lift (fun p e m below c T t A hx hby st => XS.ifnullYes A hx rfl rfl (hb hby hd) rfl h0 h1 st) K
theorem Wp.ifnullNo {q : Int} (hd : decode bytes pc = .ok (.ifnull q, 3)) (hp : pc + 3 = pc') (K : Wp wd l Z a0 EL R y bytes maxL ret hs ws Q h F k n pc' Ls S) : Wp wd l Z a0 EL R y bytes maxL ret hs ws Q h F k n pc Ls ((.ref a) :: S) := by
  subst hp; exact Wp.lift (fun p e m below c T t A hx hby st => XS.ifnullNo A hx rfl (hb hby hd) rfl st) K
theorem Wp.ifnonnullYes {q : Int} (hd : decode bytes pc = .ok (.ifnonnull q, 3)) (h0 : 0 ≤ (pc : Int) + q) (h1 : ((pc : Int) + q).toNat = pc') (K : Wp wd l Z a0 EL R y bytes maxL ret hs ws Q h F k n pc' Ls S) : Wp wd l Z a0 EL R y bytes maxL ret hs ws Q h F k n pc Ls ((.ref a) :: S) :=
  Wp.lift (fun p e m below c T t A hx hby st => XS.ifnonnullYes A hx rfl rfl (hb hby hd) rfl h0 h1 st) K
theorem Wp.ifnonnullNo {q : Int} (hd : decode bytes pc = .ok (.ifnonnull q, 3)) (hp : pc + 3 = pc') (K : Wp wd l Z a0 EL R y bytes maxL ret hs ws Q h F k n pc' Ls S) : Wp wd l Z a0 EL R y bytes maxL ret hs ws Q h F k n pc Ls (.null :: S) := by
  subst hp; exact Wp.lift (fun p e m below c T t A hx hby st => XS.ifnonnullNo A hx rfl (hb hby hd) rfl st) K
theorem Wp.acmp_eq {q : Int} (hv : v.isRef = true) (hw : w.isRef = true) (hd : decode bytes pc = .ok (.if_acmp .eq q, 3)) (h0 : 0 ≤ (pc : Int) + q) (h1 : ((pc : Int) + q).toNat = pc1) (hp : pc + 3 = pc') (K1 : v = w → Wp wd l Z a0 EL R y bytes maxL ret hs ws Q h F k n pc1 Ls S) (K2 : ¬ v = w → Wp wd l Z a0 EL R y bytes maxL ret hs ws Q h F k n pc' Ls S) : Wp wd l Z a0 EL R y bytes maxL ret hs ws Q h F k n pc Ls (w :: v :: S) := by
  by_cases hc : v = w
  · exact Wp.tab (fun p e s m args below meth c T locs X hx hZ hown hby hml hsh eT hO => ⟨T, X, eT, fun t st => Jvm.RoadKit.acmp (g := mkF m pc Ls (w :: v :: S)) X hx rfl hv hw (same := true) rfl (hb hby hd) rfl (decide_eq_true hc) h0 (by simp [acV]; omega) st⟩) (K1 hc)
  · exact Wp.tab (fun p e s m args below meth c T locs X hx hZ hown hby hml hsh eT hO => ⟨T, X, eT, fun t st => Jvm.RoadKit.acmp (g := mkF m pc Ls (w :: v :: S)) X hx rfl hv hw (same := false) rfl (hb hby hd) rfl (decide_eq_false hc) h0 (by simp [acV]; omega) st⟩) (K2 hc)
theorem Wp.acmp_ne {q : Int} (hv : v.isRef = true) (hw : w.isRef = true) (hd : decode bytes pc = .ok (.if_acmp .ne q, 3)) (h0 : 0 ≤ (pc : Int) + q) (h1 : ((pc : Int) + q).toNat = pc1) (hp : pc + 3 = pc') (K1 : ¬ v = w → Wp wd l Z a0 EL R y bytes maxL ret hs ws Q h F k n pc1 Ls S) (K2 : v = w → Wp wd l Z a0 EL R y bytes maxL ret hs ws Q h F k n pc' Ls S) : Wp wd l Z a0 EL R y bytes maxL ret hs ws Q h F k n pc Ls (w :: v :: S) := by
  by_cases hc : v = w
  · exact Wp.tab (fun p e s m args below meth c T locs X hx hZ hown hby hml hsh eT hO => ⟨T, X, eT, fun t st => Jvm.RoadKit.acmp (g := mkF m pc Ls (w :: v :: S)) X hx rfl hv hw (same := true) rfl (hb hby hd) rfl (decide_eq_true hc) h0 (by simp [acV]; omega) st⟩) (K2 hc)
  · exact Wp.tab (fun p e s m args below meth c T locs X hx hZ hown hby hml hsh eT hO => ⟨T, X, eT, fun t st => Jvm.RoadKit.acmp (g := mkF m pc Ls (w :: v :: S)) X hx rfl hv hw (same := false) rfl (hb hby hd) rfl (decide_eq_false hc) h0 (by simp [acV]; omega) st⟩) (K1 hc)
theorem Wp.getF {own host : String} {index : Nat} (hown0 : y.cls = own) (lk : (Cond.fieldLink own index C nm d).before a0 Z = true ∨ (Cond.fieldLinkNest own index C nm d host).before a0 Z = true) (via : Via Z C O nm d) (Fl : Fld Z h a O nm d v) (hd : decode bytes pc = .ok (.getfield index, 3)) (hp : pc + 3 = pc') (K : Wp wd l Z a0 EL R y bytes maxL ret hs ws Q h F k n pc' Ls (v :: S)) : Wp wd l Z a0 EL R y bytes maxL ret hs ws Q h F k n pc Ls (.ref a :: S) := by
  subst hp hown0
  exact Wp.tab (fun p e s m args below meth c T locs X hx hZ hown hby hml hsh eT hO => Jvm.RoadKit.getF X hx hZ hown lk via eT Fl (g := mkF m pc Ls (.ref a :: S)) rfl rfl (hb hby hd)) K
theorem Wp.getS {own host : String} {index : Nat} (hown0 : y.cls = own) (lk : (Cond.fieldLink own index C nm d).before a0 Z = true ∨ (Cond.fieldLinkNest own index C nm d host).before a0 Z = true) (via : Via Z C O nm d) (Sv : Sta Z Z.heap O nm d v) (hd : decode bytes pc = .ok (.getstatic index, 3)) (hp : pc + 3 = pc') (K : Wp wd l Z a0 EL R y bytes maxL ret hs ws Q h F k n pc' Ls (v :: S)) : Wp wd l Z a0 EL R y bytes maxL ret hs ws Q h F k n pc Ls S := by
  subst hp hown0
  exact Wp.tab (fun p e s m args below meth c T locs X hx hZ hown hby hml hsh eT hO => Jvm.RoadKit.getS2 X hx hZ hown lk via eT (Sv.ext hO) (g := mkF m pc Ls S) rfl (hb hby hd)) K
theorem Wp.castY {own : String} {index : Nat} (hown0 : y.cls = own) (lk : (Cond.classLink own index C).before a0 Z = true) (I : Ins Z h a C true) (hd : decode bytes pc = .ok (.checkcast index, 3)) (hp : pc + 3 = pc') (K : Wp wd l Z a0 EL R y bytes maxL ret hs ws Q h F k n pc' Ls (.ref a :: S)) : Wp wd l Z a0 EL R y bytes maxL ret hs ws Q h F k n pc Ls (.ref a :: S) := by
  subst hp hown0
  exact Wp.tab (fun p e s m args below meth c T locs X hx hZ hown hby hml hsh eT hO => Jvm.RoadKit.castY X hx hZ hown lk eT I (g := mkF m pc Ls (.ref a :: S)) rfl rfl (hb hby hd)) K
theorem Wp.instY {own : String} {index : Nat} (hown0 : y.cls = own) (lk : (Cond.classLink own index C).before a0 Z = true) (I : Ins Z h a C true) (hd : decode bytes pc = .ok (.instanceof index, 3)) (hp : pc + 3 = pc') (K : Wp wd l Z a0 EL R y bytes maxL ret hs ws Q h F k n pc' Ls (.int 1 :: S)) : Wp wd l Z a0 EL R y bytes maxL ret hs ws Q h F k n pc Ls (.ref a :: S) := by
  subst hp hown0
  exact Wp.tab (fun p e s m args below meth c T locs X hx hZ hown hby hml hsh eT hO => Jvm.RoadKit.instY X hx hZ hown lk eT I (g := mkF m pc Ls (.ref a :: S)) rfl rfl (hb hby hd)) K
theorem Wp.instN {own D : String} {index : Nat} (hown0 : y.cls = own) (lk : (Cond.classLink own index C).before a0 Z = true) (I : Ins Z hs a C false) (E : Exa Z hs a D) (hd : decode bytes pc = .ok (.instanceof index, 3)) (hp : pc + 3 = pc') (K : Wp wd l Z a0 EL R y bytes maxL ret hs ws Q h F k n pc' Ls (.int 0 :: S)) : Wp wd l Z a0 EL R y bytes maxL ret hs ws Q h F k n pc Ls (.ref a :: S) := by
  subst hp hown0
  exact Wp.tab (fun p e s m args below meth c T locs X hx hZ hown hby hml hsh eT hO => Jvm.RoadKit.instN X hx hZ hown lk eT (hsh ▸ I) (hsh ▸ E) (g := mkF m pc Ls (.ref a :: S)) rfl rfl (hb hby hd)) K
theorem Wp.instNo {own D : String} {index : Nat} (hown0 : y.cls = own) (lk : (Cond.classLink own index C).before a0 Z = true) (E : Exa Z h a D) (hno : ∃ c t, Z.vm.findClass D = some c ∧ Z.vm.findClass C = some t ∧ Z.vm.assignable c t = false) (hd : decode bytes pc = .ok (.instanceof index, 3)) (hp : pc + 3 = pc') (K : Wp wd l Z a0 EL R y bytes maxL ret hs ws Q h F k n pc' Ls (.int 0 :: S)) : Wp wd l Z a0 EL R y bytes maxL ret hs ws Q h F k n pc Ls (.ref a :: S) := by
  subst hp hown0
  exact Wp.tab (fun p e s m args below meth c T locs X hx hZ hown hby hml hsh eT hO => Jvm.RoadKit.instNo X hx hZ hown lk eT E hno (g := mkF m pc Ls (.ref a :: S)) rfl rfl (hb hby hd)) K
theorem Wp.instNull {index : Nat} (hd : decode bytes pc = .ok (.instanceof index, 3)) (hp : pc + 3 = pc') (K : Wp wd l Z a0 EL R y bytes maxL ret hs ws Q h F k n pc' Ls (.int 0 :: S)) : Wp wd l Z a0 EL R y bytes maxL ret hs ws Q h F k n pc Ls (.null :: S) := by
  subst hp
  exact Wp.tab (fun p e s m args below meth c T locs X hx hZ hown hby hml hsh eT hO => ⟨T, X, eT, fun t st => X.instanceofNull hx (g := mkF m pc Ls (.null :: S)) rfl rfl (hb hby hd) t st⟩) K
theorem Wp.castNull {index : Nat} (hd : decode bytes pc = .ok (.checkcast index, 3)) (hp : pc + 3 = pc') (K : Wp wd l Z a0 EL R y bytes maxL ret hs ws Q h F k n pc' Ls (.null :: S)) : Wp wd l Z a0 EL R y bytes maxL ret hs ws Q h F k n pc Ls (.null :: S) := by
  subst hp
  exact Wp.tab (fun p e s m args below meth c T locs X hx hZ hown hby hml hsh eT hO => ⟨T, X, eT, fun t st => X.checkcastNull hx (g := mkF m pc Ls (.null :: S)) rfl rfl (hb hby hd) t st⟩) K
theorem Wp.initO {own : String} {idx : Nat} {W : Nat} (hown0 : y.cls = own) (w1 : (Cond.methodLink own idx Lib.objectInit).before a0 Z = true) (w2 : (Cond.instanceMethod Lib.objectInit).before a0 Z = true) (w3 : (Cond.code Lib.objectInit ⟨#[0xb1]⟩ 1 none).before a0 Z = true) (hd : decode bytes pc = .ok (.invokespecial idx, 3)) (hp : pc + 3 = pc') (hsz : Ls.size = maxL)
    (hf : 1 ≤ R.frames) (hW : (S.map fun v => v.category).sum ≤ W) (hl : W + 12 ≤ R.locals) (K : Wp wd l Z a0 EL R y bytes maxL ret hs ws Q h F k n pc' Ls S) : Wp wd l Z a0 EL R y bytes maxL ret hs ws Q h F k n pc Ls (.ref a :: S) := by
  subst hp hown0
  exact Wp.tab (fun p e s m args below meth c T locs X hx hZ hown hby hml hsh eT hO => Jvm.RoadKit.initO X hx hZ hown w1 w2 w3 eT (g := mkF m pc Ls (.ref a :: S)) rfl (by rw [hml]; exact hsz) rfl (hb hby hd) hf (W := W) (by show 2 * 0 + _ ≤ _; omega) hl) K
theorem Wp.ldcI {own : String} {index : Nat} {x : Int32} (hown0 : y.cls = own) (wc : (Cond.constant own index x).before a0 Z = true) (hd : decode bytes pc = .ok (.ldc index, 2)) (hp : pc + 2 = pc') (K : Wp wd l Z a0 EL R y bytes maxL ret hs ws Q h F k n pc' Ls (.int x :: S)) : Wp wd l Z a0 EL R y bytes maxL ret hs ws Q h F k n pc Ls S := by
  subst hp hown0
  exact Wp.tab (fun p e s m args below meth c T locs X hx hZ hown hby hml hsh eT hO => ⟨T, X, eT, fun t st => X.ldcInt hx hown (mvT hZ wc) (g := mkF m pc Ls S) rfl (hb hby hd) t st⟩) K
theorem Wp.ldcL {own : String} {index : Nat} {x : Int64} (hown0 : y.cls = own) (wc : (Cond.constantLong own index x).before a0 Z = true) (hd : decode bytes pc = .ok (.ldc2_w index, 3)) (hp : pc + 3 = pc') (K : Wp wd l Z a0 EL R y bytes maxL ret hs ws Q h F k n pc' Ls (.long x :: S)) : Wp wd l Z a0 EL R y bytes maxL ret hs ws Q h F k n pc Ls S := by
  subst hp hown0
  exact Wp.tab (fun p e s m args below meth c T locs X hx hZ hown hby hml hsh eT hO => ⟨T, X, eT, fun t st => X.ldc2Long hx hown (mvT hZ wc) (g := mkF m pc Ls S) rfl (hb hby hd) t st⟩) K
theorem Wp.alen {kA : ClassId} {z : Int32} {vs : List Value} {dv : Value} (V : Arv Z h a kA ty z vs dv) (hd : decode bytes pc = .ok (.arraylength, 1)) (hp : pc + 1 = pc') (K : Wp wd l Z a0 EL R y bytes maxL ret hs ws Q h F k n pc' Ls (.int z :: S)) : Wp wd l Z a0 EL R y bytes maxL ret hs ws Q h F k n pc Ls (.ref a :: S) := by
  subst hp
  obtain ⟨cl, A, -, hz1, hz2, -⟩ := V
  have e1 := len_of hz1 hz2
  exact Wp.tab (fun p e s m args below meth c T locs X hx hZ hown hby hml hsh eT hO => ⟨T, X, eT, fun t st => X.arraylength hx (by rw [eT]; exact A.1) (State.isArrayOf_alike hZ.alike A.2.1) (g := mkF m pc Ls (.ref a :: S)) rfl rfl (hb hby hd) t (by rw [e1]; exact st)⟩) K
theorem Wp.caload {kA : ClassId} {z j : Int32} {vs : List Value} {dv : Value} (V : Arv Z h a kA .char z vs dv) (h1 : ¬ j < 0) (h2 : j < z) (hv : vs.getD j.toNatClampNeg dv = v) (hd : decode bytes pc = .ok (.caload, 1)) (hp : pc + 1 = pc') (K : Wp wd l Z a0 EL R y bytes maxL ret hs ws Q h F k n pc' Ls (v :: S)) : Wp wd l Z a0 EL R y bytes maxL ret hs ws Q h F k n pc Ls (.int j :: .ref a :: S) := by
  subst hp
  obtain ⟨cl, A, -, hz1, hz2, H, -⟩ := V
  have hin := inb_of hz1 ⟨h1, h2⟩
  have hat := H.at hin hv
  exact Wp.tab (fun p e s m args below meth c T locs X hx hZ hown hby hml hsh eT hO => ⟨T, X, eT, fun t st => X.caload hx (by rw [eT]; exact A.1) (State.isArrayOf_alike hZ.alike A.2.1) A.2.2 hin hat (g := mkF m pc Ls (.int j :: .ref a :: S)) rfl rfl (hb hby hd) t st⟩) K
theorem Wp.iaload {kA : ClassId} {z j : Int32} {vs : List Value} {dv : Value} (V : Arv Z h a kA .int z vs dv) (h1 : ¬ j < 0) (h2 : j < z) (hv : vs.getD j.toNatClampNeg dv = v) (hd : decode bytes pc = .ok (.iaload, 1)) (hp : pc + 1 = pc') (K : Wp wd l Z a0 EL R y bytes maxL ret hs ws Q h F k n pc' Ls (v :: S)) : Wp wd l Z a0 EL R y bytes maxL ret hs ws Q h F k n pc Ls (.int j :: .ref a :: S) := by
  subst hp
  obtain ⟨cl, A, -, hz1, hz2, H, -⟩ := V
  have hin := inb_of hz1 ⟨h1, h2⟩
  have hat := H.at hin hv
  exact Wp.tab (fun p e s m args below meth c T locs X hx hZ hown hby hml hsh eT hO => ⟨T, X, eT, fun t st => X.iaload hx (by rw [eT]; exact A.1) (State.isArrayOf_alike hZ.alike A.2.1) A.2.2 hin hat (g := mkF m pc Ls (.int j :: .ref a :: S)) rfl rfl (hb hby hd) t st⟩) K
theorem Wp.laload {kA : ClassId} {z j : Int32} {vs : List Value} {dv : Value} (V : Arv Z h a kA .long z vs dv) (h1 : ¬ j < 0) (h2 : j < z) (hv : vs.getD j.toNatClampNeg dv = v) (hd : decode bytes pc = .ok (.laload, 1)) (hp : pc + 1 = pc') (K : Wp wd l Z a0 EL R y bytes maxL ret hs ws Q h F k n pc' Ls (v :: S)) : Wp wd l Z a0 EL R y bytes maxL ret hs ws Q h F k n pc Ls (.int j :: .ref a :: S) := by
  subst hp
  obtain ⟨cl, A, -, hz1, hz2, H, -⟩ := V
  have hin := inb_of hz1 ⟨h1, h2⟩
  have hat := H.at hin hv
  exact Wp.tab (fun p e s m args below meth c T locs X hx hZ hown hby hml hsh eT hO => ⟨T, X, eT, fun t st => X.laload hx (by rw [eT]; exact A.1) (State.isArrayOf_alike hZ.alike A.2.1) A.2.2 hin hat (g := mkF m pc Ls (.int j :: .ref a :: S)) rfl rfl (hb hby hd) t st⟩) K
theorem Wp.baload {kA : ClassId} {z j : Int32} {vs : List Value} {dv : Value} (V : Arv Z h a kA .byte z vs dv) (h1 : ¬ j < 0) (h2 : j < z) (hv : vs.getD j.toNatClampNeg dv = v) (hd : decode bytes pc = .ok (.baload, 1)) (hp : pc + 1 = pc') (K : Wp wd l Z a0 EL R y bytes maxL ret hs ws Q h F k n pc' Ls (v :: S)) : Wp wd l Z a0 EL R y bytes maxL ret hs ws Q h F k n pc Ls (.int j :: .ref a :: S) := by
  subst hp
  obtain ⟨cl, A, -, hz1, hz2, H, -⟩ := V
  have hin := inb_of hz1 ⟨h1, h2⟩
  have hat := H.at hin hv
  exact Wp.tab (fun p e s m args below meth c T locs X hx hZ hown hby hml hsh eT hO => ⟨T, X, eT, fun t st => X.baloadBytes hx (by rw [eT]; exact A.1) (State.isArrayOf_alike hZ.alike A.2.1) A.2.2 hin hat (g := mkF m pc Ls (.int j :: .ref a :: S)) rfl rfl (hb hby hd) t st⟩) K
theorem Wp.aaload {kA : ClassId} {z j : Int32} {vs : List Value} {dv : Value} (V : Arv Z h a kA ty z vs dv) (hty : ty.isReference = true) (h1 : ¬ j < 0) (h2 : j < z) (hv : vs.getD j.toNatClampNeg dv = v) (hd : decode bytes pc = .ok (.aaload, 1)) (hp : pc + 1 = pc') (K : Wp wd l Z a0 EL R y bytes maxL ret hs ws Q h F k n pc' Ls (v :: S)) : Wp wd l Z a0 EL R y bytes maxL ret hs ws Q h F k n pc Ls (.int j :: .ref a :: S) := by
  subst hp
  obtain ⟨cl, A, -, hz1, hz2, H, -⟩ := V
  have hin := inb_of hz1 ⟨h1, h2⟩
  have hat := H.at hin hv
  exact Wp.tab (fun p e s m args below meth c T locs X hx hZ hown hby hml hsh eT hO => ⟨T, X, eT, fun t st => X.aaload hx (by rw [eT]; exact A.1) (State.isArrayOf_alike hZ.alike A.2.1) hty A.2.2 hin hat (g := mkF m pc Ls (.int j :: .ref a :: S)) rfl rfl (hb hby hd) t st⟩) K
theorem Wp.putF {own host : String} {index kk : Nat} {C0 : String} {old : Value} (hown0 : y.cls = own) (lk : (Cond.fieldLink own index C0 nm d).before a0 Z = true ∨ (Cond.fieldLinkNest own index C0 nm d host).before a0 Z = true) (via : Via Z C0 O nm d) (Fl : Fld Z h a O nm d old) (E : Exa Z h a C)
    (L : (Cond.lays C O nm d).before a0 Z = true ∨ ((Cond.laysFinal C O nm d).before a0 Z = true ∧ own = O ∧ y.name = "<init>")) (wi : (Cond.instantiable C kk).before a0 Z = true) (hty : parseFieldDescriptor d = some ty) (hn : narrow ty v = v) (hf : fits ty v = true) (hd : decode bytes pc = .ok (.putfield index, 3)) (hp : pc + 3 = pc')
    (hw : a ∈ ws ∨ hs.size ≤ a) (sf : Sfe Z EL h F a) (K : ∀ h', Wr h h' a (Jvm.RoadKit.slotOf Z O nm d) v → Fld Z h' a O nm d v → Wp wd l Z a0 EL R y bytes maxL ret hs ws Q h' F k n pc' Ls S) : Wp wd l Z a0 EL R y bytes maxL ret hs ws Q h F k n pc Ls (v :: .ref a :: S) := by
  subst hp hown0
  exact Wp.put hw sf (fun p e s m args below meth c T locs X hx hZ hown hby hnm eT => Jvm.RoadKit.putF X hx hZ hown lk via eT Fl E (L.imp id fun q => ⟨q.1, q.2.1, hnm.trans q.2.2⟩) wi hty hn hf (g := mkF m pc Ls (v :: .ref a :: S)) rfl rfl (hb hby hd)) (fun h' W => K h' W (Fl.same W))
theorem Wp.putFN {own : String} {index kk : Nat} {C0 : String} {old v' : Value} (hown0 : y.cls = own) (lk : (Cond.fieldLink own index C0 nm d).before a0 Z = true) (via : Via Z C0 O nm d) (Fl : Fld Z h a O nm d old) (E : Exa Z h a C)
    (L : (Cond.lays C O nm d).before a0 Z = true ∨ ((Cond.laysFinal C O nm d).before a0 Z = true ∧ own = O ∧ y.name = "<init>")) (wi : (Cond.instantiable C kk).before a0 Z = true) (hty : parseFieldDescriptor d = some ty) (hn : narrow ty v = v') (hf : fits ty v' = true) (hd : decode bytes pc = .ok (.putfield index, 3)) (hp : pc + 3 = pc')
    (hw : a ∈ ws ∨ hs.size ≤ a) (sf : Sfe Z EL h F a) (K : ∀ h', Wr h h' a (Jvm.RoadKit.slotOf Z O nm d) v' → Fld Z h' a O nm d v' → Wp wd l Z a0 EL R y bytes maxL ret hs ws Q h' F k n pc' Ls S) : Wp wd l Z a0 EL R y bytes maxL ret hs ws Q h F k n pc Ls (v :: .ref a :: S) := by
  subst hp hown0
  exact Wp.put hw sf (fun p e s m args below meth c T locs X hx hZ hown hby hnm eT => Jvm.RoadKit.putFN X hx hZ hown lk via eT Fl E (L.imp id fun q => ⟨q.1, q.2.1, hnm.trans q.2.2⟩) wi hty hn hf (g := mkF m pc Ls (v :: .ref a :: S)) rfl rfl (hb hby hd)) (fun h' W => K h' W (Fl.same W))
theorem Wp.castore {kA : ClassId} {z j x : Int32} {vs : List Value} {dv : Value} {i : Nat} (V : Arv Z h a kA .char z vs dv) (h1 : ¬ j < 0) (h2 : j < z) (hj : j.toNatClampNeg = i) (hi : i < vs.length) (hd : decode bytes pc = .ok (.castore, 1)) (hp : pc + 1 = pc')
    (hw : a ∈ ws ∨ hs.size ≤ a) (K : ∀ h', Wr h h' a j.toNatClampNeg (.int (nar .char x)) → Arv Z h' a kA .char z (vs.set i (.int (nar .char x))) dv → Wp wd l Z a0 EL R y bytes maxL ret hs ws Q h' F k n pc' Ls S) : Wp wd l Z a0 EL R y bytes maxL ret hs ws Q h F k n pc Ls (.int x :: .int j :: .ref a :: S) := by
  subst hp
  obtain ⟨cl, A, hz0, hz1, hz2, H, G⟩ := V
  have hin := inb_of hz1 ⟨h1, h2⟩
  exact Wp.put hw (Sfe.arr A (by decide)) (fun p e s m args below meth c T locs X hx hZ hown hby hnm eT => Jvm.RoadKit.stC X hx hZ eT A hin (g := mkF m pc Ls (.int x :: .int j :: .ref a :: S)) rfl rfl (hb hby hd)) (fun h' W => K h' W (Arv.set A hz0 hz1 hz2 H G (fits_nar_char _) W i hj hi))
theorem Wp.bastore {kA : ClassId} {z j x : Int32} {vs : List Value} {dv : Value} {i : Nat} (V : Arv Z h a kA .byte z vs dv) (h1 : ¬ j < 0) (h2 : j < z) (hj : j.toNatClampNeg = i) (hi : i < vs.length) (hd : decode bytes pc = .ok (.bastore, 1)) (hp : pc + 1 = pc')
    (hw : a ∈ ws ∨ hs.size ≤ a) (sf : Sfe Z EL h F a) (K : ∀ h', Wr h h' a j.toNatClampNeg (.int (nar .byte x)) → Arv Z h' a kA .byte z (vs.set i (.int (nar .byte x))) dv → Wp wd l Z a0 EL R y bytes maxL ret hs ws Q h' F k n pc' Ls S) : Wp wd l Z a0 EL R y bytes maxL ret hs ws Q h F k n pc Ls (.int x :: .int j :: .ref a :: S) := by
  subst hp
  obtain ⟨cl, A, hz0, hz1, hz2, H, G⟩ := V
  have hin := inb_of hz1 ⟨h1, h2⟩
  exact Wp.put hw sf (fun p e s m args below meth c T locs X hx hZ hown hby hnm eT => Jvm.RoadKit.stB X hx hZ eT A hin (g := mkF m pc Ls (.int x :: .int j :: .ref a :: S)) rfl rfl (hb hby hd)) (fun h' W => K h' W (Arv.set A hz0 hz1 hz2 H G (fits_nar_byte _) W i hj hi))
theorem Wp.iastore {kA : ClassId} {z j x : Int32} {vs : List Value} {dv : Value} {i : Nat} (V : Arv Z h a kA .int z vs dv) (h1 : ¬ j < 0) (h2 : j < z) (hj : j.toNatClampNeg = i) (hi : i < vs.length) (hd : decode bytes pc = .ok (.iastore, 1)) (hp : pc + 1 = pc')
    (hw : a ∈ ws ∨ hs.size ≤ a) (K : ∀ h', Wr h h' a j.toNatClampNeg (.int x) → Arv Z h' a kA .int z (vs.set i (.int x)) dv → Wp wd l Z a0 EL R y bytes maxL ret hs ws Q h' F k n pc' Ls S) : Wp wd l Z a0 EL R y bytes maxL ret hs ws Q h F k n pc Ls (.int x :: .int j :: .ref a :: S) := by
  subst hp
  obtain ⟨cl, A, hz0, hz1, hz2, H, G⟩ := V
  have hin := inb_of hz1 ⟨h1, h2⟩
  exact Wp.put hw (Sfe.arr A (by decide)) (fun p e s m args below meth c T locs X hx hZ hown hby hnm eT => Jvm.RoadKit.stI X hx hZ eT A hin (g := mkF m pc Ls (.int x :: .int j :: .ref a :: S)) rfl rfl (hb hby hd)) (fun h' W => K h' W (Arv.set A hz0 hz1 hz2 H G rfl W i hj hi))
theorem Wp.lastore {kA : ClassId} {z j : Int32} {x : Int64} {vs : List Value} {dv : Value} {i : Nat} (V : Arv Z h a kA .long z vs dv) (h1 : ¬ j < 0) (h2 : j < z) (hj : j.toNatClampNeg = i) (hi : i < vs.length) (hd : decode bytes pc = .ok (.lastore, 1)) (hp : pc + 1 = pc')
    (hw : a ∈ ws ∨ hs.size ≤ a) (K : ∀ h', Wr h h' a j.toNatClampNeg (.long x) → Arv Z h' a kA .long z (vs.set i (.long x)) dv → Wp wd l Z a0 EL R y bytes maxL ret hs ws Q h' F k n pc' Ls S) : Wp wd l Z a0 EL R y bytes maxL ret hs ws Q h F k n pc Ls (.long x :: .int j :: .ref a :: S) := by
  subst hp
  obtain ⟨cl, A, hz0, hz1, hz2, H, G⟩ := V
  have hin := inb_of hz1 ⟨h1, h2⟩
  exact Wp.put hw (Sfe.arr A (by decide)) (fun p e s m args below meth c T locs X hx hZ hown hby hnm eT => Jvm.RoadKit.stJ X hx hZ eT A hin (g := mkF m pc Ls (.long x :: .int j :: .ref a :: S)) rfl rfl (hb hby hd)) (fun h' W => K h' W (Arv.set A hz0 hz1 hz2 H G rfl W i hj hi))
theorem Wp.aastore {kA : ClassId} {z j : Int32} {vs : List Value} {dv : Value} {i : Nat} (V : Arv Z h a kA ty z vs dv) (hty : ty.isReference = true) (hby0 : ty ≠ .byte) (hfit : fits ty v = true) (St : v = .null ∨ ∃ D y', v = .ref y' ∧ Ovr Z kA D ∧ Ins Z h y' D true) (h1 : ¬ j < 0) (h2 : j < z) (hj : j.toNatClampNeg = i) (hi : i < vs.length) (hd : decode bytes pc = .ok (.aastore, 1)) (hp : pc + 1 = pc')
    (hw : a ∈ ws ∨ hs.size ≤ a) (K : ∀ h', Wr h h' a j.toNatClampNeg v → Arv Z h' a kA ty z (vs.set i v) dv → Wp wd l Z a0 EL R y bytes maxL ret hs ws Q h' F k n pc' Ls S) : Wp wd l Z a0 EL R y bytes maxL ret hs ws Q h F k n pc Ls (v :: .int j :: .ref a :: S) := by
  subst hp
  obtain ⟨cl, A, hz0, hz1, hz2, H, G⟩ := V
  have hin := inb_of hz1 ⟨h1, h2⟩
  have hSt : Sto Z h a v := by
    rcases St with rfl | ⟨D, y', rfl, Ov, I⟩
    · exact Or.inl rfl
    · exact Sto.ofV A hz0 Ov I
  exact Wp.put hw (Sfe.arr A hby0) (fun p e s m args below meth c T locs X hx hZ hown hby hnm eT => Jvm.RoadKit.stR X hx hZ eT A hin hty hSt (g := mkF m pc Ls (v :: .int j :: .ref a :: S)) rfl rfl (hb hby hd)) (fun h' W => K h' W (Arv.set A hz0 hz1 hz2 H G hfit W i hj hi))
theorem Wp.new {own : String} {index : Nat} (hown0 : y.cls = own) (lk : (Cond.classLink own index C).before a0 Z = true) (wi : (Cond.instantiable C sl).before a0 Z = true) (wz : (Cond.initialized C).before a0 Z = true) (hd : decode bytes pc = .ok (.new index, 3)) (hp : pc + 3 = pc') (hk : k + 1 = k') (hn : n + sl = n') (hk' : k' ≤ R.cells) (hn' : n' ≤ R.slots)
    (K : ∀ h' b, b = h.size → hs.size ≤ b → Ext h h' → Exa Z h' b C → (∀ {O nm d : String} {ty : FieldType}, Laid Z a0 C O nm d → parseFieldDescriptor d = some ty → Fld Z h' b O nm d (defaultValue ty)) → Wp wd l Z a0 EL R y bytes maxL ret hs ws Q h' (b :: F) k' n' pc' Ls (.ref b :: S)) : Wp wd l Z a0 EL R y bytes maxL ret hs ws Q h F k n pc Ls S := by
  subst hp hown0 hk hn
  exact Wp.mk (fun h' => Exa Z h' h.size C ∧ ∀ {O nm d : String} {ty : FieldType}, Laid Z a0 C O nm d → parseFieldDescriptor d = some ty → Fld Z h' h.size O nm d (defaultValue ty)) (fun h' q => q.1.lt)
    (fun p e s m args below meth c T locs X hx hZ hown hby eT => by obtain ⟨T', h', X', e', E, A, D, -, st⟩ := Jvm.RoadKit.newO X hx hZ hown lk wi wz eT (g := mkF m pc Ls S) rfl (hb hby hd) hk' hn'; exact ⟨T', h', X', e', E, ⟨A, D⟩, st⟩) (fun h' z E q => K h' _ rfl z E q.1 q.2)
theorem Wp.newP {aty : ArrayType} {z : Int32} {cap : Nat} (wa : (Cond.arrayClass (newarray.typeOf aty)).before a0 Z = true) (hz : ¬ z < 0) (hcap : z.toNatClampNeg ≤ cap) (hb8 : cap * 8 ≤ 536870912) (hd : decode bytes pc = .ok (.newarray aty, 2)) (hp : pc + 2 = pc') (hk : k + 1 = k') (hn : n + cap = n') (hk' : k' ≤ R.cells) (hn' : n' ≤ R.slots)
    (K : ∀ h' b kA, b = h.size → hs.size ≤ b → Ext h h' → Arv Z h' b kA (newarray.typeOf aty) z [] (defaultValue (newarray.typeOf aty)) → Wp wd l Z a0 EL R y bytes maxL ret hs ws Q h' (b :: F) k' n' pc' Ls (.ref b :: S)) : Wp wd l Z a0 EL R y bytes maxL ret hs ws Q h F k n pc Ls (.int z :: S) := by
  subst hp hk hn
  exact Wp.mk (fun h' => ∃ kA, Arv Z h' h.size kA (newarray.typeOf aty) z [] (defaultValue (newarray.typeOf aty))) (fun h' q => q.elim fun _ A => A.lt)
    (fun p e s m args below meth c T locs X hx hZ hown hby eT => by obtain ⟨T', h', kA, X', e', E, A, st⟩ := Jvm.RoadKit.newP X hx hZ wa eT (g := mkF m pc Ls (.int z :: S)) rfl (hb hby hd) rfl hz hcap hb8 hk' hn'; exact ⟨T', h', X', e', E, ⟨kA, Arv.new A hz⟩, st⟩) (fun h' z E q => q.elim fun kA A => K h' _ kA rfl z E A)
theorem Wp.newR {own : String} {index : Nat} {z : Int32} {cap : Nat} (hown0 : y.cls = own) (lk : (Cond.classLink own index C).before a0 Z = true) (wa : (Cond.arrayOver (.object C)).before a0 Z = true) (hz : ¬ z < 0) (hcap : z.toNatClampNeg ≤ cap) (hb8 : cap * 8 ≤ 536870912) (hd : decode bytes pc = .ok (.anewarray index, 3)) (hp : pc + 3 = pc') (hk : k + 1 = k') (hn : n + cap = n') (hk' : k' ≤ R.cells) (hn' : n' ≤ R.slots)
    (K : ∀ h' b kA, b = h.size → hs.size ≤ b → Ext h h' → Arv Z h' b kA (.object C) z [] .null → Ovr Z kA C → Wp wd l Z a0 EL R y bytes maxL ret hs ws Q h' (b :: F) k' n' pc' Ls (.ref b :: S)) : Wp wd l Z a0 EL R y bytes maxL ret hs ws Q h F k n pc Ls (.int z :: S) := by
  subst hp hk hn hown0
  exact Wp.mk (fun h' => ∃ kA, Arv Z h' h.size kA (.object C) z [] .null ∧ Ovr Z kA C) (fun h' q => q.elim fun _ A => A.1.lt)
    (fun p e s m args below meth c T locs X hx hZ hown hby eT => by obtain ⟨T', h', kA, X', e', E, A, Ov, st⟩ := Jvm.RoadKit.newR X hx hZ hown lk wa eT (g := mkF m pc Ls (.int z :: S)) rfl (hb hby hd) rfl hz hcap hb8 hk' hn'; exact ⟨T', h', X', e', E, ⟨kA, Arv.new A hz, Ov⟩, st⟩) (fun h' z E q => q.elim fun kA A => K h' _ kA rfl z E A.1 A.2)
theorem Wp.retn (hr : ret = none) (hd : decode bytes pc = .ok (.return_, 1)) (hk : k ≤ R.cells) (hn : n ≤ R.slots) (hQ : Q none h) : Wp wd l Z a0 EL R y bytes maxL ret hs ws Q h F k n pc Ls [] :=
  Wp.leave hk hn (fun _ => rfl) hQ (fun p e s m args below meth c T locs fs X hx hby hret hl => X.returnOut hx (hret.trans hr) (hb hby hd) hl)
theorem Wp.retN {t : FieldType} {x x' : Int32} (hr : ret = some t) (ht : t = .boolean ∨ t = .byte ∨ t = .char ∨ t = .short) (hx' : nar t x = x') (hd : decode bytes pc = .ok (.ireturn, 1)) (hk : k ≤ R.cells) (hn : n ≤ R.slots) (hQ : Q (some (.int x')) h) : Wp wd l Z a0 EL R y bytes maxL ret hs ws Q h F k n pc Ls (.int x :: S) := by
  subst hx'
  exact Wp.leave hk hn (fun q => by rw [hr] at q; cases q) hQ (fun p e s m args below meth c T locs fs X hx hby hret hl => Jvm.RoadKit.retN X hx (hret.trans hr) ht (hb hby hd) hl)
theorem Wp.retV {i : Instr} {t : FieldType} (hr : ret = some t) (hn' : narrow t v = v) (hi : (i = .ireturn ∧ (t = .int ∨ t = .boolean ∨ t = .byte ∨ t = .char ∨ t = .short) ∧ ∃ z, v = .int z) ∨ (i = .lreturn ∧ t = .long ∧ ∃ z, v = .long z) ∨ (i = .dreturn ∧ t = .double ∧ ∃ z, v = .double z) ∨ (i = .freturn ∧ t = .float ∧ ∃ z, v = .float z) ∨ (i = .areturn ∧ t.isReference = true ∧ v.isRef = true))
    (hd : decode bytes pc = .ok (i, 1)) (hk : k ≤ R.cells) (hn : n ≤ R.slots) (hQ : Q (some v) h) : Wp wd l Z a0 EL R y bytes maxL ret hs ws Q h F k n pc Ls (v :: S) :=
  Wp.leave hk hn (fun q => by rw [hr] at q; cases q) hQ (fun p e s m args below meth c T locs fs X hx hby hret hl => Jvm.RoadKit.retOut X hx (hret.trans hr) hn' hi (hb hby hd) hl)
theorem Wp.retI {x : Int32} (hr : ret = some .int) (hd : decode bytes pc = .ok (.ireturn, 1)) (hk : k ≤ R.cells) (hn : n ≤ R.slots) (hQ : Q (some (.int x)) h) : Wp wd l Z a0 EL R y bytes maxL ret hs ws Q h F k n pc Ls (.int x :: S) :=
  Wp.retV hr rfl (Or.inl ⟨rfl, Or.inl rfl, _, rfl⟩) hd hk hn hQ
theorem Wp.retL {x : Int64} (hr : ret = some .long) (hd : decode bytes pc = .ok (.lreturn, 1)) (hk : k ≤ R.cells) (hn : n ≤ R.slots) (hQ : Q (some (.long x)) h) : Wp wd l Z a0 EL R y bytes maxL ret hs ws Q h F k n pc Ls (.long x :: S) :=
  Wp.retV hr rfl (Or.inr (Or.inl ⟨rfl, rfl, _, rfl⟩)) hd hk hn hQ
theorem Wp.retA {t : FieldType} (hr : ret = some t) (ht : t.isReference = true) (hv : v.isRef = true) (hd : decode bytes pc = .ok (.areturn, 1)) (hk : k ≤ R.cells) (hn : n ≤ R.slots) (hQ : Q (some v) h) : Wp wd l Z a0 EL R y bytes maxL ret hs ws Q h F k n pc Ls (v :: S) :=
  Wp.retV hr (by cases t <;> first | rfl | cases ht) (Or.inr (Or.inr (Or.inr (Or.inr ⟨rfl, ht, hv⟩)))) hd hk hn hQ
end Rules
end Jvm.Own
namespace Jvm.Own
open Sem ClassFile Op Lib Jvm.Stand Jvm.Free Jvm.LawKit Jvm.RoadKit
section Calls
variable {wd : Bool} {l : Launch} {Z : State} {EL : List (String × Nat)} {R : Room} {y : MethodName} {bytes : ByteArray} {maxL : Nat} {ret : Option FieldType} {hs : Heap} {ws : List Addr} {Q : Option Value → Heap → Prop} {h h' : Heap} {F F' : List Addr} {k n k' n' pc pc' pc1 : Nat} {Ls Ls' : Array Slot} {S S' : List Value}
variable {a0 : Array Value} {a b : Addr} {C O nm d : String} {v w : Value} {sl : Nat} {cl : Cell} {ty : FieldType}
variable {y' : MethodName} {bytes' : ByteArray} {maxL' : Nat} {ret' : Option FieldType} {rm : Room} {as : Array Value} {Fc wc : List Addr} {Qc : Option Value → Heap → Prop}
theorem mvMN {s : State} {args : Array Value} {own host : String} {idx : Nat} (hZ : Z.Warmed39 s.vm) (w : (Cond.methodLinkNest own idx y' host).before a0 Z = true) : (Cond.methodLinkNest own idx y' host).before args s = true := (Cond.methodLinkNest_wide hZ w :)
/-- a body's contract, from its walk -/
theorem Ct.of_wp {cw : List Cond} (hpl : plainFor y = true) (hE : EW Z a0 EL) (hO : Ext Z.heap h) (hws : ∀ x ∈ ws, Z.heap.size ≤ x) (hef : ∀ m, entryFrame m as maxL = mkF m 0 Ls []) (K : Wp wd l Z a0 EL rm y bytes maxL ret h ws Q h F 0 0 0 Ls []) : Ct wd l Z EL cw y bytes maxL ret rm as h F ws Q := by
  refine MetFree.of_bodySF (code := bytes) (maxLocals := maxL) (ret := ret) hpl hisR ?_
  intro p e s m args below meth c s₁ Bd hml0 hP hK
  obtain ⟨rfl, hZ, rfl, hC, hF⟩ := hP
  have e0 : s₁.heap = s.heap := by rw [Bd.state]; rfl
  obtain ⟨v, t, h1, h2, h3, L, r1, r2, r3, r4⟩ := K p e s m args below meth c s.vm s.heap.size s₁ [] ⟨⟨hE, Bd.exec, Bd.bytes, hml0, Bd.returns, (name_of_methodNamed Bd.named Bd.method).1, Bd.notSynchronized⟩, ⟨rfl, hws, hO.1, (fun _ q => nomatch q), hO⟩, ⟨findClass_of_methodNamed Bd.named, (State.WarmedH.refl s).since _, Nat.le_refl _, fun _ => State.WarmedH.refl s, hZ, CHr.refl hC, hF⟩, Stand.of_body Bd, e0⟩
  exact ⟨t, _, castTop (hef m) h1, h2, h3, v, L, rfl, ⟨r1, r2⟩, r3, r4⟩
/-- a contract pays a call -/
theorem Ct.pays {p : Program} {e : Env} {below : List Frame} {s : State} {args : Array Value} {vm0 : Vm} {len W : Nat} (hM : Ct wd l Z EL [] y' bytes' maxL' ret' rm as h Fc wc Qc) (hE : EW Z a0 EL) (hZ : Z.Warmed39 vm0) (wcode : (Cond.code y' bytes' maxL' ret').before a0 Z = true) (wz : (Cond.initialized y'.cls).before a0 Z = true) (hf : rm.frames + 1 ≤ R.frames) (hl : W + (maxL' + 11) + rm.locals ≤ R.locals) (H : CHv Z EL vm0 h) (HF : Sf Z EL vm0 h Fc) :
    BackS l R p e below (s.setVm vm0) args y' len W (fun A a => a = as ∧ A.U.heap = h ∧ A.cells + rm.cells ≤ R.cells ∧ A.slots + rm.slots ≤ R.slots)
      (fun A _ v B => ∃ L, (Wh h wc L ∧ Qc v B.U.heap) ∧ B.locs = A.locs ++ L ∧ B.cells = A.cells + rm.cells ∧ B.slots = A.slots + rm.slots ∧ CHr Z EL vm0 h B.U.vm B.U.heap ∧ Keep h B.U.heap wc ∧ (wd = false → (s.setVm vm0).WarmedH B.U.vm)) :=
  BackS.of_freeW (bytes := bytes') (maxL := maxL') (ret := ret') (E := fun _ first o t L k n => k = rm.cells ∧ n = rm.slots ∧ (∃ v, o = .returned v ∧ Wh first.heap wc L ∧ Qc v t.heap) ∧ CHr Z EL first.vm first.heap t.vm t.heap ∧ Keep first.heap t.heap wc ∧ (wd = false → first.WarmedH t.vm)) hM hf hl
    (fun m meth c A a Y hp => have hU : Z.Warmed39 A.U.vm := wtrans (s := s.setVm vm0) hZ Y.warmed
      ⟨by show (Cond.and _ .tt).before a A.U = true; rw [Cond.before_and, mv hU wcode]; rfl, mv hU wcode, mv hU wz, hp.2.2.1, hp.2.2.2⟩)
    (fun m meth c A a g mk Y hp => ⟨hp.1, wtrans (s := s.setVm vm0) hZ Y.warmed, hp.2.1, (CHv.at Y hZ hE H).1, fun x hx => ⟨(HF x hx).1, CHr.safe (CHv.at Y hZ hE H) (HF x hx).1 (HF x hx).2⟩⟩) (fun _ _ _ _ _ _ _ _ _ => trivial)
    (fun _ first _ t ⟨v, L, h1, h2, h3, h4⟩ => ⟨L, _, _, h4.1, rfl, rfl, ⟨v, h1, h2⟩, h3, (show Keep first.heap t.heap wc from keep_of (T := ({ t with vm := first.vm } : State)) h4.1.2.2.2 h2.1), h4.2⟩)
    (fun m meth c A a g mk v t L k n Y hp _ _ ⟨e1, e2, ⟨v', e3, e4, e5⟩, e6, e7, e8⟩ => by
      cases e3; subst e1 e2
      have eh : (A.U.calling g mk a).heap = h := hp.2.1
      rw [eh] at e4 e6 e7
      exact ⟨L, ⟨e4, e5⟩, rfl, rfl, rfl, (CHv.at Y hZ hE H).trans e6, e7, fun z => State.WarmedH.trans (t := A.U) Y.warmed (e8 z)⟩)
/-- a call, whatever its kind -/
theorem Wp.call {len W : Nat} {rest : List Value} (Cc : Ct wd l Z EL [] y' bytes' maxL' ret' rm as h Fc wc Qc) (wcode : (Cond.code y' bytes' maxL' ret').before a0 Z = true) (wz : (Cond.initialized y'.cls).before a0 Z = true) (hFc : ∀ x ∈ Fc, x ∈ F) (hwc : ∀ x ∈ wc, x ∈ ws ∨ hs.size ≤ x) (hf : rm.frames + 1 ≤ R.frames) (hl : W + (maxL' + 11) + rm.locals ≤ R.locals) (hk : k + rm.cells = k') (hn : n + rm.slots = n') (hk' : k' ≤ R.cells) (hn' : n' ≤ R.slots)
    (law : ∀ (p : Program) (e : Env) (s : State) (m : MethodId) (args : Array Value) (below : List Frame) (meth : Method) (c : Code) (T : State) (locs : List Loc) (Pre : Pt → Array Value → Prop) (Post : Pt → Array Value → Option Value → Pt → Prop), Stand p l e R s m args below meth c T locs k n → p.tables.exec = Jvm.exec → Z.Warmed39 s.vm → s.vm.findClass y.cls = some m.cls → c.code = bytes → c.maxLocals = maxL → T.heap = h →
      BackS l R p e below s args y' len W Pre Post → (∀ vm₁, s.WarmedH vm₁ → Pre ⟨T.setVm vm₁, locs, k, n⟩ as) →
      ∃ (v : Option Value) (vm₁ : Vm) (B : Pt), s.WarmedH vm₁ ∧ Stand p l e R (s.setVm B.U.vm) m args below meth c B.U B.locs B.cells B.slots ∧ s.Since B.U.vm B.U.heap.size ∧ T.heap.size ≤ B.U.heap.size ∧ Post ⟨T.setVm vm₁, locs, k, n⟩ as v B ∧
        Steps p.tables e below (T.setTop (mkF m pc Ls S)) (B.U.setTop (mkF m pc' Ls (v.toList ++ rest))))
    (K : ∀ v h', hs.size ≤ h.size → Keep h h' wc → Qc v h' → Wp wd l Z a0 EL R y bytes maxL ret hs ws Q h' F k' n' pc' Ls (v.toList ++ rest)) : Wp wd l Z a0 EL R y bytes maxL ret hs ws Q h F k n pc Ls S := fun p e s m args below meth c vm0 k0 T locs I => by
  obtain ⟨⟨i1, i2, i3, i4, i5⟩, ⟨q1, q2, q3, q4, q5⟩, ⟨j1, j2, j3, j4, j5, j6, j7⟩, X, eT⟩ := I
  subst hk hn
  obtain ⟨v, vm₁, ⟨U, L', kk, nn⟩, hW₁, X', hS', hgr, ⟨L, ⟨c1, c2⟩, c3, c4, c5, c6, c7, c8⟩, st⟩ := law p e (s.setVm vm0) m args below meth c T locs _ _ X i2 j5 j1 i3 i4 eT (Ct.pays Cc i1 j5 wcode wz hf hl j6.1 fun x hx => j7 x (hFc x hx)) (fun _ _ => ⟨rfl, eT, hk', hn'⟩)
  dsimp only [Pt.U, Pt.locs, Pt.cells, Pt.slots] at X' hS' hgr c2 c3 c4 c5 c6 c7 c8 st
  subst c3 c4 c5
  have hhs : hs.size ≤ h.size := j6.2.1
  have hSin : s.Since U.vm U.heap.size := j2.trans hS' (Nat.le_trans j3 (by rw [← eT]; exact hgr))
  refine (K v U.heap hhs c7 c2 p e s m args below meth c U.vm U.heap.size U _ ⟨⟨i1, i2, i3, i4, i5⟩, ⟨q1, q2, q3, fun z hz => ?_, ext_keep q5 c7 fun x hx => (hwc x hx).elim (q2 x) (Nat.le_trans q3)⟩, ⟨(hS'.1.alike.findClass _ _).trans j1, hSin, Nat.le_refl _, fun z => State.WarmedH.trans (t := s.setVm vm0) (j4 z) (c8 z), State.Warmed39.trans (t := s.setVm vm0) j5 hS'.1, j6.trans c6, fun x hx => ⟨Nat.lt_of_lt_of_le (j7 x hx).1 c7.1, CHr.safe c6 (j7 x hx).1 (j7 x hx).2⟩⟩, X', rfl⟩).back fun t => st.trans
  rcases List.mem_append.mp hz with hz | hz
  · exact q4 z hz
  · rcases c1 z hz with q | q
    · exact hwc _ q
    · exact Or.inr (Nat.le_trans hhs q)

theorem Wp.callS {own : String} {idx W : Nat} {argsL rest : List Value} (hown0 : y.cls = own) (Cc : Ct wd l Z EL [] y' bytes' maxL' ret' rm as h Fc wc Qc) (wl : (Cond.methodLink own idx y').before a0 Z = true) (wst : (Cond.static y').before a0 Z = true) (wcode : (Cond.code y' bytes' maxL' ret').before a0 Z = true) (wz : (Cond.initialized y'.cls).before a0 Z = true) (hy : y'.cls ≠ "java/lang/invoke/MethodHandle" ∧ y'.cls ≠ "java/lang/invoke/VarHandle") (hlen : ∀ sig, parseMethodDescriptor y'.desc = some sig → argsL.length = sig.parameters.length) (hd : decode bytes pc = .ok (.invokestatic idx, 3))
    (hsz : Ls.size = maxL) (hst : S = argsL.reverse ++ rest) (has : argsL.toArray = as) (hW : (rest.map fun v => v.category).sum ≤ W) (hp : pc + 3 = pc') (hFc : ∀ x ∈ Fc, x ∈ F) (hwc : ∀ x ∈ wc, x ∈ ws ∨ hs.size ≤ x) (hf : rm.frames + 1 ≤ R.frames) (hl : W + (maxL' + 11) + rm.locals ≤ R.locals) (hk : k + rm.cells = k') (hn : n + rm.slots = n') (hk' : k' ≤ R.cells) (hn' : n' ≤ R.slots)
    (K : ∀ v h', hs.size ≤ h.size → Keep h h' wc → Qc v h' → Wp wd l Z a0 EL R y bytes maxL ret hs ws Q h' F k' n' pc' Ls (v.toList ++ rest)) : Wp wd l Z a0 EL R y bytes maxL ret hs ws Q h F k n pc Ls S := by
  subst hown0 hst has hp
  exact Wp.call Cc wcode wz hFc hwc hf hl hk hn hk' hn' (fun p e s m args below meth c T locs Pre Post X hx hZ hown hby hml eT hK hpre => callSS X hx hown (mvT hZ wl) (mvT hZ wst) (mvT hZ wz) (mvT hZ wcode) hy hK (g := mkF m pc Ls (argsL.reverse ++ rest)) rfl (by rw [hml]; exact hsz) hlen rfl (by show 2 * 0 + _ ≤ _; omega) (hb hby hd) hpre) K
theorem Wp.callI {own : String} {idx W : Nat} {argsL rest : List Value} (hown0 : y.cls = own) (Cc : Ct wd l Z EL [] y' bytes' maxL' ret' rm as h Fc wc Qc) (hy1 : y'.name = "<init>") (hr' : ret' = none) (wl : (Cond.methodLink own idx y').before a0 Z = true) (wi : (Cond.instanceMethod y').before a0 Z = true) (wcode : (Cond.code y' bytes' maxL' ret').before a0 Z = true) (wz : (Cond.initialized y'.cls).before a0 Z = true) (hy : y'.cls ≠ "java/lang/invoke/MethodHandle" ∧ y'.cls ≠ "java/lang/invoke/VarHandle") (hlen : ∀ sig, parseMethodDescriptor y'.desc = some sig → argsL.length = sig.parameters.length) (hd : decode bytes pc = .ok (.invokespecial idx, 3))
    (hsz : Ls.size = maxL) (hst : S = argsL.reverse ++ .ref a :: rest) (has : (Value.ref a :: argsL).toArray = as) (hW : (rest.map fun v => v.category).sum ≤ W) (hp : pc + 3 = pc') (hFc : ∀ x ∈ Fc, x ∈ F) (hwc : ∀ x ∈ wc, x ∈ ws ∨ hs.size ≤ x) (hf : rm.frames + 1 ≤ R.frames) (hl : W + (maxL' + 11) + rm.locals ≤ R.locals) (hk : k + rm.cells = k') (hn : n + rm.slots = n') (hk' : k' ≤ R.cells) (hn' : n' ≤ R.slots)
    (K : ∀ v h', hs.size ≤ h.size → Keep h h' wc → Qc v h' → Wp wd l Z a0 EL R y bytes maxL ret hs ws Q h' F k' n' pc' Ls (v.toList ++ rest)) : Wp wd l Z a0 EL R y bytes maxL ret hs ws Q h F k n pc Ls S := by
  subst hown0 hst has hp hr'
  exact Wp.call Cc wcode wz hFc hwc hf hl hk hn hk' hn' (fun p e s m args below meth c T locs Pre Post X hx hZ hown hby hml eT hK hpre => X.specialBackS hx hy1 hown (mvT hZ wl) (mvT hZ wi) (mvT hZ wcode) hy hK (g := mkF m pc Ls (argsL.reverse ++ .ref a :: rest)) rfl (by rw [hml]; exact hsz) (Steps.refl _) hlen rfl (by show 2 * 0 + _ ≤ _; omega) (hb hby hd) hpre) K
theorem Wp.callIN {host : String} {own : String} {idx W : Nat} {argsL rest : List Value} (hown0 : y.cls = own) (Cc : Ct wd l Z EL [] y' bytes' maxL' ret' rm as h Fc wc Qc) (hy1 : y'.name = "<init>") (hr' : ret' = none) (wl : (Cond.methodLinkNest own idx y' host).before a0 Z = true) (wi : (Cond.instanceMethod y').before a0 Z = true) (wcode : (Cond.code y' bytes' maxL' ret').before a0 Z = true) (wz : (Cond.initialized y'.cls).before a0 Z = true) (hy : y'.cls ≠ "java/lang/invoke/MethodHandle" ∧ y'.cls ≠ "java/lang/invoke/VarHandle") (hlen : ∀ sig, parseMethodDescriptor y'.desc = some sig → argsL.length = sig.parameters.length) (hd : decode bytes pc = .ok (.invokespecial idx, 3))
    (hsz : Ls.size = maxL) (hst : S = argsL.reverse ++ .ref a :: rest) (has : (Value.ref a :: argsL).toArray = as) (hW : (rest.map fun v => v.category).sum ≤ W) (hp : pc + 3 = pc') (hFc : ∀ x ∈ Fc, x ∈ F) (hwc : ∀ x ∈ wc, x ∈ ws ∨ hs.size ≤ x) (hf : rm.frames + 1 ≤ R.frames) (hl : W + (maxL' + 11) + rm.locals ≤ R.locals) (hk : k + rm.cells = k') (hn : n + rm.slots = n') (hk' : k' ≤ R.cells) (hn' : n' ≤ R.slots)
    (K : ∀ v h', hs.size ≤ h.size → Keep h h' wc → Qc v h' → Wp wd l Z a0 EL R y bytes maxL ret hs ws Q h' F k' n' pc' Ls (v.toList ++ rest)) : Wp wd l Z a0 EL R y bytes maxL ret hs ws Q h F k n pc Ls S := by
  subst hown0 hst has hp hr'
  exact Wp.call Cc wcode wz hFc hwc hf hl hk hn hk' hn' (fun p e s m args below meth c T locs Pre Post X hx hZ hown hby hml eT hK hpre => X.specialBackNestS hx hy1 hown (mvMN hZ wl) (mvT hZ wi) (mvT hZ wcode) hy hK (g := mkF m pc Ls (argsL.reverse ++ .ref a :: rest)) rfl (by rw [hml]; exact hsz) (Steps.refl _) hlen rfl (by show 2 * 0 + _ ≤ _; omega) (hb hby hd) hpre) K
theorem Wp.callV {x' : MethodName} {own : String} {idx W : Nat} {argsL rest : List Value} (hown0 : y.cls = own) (Cc : Ct wd l Z EL [] y' bytes' maxL' ret' rm as h Fc wc Qc) (wl : (Cond.methodLink own idx x').before a0 Z = true) (wd' : (Cond.declares x').before a0 Z = true) (wsel : (Cond.selects C x' y').before a0 Z = true) (wi : (Cond.instanceMethod y').before a0 Z = true) (wcode : (Cond.code y' bytes' maxL' ret').before a0 Z = true) (wz : (Cond.initialized y'.cls).before a0 Z = true) (nf : ∀ s : State, Z.Warmed39 s.vm → NotFace s x') (E : Exa Z h a C) (hy : x'.cls ≠ "java/lang/invoke/MethodHandle" ∧ x'.cls ≠ "java/lang/invoke/VarHandle") (hlen : ∀ sig, parseMethodDescriptor x'.desc = some sig → argsL.length = sig.parameters.length) (hd : decode bytes pc = .ok (.invokevirtual idx, 3))
    (hsz : Ls.size = maxL) (hst : S = argsL.reverse ++ .ref a :: rest) (has : (Value.ref a :: argsL).toArray = as) (hW : (rest.map fun v => v.category).sum ≤ W) (hp : pc + 3 = pc') (hFc : ∀ x ∈ Fc, x ∈ F) (hwc : ∀ x ∈ wc, x ∈ ws ∨ hs.size ≤ x) (hf : rm.frames + 1 ≤ R.frames) (hl : W + (maxL' + 11) + rm.locals ≤ R.locals) (hk : k + rm.cells = k') (hn : n + rm.slots = n') (hk' : k' ≤ R.cells) (hn' : n' ≤ R.slots)
    (K : ∀ v h', hs.size ≤ h.size → Keep h h' wc → Qc v h' → Wp wd l Z a0 EL R y bytes maxL ret hs ws Q h' F k' n' pc' Ls (v.toList ++ rest)) : Wp wd l Z a0 EL R y bytes maxL ret hs ws Q h F k n pc Ls S := by
  subst hown0 hst has hp
  exact Wp.call Cc wcode wz hFc hwc hf hl hk hn hk' hn' (fun p e s m args below meth c T locs Pre Post X hx hZ hown hby hml eT hK hpre => by
    obtain ⟨cq, kq, qa, qb, qc⟩ := isOf (T := T) hZ eT E
    exact X.virtualBackS hx hown (mvT hZ wl) (mvT hZ wd') (nf s hZ) (mvT hZ wsel) (mvT hZ wi) hy hK qa qc (g := mkF m pc Ls (argsL.reverse ++ .ref a :: rest)) rfl (by rw [hml]; exact hsz) (Steps.refl _) hlen rfl (by show 2 * 0 + _ ≤ _; omega) (hb hby hd) hpre) K
theorem nf_sel {x' y'' : MethodName} (hc : C = x'.cls) (wsel : (Cond.selects C x' y'').before a0 Z = true) (s : State) (hZ : Z.Warmed39 s.vm) (h1 : x' = y'') : NotFace s x' := by
  subst h1 hc; exact notFace_of_selects (args := #[]) (mvT hZ wsel)
theorem Wp.callF {x' : MethodName} {count : Nat} {own : String} {idx W : Nat} {argsL rest : List Value} (hown0 : y.cls = own) (Cc : Ct wd l Z EL [] y' bytes' maxL' ret' rm as h Fc wc Qc) (wl : (Cond.methodLink own idx x').before a0 Z = true) (wd' : (Cond.declares x').before a0 Z = true) (wf : (Cond.interfaceMethod x'.cls x'.cls x'.name x'.desc).before a0 Z = true) (wsel : (Cond.selects C x' y').before a0 Z = true) (wi : (Cond.instanceMethod y').before a0 Z = true) (wp : (Cond.publicMethod y').before a0 Z = true) (hfa : ((Cond.interfaceMethod x'.cls x'.cls x'.name x'.desc).onTables && (Cond.interfaceMethod x'.cls x'.cls x'.name x'.desc).keepsFace) = true) (wu : (Cond.unhidden C x'.name x'.desc).before a0 Z = true) (wca : (Cond.castable C x'.cls).before a0 Z = true) (wcode : (Cond.code y' bytes' maxL' ret').before a0 Z = true) (wz : (Cond.initialized y'.cls).before a0 Z = true) (E : Exa Z h a C) (hy : x'.cls ≠ "java/lang/invoke/MethodHandle" ∧ x'.cls ≠ "java/lang/invoke/VarHandle") (hlen : ∀ sig, parseMethodDescriptor x'.desc = some sig → argsL.length = sig.parameters.length) (hd : decode bytes pc = .ok (.invokeinterface idx count, 5))
    (hsz : Ls.size = maxL) (hst : S = argsL.reverse ++ .ref a :: rest) (has : (Value.ref a :: argsL).toArray = as) (hW : (rest.map fun v => v.category).sum ≤ W) (hp : pc + 5 = pc') (hFc : ∀ x ∈ Fc, x ∈ F) (hwc : ∀ x ∈ wc, x ∈ ws ∨ hs.size ≤ x) (hf : rm.frames + 1 ≤ R.frames) (hl : W + (maxL' + 11) + rm.locals ≤ R.locals) (hk : k + rm.cells = k') (hn : n + rm.slots = n') (hk' : k' ≤ R.cells) (hn' : n' ≤ R.slots)
    (K : ∀ v h', hs.size ≤ h.size → Keep h h' wc → Qc v h' → Wp wd l Z a0 EL R y bytes maxL ret hs ws Q h' F k' n' pc' Ls (v.toList ++ rest)) : Wp wd l Z a0 EL R y bytes maxL ret hs ws Q h F k n pc Ls S := by
  subst hown0 hst has hp
  exact Wp.call Cc wcode wz hFc hwc hf hl hk hn hk' hn' (fun p e s m args below meth c T locs Pre Post X hx hZ hown hby hml eT hK hpre => by
    obtain ⟨cq, kq, qa, qb, qc⟩ := isOf (T := T) hZ eT E
    exact X.interfaceBackS hx hown (mvT hZ wl) (mvT hZ wd') (mvT hZ wf hfa) (mvT hZ wsel) (mvT hZ wi) (mvT hZ wp) (mvT hZ wu) (mvT hZ wca) hy hK qa qb qc (g := mkF m pc Ls (argsL.reverse ++ .ref a :: rest)) rfl (by rw [hml]; exact hsz) (Steps.refl _) hlen rfl (by show 2 * 0 + _ ≤ _; omega) (hb hby hd) hpre) K
/-- ldc of a String constant, opaque -/
theorem Wp.ldcO {own text : String} {idx nn : Nat} (hwd : wd = true) (hown0 : y.cls = own) (lk : (Cond.stringLink own idx text).before a0 Z = true) (wS : ∀ d ∈ Bundle.stringAtoms, d.before a0 Z = true) (hd : decode bytes pc = .ok (.ldc idx, 2)) (hp : pc + 2 = pc') (hnn : 4 * text.toList.length ≤ nn) (hbig : nn ≤ 536870912) (hk : k + 2 = k') (hn : n + (nn + 4) = n') (hk' : k' ≤ R.cells) (hn' : n' ≤ R.slots)
    (K : ∀ h' b, Ext h h' → Wp wd l Z a0 EL R y bytes maxL ret hs ws Q h' F k' n' pc' Ls (.ref b :: S)) : Wp wd l Z a0 EL R y bytes maxL ret hs ws Q h F k n pc Ls S := fun p e s m args below meth c vm0 k0 T locs I => by
  obtain ⟨⟨i1, i2, i3, i4, i5⟩, ⟨q1, q2, q3, q4, q5⟩, ⟨j1, j2, j3, j4, j5, j6, j7⟩, X, eT⟩ := I
  subst hk hn hp hown0
  obtain ⟨b, T', h', k1, X', e', E, hS, hk1, hW, hf, hC, -, st⟩ := ldcOH X i2 j5 j1 lk wS eT j2 j3 i1 j6.1 (g := mkF m pc Ls S) rfl (hb i3 hd) hnn hbig hk' hn'
  exact (K h' b E p e s m args below meth c T'.vm k1 T' locs ⟨⟨i1, i2, i3, i4, i5⟩, ⟨q1, q2, q3, q4, Ext.trans q5 E⟩, ⟨hf, hS, hk1, (fun z => by rw [hwd] at z; cases z), hW, j6.trans hC, fun x hx => ⟨Nat.lt_of_lt_of_le (j7 x hx).1 E.1, CHr.safe hC (j7 x hx).1 (j7 x hx).2⟩⟩, X', e'⟩).back st
/-- ldc of a String constant whose text is read -/
theorem Wp.ldcC {own text : String} {idx nn : Nat} {vs : List Value} {z : Int32} (hwd : wd = true) (hown0 : y.cls = own) (lk : (Cond.stringLink own idx text).before a0 Z = true) (wS : ∀ d ∈ Bundle.stringAtoms, d.before a0 Z = true) (hmem : (own, idx) ∈ EL) (ht : (∀ c ∈ text.toList, c.toNat < 256) ∧ text.toList.map (fun c => Value.int (Jvm.Lit.byteI c.toNat.toUInt16)) = vs) (hz : ¬ z < 0) (hl : z.toNatClampNeg = vs.length)
    (hd : decode bytes pc = .ok (.ldc idx, 2)) (hp : pc + 2 = pc') (hnn : 4 * text.toList.length ≤ nn) (hbig : nn ≤ 536870912) (hk : k + 2 = k') (hn : n + (nn + 4) = n') (hk' : k' ≤ R.cells) (hn' : n' ≤ R.slots)
    (K : ∀ h' b c kA, Ext h h' → Exa Z h' b "java/lang/String" → Fld Z h' b "java/lang/String" "coder" "B" (.int 0) → Fld Z h' b "java/lang/String" "value" "[B" (.ref c) → Arv Z h' c kA .byte z vs (.int 0) → (∀ x ∈ F, x ≠ b ∧ x ≠ c) → Wp wd l Z a0 EL R y bytes maxL ret hs ws Q h' F k' n' pc' Ls (.ref b :: S)) : Wp wd l Z a0 EL R y bytes maxL ret hs ws Q h F k n pc Ls S := fun p e s m args below meth c vm0 k0 T locs I => by
  obtain ⟨⟨i1, i2, i3, i4, i5⟩, ⟨q1, q2, q3, q4, q5⟩, ⟨j1, j2, j3, j4, j5, j6, j7⟩, X, eT⟩ := I
  subst hk hn hp hown0
  obtain ⟨b, T', h', k1, cc, kA, X', e', E, hS, hk1, hW, hf, r1, r2, r3, r4, -, -, hC, -, hne, st⟩ := ldcCH X i2 j5 j1 lk wS eT j2 j3 i1 hmem j6.1 ht hz hl (g := mkF m pc Ls S) rfl (hb i3 hd) hnn hbig hk' hn'
  have hSf : Sf Z EL T'.vm h' F := fun x hx => ⟨Nat.lt_of_lt_of_le (j7 x hx).1 E.1, CHr.safe hC (j7 x hx).1 (j7 x hx).2⟩
  exact (K h' b cc kA E r1 r2 r3 r4 (fun x hx => hne x (hSf x hx).2) p e s m args below meth c T'.vm k1 T' locs ⟨⟨i1, i2, i3, i4, i5⟩, ⟨q1, q2, q3, q4, Ext.trans q5 E⟩, ⟨hf, hS, hk1, (fun z => by rw [hwd] at z; cases z), hW, j6.trans hC, hSf⟩, X', e'⟩).back st
end Calls
end Jvm.Own
namespace Jvm.Own
open Sem ClassFile Op Lib Jvm.Stand Jvm.Free Jvm.LawKit Jvm.RoadKit
/-! small naturals as ints -/
theorem on_toInt {i : Nat} (h : i < 2147483648) : (Int32.ofNat i).toInt = i := Int32.toInt_ofNat_of_lt h
theorem on_lt {i n : Nat} (hn : n < 2147483648) (h : i < n) : Int32.ofNat i < Int32.ofNat n := by rw [Int32.lt_iff_toInt_lt, on_toInt (by omega), on_toInt hn]; omega
theorem on_nlt {i n : Nat} (hi : i < 2147483648) (h : n ≤ i) : ¬ Int32.ofNat i < Int32.ofNat n := by rw [Int32.lt_iff_toInt_lt, on_toInt hi, on_toInt (i := n) (by omega)]; omega
theorem on_nneg {i : Nat} (hi : i < 2147483648) : ¬ Int32.ofNat i < 0 := by rw [Int32.lt_iff_toInt_lt, on_toInt hi]; show ¬ ((i : Int) < 0); omega
theorem on_clamp {i : Nat} (hi : i < 2147483648) : (Int32.ofNat i).toNatClampNeg = i := by simp only [Int32.toNatClampNeg, on_toInt hi]; omega
theorem on_succ (i : Nat) : Int32.ofNat i + (1 : Int32) = Int32.ofNat (i + 1) := (Int32.ofNat_add i 1).symm
theorem on_eq {i n : Nat} (hi : i < 2147483648) (hn : n < 2147483648) : Int32.ofNat i = Int32.ofNat n ↔ i = n := by
  rw [← Int32.toInt_inj, on_toInt hi, on_toInt hn]; omega
/-- what the low byte of a char is, as the JVM keeps it -/
def lb (c : Int32) : Int32 := c.toInt8.toInt32
theorem nar_lb (c : Int32) : nar .byte c.toInt8.toInt32 = lb c := by show (c.toInt8.toInt32).toInt8.toInt32 = _; rw [Int8.toInt8_toInt32]; rfl
theorem set_step {f : Int32 → Value} {cs : List Int32} {i j : Nat} {c : Int32} {z v : Value} (hc : cs[i]? = some c) (hv : v = f c) : ((cs.take i).map f ++ List.replicate (j + 1) z).set i v = (cs.take (i + 1)).map f ++ List.replicate j z := by
  obtain ⟨hi, rfl⟩ := List.getElem?_eq_some_iff.mp hc
  have hl : ((cs.take i).map f).length = i := by simp; omega
  rw [List.set_append_right _ _ (by omega), hl, Nat.sub_self, List.replicate_succ, List.set_cons_zero, List.take_add_one, List.map_append, hv, hc]
  simp
/-- an object of C is none of K: neither C nor its only superclass O is K -/
theorem ns_no {Z : State} {a0 : Array Value} {C O K : String} {n : Nat} (w : (Cond.superclass C O).before a0 Z = true) (wr : (Cond.noSuperclass O).before a0 Z = true) (wk : (Cond.instantiable K n).before a0 Z = true) (hn : C ≠ K) (hn2 : O ≠ K) : ∃ c t, Z.vm.findClass C = some c ∧ Z.vm.findClass K = some t ∧ Z.vm.assignable c t = false := by
  obtain ⟨t, kt, g1, g2, g3, g4, -⟩ := Cond.instantiable_spec wk
  have hN : NS Z O K := by
    obtain ⟨c, k, h1, h2, h3, -, -⟩ := Cond.noSuperclass_spec wr
    have ne := ids_ne h1 g1 hn2
    refine ⟨c, t, h1, g1, fun fuel => ?_⟩
    cases fuel with
    | zero => rfl
    | succ f => simp [Vm.isSubclassAux, ne, h2, h3]
  obtain ⟨c, t', h0, g0, n3⟩ := NS.step w hN hn
  cases g1.symm.trans g0
  obtain ⟨p, k, kp, h1, h2, h3, h4, h5, -, h7⟩ := Cond.superclass_spec h0 w
  have ne := ids_ne h0 g0 hn
  have g5 : kt.isInterface = false := (Bool.or_eq_false_iff.mp g4).1
  refine ⟨c, t, h0, g1, ?_⟩
  show Z.vm.assignableAux (255 + 1) c t = false
  simp [Vm.assignableAux, ne, h2, g2, h5, g3, g5, Vm.isSubclass, n3]
section Str
variable {Z : State} {a0 : Array Value} {h h' : Heap} {s w : Addr} {bs : List Int32} {C : String} {n sl : Nat} {v : Value} {k : ClassId} {ty : FieldType} {z : Int32} {vs : List Value} {d : Value}
/-- a Latin-1 String: its bytes, as ints -/
def SL (Z : State) (h : Heap) (s : Addr) (bs : List Int32) : Prop := Exa Z h s "java/lang/String" ∧ Fld Z h s "java/lang/String" "coder" "B" (.int 0) ∧ ∃ b k, Fld Z h s "java/lang/String" "value" "[B" (.ref b) ∧ Arv Z h b k .byte (Int32.ofNat bs.length) (bs.map Value.int) (.int 0)
theorem SL.lt (S : SL Z h s bs) : s < h.size := S.1.lt
theorem SL.ext (S : SL Z h s bs) (E : Ext h h') : SL Z h' s bs := by
  obtain ⟨A, B, b, k, D, G⟩ := S; exact ⟨A.ext E, B.ext E, b, k, D.ext E, G.ext E⟩
theorem SL.keep0 (S : SL Z h s bs) (K : Keep h h' []) : SL Z h' s bs := by
  obtain ⟨A, B, b, k, D, G⟩ := S; exact ⟨A.keep K, B.keep K nin0, b, k, D.keep K nin0, G.keep K nin0⟩
theorem SL.keep1 (S : SL Z h s bs) (K : Keep h h' [w]) (q : s ≠ w) (E : Exa Z h w C) (wi : (Cond.instantiable C n).before a0 Z = true) : SL Z h' s bs := by
  obtain ⟨A, B, b, k, D, G⟩ := S; exact ⟨A.keep K, B.keep K (ninS q nin0), b, k, D.keep K (ninS q nin0), G.keep K (ninS (Ne.symm (Exa.neArv E G wi)) nin0)⟩
theorem SL.wr (S : SL Z h s bs) (W : Wr h h' w sl v) (q : s ≠ w) (E : Exa Z h w C) (wi : (Cond.instantiable C n).before a0 Z = true) : SL Z h' s bs := S.keep1 (Keep.of_wr W) q E wi
theorem Arv.neTy {a b : Addr} {k' : ClassId} {ty' : FieldType} {z' : Int32} {vs' : List Value} {d' : Value} (A : Arv Z h a k ty z vs d) (B : Arv Z h b k' ty' z' vs' d') (q : ty ≠ ty') : a ≠ b := fun e => by
  subst e
  obtain ⟨c, ⟨h1, ⟨-, kk, h2, cm, h3⟩, -⟩, -⟩ := A
  obtain ⟨c', ⟨g1, ⟨-, kk', g2, cm', g3⟩, -⟩, -⟩ := B
  cases h1.symm.trans g1
  cases h2.symm.trans g2
  rw [h3] at g3; injection g3 with _ g3; exact q g3
theorem SL.keepA (S : SL Z h s bs) (K : Keep h h' [w]) (V : Arv Z h w k ty z vs d) (ht : ty ≠ .byte) (wi : (Cond.instantiable "java/lang/String" n).before a0 Z = true) : SL Z h' s bs := by
  obtain ⟨A, B, b, k, D, G⟩ := S
  have q : s ≠ w := Exa.neArv A V wi
  exact ⟨A.keep K, B.keep K (ninS q nin0), b, k, D.keep K (ninS q nin0), G.keep K (ninS (Arv.neTy G V (Ne.symm ht)) nin0)⟩
theorem SL.wrA (S : SL Z h s bs) (W : Wr h h' w sl v) (V : Arv Z h w k ty z vs d) (ht : ty ≠ .byte) (wi : (Cond.instantiable "java/lang/String" n).before a0 Z = true) : SL Z h' s bs := S.keepA (Keep.of_wr W) V ht wi
end Str
end Jvm.Own
namespace Jvm.Own
/-- two lists of one length that are alike up to i, and at i .. -/
theorem take_step {α : Type} {xs ys : List α} {i : Nat} {x y : α} (hx : xs[i]? = some x) (hy : ys[i]? = some y) (h : xs.take i = ys.take i) : (xs.take (i + 1) = ys.take (i + 1)) ↔ x = y := by
  rw [List.take_add_one, List.take_add_one, hx, hy, h]; simp
theorem ne_at {α : Type} {xs ys : List α} {i : Nat} {x y : α} (hx : xs[i]? = some x) (hy : ys[i]? = some y) (h : ¬ x = y) : ¬ xs = ys := fun e => by
  rw [e, hy] at hx; exact h (Option.some.inj hx).symm
theorem ne_len {α : Type} {xs ys : List α} (hx : xs.length < 2147483647) (hy : ys.length < 2147483647) (h : ¬ Int32.ofNat xs.length = Int32.ofNat ys.length) : ¬ xs = ys := fun e => h (by rw [e])
theorem all_take {α : Type} {xs ys : List α} (hl : xs.length = ys.length) (h : xs.take xs.length = ys.take xs.length) : xs = ys := by
  rw [List.take_length] at h; rw [hl, List.take_length] at h; exact h
end Jvm.Own
@@BLOCK:NumsL.lean.txt@@
namespace Jvm.Pilot.@@N@@
open Jvm Jvm.ClassFile Sem Op Lib Jvm.Free Jvm.Stand Jvm.LawKit Jvm.RoadKit Bundle Jvm.Own Jvm.Pilot.@@N@@.Jvm.D
def own_len (p : Int32) : Int32 := (p &&& (3 : Int32)) % (3 : Int32)
def own_c0 (p : Int32) : Int32 := ((p.toUInt32 >>> ((2 : Int32) &&& 31).toUInt32).toInt32) &&& (255 : Int32)
def own_c1 (p : Int32) : Int32 := ((p.toUInt32 >>> ((10 : Int32) &&& 31).toUInt32).toInt32) &&& (255 : Int32)
theorem own_and3 (p : Int32) : (p &&& (3 : Int32)) = 0 ∨ (p &&& (3 : Int32)) = 1 ∨ (p &&& (3 : Int32)) = 2 ∨ (p &&& (3 : Int32)) = 3 := by
  have e := Jvm.Kit.i32_mask p 3 (k := 2) (by decide) (by decide)
  simp only [← Int32.toInt_inj]
  show _ = (0 : Int) ∨ _ = (1 : Int) ∨ _ = (2 : Int) ∨ _ = (3 : Int)
  rw [e]; omega
theorem own_255 (x : Int32) : ¬ (255 : Int32) < (x &&& (255 : Int32)) ∧ ¬ (x &&& (255 : Int32)) < 0 := by
  have e := Jvm.Kit.i32_mask x 255 (k := 8) (by decide) (by decide)
  have e1 : (255 : Int32).toInt = 255 := rfl
  have e2 : (0 : Int32).toInt = 0 := rfl
  rw [Int32.lt_iff_toInt_lt, Int32.lt_iff_toInt_lt, e]; omega
theorem own_nar (x : Int32) : nar .char (x &&& (255 : Int32)) = x &&& (255 : Int32) := i2c_mask x
theorem own_lb {x y : Int32} (hx : ¬ (255 : Int32) < x ∧ ¬ x < 0) (hy : ¬ (255 : Int32) < y ∧ ¬ y < 0) : lb x = lb y ↔ x = y := by
  constructor
  · intro h
    have e1 : (255 : Int32).toInt = 255 := rfl
    have e2 : (0 : Int32).toInt = 0 := rfl
    simp only [Int32.lt_iff_toInt_lt, e1, e2] at hx hy
    have h1 := congrArg Int32.toInt h
    simp only [lb, Int8.toInt_toInt32, Int32.toInt_toInt8, Int.bmod_def] at h1
    apply Int32.toInt_inj.mp
    omega
  · rintro rfl; rfl
theorem own_len3 (p : Int32) : own_len p = 0 ∨ own_len p = 1 ∨ own_len p = 2 := by
  unfold own_len
  rcases own_and3 p with h | h | h | h <;> rw [h] <;> decide
def own_cs (p : Int32) : List Int32 := if own_len p = 0 then [] else if own_len p = 1 then [own_c0 p] else [own_c0 p, own_c1 p]
def own_str (p : Int32) : List Int32 := (own_cs p).map lb
theorem own_hl (p : Int32) : ∀ c ∈ own_cs p, ¬ (255 : Int32) < c := by
  intro c hc
  unfold own_cs at hc
  split at hc
  · cases hc
  · split at hc
    · cases List.mem_singleton.mp hc; exact (own_255 _).1
    · rcases List.mem_cons.mp hc with rfl | hc
      · exact (own_255 _).1
      · cases List.mem_singleton.mp hc; exact (own_255 _).1
theorem own_same (p r : Int32) : own_str p = own_str r ↔ own_len p = own_len r ∧ (own_len p < 1 ∨ own_c0 p = own_c0 r) ∧ (own_len p < 2 ∨ own_c1 p = own_c1 r) := by
  have h0 := own_lb (own_255 ((p.toUInt32 >>> ((2 : Int32) &&& 31).toUInt32).toInt32)) (own_255 ((r.toUInt32 >>> ((2 : Int32) &&& 31).toUInt32).toInt32))
  have h1 := own_lb (own_255 ((p.toUInt32 >>> ((10 : Int32) &&& 31).toUInt32).toInt32)) (own_255 ((r.toUInt32 >>> ((10 : Int32) &&& 31).toUInt32).toInt32))
  change lb (own_c0 p) = lb (own_c0 r) ↔ own_c0 p = own_c0 r at h0
  change lb (own_c1 p) = lb (own_c1 r) ↔ own_c1 p = own_c1 r at h1
  unfold own_str own_cs
  rcases own_len3 p with hp | hp | hp <;> rcases own_len3 r with hr | hr | hr <;> simp [hp, hr, h0, h1] <;> decide
theorem own_cl (p : Int32) : (own_cs p).length ≤ 2 := by
  unfold own_cs; split
  · decide
  · split <;> simp
theorem own_cn (p : Int32) : (own_cs p).length < 2147483647 := Nat.lt_of_le_of_lt (own_cl p) (by decide)
theorem own_sl (p : Int32) : (own_str p).length < 2147483647 := by
  have := own_cn p; simpa [own_str] using this
theorem own_emp (p : Int32) : own_str p = [] ↔ ¬ (0 : Int32) < own_len p := by
  unfold own_str own_cs
  rcases own_len3 p with hp | hp | hp <;> simp [hp] <;> decide
theorem own_wS {Z : State} {a0 : Array Value} (hw : ∀ d ∈ tables_1, d.before a0 Z = true) : ∀ d ∈ Bundle.stringAtoms, d.before a0 Z = true := by
  intro d hd
  simp only [Bundle.stringAtoms, Bundle.sN, List.mem_cons, List.not_mem_nil, or_false] at hd
  rcases hd with rfl | rfl | rfl | rfl | rfl | rfl | rfl
  · exact (hw _ (List.mem_of_getElem? (i := 10) rfl))
  · exact (hw _ (List.mem_of_getElem? (i := 9) rfl))
  · exact (hw _ (List.mem_of_getElem? (i := 22) rfl))
  · exact (hw _ (List.mem_of_getElem? (i := 23) rfl))
  · exact (hw _ (List.mem_of_getElem? (i := 24) rfl))
  · exact (hw _ (List.mem_of_getElem? (i := 25) rfl))
  · exact (hw _ (List.mem_of_getElem? (i := 26) rfl))
theorem d12_0 : decode jdk_52_method_21_code 0 = .ok (.iconst 0, 1) := by decide +kernel
theorem d12_1 : decode jdk_52_method_21_code 1 = .ok (.istore 5, 2) := by decide +kernel
theorem d12_3 : decode jdk_52_method_21_code 3 = .ok (.iload 5, 2) := by decide +kernel
theorem d12_5 : decode jdk_52_method_21_code 5 = .ok (.iload 4, 2) := by decide +kernel
theorem d12_7 : decode jdk_52_method_21_code 7 = .ok (.if_icmp .ge 37, 3) := by decide +kernel
theorem d12_10 : decode jdk_52_method_21_code 10 = .ok (.aload_n 0, 1) := by decide +kernel
theorem d12_11 : decode jdk_52_method_21_code 11 = .ok (.iload_n 1, 1) := by decide +kernel
theorem d12_12 : decode jdk_52_method_21_code 12 = .ok (.caload, 1) := by decide +kernel
theorem d12_13 : decode jdk_52_method_21_code 13 = .ok (.istore 6, 2) := by decide +kernel
theorem d12_15 : decode jdk_52_method_21_code 15 = .ok (.iload 6, 2) := by decide +kernel
theorem d12_17 : decode jdk_52_method_21_code 17 = .ok (.sipush 255, 3) := by decide +kernel
theorem d12_20 : decode jdk_52_method_21_code 20 = .ok (.if_icmp .le 6, 3) := by decide +kernel
theorem d12_23 : decode jdk_52_method_21_code 23 = .ok (.iload 5, 2) := by decide +kernel
theorem d12_25 : decode jdk_52_method_21_code 25 = .ok (.ireturn, 1) := by decide +kernel
theorem d12_26 : decode jdk_52_method_21_code 26 = .ok (.aload_n 2, 1) := by decide +kernel
theorem d12_27 : decode jdk_52_method_21_code 27 = .ok (.iload_n 3, 1) := by decide +kernel
theorem d12_28 : decode jdk_52_method_21_code 28 = .ok (.iload 6, 2) := by decide +kernel
theorem d12_30 : decode jdk_52_method_21_code 30 = .ok (.i2b, 1) := by decide +kernel
theorem d12_31 : decode jdk_52_method_21_code 31 = .ok (.bastore, 1) := by decide +kernel
theorem d12_32 : decode jdk_52_method_21_code 32 = .ok (.iinc 1 1, 3) := by decide +kernel
theorem d12_35 : decode jdk_52_method_21_code 35 = .ok (.iinc 3 1, 3) := by decide +kernel
theorem d12_38 : decode jdk_52_method_21_code 38 = .ok (.iinc 5 1, 3) := by decide +kernel
theorem d12_41 : decode jdk_52_method_21_code 41 = .ok (.goto (-38), 3) := by decide +kernel
theorem d12_44 : decode jdk_52_method_21_code 44 = .ok (.iload 4, 2) := by decide +kernel
theorem d12_46 : decode jdk_52_method_21_code 46 = .ok (.ireturn, 1) := by decide +kernel
set_option maxRecDepth 65536 in
set_option maxHeartbeats 40000000 in
theorem own_lpC (l : Launch) (Z : State) (a0 : Array Value) (hw : ∀ d ∈ tables_1, d.before a0 Z = true) (hE : EW Z a0 [("java/lang/String", 7)]) (a d : Addr) (ka kd : ClassId) (cs : List Int32) (hn : cs.length < 2147483647) (hs : Heap) :
    ∀ (j i : Nat) (h : Heap) (s6 : Slot), i + j = cs.length → (s6 = .unset ∨ ∃ x : Int32, s6 = .val (.int x)) → (∀ c ∈ cs.take i, ¬ (255 : Int32) < c) → Arv Z h a ka .char (Int32.ofNat cs.length) (cs.map Value.int) (.int 0) → Arv Z h d kd .byte (Int32.ofNat cs.length) ((cs.take i).map (fun c => Value.int (lb c)) ++ List.replicate j (.int 0)) (.int 0) → a ≠ d →
      Wp true l Z a0 [("java/lang/String", 7)] ({ frames := 0, cells := 0, slots := 0, locals := 0 } : Room) (⟨"java/lang/StringUTF16", "compress", "([CI[BII)I"⟩ : MethodName) jdk_52_method_21_code 7 (some .int) hs [d] (fun v h => (v = some (.int (Int32.ofNat cs.length)) ∧ (∀ c ∈ cs, ¬ (255 : Int32) < c) ∧ Arv Z h d kd .byte (Int32.ofNat cs.length) (cs.map fun c => Value.int (lb c)) (.int 0)) ∨ ∃ t c, t < cs.length ∧ cs[t]? = some c ∧ (255 : Int32) < c ∧ v = some (.int (Int32.ofNat t))) h [d] 0 0 3 #[.val (.ref a), .val (.int (Int32.ofNat i)), .val (.ref d), .val (.int (Int32.ofNat i)), .val (.int (Int32.ofNat cs.length)), .val (.int (Int32.ofNat i)), s6] [] := by
  intro j
  induction j with
  | zero =>
    intro i h s6 hi h6 hall V_a V_d ne_a_d
    have ei : i = cs.length := by omega
    subst ei
    rw [List.take_length] at hall V_d
    refine Wp.iload d12_3 (pc' := 5) rfl rfl ?_
    refine Wp.iload d12_5 (pc' := 7) rfl rfl ?_
    refine Wp.icmp_ge (pc1 := 44) (pc' := 10) d12_7 (by decide) (by decide) rfl (fun hc101 => ?_) (fun hc101 => by exact absurd hc101 Int32.lt_irrefl)
    refine Wp.iload d12_44 (pc' := 46) rfl rfl ?_
    refine Wp.retI rfl d12_46 (by decide) (by decide) ?_
    exact Or.inl ⟨rfl, hall, by simpa using V_d⟩
  | succ j ih =>
    intro i h s6 hi h6 hall V_a V_d ne_a_d
    have hin : i < cs.length := by omega
    obtain ⟨c, hc⟩ : ∃ c, cs[i]? = some c := ⟨_, List.getElem?_eq_getElem hin⟩
    refine Wp.iload d12_3 (pc' := 5) rfl rfl ?_
    refine Wp.iload d12_5 (pc' := 7) rfl rfl ?_
    refine Wp.icmp_ge (pc1 := 44) (pc' := 10) d12_7 (by decide) (by decide) rfl (fun hc101 => by exact absurd (on_lt (by omega) hin) hc101) (fun hc101 => ?_)
    refine Wp.aloadN d12_10 (pc' := 11) rfl rfl rfl ?_
    refine Wp.iloadN d12_11 (pc' := 12) rfl rfl ?_
    refine Wp.caload V_a (on_nneg (by omega)) (on_lt (by omega) hin) (v := .int c) (by rw [on_clamp (by omega)]; simp [List.getD_eq_getElem?_getD, hc]) d12_12 (pc' := 13) rfl ?_
    refine Wp.istore (l' := #[.val (.ref a), .val (.int (Int32.ofNat i)), .val (.ref d), .val (.int (Int32.ofNat i)), .val (.int (Int32.ofNat cs.length)), .val (.int (Int32.ofNat i)), .val (.int c)]) d12_13 (pc' := 15) rfl (by rcases h6 with rfl | ⟨_, rfl⟩ <;> rfl) ?_
    refine Wp.iload d12_15 (pc' := 17) rfl rfl ?_
    refine Wp.sipush (x := (255 : Int32)) d12_17 (pc' := 20) rfl rfl ?_
    refine Wp.icmp_le (pc1 := 26) (pc' := 23) d12_20 (by decide) (by decide) rfl (fun hc102 => ?_) (fun hc102 => ?_)
    · have hcc : ¬ ((255 : Int32) < c) := hc102
      refine Wp.aloadN d12_26 (pc' := 27) rfl rfl rfl ?_
      refine Wp.iloadN d12_27 (pc' := 28) rfl rfl ?_
      refine Wp.iload d12_28 (pc' := 30) rfl rfl ?_
      refine Wp.i2b d12_30 (pc' := 31) rfl ?_
      refine Wp.bastore V_d (on_nneg (by omega)) (on_lt (by omega) hin) (i := i) (on_clamp (by omega)) (by simp; omega) d12_31 (pc' := 32) rfl (Or.inl (by simp)) (Sfe.mem (by simp)) (fun h2 W2 V2 => ?_)
      replace V_a := V_a.other W2 ne_a_d
      rw [nar_lb, set_step (f := fun c => Value.int (lb c)) hc rfl] at V2
      refine Wp.iinc (l' := #[.val (.ref a), .val (.int ((Int32.ofNat i) + (1 : Int32))), .val (.ref d), .val (.int (Int32.ofNat i)), .val (.int (Int32.ofNat cs.length)), .val (.int (Int32.ofNat i)), .val (.int c)]) d12_32 (pc' := 35) rfl rfl rfl ?_
      refine Wp.iinc (l' := #[.val (.ref a), .val (.int ((Int32.ofNat i) + (1 : Int32))), .val (.ref d), .val (.int ((Int32.ofNat i) + (1 : Int32))), .val (.int (Int32.ofNat cs.length)), .val (.int (Int32.ofNat i)), .val (.int c)]) d12_35 (pc' := 38) rfl rfl rfl ?_
      refine Wp.iinc (l' := #[.val (.ref a), .val (.int ((Int32.ofNat i) + (1 : Int32))), .val (.ref d), .val (.int ((Int32.ofNat i) + (1 : Int32))), .val (.int (Int32.ofNat cs.length)), .val (.int ((Int32.ofNat i) + (1 : Int32))), .val (.int c)]) d12_38 (pc' := 41) rfl rfl rfl ?_
      refine Wp.goto (pc' := 3) d12_41 (by decide) (by decide) ?_
      rw [on_succ]
      refine ih (i + 1) h2 _ (by omega) (Or.inr ⟨c, rfl⟩) (fun x hx => ?_) V_a V2 ne_a_d
      rw [List.take_add_one, hc] at hx
      rcases List.mem_append.mp hx with hx | hx
      · exact hall x hx
      · simp at hx; subst hx; exact hcc
    · have hc102 : (255 : Int32) < c := hc102
      refine Wp.iload d12_23 (pc' := 25) rfl rfl ?_
      refine Wp.retI rfl d12_25 (by decide) (by decide) ?_
      exact Or.inr ⟨i, c, hin, hc, hc102, rfl⟩
theorem pn_java_lang_StringUTF16 : plainName "java/lang/StringUTF16" = true := by first | (simp [plainName, overriddenIn]; done) | decide +kernel
theorem ef_ctCMP5 (m : MethodId) (x0 : Addr) (x1 : Int32) (x2 : Addr) (x3 : Int32) (x4 : Int32) : entryFrame m #[(.ref x0), (.int x1), (.ref x2), (.int x3), (.int x4)] 7 = mkF m 0 #[.val (.ref x0), .val (.int x1), .val (.ref x2), .val (.int x3), .val (.int x4), .unset, .unset] [] := by first | (simp [entryFrame, mkF, argsToLocals, Value.category]; done) | rfl
set_option maxRecDepth 65536 in
set_option maxHeartbeats 40000000 in
theorem ctCMP5 (l : Launch) (Z : State) (a0 : Array Value) (hw : ∀ d ∈ tables_1, d.before a0 Z = true) (hE : EW Z a0 [("java/lang/String", 7)]) (a d : Addr) (ka kd : ClassId) (cs : List Int32) (h0 : Heap) (hO : Ext Z.heap h0) (hn : cs.length < 2147483647) (V_a : Arv Z h0 a ka .char (Int32.ofNat cs.length) (cs.map Value.int) (.int 0)) (V_d : Arv Z h0 d kd .byte (Int32.ofNat cs.length) (List.replicate cs.length (.int 0)) (.int 0)) (ne_a_d : a ≠ d) (hd0 : Z.heap.size ≤ d) :
    Ct true l Z [("java/lang/String", 7)] [] (⟨"java/lang/StringUTF16", "compress", "([CI[BII)I"⟩ : MethodName) jdk_52_method_21_code 7 (some .int) ({ frames := 0, cells := 0, slots := 0, locals := 0 } : Room) #[(.ref a), (.int (0 : Int32)), (.ref d), (.int (0 : Int32)), (.int (Int32.ofNat cs.length))] h0 [d] [d] (fun v h => (v = some (.int (Int32.ofNat cs.length)) ∧ (∀ c ∈ cs, ¬ (255 : Int32) < c) ∧ Arv Z h d kd .byte (Int32.ofNat cs.length) (cs.map fun c => Value.int (lb c)) (.int 0)) ∨ ∃ t c, t < cs.length ∧ cs[t]? = some c ∧ (255 : Int32) < c ∧ v = some (.int (Int32.ofNat t))) := by
  refine Ct.of_wp (a0 := a0) (Ls := #[.val (.ref a), .val (.int (0 : Int32)), .val (.ref d), .val (.int (0 : Int32)), .val (.int (Int32.ofNat cs.length)), .unset, .unset]) (plainFor_of_name pn_java_lang_StringUTF16) hE hO (by intro x hx; cases List.mem_singleton.mp hx; exact hd0) (fun m => ef_ctCMP5 m a (0 : Int32) d (0 : Int32) (Int32.ofNat cs.length)) ?_
  refine Wp.iconst (x := (0 : Int32)) d12_0 (pc' := 1) rfl rfl ?_
  refine Wp.istore (l' := #[.val (.ref a), .val (.int (0 : Int32)), .val (.ref d), .val (.int (0 : Int32)), .val (.int (Int32.ofNat cs.length)), .val (.int (0 : Int32)), .unset]) d12_1 (pc' := 3) rfl rfl ?_
  exact own_lpC l Z a0 hw hE a d ka kd cs hn h0 cs.length 0 h0 _ (by omega) (Or.inl rfl) (by simp) V_a (by simpa using V_d) ne_a_d
theorem d11_0 : decode jdk_52_method_16_code 0 = .ok (.iload_n 2, 1) := by decide +kernel
theorem d11_1 : decode jdk_52_method_16_code 1 = .ok (.newarray .byte, 2) := by decide +kernel
theorem d11_3 : decode jdk_52_method_16_code 3 = .ok (.astore_n 3, 1) := by decide +kernel
theorem d11_4 : decode jdk_52_method_16_code 4 = .ok (.aload_n 0, 1) := by decide +kernel
theorem d11_5 : decode jdk_52_method_16_code 5 = .ok (.iload_n 1, 1) := by decide +kernel
theorem d11_6 : decode jdk_52_method_16_code 6 = .ok (.aload_n 3, 1) := by decide +kernel
theorem d11_7 : decode jdk_52_method_16_code 7 = .ok (.iconst 0, 1) := by decide +kernel
theorem d11_8 : decode jdk_52_method_16_code 8 = .ok (.iload_n 2, 1) := by decide +kernel
theorem d11_9 : decode jdk_52_method_16_code 9 = .ok (.invokestatic 115, 3) := by decide +kernel
theorem d11_12 : decode jdk_52_method_16_code 12 = .ok (.istore 4, 2) := by decide +kernel
theorem d11_14 : decode jdk_52_method_16_code 14 = .ok (.iload 4, 2) := by decide +kernel
theorem d11_16 : decode jdk_52_method_16_code 16 = .ok (.iload_n 2, 1) := by decide +kernel
theorem d11_17 : decode jdk_52_method_16_code 17 = .ok (.if_icmp .eq 40, 3) := by decide +kernel
theorem d11_20 : decode jdk_52_method_16_code 20 = .ok (.aload_n 0, 1) := by decide +kernel
theorem d11_21 : decode jdk_52_method_16_code 21 = .ok (.iload_n 1, 1) := by decide +kernel
theorem d11_22 : decode jdk_52_method_16_code 22 = .ok (.iload_n 2, 1) := by decide +kernel
theorem d11_23 : decode jdk_52_method_16_code 23 = .ok (.invokestatic 119, 3) := by decide +kernel
theorem d11_26 : decode jdk_52_method_16_code 26 = .ok (.astore 5, 2) := by decide +kernel
theorem d11_28 : decode jdk_52_method_16_code 28 = .ok (.aload 5, 2) := by decide +kernel
theorem d11_30 : decode jdk_52_method_16_code 30 = .ok (.iload 4, 2) := by decide +kernel
theorem d11_32 : decode jdk_52_method_16_code 32 = .ok (.invokestatic 71, 3) := by decide +kernel
theorem d11_35 : decode jdk_52_method_16_code 35 = .ok (.sipush 255, 3) := by decide +kernel
theorem d11_38 : decode jdk_52_method_16_code 38 = .ok (.if_icmp .gt 16, 3) := by decide +kernel
theorem d11_41 : decode jdk_52_method_16_code 41 = .ok (.aload 5, 2) := by decide +kernel
theorem d11_43 : decode jdk_52_method_16_code 43 = .ok (.iconst 0, 1) := by decide +kernel
theorem d11_44 : decode jdk_52_method_16_code 44 = .ok (.aload_n 3, 1) := by decide +kernel
theorem d11_45 : decode jdk_52_method_16_code 45 = .ok (.iconst 0, 1) := by decide +kernel
theorem d11_46 : decode jdk_52_method_16_code 46 = .ok (.iload_n 2, 1) := by decide +kernel
theorem d11_47 : decode jdk_52_method_16_code 47 = .ok (.invokestatic 123, 3) := by decide +kernel
theorem d11_50 : decode jdk_52_method_16_code 50 = .ok (.iload_n 2, 1) := by decide +kernel
theorem d11_51 : decode jdk_52_method_16_code 51 = .ok (.if_icmp .eq 6, 3) := by decide +kernel
theorem d11_54 : decode jdk_52_method_16_code 54 = .ok (.aload 5, 2) := by decide +kernel
theorem d11_56 : decode jdk_52_method_16_code 56 = .ok (.areturn, 1) := by decide +kernel
theorem d11_57 : decode jdk_52_method_16_code 57 = .ok (.aload_n 3, 1) := by decide +kernel
theorem d11_58 : decode jdk_52_method_16_code 58 = .ok (.areturn, 1) := by decide +kernel
theorem ef_ctCMP3 (m : MethodId) (x0 : Addr) (x1 : Int32) (x2 : Int32) : entryFrame m #[(.ref x0), (.int x1), (.int x2)] 6 = mkF m 0 #[.val (.ref x0), .val (.int x1), .val (.int x2), .unset, .unset, .unset] [] := by first | (simp [entryFrame, mkF, argsToLocals, Value.category]; done) | rfl
theorem pd___CI_BII_I : parseMethodDescriptor "([CI[BII)I" = some ⟨[(.array .char), .int, (.array .byte), .int, .int], some .int⟩ := by decide +kernel
set_option maxRecDepth 65536 in
set_option maxHeartbeats 40000000 in
theorem ctCMP3 (l : Launch) (Z : State) (a0 : Array Value) (hw : ∀ d ∈ tables_1, d.before a0 Z = true) (hE : EW Z a0 [("java/lang/String", 7)]) (a : Addr) (ka : ClassId) (cs : List Int32) (h0 : Heap) (hO : Ext Z.heap h0) (hn : cs.length < 2147483647) (hcap : cs.length ≤ 2) (hl : ∀ c ∈ cs, ¬ (255 : Int32) < c) (V_a : Arv Z h0 a ka .char (Int32.ofNat cs.length) (cs.map Value.int) (.int 0)) :
    Ct true l Z [("java/lang/String", 7)] [] (⟨"java/lang/StringUTF16", "compress", "([CII)[B"⟩ : MethodName) jdk_52_method_16_code 6 (some (.array .byte)) ({ frames := 1, cells := 1, slots := 2, locals := 18 } : Room) #[(.ref a), (.int (0 : Int32)), (.int (Int32.ofNat cs.length))] h0 [] [] (fun v h => ∃ d kd, v = some (.ref d) ∧ h0.size ≤ d ∧ Arv Z h d kd .byte (Int32.ofNat cs.length) (cs.map fun c => Value.int (lb c)) (.int 0)) := by
  refine Ct.of_wp (a0 := a0) (Ls := #[.val (.ref a), .val (.int (0 : Int32)), .val (.int (Int32.ofNat cs.length)), .unset, .unset, .unset]) (plainFor_of_name pn_java_lang_StringUTF16) hE hO nofun (fun m => ef_ctCMP3 m a (0 : Int32) (Int32.ofNat cs.length)) ?_
  refine Wp.iloadN d11_0 (pc' := 1) rfl rfl ?_
  refine Wp.newP (cap := 2) (hw _ (List.mem_of_getElem? (i := 22) rfl)) (on_nneg (by omega)) (by rw [on_clamp (by omega)]; exact hcap) (by decide) d11_1 (pc' := 3) rfl (k' := 1) (n' := 2) rfl rfl (by decide) (by decide) (fun h1 b1 k_b1 g_b1 sz_b1 Xh1 V_b1 => ?_)
  have ne_a_b1 : a ≠ b1 := Nat.ne_of_lt (Nat.lt_of_lt_of_eq V_a.lt g_b1.symm)
  replace V_a := V_a.ext Xh1
  replace V_b1 := V_b1.pad (pad_rep [] (.int (0 : Int32)) cs.length)
  refine Wp.astoreN (l' := #[.val (.ref a), .val (.int (0 : Int32)), .val (.int (Int32.ofNat cs.length)), .val (.ref b1), .unset, .unset]) d11_3 (pc' := 4) rfl rfl rfl ?_
  refine Wp.aloadN d11_4 (pc' := 5) rfl rfl rfl ?_
  refine Wp.iloadN d11_5 (pc' := 6) rfl rfl ?_
  refine Wp.aloadN d11_6 (pc' := 7) rfl rfl rfl ?_
  refine Wp.iconst (x := (0 : Int32)) d11_7 (pc' := 8) rfl rfl ?_
  refine Wp.iloadN d11_8 (pc' := 9) rfl rfl ?_
  refine Wp.old fun hOc => ?_
  refine Wp.callS (W := 0) (argsL := [(.ref a), (.int (0 : Int32)), (.ref b1), (.int (0 : Int32)), (.int (Int32.ofNat cs.length))]) (rest := []) rfl (ctCMP5 l Z a0 hw hE a b1 ka k_b1 cs h1 hOc hn V_a V_b1 ne_a_b1 (Nat.le_trans hO.1 sz_b1)) (hw _ (List.mem_of_getElem? (i := 70) rfl)) (hw _ (List.mem_of_getElem? (i := 71) rfl)) (hw _ (List.mem_of_getElem? (i := 72) rfl)) (hw _ (List.mem_of_getElem? (i := 68) rfl)) (by decide) (lenOf pd___CI_BII_I rfl) d11_9 rfl rfl rfl (Nat.le_of_eq rfl) (pc' := 12) rfl (by simp) (by intro x hx; simp only [List.mem_cons, List.not_mem_nil, or_false] at hx; rcases hx with rfl; exact (Or.inr sz_b1)) (by decide) (by decide) (k' := 1) (n' := 2) rfl rfl (by decide) (by decide) (fun vh2 h2 zh2 Kh2 qh2 => ?_)
  rcases qh2 with ⟨rfl, -, V_b1⟩ | ⟨t, c, -, hc, hc2, -⟩
  rotate_left
  · exact absurd hc2 (hl c (List.mem_of_getElem? hc))
  replace V_a := V_a.keep Kh2 (ninS ne_a_b1 nin0)
  refine Wp.eqS (S' := [(.int (Int32.ofNat cs.length))]) rfl ?_
  refine Wp.istore (l' := #[.val (.ref a), .val (.int (0 : Int32)), .val (.int (Int32.ofNat cs.length)), .val (.ref b1), .val (.int (Int32.ofNat cs.length)), .unset]) d11_12 (pc' := 14) rfl rfl ?_
  refine Wp.iload d11_14 (pc' := 16) rfl rfl ?_
  refine Wp.iloadN d11_16 (pc' := 17) rfl rfl ?_
  refine Wp.icmp_eq (pc1 := 57) (pc' := 20) d11_17 (by decide) (by decide) rfl (fun hc3 => ?_) (fun hc3 => by exact absurd rfl hc3)
  refine Wp.aloadN d11_57 (pc' := 58) rfl rfl rfl ?_
  refine Wp.retA rfl rfl rfl d11_58 (by decide) (by decide) ?_
  exact ⟨_, _, rfl, sz_b1, V_b1⟩
theorem d13_0 : decode jdk_52_method_15_code 0 = .ok (.iload_n 1, 1) := by decide +kernel
theorem d13_1 : decode jdk_52_method_15_code 1 = .ok (.aload_n 0, 1) := by decide +kernel
theorem d13_2 : decode jdk_52_method_15_code 2 = .ok (.arraylength, 1) := by decide +kernel
theorem d13_3 : decode jdk_52_method_15_code 3 = .ok (.isub, 1) := by decide +kernel
theorem d13_4 : decode jdk_52_method_15_code 4 = .ok (.bipush 31, 2) := by decide +kernel
theorem d13_6 : decode jdk_52_method_15_code 6 = .ok (.iushr, 1) := by decide +kernel
theorem d13_7 : decode jdk_52_method_15_code 7 = .ok (.i2b, 1) := by decide +kernel
theorem d13_8 : decode jdk_52_method_15_code 8 = .ok (.ireturn, 1) := by decide +kernel
theorem ef_ctCFA (m : MethodId) (x0 : Addr) (x1 : Int32) : entryFrame m #[(.ref x0), (.int x1)] 2 = mkF m 0 #[.val (.ref x0), .val (.int x1)] [] := by first | (simp [entryFrame, mkF, argsToLocals, Value.category]; done) | rfl
set_option maxRecDepth 65536 in
set_option maxHeartbeats 40000000 in
theorem ctCFA (l : Launch) (Z : State) (a0 : Array Value) (hw : ∀ d ∈ tables_1, d.before a0 Z = true) (hE : EW Z a0 [("java/lang/String", 7)]) (d : Addr) (kd : ClassId) (z : Int32) (vs : List Value) (h0 : Heap) (hO : Ext Z.heap h0) (V_d : Arv Z h0 d kd .byte z vs (.int 0)) :
    Ct true l Z [("java/lang/String", 7)] [] (⟨"java/lang/StringUTF16", "coderFromArrayLen", "([BI)B"⟩ : MethodName) jdk_52_method_15_code 2 (some .byte) ({ frames := 0, cells := 0, slots := 0, locals := 0 } : Room) #[(.ref d), (.int z)] h0 [] [] (fun v h => v = some (.int 0)) := by
  refine Ct.of_wp (a0 := a0) (Ls := #[.val (.ref d), .val (.int z)]) (plainFor_of_name pn_java_lang_StringUTF16) hE hO nofun (fun m => ef_ctCFA m d z) ?_
  refine Wp.iloadN d13_0 (pc' := 1) rfl rfl ?_
  refine Wp.aloadN d13_1 (pc' := 2) rfl rfl rfl ?_
  refine Wp.alen V_d d13_2 (pc' := 3) rfl ?_
  refine Wp.isub d13_3 (pc' := 4) rfl ?_
  refine Wp.bipush (x := (31 : Int32)) d13_4 (pc' := 6) rfl rfl ?_
  refine Wp.iushr d13_6 (pc' := 7) rfl ?_
  refine Wp.i2b d13_7 (pc' := 8) rfl ?_
  refine Wp.retN (t := .byte) rfl (by simp) rfl d13_8 (by decide) (by decide) ?_
  rw [Int32.sub_self]; rfl
theorem d3_0 : decode jdk_42_method_149_code 0 = .ok (.aload_n 0, 1) := by decide +kernel
theorem d3_1 : decode jdk_42_method_149_code 1 = .ok (.invokespecial 1, 3) := by decide +kernel
theorem d3_4 : decode jdk_42_method_149_code 4 = .ok (.iload_n 3, 1) := by decide +kernel
theorem d3_5 : decode jdk_42_method_149_code 5 = .ok (.ifCond .ne 22, 3) := by decide +kernel
theorem d3_8 : decode jdk_42_method_149_code 8 = .ok (.aload_n 0, 1) := by decide +kernel
theorem d3_9 : decode jdk_42_method_149_code 9 = .ok (.ldc 7, 2) := by decide +kernel
theorem d3_11 : decode jdk_42_method_149_code 11 = .ok (.getfield 9, 3) := by decide +kernel
theorem d3_14 : decode jdk_42_method_149_code 14 = .ok (.putfield 9, 3) := by decide +kernel
theorem d3_17 : decode jdk_42_method_149_code 17 = .ok (.aload_n 0, 1) := by decide +kernel
theorem d3_18 : decode jdk_42_method_149_code 18 = .ok (.ldc 7, 2) := by decide +kernel
theorem d3_20 : decode jdk_42_method_149_code 20 = .ok (.getfield 15, 3) := by decide +kernel
theorem d3_23 : decode jdk_42_method_149_code 23 = .ok (.putfield 15, 3) := by decide +kernel
theorem d3_26 : decode jdk_42_method_149_code 26 = .ok (.return_, 1) := by decide +kernel
theorem d3_27 : decode jdk_42_method_149_code 27 = .ok (.getstatic 38, 3) := by decide +kernel
theorem d3_30 : decode jdk_42_method_149_code 30 = .ok (.ifCond .eq 28, 3) := by decide +kernel
theorem d3_33 : decode jdk_42_method_149_code 33 = .ok (.aload_n 1, 1) := by decide +kernel
theorem d3_34 : decode jdk_42_method_149_code 34 = .ok (.iload_n 2, 1) := by decide +kernel
theorem d3_35 : decode jdk_42_method_149_code 35 = .ok (.iload_n 3, 1) := by decide +kernel
theorem d3_36 : decode jdk_42_method_149_code 36 = .ok (.invokestatic 177, 3) := by decide +kernel
theorem d3_39 : decode jdk_42_method_149_code 39 = .ok (.astore 5, 2) := by decide +kernel
theorem d3_41 : decode jdk_42_method_149_code 41 = .ok (.aload_n 0, 1) := by decide +kernel
theorem d3_42 : decode jdk_42_method_149_code 42 = .ok (.aload 5, 2) := by decide +kernel
theorem d3_44 : decode jdk_42_method_149_code 44 = .ok (.iload_n 3, 1) := by decide +kernel
theorem d3_45 : decode jdk_42_method_149_code 45 = .ok (.invokestatic 47, 3) := by decide +kernel
theorem d3_48 : decode jdk_42_method_149_code 48 = .ok (.putfield 15, 3) := by decide +kernel
theorem d3_51 : decode jdk_42_method_149_code 51 = .ok (.aload_n 0, 1) := by decide +kernel
theorem d3_52 : decode jdk_42_method_149_code 52 = .ok (.aload 5, 2) := by decide +kernel
theorem d3_54 : decode jdk_42_method_149_code 54 = .ok (.putfield 9, 3) := by decide +kernel
theorem d3_57 : decode jdk_42_method_149_code 57 = .ok (.return_, 1) := by decide +kernel
theorem d3_58 : decode jdk_42_method_149_code 58 = .ok (.aload_n 0, 1) := by decide +kernel
theorem d3_59 : decode jdk_42_method_149_code 59 = .ok (.iconst 1, 1) := by decide +kernel
theorem d3_60 : decode jdk_42_method_149_code 60 = .ok (.putfield 15, 3) := by decide +kernel
theorem d3_63 : decode jdk_42_method_149_code 63 = .ok (.aload_n 0, 1) := by decide +kernel
theorem d3_64 : decode jdk_42_method_149_code 64 = .ok (.aload_n 1, 1) := by decide +kernel
theorem d3_65 : decode jdk_42_method_149_code 65 = .ok (.iload_n 2, 1) := by decide +kernel
theorem d3_66 : decode jdk_42_method_149_code 66 = .ok (.iload_n 3, 1) := by decide +kernel
theorem d3_67 : decode jdk_42_method_149_code 67 = .ok (.invokestatic 180, 3) := by decide +kernel
theorem d3_70 : decode jdk_42_method_149_code 70 = .ok (.putfield 9, 3) := by decide +kernel
theorem d3_73 : decode jdk_42_method_149_code 73 = .ok (.return_, 1) := by decide +kernel
theorem pn_java_lang_String : plainName "java/lang/String" = true := by first | (simp [plainName, overriddenIn]; done) | decide +kernel
theorem ef_ctSI4 (m : MethodId) (x0 : Addr) (x1 : Addr) (x2 : Int32) (x3 : Int32) : entryFrame m #[(.ref x0), (.ref x1), (.int x2), (.int x3), .null] 6 = mkF m 0 #[.val (.ref x0), .val (.ref x1), .val (.int x2), .val (.int x3), .val .null, .unset] [] := by first | (simp [entryFrame, mkF, argsToLocals, Value.category]; done) | rfl
theorem pd___CII__B : parseMethodDescriptor "([CII)[B" = some ⟨[(.array .char), .int, .int], some (.array .byte)⟩ := by decide +kernel
theorem pd___BI_B : parseMethodDescriptor "([BI)B" = some ⟨[(.array .byte), .int], some .byte⟩ := by decide +kernel
set_option maxRecDepth 65536 in
set_option maxHeartbeats 40000000 in
theorem ctSI4 (l : Launch) (Z : State) (a0 : Array Value) (hw : ∀ d ∈ tables_1, d.before a0 Z = true) (hE : EW Z a0 [("java/lang/String", 7)]) (s a : Addr) (ka : ClassId) (cs : List Int32) (cz : Int32) (h0 : Heap) (hO : Ext Z.heap h0) (hn : cs.length < 2147483647) (hcap : cs.length ≤ 2) (hl : ∀ c ∈ cs, ¬ (255 : Int32) < c) (V_a : Arv Z h0 a ka .char (Int32.ofNat cs.length) (cs.map Value.int) (.int 0)) (E_s : Exa Z h0 s "java/lang/String") (F_v : Fld Z h0 s "java/lang/String" "value" "[B" .null) (F_c : Fld Z h0 s "java/lang/String" "coder" "B" (.int 0)) (hs0 : Z.heap.size ≤ s) (ne_a_s : a ≠ s) (hco : Sta Z Z.heap "java/lang/String" "COMPACT_STRINGS" "Z" (.int cz)) (hcz : ¬ cz = 0) :
    Ct true l Z [("java/lang/String", 7)] [] (⟨"java/lang/String", "<init>", "([CIILjava/lang/Void;)V"⟩ : MethodName) jdk_42_method_149_code 6 none ({ frames := 2, cells := 4, slots := 8, locals := 36 } : Room) #[(.ref s), (.ref a), (.int (0 : Int32)), (.int (Int32.ofNat cs.length)), .null] h0 [s] [s] (fun v h => v = none ∧ SL Z h s (cs.map lb)) := by
  refine Ct.of_wp (a0 := a0) (Ls := #[.val (.ref s), .val (.ref a), .val (.int (0 : Int32)), .val (.int (Int32.ofNat cs.length)), .val .null, .unset]) (plainFor_of_name pn_java_lang_String) hE hO (by intro x hx; cases List.mem_singleton.mp hx; exact hs0) (fun m => ef_ctSI4 m s a (0 : Int32) (Int32.ofNat cs.length)) ?_
  have ne_a_s := ne_a_s
  refine Wp.aloadN d3_0 (pc' := 1) rfl rfl rfl ?_
  refine Wp.initO (W := 0) rfl (hw _ (List.mem_of_getElem? (i := 18) rfl)) (hw _ (List.mem_of_getElem? (i := 19) rfl)) (hw _ (List.mem_of_getElem? (i := 20) rfl)) d3_1 (pc' := 4) rfl rfl (by decide) (Nat.le_of_eq rfl) (by decide) ?_
  refine Wp.iloadN d3_4 (pc' := 5) rfl rfl ?_
  refine Wp.if_ne (pc1 := 27) (pc' := 8) d3_5 (by decide) (by decide) rfl (fun hc1 => ?_) (fun hc1 => ?_)
  · have hc1 : ¬ ((Int32.ofNat cs.length) = (0 : Int32)) := hc1
    refine Wp.getS rfl (host := "") (Or.inl (hw _ (List.mem_of_getElem? (i := 61) rfl))) Via.refl hco d3_27 (pc' := 30) rfl ?_
    refine Wp.if_eq (pc1 := 58) (pc' := 33) d3_30 (by decide) (by decide) rfl (fun hc2 => by exact absurd hc2 hcz) (fun hc2 => ?_)
    refine Wp.aloadN d3_33 (pc' := 34) rfl rfl rfl ?_
    refine Wp.iloadN d3_34 (pc' := 35) rfl rfl ?_
    refine Wp.iloadN d3_35 (pc' := 36) rfl rfl ?_
    refine Wp.old fun hOc => ?_
    refine Wp.callS (W := 0) (argsL := [(.ref a), (.int (0 : Int32)), (.int (Int32.ofNat cs.length))]) (rest := []) rfl (ctCMP3 l Z a0 hw hE a ka cs h0 hOc hn hcap hl V_a) (hw _ (List.mem_of_getElem? (i := 66) rfl)) (hw _ (List.mem_of_getElem? (i := 67) rfl)) (hw _ (List.mem_of_getElem? (i := 69) rfl)) (hw _ (List.mem_of_getElem? (i := 68) rfl)) (by decide) (lenOf pd___CII__B rfl) d3_36 rfl rfl rfl (Nat.le_of_eq rfl) (pc' := 39) rfl nofun nofun (by decide) (by decide) (k' := 1) (n' := 2) rfl rfl (by decide) (by decide) (fun vh3 h3 zh3 Kh3 qh3 => ?_)
    obtain ⟨d, kd, rfl, sb_d, V_d⟩ := qh3
    have ne_a_d : a ≠ d := Nat.ne_of_lt (Nat.lt_of_lt_of_le V_a.lt sb_d)
    have ne_s_d : s ≠ d := Nat.ne_of_lt (Nat.lt_of_lt_of_le E_s.lt sb_d)
    replace V_a := V_a.keep Kh3 nin0
    replace E_s := E_s.keep Kh3
    replace F_v := F_v.keep Kh3 nin0
    replace F_c := F_c.keep Kh3 nin0
    refine Wp.eqS (S' := [(.ref d)]) rfl ?_
    have sz_d : h0.size ≤ d := Nat.le_trans zh3 sb_d
    refine Wp.astore (l' := #[.val (.ref s), .val (.ref a), .val (.int (0 : Int32)), .val (.int (Int32.ofNat cs.length)), .val .null, .val (.ref d)]) d3_39 (pc' := 41) rfl rfl rfl ?_
    refine Wp.aloadN d3_41 (pc' := 42) rfl rfl rfl ?_
    refine Wp.aload d3_42 (pc' := 44) rfl rfl rfl ?_
    refine Wp.iloadN d3_44 (pc' := 45) rfl rfl ?_
    refine Wp.old fun hOc => ?_
    refine Wp.callS (W := 1) (argsL := [(.ref d), (.int (Int32.ofNat cs.length))]) (rest := [(.ref s)]) rfl (ctCFA l Z a0 hw hE d kd _ _ h3 hOc V_d) (hw _ (List.mem_of_getElem? (i := 73) rfl)) (hw _ (List.mem_of_getElem? (i := 74) rfl)) (hw _ (List.mem_of_getElem? (i := 75) rfl)) (hw _ (List.mem_of_getElem? (i := 68) rfl)) (by decide) (lenOf pd___BI_B rfl) d3_45 rfl rfl rfl (Nat.le_of_eq rfl) (pc' := 48) rfl nofun nofun (by decide) (by decide) (k' := 1) (n' := 2) rfl rfl (by decide) (by decide) (fun vh4 h4 zh4 Kh4 qh4 => ?_)
    obtain rfl := qh4
    replace V_a := V_a.keep Kh4 nin0
    replace E_s := E_s.keep Kh4
    replace F_v := F_v.keep Kh4 nin0
    replace F_c := F_c.keep Kh4 nin0
    replace V_d := V_d.keep Kh4 nin0
    refine Wp.eqS (S' := [(.int (0 : Int32)), (.ref s)]) rfl ?_
    refine Wp.putFN rfl (hw _ (List.mem_of_getElem? (i := 28) rfl)) Via.refl F_c E_s (Or.inr ⟨(hw _ (List.mem_of_getElem? (i := 24) rfl)), rfl, rfl⟩) (hw _ (List.mem_of_getElem? (i := 9) rfl)) (ty := .byte) (v' := .int (0 : Int32)) (by decide) rfl rfl d3_48 (pc' := 51) rfl (Or.inl (by simp)) (Sfe.mem (by simp)) (fun h5 W5 Fh5 => ?_)
    replace V_a := V_a.other W5 (by omega : a ≠ s)
    replace E_s := E_s.wr W5
    replace F_v := F_v.other W5 (Or.inr (slot_ne (Or.inr (hw _ (List.mem_of_getElem? (i := 23) rfl))) (Or.inr (hw _ (List.mem_of_getElem? (i := 24) rfl))) (by decide) (t := (.array .byte)) (t' := .byte) (by decide) (by decide)))
    replace V_d := V_d.other W5 (Ne.symm ne_s_d)
    replace F_c := Fh5
    refine Wp.aloadN d3_51 (pc' := 52) rfl rfl rfl ?_
    refine Wp.aload d3_52 (pc' := 54) rfl rfl rfl ?_
    refine Wp.putF rfl (host := "") (Or.inl (hw _ (List.mem_of_getElem? (i := 27) rfl))) Via.refl F_v E_s (Or.inr ⟨(hw _ (List.mem_of_getElem? (i := 23) rfl)), rfl, rfl⟩) (hw _ (List.mem_of_getElem? (i := 9) rfl)) (ty := (.array .byte)) (by decide) rfl rfl d3_54 (pc' := 57) rfl (Or.inl (by simp)) (Sfe.mem (by simp)) (fun h6 W6 Fh6 => ?_)
    replace V_a := V_a.other W6 (by omega : a ≠ s)
    replace E_s := E_s.wr W6
    replace F_c := F_c.other W6 (Or.inr (slot_ne (Or.inr (hw _ (List.mem_of_getElem? (i := 24) rfl))) (Or.inr (hw _ (List.mem_of_getElem? (i := 23) rfl))) (by decide) (t := .byte) (t' := (.array .byte)) (by decide) (by decide)))
    replace V_d := V_d.other W6 (Ne.symm ne_s_d)
    replace F_v := Fh6
    refine Wp.retn rfl d3_57 (by decide) (by decide) ?_
    exact ⟨rfl, E_s, F_c, _, _, F_v, by simpa [Function.comp_def] using V_d⟩
  · have hc1 : (Int32.ofNat cs.length) = (0 : Int32) := hc1
    refine Wp.aloadN d3_8 (pc' := 9) rfl rfl rfl ?_
    refine Wp.ldcC (nn := 0) (vs := []) (z := (0 : Int32)) rfl rfl (hw _ (List.mem_of_getElem? (i := 21) rfl)) (own_wS hw) (by simp) ⟨by simp, rfl⟩ (by decide) rfl d3_9 (pc' := 11) rfl (by decide) (by decide) (k' := 2) (n' := 4) rfl rfl (by decide) (by decide) (fun h7 y7 z7 k_z7 Xh7 E_y7 C_y7 Fv_y7 V_z7 N_y7 => ?_)
    replace V_a := V_a.ext Xh7
    replace E_s := E_s.ext Xh7
    replace F_v := F_v.ext Xh7
    replace F_c := F_c.ext Xh7
    have ne_s_y7 : s ≠ y7 := (N_y7 s (by simp)).1
    have ne_s_z7 : s ≠ z7 := (N_y7 s (by simp)).2
    refine Wp.getF rfl (host := "") (Or.inl (hw _ (List.mem_of_getElem? (i := 27) rfl))) Via.refl Fv_y7 d3_11 (pc' := 14) rfl ?_
    refine Wp.putF rfl (host := "") (Or.inl (hw _ (List.mem_of_getElem? (i := 27) rfl))) Via.refl F_v E_s (Or.inr ⟨(hw _ (List.mem_of_getElem? (i := 23) rfl)), rfl, rfl⟩) (hw _ (List.mem_of_getElem? (i := 9) rfl)) (ty := (.array .byte)) (by decide) rfl rfl d3_14 (pc' := 17) rfl (Or.inl (by simp)) (Sfe.mem (by simp)) (fun h8 W8 Fh8 => ?_)
    replace V_a := V_a.other W8 (by omega : a ≠ s)
    replace E_s := E_s.wr W8
    replace F_c := F_c.other W8 (Or.inr (slot_ne (Or.inr (hw _ (List.mem_of_getElem? (i := 24) rfl))) (Or.inr (hw _ (List.mem_of_getElem? (i := 23) rfl))) (by decide) (t := .byte) (t' := (.array .byte)) (by decide) (by decide)))
    replace E_y7 := E_y7.wr W8
    replace C_y7 := C_y7.other W8 (Or.inl (Ne.symm ne_s_y7))
    replace Fv_y7 := Fv_y7.other W8 (Or.inl (Ne.symm ne_s_y7))
    replace V_z7 := V_z7.other W8 (Ne.symm ne_s_z7)
    replace F_v := Fh8
    refine Wp.aloadN d3_17 (pc' := 18) rfl rfl rfl ?_
    refine Wp.ldcC (nn := 0) (vs := []) (z := (0 : Int32)) rfl rfl (hw _ (List.mem_of_getElem? (i := 21) rfl)) (own_wS hw) (by simp) ⟨by simp, rfl⟩ (by decide) rfl d3_18 (pc' := 20) rfl (by decide) (by decide) (k' := 4) (n' := 8) rfl rfl (by decide) (by decide) (fun h9 y9 z9 k_z9 Xh9 E_y9 C_y9 Fv_y9 V_z9 N_y9 => ?_)
    replace V_a := V_a.ext Xh9
    replace E_s := E_s.ext Xh9
    replace F_v := F_v.ext Xh9
    replace F_c := F_c.ext Xh9
    replace E_y7 := E_y7.ext Xh9
    replace C_y7 := C_y7.ext Xh9
    replace Fv_y7 := Fv_y7.ext Xh9
    replace V_z7 := V_z7.ext Xh9
    have ne_s_y9 : s ≠ y9 := (N_y9 s (by simp)).1
    have ne_s_z9 : s ≠ z9 := (N_y9 s (by simp)).2
    refine Wp.getF rfl (host := "") (Or.inl (hw _ (List.mem_of_getElem? (i := 28) rfl))) Via.refl C_y9 d3_20 (pc' := 23) rfl ?_
    refine Wp.putFN rfl (hw _ (List.mem_of_getElem? (i := 28) rfl)) Via.refl F_c E_s (Or.inr ⟨(hw _ (List.mem_of_getElem? (i := 24) rfl)), rfl, rfl⟩) (hw _ (List.mem_of_getElem? (i := 9) rfl)) (ty := .byte) (v' := .int (0 : Int32)) (by decide) rfl rfl d3_23 (pc' := 26) rfl (Or.inl (by simp)) (Sfe.mem (by simp)) (fun h10 W10 Fh10 => ?_)
    replace V_a := V_a.other W10 (by omega : a ≠ s)
    replace E_s := E_s.wr W10
    replace F_v := F_v.other W10 (Or.inr (slot_ne (Or.inr (hw _ (List.mem_of_getElem? (i := 23) rfl))) (Or.inr (hw _ (List.mem_of_getElem? (i := 24) rfl))) (by decide) (t := (.array .byte)) (t' := .byte) (by decide) (by decide)))
    replace E_y7 := E_y7.wr W10
    replace C_y7 := C_y7.other W10 (Or.inl (Ne.symm ne_s_y7))
    replace Fv_y7 := Fv_y7.other W10 (Or.inl (Ne.symm ne_s_y7))
    replace V_z7 := V_z7.other W10 (Ne.symm ne_s_z7)
    replace E_y9 := E_y9.wr W10
    replace C_y9 := C_y9.other W10 (Or.inl (Ne.symm ne_s_y9))
    replace Fv_y9 := Fv_y9.other W10 (Or.inl (Ne.symm ne_s_y9))
    replace V_z9 := V_z9.other W10 (Ne.symm ne_s_z9)
    replace F_c := Fh10
    refine Wp.retn rfl d3_26 (by decide) (by decide) ?_
    have e0 : cs = [] := by
      have := (on_eq (by omega) (by decide)).mp (show Int32.ofNat cs.length = Int32.ofNat 0 from hc1)
      exact List.eq_nil_of_length_eq_zero this
    subst e0
    exact ⟨rfl, E_s, F_c, _, _, F_v, V_z7⟩
theorem d2_0 : decode jdk_42_method_3_code 0 = .ok (.aload_n 0, 1) := by decide +kernel
theorem d2_1 : decode jdk_42_method_3_code 1 = .ok (.aload_n 1, 1) := by decide +kernel
theorem d2_2 : decode jdk_42_method_3_code 2 = .ok (.iconst 0, 1) := by decide +kernel
theorem d2_3 : decode jdk_42_method_3_code 3 = .ok (.aload_n 1, 1) := by decide +kernel
theorem d2_4 : decode jdk_42_method_3_code 4 = .ok (.arraylength, 1) := by decide +kernel
theorem d2_5 : decode jdk_42_method_3_code 5 = .ok (.aconst_null, 1) := by decide +kernel
theorem d2_6 : decode jdk_42_method_3_code 6 = .ok (.invokespecial 27, 3) := by decide +kernel
theorem d2_9 : decode jdk_42_method_3_code 9 = .ok (.return_, 1) := by decide +kernel
theorem ef_ctSI (m : MethodId) (x0 : Addr) (x1 : Addr) : entryFrame m #[(.ref x0), (.ref x1)] 2 = mkF m 0 #[.val (.ref x0), .val (.ref x1)] [] := by first | (simp [entryFrame, mkF, argsToLocals, Value.category]; done) | rfl
theorem pd___CIILjava_lang_Void__V : parseMethodDescriptor "([CIILjava/lang/Void;)V" = some ⟨[(.array .char), .int, .int, (.object "java/lang/Void")], none⟩ := by decide +kernel
set_option maxRecDepth 65536 in
set_option maxHeartbeats 40000000 in
theorem ctSI (l : Launch) (Z : State) (a0 : Array Value) (hw : ∀ d ∈ tables_1, d.before a0 Z = true) (hE : EW Z a0 [("java/lang/String", 7)]) (s a : Addr) (ka : ClassId) (cs : List Int32) (cz : Int32) (h0 : Heap) (hO : Ext Z.heap h0) (hn : cs.length < 2147483647) (hcap : cs.length ≤ 2) (hl : ∀ c ∈ cs, ¬ (255 : Int32) < c) (V_a : Arv Z h0 a ka .char (Int32.ofNat cs.length) (cs.map Value.int) (.int 0)) (E_s : Exa Z h0 s "java/lang/String") (F_v : Fld Z h0 s "java/lang/String" "value" "[B" .null) (F_c : Fld Z h0 s "java/lang/String" "coder" "B" (.int 0)) (hs0 : Z.heap.size ≤ s) (ne_a_s : a ≠ s) (hco : Sta Z Z.heap "java/lang/String" "COMPACT_STRINGS" "Z" (.int cz)) (hcz : ¬ cz = 0) :
    Ct true l Z [("java/lang/String", 7)] [] (⟨"java/lang/String", "<init>", "([C)V"⟩ : MethodName) jdk_42_method_3_code 2 none ({ frames := 3, cells := 4, slots := 8, locals := 53 } : Room) #[(.ref s), (.ref a)] h0 [s] [s] (fun v h => v = none ∧ SL Z h s (cs.map lb)) := by
  refine Ct.of_wp (a0 := a0) (Ls := #[.val (.ref s), .val (.ref a)]) (plainFor_of_name pn_java_lang_String) hE hO (by intro x hx; cases List.mem_singleton.mp hx; exact hs0) (fun m => ef_ctSI m s a) ?_
  refine Wp.aloadN d2_0 (pc' := 1) rfl rfl rfl ?_
  refine Wp.aloadN d2_1 (pc' := 2) rfl rfl rfl ?_
  refine Wp.iconst (x := (0 : Int32)) d2_2 (pc' := 3) rfl rfl ?_
  refine Wp.aloadN d2_3 (pc' := 4) rfl rfl rfl ?_
  refine Wp.alen V_a d2_4 (pc' := 5) rfl ?_
  refine Wp.aconstNull d2_5 (pc' := 6) rfl ?_
  refine Wp.old fun hOc => ?_
  refine Wp.callI (a := s) (W := 0) (argsL := [(.ref a), (.int (0 : Int32)), (.int (Int32.ofNat cs.length)), .null]) (rest := []) rfl (ctSI4 l Z a0 hw hE s a ka cs cz h0 hOc hn hcap hl V_a E_s F_v F_c hs0 ne_a_s hco hcz) rfl rfl (hw _ (List.mem_of_getElem? (i := 14) rfl)) (hw _ (List.mem_of_getElem? (i := 15) rfl)) (hw _ (List.mem_of_getElem? (i := 17) rfl)) (hw _ (List.mem_of_getElem? (i := 10) rfl)) (by decide) (lenOf pd___CIILjava_lang_Void__V rfl) d2_6 rfl rfl rfl (Nat.le_of_eq rfl) (pc' := 9) rfl (by simp) (by intro x hx; simp only [List.mem_cons, List.not_mem_nil, or_false] at hx; rcases hx with rfl; exact (Or.inl (by simp))) (by decide) (by decide) (k' := 4) (n' := 8) rfl rfl (by decide) (by decide) (fun vh1 h1 zh1 Kh1 qh1 => ?_)
  obtain ⟨rfl, S_s⟩ := qh1
  replace V_a := V_a.keep Kh1 (ninS (by omega : a ≠ s) nin0)
  replace E_s := E_s.keep Kh1
  refine Wp.eqS (S' := []) rfl ?_
  refine Wp.retn rfl d2_9 (by decide) (by decide) ?_
  exact ⟨rfl, S_s⟩
theorem d10_0 : decode jdk_43_method_13_code 0 = .ok (.aload_n 0, 1) := by decide +kernel
theorem d10_1 : decode jdk_43_method_13_code 1 = .ok (.arraylength, 1) := by decide +kernel
theorem d10_2 : decode jdk_43_method_13_code 2 = .ok (.aload_n 1, 1) := by decide +kernel
theorem d10_3 : decode jdk_43_method_13_code 3 = .ok (.arraylength, 1) := by decide +kernel
theorem d10_4 : decode jdk_43_method_13_code 4 = .ok (.if_icmp .ne 30, 3) := by decide +kernel
theorem d10_7 : decode jdk_43_method_13_code 7 = .ok (.iconst 0, 1) := by decide +kernel
theorem d10_8 : decode jdk_43_method_13_code 8 = .ok (.istore_n 2, 1) := by decide +kernel
theorem d10_9 : decode jdk_43_method_13_code 9 = .ok (.iload_n 2, 1) := by decide +kernel
theorem d10_10 : decode jdk_43_method_13_code 10 = .ok (.aload_n 0, 1) := by decide +kernel
theorem d10_11 : decode jdk_43_method_13_code 11 = .ok (.arraylength, 1) := by decide +kernel
theorem d10_12 : decode jdk_43_method_13_code 12 = .ok (.if_icmp .ge 20, 3) := by decide +kernel
theorem d10_15 : decode jdk_43_method_13_code 15 = .ok (.aload_n 0, 1) := by decide +kernel
theorem d10_16 : decode jdk_43_method_13_code 16 = .ok (.iload_n 2, 1) := by decide +kernel
theorem d10_17 : decode jdk_43_method_13_code 17 = .ok (.baload, 1) := by decide +kernel
theorem d10_18 : decode jdk_43_method_13_code 18 = .ok (.aload_n 1, 1) := by decide +kernel
theorem d10_19 : decode jdk_43_method_13_code 19 = .ok (.iload_n 2, 1) := by decide +kernel
theorem d10_20 : decode jdk_43_method_13_code 20 = .ok (.baload, 1) := by decide +kernel
theorem d10_21 : decode jdk_43_method_13_code 21 = .ok (.if_icmp .eq 5, 3) := by decide +kernel
theorem d10_24 : decode jdk_43_method_13_code 24 = .ok (.iconst 0, 1) := by decide +kernel
theorem d10_25 : decode jdk_43_method_13_code 25 = .ok (.ireturn, 1) := by decide +kernel
theorem d10_26 : decode jdk_43_method_13_code 26 = .ok (.iinc 2 1, 3) := by decide +kernel
theorem d10_29 : decode jdk_43_method_13_code 29 = .ok (.goto (-20), 3) := by decide +kernel
theorem d10_32 : decode jdk_43_method_13_code 32 = .ok (.iconst 1, 1) := by decide +kernel
theorem d10_33 : decode jdk_43_method_13_code 33 = .ok (.ireturn, 1) := by decide +kernel
theorem d10_34 : decode jdk_43_method_13_code 34 = .ok (.iconst 0, 1) := by decide +kernel
theorem d10_35 : decode jdk_43_method_13_code 35 = .ok (.ireturn, 1) := by decide +kernel
set_option maxRecDepth 65536 in
set_option maxHeartbeats 40000000 in
theorem own_lpE (l : Launch) (Z : State) (a0 : Array Value) (hw : ∀ d ∈ tables_1, d.before a0 Z = true) (hE : EW Z a0 [("java/lang/String", 7)]) (a b : Addr) (ka kb : ClassId) (xs ys : List Int32) (hn : xs.length < 2147483647) (hl : xs.length = ys.length) (hs h : Heap) (V_a : Arv Z h a ka .byte (Int32.ofNat xs.length) (xs.map Value.int) (.int 0)) (V_b : Arv Z h b kb .byte (Int32.ofNat ys.length) (ys.map Value.int) (.int 0)) :
    ∀ (j i : Nat), i + j = xs.length → xs.take i = ys.take i →
      Wp true l Z a0 [("java/lang/String", 7)] ({ frames := 0, cells := 0, slots := 0, locals := 0 } : Room) (⟨"java/lang/StringLatin1", "equals", "([B[B)Z"⟩ : MethodName) jdk_43_method_13_code 3 (some .boolean) hs [] (fun v h => v = some (.int (if xs = ys then 1 else 0))) h [] 0 0 9 #[.val (.ref a), .val (.ref b), .val (.int (Int32.ofNat i))] [] := by
  intro j
  induction j with
  | zero =>
    intro i hi hall
    have ei : i = xs.length := by omega
    subst ei
    have exy := all_take hl hall
    refine Wp.iloadN d10_9 (pc' := 10) rfl rfl ?_
    refine Wp.aloadN d10_10 (pc' := 11) rfl rfl rfl ?_
    refine Wp.alen V_a d10_11 (pc' := 12) rfl ?_
    refine Wp.icmp_ge (pc1 := 32) (pc' := 15) d10_12 (by decide) (by decide) rfl (fun hc101 => ?_) (fun hc101 => by exact absurd hc101 Int32.lt_irrefl)
    refine Wp.iconst (x := (1 : Int32)) d10_32 (pc' := 33) rfl rfl ?_
    refine Wp.retN (x' := (1 : Int32)) (t := .boolean) rfl (by simp) rfl d10_33 (by decide) (by decide) ?_
    rw [if_pos exy]
  | succ j ih =>
    intro i hi hall
    have hin : i < xs.length := by omega
    obtain ⟨x, hx⟩ : ∃ x, xs[i]? = some x := ⟨_, List.getElem?_eq_getElem hin⟩
    obtain ⟨y, hy⟩ : ∃ y, ys[i]? = some y := ⟨_, List.getElem?_eq_getElem (hl ▸ hin)⟩
    refine Wp.iloadN d10_9 (pc' := 10) rfl rfl ?_
    refine Wp.aloadN d10_10 (pc' := 11) rfl rfl rfl ?_
    refine Wp.alen V_a d10_11 (pc' := 12) rfl ?_
    refine Wp.icmp_ge (pc1 := 32) (pc' := 15) d10_12 (by decide) (by decide) rfl (fun hc101 => by exact absurd (on_lt (by omega) hin) hc101) (fun hc101 => ?_)
    refine Wp.aloadN d10_15 (pc' := 16) rfl rfl rfl ?_
    refine Wp.iloadN d10_16 (pc' := 17) rfl rfl ?_
    refine Wp.baload V_a (on_nneg (by omega)) (on_lt (by omega) hin) (v := .int x) (by rw [on_clamp (by omega)]; simp [List.getD_eq_getElem?_getD, hx]) d10_17 (pc' := 18) rfl ?_
    refine Wp.aloadN d10_18 (pc' := 19) rfl rfl rfl ?_
    refine Wp.iloadN d10_19 (pc' := 20) rfl rfl ?_
    refine Wp.baload V_b (on_nneg (by omega)) (on_lt (by omega) (hl ▸ hin)) (v := .int y) (by rw [on_clamp (by omega)]; simp [List.getD_eq_getElem?_getD, hy]) d10_20 (pc' := 21) rfl ?_
    refine Wp.icmp_eq (pc1 := 26) (pc' := 24) d10_21 (by decide) (by decide) rfl (fun hc102 => ?_) (fun hc102 => ?_)
    · have hc102 : x = y := hc102
      refine Wp.iinc (l' := #[.val (.ref a), .val (.ref b), .val (.int ((Int32.ofNat i) + (1 : Int32)))]) d10_26 (pc' := 29) rfl rfl rfl ?_
      refine Wp.goto (pc' := 9) d10_29 (by decide) (by decide) ?_
      rw [on_succ]
      exact ih (i + 1) (by omega) ((take_step hx hy hall).mpr hc102)
    · have hc102 : ¬ (x = y) := hc102
      refine Wp.iconst (x := (0 : Int32)) d10_24 (pc' := 25) rfl rfl ?_
      refine Wp.retN (x' := (0 : Int32)) (t := .boolean) rfl (by simp) rfl d10_25 (by decide) (by decide) ?_
      rw [if_neg (ne_at hx hy hc102)]
theorem pn_java_lang_StringLatin1 : plainName "java/lang/StringLatin1" = true := by first | (simp [plainName, overriddenIn]; done) | decide +kernel
theorem ef_ctLEQ (m : MethodId) (x0 : Addr) (x1 : Addr) : entryFrame m #[(.ref x0), (.ref x1)] 3 = mkF m 0 #[.val (.ref x0), .val (.ref x1), .unset] [] := by first | (simp [entryFrame, mkF, argsToLocals, Value.category]; done) | rfl
set_option maxRecDepth 65536 in
set_option maxHeartbeats 40000000 in
theorem ctLEQ (l : Launch) (Z : State) (a0 : Array Value) (hw : ∀ d ∈ tables_1, d.before a0 Z = true) (hE : EW Z a0 [("java/lang/String", 7)]) (a b : Addr) (ka kb : ClassId) (xs ys : List Int32) (h0 : Heap) (hO : Ext Z.heap h0) (hn : xs.length < 2147483647) (hm : ys.length < 2147483647) (V_a : Arv Z h0 a ka .byte (Int32.ofNat xs.length) (xs.map Value.int) (.int 0)) (V_b : Arv Z h0 b kb .byte (Int32.ofNat ys.length) (ys.map Value.int) (.int 0)) :
    Ct true l Z [("java/lang/String", 7)] [] (⟨"java/lang/StringLatin1", "equals", "([B[B)Z"⟩ : MethodName) jdk_43_method_13_code 3 (some .boolean) ({ frames := 0, cells := 0, slots := 0, locals := 0 } : Room) #[(.ref a), (.ref b)] h0 [] [] (fun v h => v = some (.int (if xs = ys then 1 else 0))) := by
  refine Ct.of_wp (a0 := a0) (Ls := #[.val (.ref a), .val (.ref b), .unset]) (plainFor_of_name pn_java_lang_StringLatin1) hE hO nofun (fun m => ef_ctLEQ m a b) ?_
  refine Wp.aloadN d10_0 (pc' := 1) rfl rfl rfl ?_
  refine Wp.alen V_a d10_1 (pc' := 2) rfl ?_
  refine Wp.aloadN d10_2 (pc' := 3) rfl rfl rfl ?_
  refine Wp.alen V_b d10_3 (pc' := 4) rfl ?_
  refine Wp.icmp_ne (pc1 := 34) (pc' := 7) d10_4 (by decide) (by decide) rfl (fun hc1 => ?_) (fun hc1 => ?_)
  · have hc1 : ¬ ((Int32.ofNat xs.length) = (Int32.ofNat ys.length)) := hc1
    refine Wp.iconst (x := (0 : Int32)) d10_34 (pc' := 35) rfl rfl ?_
    refine Wp.retN (x' := (0 : Int32)) (t := .boolean) rfl (by simp) rfl d10_35 (by decide) (by decide) ?_
    rw [if_neg (ne_len hn hm hc1)]
  · have hc1 : (Int32.ofNat xs.length) = (Int32.ofNat ys.length) := hc1
    refine Wp.iconst (x := (0 : Int32)) d10_7 (pc' := 8) rfl rfl ?_
    refine Wp.istoreN (l' := #[.val (.ref a), .val (.ref b), .val (.int (0 : Int32))]) d10_8 (pc' := 9) rfl rfl ?_
    have el : xs.length = ys.length := (on_eq (by omega) (by omega)).mp hc1
    exact own_lpE l Z a0 hw hE a b ka kb xs ys hn el h0 h0 V_a V_b xs.length 0 (by omega) rfl
theorem d8_0 : decode jdk_42_method_66_code 0 = .ok (.aload_n 0, 1) := by decide +kernel
theorem d8_1 : decode jdk_42_method_66_code 1 = .ok (.aload_n 1, 1) := by decide +kernel
theorem d8_2 : decode jdk_42_method_66_code 2 = .ok (.if_acmp .ne 5, 3) := by decide +kernel
theorem d8_5 : decode jdk_42_method_66_code 5 = .ok (.iconst 1, 1) := by decide +kernel
theorem d8_6 : decode jdk_42_method_66_code 6 = .ok (.ireturn, 1) := by decide +kernel
theorem d8_7 : decode jdk_42_method_66_code 7 = .ok (.aload_n 1, 1) := by decide +kernel
theorem d8_8 : decode jdk_42_method_66_code 8 = .ok (.instanceof 10, 3) := by decide +kernel
theorem d8_11 : decode jdk_42_method_66_code 11 = .ok (.ifCond .eq 43, 3) := by decide +kernel
theorem d8_14 : decode jdk_42_method_66_code 14 = .ok (.aload_n 1, 1) := by decide +kernel
theorem d8_15 : decode jdk_42_method_66_code 15 = .ok (.checkcast 10, 3) := by decide +kernel
theorem d8_18 : decode jdk_42_method_66_code 18 = .ok (.astore_n 2, 1) := by decide +kernel
theorem d8_19 : decode jdk_42_method_66_code 19 = .ok (.getstatic 38, 3) := by decide +kernel
theorem d8_22 : decode jdk_42_method_66_code 22 = .ok (.ifCond .eq 14, 3) := by decide +kernel
theorem d8_25 : decode jdk_42_method_66_code 25 = .ok (.aload_n 0, 1) := by decide +kernel
theorem d8_26 : decode jdk_42_method_66_code 26 = .ok (.getfield 15, 3) := by decide +kernel
theorem d8_29 : decode jdk_42_method_66_code 29 = .ok (.aload_n 2, 1) := by decide +kernel
theorem d8_30 : decode jdk_42_method_66_code 30 = .ok (.getfield 15, 3) := by decide +kernel
theorem d8_33 : decode jdk_42_method_66_code 33 = .ok (.if_icmp .ne 21, 3) := by decide +kernel
theorem d8_36 : decode jdk_42_method_66_code 36 = .ok (.aload_n 0, 1) := by decide +kernel
theorem d8_37 : decode jdk_42_method_66_code 37 = .ok (.getfield 9, 3) := by decide +kernel
theorem d8_40 : decode jdk_42_method_66_code 40 = .ok (.aload_n 2, 1) := by decide +kernel
theorem d8_41 : decode jdk_42_method_66_code 41 = .ok (.getfield 9, 3) := by decide +kernel
theorem d8_44 : decode jdk_42_method_66_code 44 = .ok (.invokestatic 541, 3) := by decide +kernel
theorem d8_47 : decode jdk_42_method_66_code 47 = .ok (.ifCond .eq 7, 3) := by decide +kernel
theorem d8_50 : decode jdk_42_method_66_code 50 = .ok (.iconst 1, 1) := by decide +kernel
theorem d8_51 : decode jdk_42_method_66_code 51 = .ok (.goto 4, 3) := by decide +kernel
theorem d8_54 : decode jdk_42_method_66_code 54 = .ok (.iconst 0, 1) := by decide +kernel
theorem d8_55 : decode jdk_42_method_66_code 55 = .ok (.ireturn, 1) := by decide +kernel
theorem ef_ctEQ (m : MethodId) (x0 : Addr) (x1 : Addr) : entryFrame m #[(.ref x0), (.ref x1)] 3 = mkF m 0 #[.val (.ref x0), .val (.ref x1), .unset] [] := by first | (simp [entryFrame, mkF, argsToLocals, Value.category]; done) | rfl
theorem pd___B_B_Z : parseMethodDescriptor "([B[B)Z" = some ⟨[(.array .byte), (.array .byte)], some .boolean⟩ := by decide +kernel
set_option maxRecDepth 65536 in
set_option maxHeartbeats 40000000 in
theorem ctEQ (l : Launch) (Z : State) (a0 : Array Value) (hw : ∀ d ∈ tables_1, d.before a0 Z = true) (hE : EW Z a0 [("java/lang/String", 7)]) (s t : Addr) (xs ys : List Int32) (cz : Int32) (h0 : Heap) (hO : Ext Z.heap h0) (hn : xs.length < 2147483647) (hm : ys.length < 2147483647) (S_s : SL Z h0 s xs) (S_t : SL Z h0 t ys) (hst : s ≠ t) (hco : Sta Z Z.heap "java/lang/String" "COMPACT_STRINGS" "Z" (.int cz)) (hcz : ¬ cz = 0) :
    Ct true l Z [("java/lang/String", 7)] [] (⟨"java/lang/String", "equals", "(Ljava/lang/Object;)Z"⟩ : MethodName) jdk_42_method_66_code 3 (some .boolean) ({ frames := 1, cells := 0, slots := 0, locals := 14 } : Room) #[(.ref s), (.ref t)] h0 [] [] (fun v h => v = some (.int (if xs = ys then 1 else 0))) := by
  refine Ct.of_wp (a0 := a0) (Ls := #[.val (.ref s), .val (.ref t), .unset]) (plainFor_of_name pn_java_lang_String) hE hO nofun (fun m => ef_ctEQ m s t) ?_
  obtain ⟨E_s, C_s, ba, ka, D_s, V_a⟩ := S_s
  obtain ⟨E_t, C_t, bb, kb, D_t, V_b⟩ := S_t
  refine Wp.aloadN d8_0 (pc' := 1) rfl rfl rfl ?_
  refine Wp.aloadN d8_1 (pc' := 2) rfl rfl rfl ?_
  refine Wp.acmp_ne (pc1 := 7) (pc' := 5) rfl rfl d8_2 (by decide) (by decide) rfl (fun hc1 => ?_) (fun hc1 => by exact absurd (Value.ref.inj hc1) hst)
  refine Wp.aloadN d8_7 (pc' := 8) rfl rfl rfl ?_
  refine Wp.instY rfl (hw _ (List.mem_of_getElem? (i := 60) rfl)) (Ins.self E_t) d8_8 (pc' := 11) rfl ?_
  refine Wp.if_eq (pc1 := 54) (pc' := 14) d8_11 (by decide) (by decide) rfl (fun hc2 => by exact absurd hc2 (by decide)) (fun hc2 => ?_)
  refine Wp.aloadN d8_14 (pc' := 15) rfl rfl rfl ?_
  refine Wp.castY rfl (hw _ (List.mem_of_getElem? (i := 60) rfl)) (Ins.self E_t) d8_15 (pc' := 18) rfl ?_
  refine Wp.astoreN (l' := #[.val (.ref s), .val (.ref t), .val (.ref t)]) d8_18 (pc' := 19) rfl rfl rfl ?_
  refine Wp.getS rfl (host := "") (Or.inl (hw _ (List.mem_of_getElem? (i := 61) rfl))) Via.refl hco d8_19 (pc' := 22) rfl ?_
  refine Wp.if_eq (pc1 := 36) (pc' := 25) d8_22 (by decide) (by decide) rfl (fun hc3 => by exact absurd hc3 hcz) (fun hc3 => ?_)
  refine Wp.aloadN d8_25 (pc' := 26) rfl rfl rfl ?_
  refine Wp.getF rfl (host := "") (Or.inl (hw _ (List.mem_of_getElem? (i := 28) rfl))) Via.refl C_s d8_26 (pc' := 29) rfl ?_
  refine Wp.aloadN d8_29 (pc' := 30) rfl rfl rfl ?_
  refine Wp.getF rfl (host := "") (Or.inl (hw _ (List.mem_of_getElem? (i := 28) rfl))) Via.refl C_t d8_30 (pc' := 33) rfl ?_
  refine Wp.icmp_ne (pc1 := 54) (pc' := 36) d8_33 (by decide) (by decide) rfl (fun hc4 => by exact absurd hc4 (by decide)) (fun hc4 => ?_)
  refine Wp.aloadN d8_36 (pc' := 37) rfl rfl rfl ?_
  refine Wp.getF rfl (host := "") (Or.inl (hw _ (List.mem_of_getElem? (i := 27) rfl))) Via.refl D_s d8_37 (pc' := 40) rfl ?_
  refine Wp.aloadN d8_40 (pc' := 41) rfl rfl rfl ?_
  refine Wp.getF rfl (host := "") (Or.inl (hw _ (List.mem_of_getElem? (i := 27) rfl))) Via.refl D_t d8_41 (pc' := 44) rfl ?_
  refine Wp.old fun hOc => ?_
  refine Wp.callS (W := 0) (argsL := [(.ref ba), (.ref bb)]) (rest := []) rfl (ctLEQ l Z a0 hw hE ba bb ka kb xs ys h0 hOc hn hm V_a V_b) (hw _ (List.mem_of_getElem? (i := 62) rfl)) (hw _ (List.mem_of_getElem? (i := 63) rfl)) (hw _ (List.mem_of_getElem? (i := 65) rfl)) (hw _ (List.mem_of_getElem? (i := 64) rfl)) (by decide) (lenOf pd___B_B_Z rfl) d8_44 rfl rfl rfl (Nat.le_of_eq rfl) (pc' := 47) rfl nofun nofun (by decide) (by decide) (k' := 0) (n' := 0) rfl rfl (by decide) (by decide) (fun vh5 h5 zh5 Kh5 qh5 => ?_)
  obtain rfl := qh5
  refine Wp.eqS (S' := [(.int (if xs = ys then (1 : Int32) else 0))]) rfl ?_
  refine Wp.if_eq (pc1 := 54) (pc' := 50) d8_47 (by decide) (by decide) rfl (fun hc6 => ?_) (fun hc6 => ?_)
  · have hc6 : (if xs = ys then (1 : Int32) else 0) = (0 : Int32) := hc6
    refine Wp.iconst (x := (0 : Int32)) d8_54 (pc' := 55) rfl rfl ?_
    refine Wp.retN (x' := (0 : Int32)) (t := .boolean) rfl (by simp) rfl d8_55 (by decide) (by decide) ?_
    have q := hc6
    simp at q
    simp [q]
  · have hc6 : ¬ ((if xs = ys then (1 : Int32) else 0) = (0 : Int32)) := hc6
    refine Wp.iconst (x := (1 : Int32)) d8_50 (pc' := 51) rfl rfl ?_
    refine Wp.goto (pc' := 55) d8_51 (by decide) (by decide) ?_
    refine Wp.retN (x' := (1 : Int32)) (t := .boolean) rfl (by simp) rfl d8_55 (by decide) (by decide) ?_
    have q := hc6
    simp at q
    simp [q]
theorem ef_ctEQS (m : MethodId) (x0 : Addr) (x1 : Addr) : entryFrame m #[(.ref x0), (.ref x1)] 3 = mkF m 0 #[.val (.ref x0), .val (.ref x1), .unset] [] := by first | (simp [entryFrame, mkF, argsToLocals, Value.category]; done) | rfl
set_option maxRecDepth 65536 in
set_option maxHeartbeats 40000000 in
theorem ctEQS (l : Launch) (Z : State) (a0 : Array Value) (hw : ∀ d ∈ tables_1, d.before a0 Z = true) (hE : EW Z a0 [("java/lang/String", 7)]) (s : Addr) (h0 : Heap) (hO : Ext Z.heap h0) :
    Ct true l Z [("java/lang/String", 7)] [] (⟨"java/lang/String", "equals", "(Ljava/lang/Object;)Z"⟩ : MethodName) jdk_42_method_66_code 3 (some .boolean) ({ frames := 1, cells := 0, slots := 0, locals := 14 } : Room) #[(.ref s), (.ref s)] h0 [] [] (fun v h => v = some (.int 1)) := by
  refine Ct.of_wp (a0 := a0) (Ls := #[.val (.ref s), .val (.ref s), .unset]) (plainFor_of_name pn_java_lang_String) hE hO nofun (fun m => ef_ctEQS m s s) ?_
  refine Wp.aloadN d8_0 (pc' := 1) rfl rfl rfl ?_
  refine Wp.aloadN d8_1 (pc' := 2) rfl rfl rfl ?_
  refine Wp.acmp_ne (pc1 := 7) (pc' := 5) rfl rfl d8_2 (by decide) (by decide) rfl (fun hc1 => by exact absurd rfl hc1) (fun hc1 => ?_)
  refine Wp.iconst (x := (1 : Int32)) d8_5 (pc' := 6) rfl rfl ?_
  refine Wp.retN (x' := (1 : Int32)) (t := .boolean) rfl (by simp) rfl d8_6 (by decide) (by decide) ?_
  rfl
theorem d1_0 : decode method_2_code 0 = .ok (.iload_n 0, 1) := by decide +kernel
theorem d1_1 : decode method_2_code 1 = .ok (.iconst 3, 1) := by decide +kernel
theorem d1_2 : decode method_2_code 2 = .ok (.iand, 1) := by decide +kernel
theorem d1_3 : decode method_2_code 3 = .ok (.iconst 3, 1) := by decide +kernel
theorem d1_4 : decode method_2_code 4 = .ok (.irem, 1) := by decide +kernel
theorem d1_5 : decode method_2_code 5 = .ok (.istore_n 1, 1) := by decide +kernel
theorem d1_6 : decode method_2_code 6 = .ok (.iload_n 1, 1) := by decide +kernel
theorem d1_7 : decode method_2_code 7 = .ok (.newarray .char, 2) := by decide +kernel
theorem d1_9 : decode method_2_code 9 = .ok (.astore_n 2, 1) := by decide +kernel
theorem d1_10 : decode method_2_code 10 = .ok (.iload_n 1, 1) := by decide +kernel
theorem d1_11 : decode method_2_code 11 = .ok (.ifCond .le 14, 3) := by decide +kernel
theorem d1_14 : decode method_2_code 14 = .ok (.aload_n 2, 1) := by decide +kernel
theorem d1_15 : decode method_2_code 15 = .ok (.iconst 0, 1) := by decide +kernel
theorem d1_16 : decode method_2_code 16 = .ok (.iload_n 0, 1) := by decide +kernel
theorem d1_17 : decode method_2_code 17 = .ok (.iconst 2, 1) := by decide +kernel
theorem d1_18 : decode method_2_code 18 = .ok (.iushr, 1) := by decide +kernel
theorem d1_19 : decode method_2_code 19 = .ok (.sipush 255, 3) := by decide +kernel
theorem d1_22 : decode method_2_code 22 = .ok (.iand, 1) := by decide +kernel
theorem d1_23 : decode method_2_code 23 = .ok (.i2c, 1) := by decide +kernel
theorem d1_24 : decode method_2_code 24 = .ok (.castore, 1) := by decide +kernel
theorem d1_25 : decode method_2_code 25 = .ok (.iload_n 1, 1) := by decide +kernel
theorem d1_26 : decode method_2_code 26 = .ok (.iconst 1, 1) := by decide +kernel
theorem d1_27 : decode method_2_code 27 = .ok (.if_icmp .le 15, 3) := by decide +kernel
theorem d1_30 : decode method_2_code 30 = .ok (.aload_n 2, 1) := by decide +kernel
theorem d1_31 : decode method_2_code 31 = .ok (.iconst 1, 1) := by decide +kernel
theorem d1_32 : decode method_2_code 32 = .ok (.iload_n 0, 1) := by decide +kernel
theorem d1_33 : decode method_2_code 33 = .ok (.bipush 10, 2) := by decide +kernel
theorem d1_35 : decode method_2_code 35 = .ok (.iushr, 1) := by decide +kernel
theorem d1_36 : decode method_2_code 36 = .ok (.sipush 255, 3) := by decide +kernel
theorem d1_39 : decode method_2_code 39 = .ok (.iand, 1) := by decide +kernel
theorem d1_40 : decode method_2_code 40 = .ok (.i2c, 1) := by decide +kernel
theorem d1_41 : decode method_2_code 41 = .ok (.castore, 1) := by decide +kernel
theorem d1_42 : decode method_2_code 42 = .ok (.aload_n 2, 1) := by decide +kernel
theorem d1_43 : decode method_2_code 43 = .ok (.areturn, 1) := by decide +kernel
theorem pn_com_example_portwright_portwright_xml_SourceLocationEqualsPinLaw : plainName "com/example/portwright/portwright/xml/SourceLocationEqualsPinLaw" = true := by first | (simp [plainName, overriddenIn]; done) | decide +kernel
theorem ef_ctCHS (m : MethodId) (x0 : Int32) : entryFrame m #[(.int x0)] 3 = mkF m 0 #[.val (.int x0), .unset, .unset] [] := by first | (simp [entryFrame, mkF, argsToLocals, Value.category]; done) | rfl
set_option maxRecDepth 65536 in
set_option maxHeartbeats 40000000 in
theorem ctCHS (l : Launch) (Z : State) (a0 : Array Value) (hw : ∀ d ∈ tables_1, d.before a0 Z = true) (hE : EW Z a0 [("java/lang/String", 7)]) (p : Int32) (h0 : Heap) (hO : Ext Z.heap h0) :
    Ct true l Z [("java/lang/String", 7)] [] (⟨"com/example/portwright/portwright/xml/SourceLocationEqualsPinLaw", "chars", "(I)[C"⟩ : MethodName) method_2_code 3 (some (.array .char)) ({ frames := 0, cells := 1, slots := 2, locals := 0 } : Room) #[(.int p)] h0 [] [] (fun v h => ∃ a k, v = some (.ref a) ∧ h0.size ≤ a ∧ Arv Z h a k .char (Int32.ofNat (own_cs p).length) ((own_cs p).map Value.int) (.int 0)) := by
  refine Ct.of_wp (a0 := a0) (Ls := #[.val (.int p), .unset, .unset]) (plainFor_of_name pn_com_example_portwright_portwright_xml_SourceLocationEqualsPinLaw) hE hO nofun (fun m => ef_ctCHS m p) ?_
  refine Wp.iloadN d1_0 (pc' := 1) rfl rfl ?_
  refine Wp.iconst (x := (3 : Int32)) d1_1 (pc' := 2) rfl rfl ?_
  refine Wp.iand d1_2 (pc' := 3) rfl ?_
  refine Wp.iconst (x := (3 : Int32)) d1_3 (pc' := 4) rfl rfl ?_
  refine Wp.irem d1_4 (pc' := 5) rfl (by decide) ?_
  rcases (show ((p &&& (3 : Int32)) % (3 : Int32)) = 0 ∨ ((p &&& (3 : Int32)) % (3 : Int32)) = 1 ∨ ((p &&& (3 : Int32)) % (3 : Int32)) = 2 from own_len3 p) with hl | hl | hl
  · rw [hl]
    refine Wp.istoreN (l' := #[.val (.int p), .val (.int (0 : Int32)), .unset]) d1_5 (pc' := 6) rfl rfl ?_
    refine Wp.iloadN d1_6 (pc' := 7) rfl rfl ?_
    refine Wp.newP (cap := 0) (hw _ (List.mem_of_getElem? (i := 4) rfl)) (by decide) (by decide) (by decide) d1_7 (pc' := 9) rfl (k' := 1) (n' := 0) rfl rfl (by decide) (by decide) (fun h1 b1 k_b1 g_b1 sz_b1 Xh1 V_b1 => ?_)
    replace V_b1 : Arv Z h1 b1 k_b1 .char (0 : Int32) [] (.int (0 : Int32)) := V_b1.pad (pad_rep [] (.int (0 : Int32)) 0)
    refine Wp.astoreN (l' := #[.val (.int p), .val (.int (0 : Int32)), .val (.ref b1)]) d1_9 (pc' := 10) rfl rfl rfl ?_
    refine Wp.iloadN d1_10 (pc' := 11) rfl rfl ?_
    refine Wp.if_le (pc1 := 25) (pc' := 14) d1_11 (by decide) (by decide) rfl (fun hc2 => ?_) (fun hc2 => by exact absurd hc2 (by decide))
    refine Wp.iloadN d1_25 (pc' := 26) rfl rfl ?_
    refine Wp.iconst (x := (1 : Int32)) d1_26 (pc' := 27) rfl rfl ?_
    refine Wp.icmp_le (pc1 := 42) (pc' := 30) d1_27 (by decide) (by decide) rfl (fun hc3 => ?_) (fun hc3 => by exact absurd hc3 (by decide))
    refine Wp.aloadN d1_42 (pc' := 43) rfl rfl rfl ?_
    refine Wp.retA rfl rfl rfl d1_43 (by decide) (by decide) ?_
    refine ⟨_, k_b1, rfl, sz_b1, ?_⟩
    have hl' : own_len p = (0 : Int32) := hl
    (try simp only [i2c_mask, own_nar] at V_b1)
    have e : own_cs p = [] := by simp [own_cs, hl']
    rw [e]; exact V_b1
  · rw [hl]
    refine Wp.istoreN (l' := #[.val (.int p), .val (.int (1 : Int32)), .unset]) d1_5 (pc' := 6) rfl rfl ?_
    refine Wp.iloadN d1_6 (pc' := 7) rfl rfl ?_
    refine Wp.newP (cap := 1) (hw _ (List.mem_of_getElem? (i := 4) rfl)) (by decide) (by decide) (by decide) d1_7 (pc' := 9) rfl (k' := 1) (n' := 1) rfl rfl (by decide) (by decide) (fun h4 b4 k_b4 g_b4 sz_b4 Xh4 V_b4 => ?_)
    replace V_b4 : Arv Z h4 b4 k_b4 .char (1 : Int32) [(.int (0 : Int32))] (.int (0 : Int32)) := V_b4.pad (pad_rep [] (.int (0 : Int32)) 1)
    refine Wp.astoreN (l' := #[.val (.int p), .val (.int (1 : Int32)), .val (.ref b4)]) d1_9 (pc' := 10) rfl rfl rfl ?_
    refine Wp.iloadN d1_10 (pc' := 11) rfl rfl ?_
    refine Wp.if_le (pc1 := 25) (pc' := 14) d1_11 (by decide) (by decide) rfl (fun hc5 => by exact absurd hc5 (by decide)) (fun hc5 => ?_)
    refine Wp.aloadN d1_14 (pc' := 15) rfl rfl rfl ?_
    refine Wp.iconst (x := (0 : Int32)) d1_15 (pc' := 16) rfl rfl ?_
    refine Wp.iloadN d1_16 (pc' := 17) rfl rfl ?_
    refine Wp.iconst (x := (2 : Int32)) d1_17 (pc' := 18) rfl rfl ?_
    refine Wp.iushr d1_18 (pc' := 19) rfl ?_
    refine Wp.sipush (x := (255 : Int32)) d1_19 (pc' := 22) rfl rfl ?_
    refine Wp.iand d1_22 (pc' := 23) rfl ?_
    refine Wp.i2c d1_23 (pc' := 24) rfl ?_
    refine Wp.castore V_b4 (by decide) (by decide) (i := 0) rfl (Nat.le_of_ble_eq_true rfl) d1_24 (pc' := 25) rfl (Or.inr sz_b4) (fun h6 W6 Vh6 => ?_)
    replace V_b4 : Arv Z h6 b4 k_b4 .char (1 : Int32) [(.int (nar .char ((((p.toUInt32 >>> ((2 : Int32) &&& 31).toUInt32).toInt32) &&& (255 : Int32)).toUInt32.toUInt16.toUInt32.toInt32)))] (.int (0 : Int32)) := Vh6
    refine Wp.iloadN d1_25 (pc' := 26) rfl rfl ?_
    refine Wp.iconst (x := (1 : Int32)) d1_26 (pc' := 27) rfl rfl ?_
    refine Wp.icmp_le (pc1 := 42) (pc' := 30) d1_27 (by decide) (by decide) rfl (fun hc7 => ?_) (fun hc7 => by exact absurd hc7 (by decide))
    refine Wp.aloadN d1_42 (pc' := 43) rfl rfl rfl ?_
    refine Wp.retA rfl rfl rfl d1_43 (by decide) (by decide) ?_
    refine ⟨_, k_b4, rfl, sz_b4, ?_⟩
    have hl' : own_len p = (1 : Int32) := hl
    (try simp only [i2c_mask, own_nar] at V_b4)
    have e : own_cs p = [own_c0 p] := by simp [own_cs, hl']
    rw [e]; exact V_b4
  · rw [hl]
    refine Wp.istoreN (l' := #[.val (.int p), .val (.int (2 : Int32)), .unset]) d1_5 (pc' := 6) rfl rfl ?_
    refine Wp.iloadN d1_6 (pc' := 7) rfl rfl ?_
    refine Wp.newP (cap := 2) (hw _ (List.mem_of_getElem? (i := 4) rfl)) (by decide) (by decide) (by decide) d1_7 (pc' := 9) rfl (k' := 1) (n' := 2) rfl rfl (by decide) (by decide) (fun h8 b8 k_b8 g_b8 sz_b8 Xh8 V_b8 => ?_)
    replace V_b8 : Arv Z h8 b8 k_b8 .char (2 : Int32) [(.int (0 : Int32)), (.int (0 : Int32))] (.int (0 : Int32)) := V_b8.pad (pad_rep [] (.int (0 : Int32)) 2)
    refine Wp.astoreN (l' := #[.val (.int p), .val (.int (2 : Int32)), .val (.ref b8)]) d1_9 (pc' := 10) rfl rfl rfl ?_
    refine Wp.iloadN d1_10 (pc' := 11) rfl rfl ?_
    refine Wp.if_le (pc1 := 25) (pc' := 14) d1_11 (by decide) (by decide) rfl (fun hc9 => by exact absurd hc9 (by decide)) (fun hc9 => ?_)
    refine Wp.aloadN d1_14 (pc' := 15) rfl rfl rfl ?_
    refine Wp.iconst (x := (0 : Int32)) d1_15 (pc' := 16) rfl rfl ?_
    refine Wp.iloadN d1_16 (pc' := 17) rfl rfl ?_
    refine Wp.iconst (x := (2 : Int32)) d1_17 (pc' := 18) rfl rfl ?_
    refine Wp.iushr d1_18 (pc' := 19) rfl ?_
    refine Wp.sipush (x := (255 : Int32)) d1_19 (pc' := 22) rfl rfl ?_
    refine Wp.iand d1_22 (pc' := 23) rfl ?_
    refine Wp.i2c d1_23 (pc' := 24) rfl ?_
    refine Wp.castore V_b8 (by decide) (by decide) (i := 0) rfl (Nat.le_of_ble_eq_true rfl) d1_24 (pc' := 25) rfl (Or.inr sz_b8) (fun h10 W10 Vh10 => ?_)
    replace V_b8 : Arv Z h10 b8 k_b8 .char (2 : Int32) [(.int (nar .char ((((p.toUInt32 >>> ((2 : Int32) &&& 31).toUInt32).toInt32) &&& (255 : Int32)).toUInt32.toUInt16.toUInt32.toInt32))), (.int (0 : Int32))] (.int (0 : Int32)) := Vh10
    refine Wp.iloadN d1_25 (pc' := 26) rfl rfl ?_
    refine Wp.iconst (x := (1 : Int32)) d1_26 (pc' := 27) rfl rfl ?_
    refine Wp.icmp_le (pc1 := 42) (pc' := 30) d1_27 (by decide) (by decide) rfl (fun hc11 => by exact absurd hc11 (by decide)) (fun hc11 => ?_)
    refine Wp.aloadN d1_30 (pc' := 31) rfl rfl rfl ?_
    refine Wp.iconst (x := (1 : Int32)) d1_31 (pc' := 32) rfl rfl ?_
    refine Wp.iloadN d1_32 (pc' := 33) rfl rfl ?_
    refine Wp.bipush (x := (10 : Int32)) d1_33 (pc' := 35) rfl rfl ?_
    refine Wp.iushr d1_35 (pc' := 36) rfl ?_
    refine Wp.sipush (x := (255 : Int32)) d1_36 (pc' := 39) rfl rfl ?_
    refine Wp.iand d1_39 (pc' := 40) rfl ?_
    refine Wp.i2c d1_40 (pc' := 41) rfl ?_
    refine Wp.castore V_b8 (by decide) (by decide) (i := 1) rfl (Nat.le_of_ble_eq_true rfl) d1_41 (pc' := 42) rfl (Or.inr sz_b8) (fun h12 W12 Vh12 => ?_)
    replace V_b8 : Arv Z h12 b8 k_b8 .char (2 : Int32) [(.int (nar .char ((((p.toUInt32 >>> ((2 : Int32) &&& 31).toUInt32).toInt32) &&& (255 : Int32)).toUInt32.toUInt16.toUInt32.toInt32))), (.int (nar .char ((((p.toUInt32 >>> ((10 : Int32) &&& 31).toUInt32).toInt32) &&& (255 : Int32)).toUInt32.toUInt16.toUInt32.toInt32)))] (.int (0 : Int32)) := Vh12
    refine Wp.aloadN d1_42 (pc' := 43) rfl rfl rfl ?_
    refine Wp.retA rfl rfl rfl d1_43 (by decide) (by decide) ?_
    refine ⟨_, k_b8, rfl, sz_b8, ?_⟩
    have hl' : own_len p = (2 : Int32) := hl
    (try simp only [i2c_mask, own_nar] at V_b8)
    have e : own_cs p = [own_c0 p, own_c1 p] := by simp [own_cs, hl']
    rw [e]; exact V_b8
theorem d6_0 : decode jdk_31_method_11_code 0 = .ok (.aload_n 0, 1) := by decide +kernel
theorem d6_1 : decode jdk_31_method_11_code 1 = .ok (.ifnonnull 12, 3) := by decide +kernel
theorem d6_4 : decode jdk_31_method_11_code 4 = .ok (.new 84, 3) := by decide +kernel
theorem d6_7 : decode jdk_31_method_11_code 7 = .ok (.dup, 1) := by decide +kernel
theorem d6_8 : decode jdk_31_method_11_code 8 = .ok (.aload_n 1, 1) := by decide +kernel
theorem d6_9 : decode jdk_31_method_11_code 9 = .ok (.invokespecial 87, 3) := by decide +kernel
theorem d6_12 : decode jdk_31_method_11_code 12 = .ok (.athrow, 1) := by decide +kernel
theorem d6_13 : decode jdk_31_method_11_code 13 = .ok (.aload_n 0, 1) := by decide +kernel
theorem d6_14 : decode jdk_31_method_11_code 14 = .ok (.areturn, 1) := by decide +kernel
theorem pn_java_util_Objects : plainName "java/util/Objects" = true := by first | (simp [plainName, overriddenIn]; done) | decide +kernel
theorem ef_ctRNN (m : MethodId) (x0 : Addr) (x1 : Addr) : entryFrame m #[(.ref x0), (.ref x1)] 2 = mkF m 0 #[.val (.ref x0), .val (.ref x1)] [] := by first | (simp [entryFrame, mkF, argsToLocals, Value.category]; done) | rfl
set_option maxRecDepth 65536 in
set_option maxHeartbeats 40000000 in
theorem ctRNN (l : Launch) (Z : State) (a0 : Array Value) (hw : ∀ d ∈ tables_1, d.before a0 Z = true) (hE : EW Z a0 [("java/lang/String", 7)]) (a c : Addr) (h0 : Heap) (hO : Ext Z.heap h0) :
    Ct true l Z [("java/lang/String", 7)] [] (⟨"java/util/Objects", "requireNonNull", "(Ljava/lang/Object;Ljava/lang/String;)Ljava/lang/Object;"⟩ : MethodName) jdk_31_method_11_code 2 (some (.object "java/lang/Object")) ({ frames := 0, cells := 0, slots := 0, locals := 0 } : Room) #[(.ref a), (.ref c)] h0 [] [] (fun v h => v = some (.ref a)) := by
  refine Ct.of_wp (a0 := a0) (Ls := #[.val (.ref a), .val (.ref c)]) (plainFor_of_name pn_java_util_Objects) hE hO nofun (fun m => ef_ctRNN m a c) ?_
  refine Wp.aloadN d6_0 (pc' := 1) rfl rfl rfl ?_
  refine Wp.ifnonnullYes (pc' := 13) d6_1 (by decide) (by decide) ?_
  refine Wp.aloadN d6_13 (pc' := 14) rfl rfl rfl ?_
  refine Wp.retA rfl rfl rfl d6_14 (by decide) (by decide) ?_
  rfl
theorem d5_0 : decode prog_61_method_1_code 0 = .ok (.aload_n 0, 1) := by decide +kernel
theorem d5_1 : decode prog_61_method_1_code 1 = .ok (.invokespecial 1, 3) := by decide +kernel
theorem d5_4 : decode prog_61_method_1_code 4 = .ok (.aload_n 0, 1) := by decide +kernel
theorem d5_5 : decode prog_61_method_1_code 5 = .ok (.aload_n 1, 1) := by decide +kernel
theorem d5_6 : decode prog_61_method_1_code 6 = .ok (.ldc 7, 2) := by decide +kernel
theorem d5_8 : decode prog_61_method_1_code 8 = .ok (.invokestatic 9, 3) := by decide +kernel
theorem d5_11 : decode prog_61_method_1_code 11 = .ok (.checkcast 15, 3) := by decide +kernel
theorem d5_14 : decode prog_61_method_1_code 14 = .ok (.putfield 17, 3) := by decide +kernel
theorem d5_17 : decode prog_61_method_1_code 17 = .ok (.aload_n 0, 1) := by decide +kernel
theorem d5_18 : decode prog_61_method_1_code 18 = .ok (.iload_n 2, 1) := by decide +kernel
theorem d5_19 : decode prog_61_method_1_code 19 = .ok (.putfield 22, 3) := by decide +kernel
theorem d5_22 : decode prog_61_method_1_code 22 = .ok (.return_, 1) := by decide +kernel
theorem pn_com_example_portwright_portwright_xml_SourceLocation : plainName "com/example/portwright/portwright/xml/SourceLocation" = true := by first | (simp [plainName, overriddenIn]; done) | decide +kernel
theorem ef_ctLOC (m : MethodId) (x0 : Addr) (x1 : Addr) (x2 : Int32) : entryFrame m #[(.ref x0), (.ref x1), (.int x2)] 3 = mkF m 0 #[.val (.ref x0), .val (.ref x1), .val (.int x2)] [] := by first | (simp [entryFrame, mkF, argsToLocals, Value.category]; done) | rfl
theorem pd__Ljava_lang_Object_Ljava_lang_String__Ljava_lang_Object_ : parseMethodDescriptor "(Ljava/lang/Object;Ljava/lang/String;)Ljava/lang/Object;" = some ⟨[(.object "java/lang/Object"), (.object "java/lang/String")], some (.object "java/lang/Object")⟩ := by decide +kernel
set_option maxRecDepth 65536 in
set_option maxHeartbeats 40000000 in
theorem ctLOC (l : Launch) (Z : State) (a0 : Array Value) (hw : ∀ d ∈ tables_1, d.before a0 Z = true) (hE : EW Z a0 [("java/lang/String", 7)]) (b t : Addr) (n : Int32) (h0 : Heap) (hO : Ext Z.heap h0) (hb0 : Z.heap.size ≤ b) (E_b : Exa Z h0 b "com/example/portwright/portwright/xml/SourceLocation") (F0 : Fld Z h0 b "com/example/portwright/portwright/xml/SourceLocation" "file" "Ljava/lang/String;" .null) (F1 : Fld Z h0 b "com/example/portwright/portwright/xml/SourceLocation" "line" "I" (.int 0)) (E_t : Exa Z h0 t "java/lang/String") :
    Ct true l Z [("java/lang/String", 7)] [] (⟨"com/example/portwright/portwright/xml/SourceLocation", "<init>", "(Ljava/lang/String;I)V"⟩ : MethodName) prog_61_method_1_code 3 none ({ frames := 1, cells := 2, slots := 20, locals := 15 } : Room) #[(.ref b), (.ref t), (.int n)] h0 [] [b] (fun v h => v = none ∧ Fld Z h b "com/example/portwright/portwright/xml/SourceLocation" "file" "Ljava/lang/String;" (.ref t) ∧ Fld Z h b "com/example/portwright/portwright/xml/SourceLocation" "line" "I" (.int n)) := by
  refine Ct.of_wp (a0 := a0) (Ls := #[.val (.ref b), .val (.ref t), .val (.int n)]) (plainFor_of_name pn_com_example_portwright_portwright_xml_SourceLocation) hE hO (by intro x hx; cases List.mem_singleton.mp hx; exact hb0) (fun m => ef_ctLOC m b t n) ?_
  refine Wp.aloadN d5_0 (pc' := 1) rfl rfl rfl ?_
  refine Wp.initO (W := 0) rfl (hw _ (List.mem_of_getElem? (i := 32) rfl)) (hw _ (List.mem_of_getElem? (i := 19) rfl)) (hw _ (List.mem_of_getElem? (i := 20) rfl)) d5_1 (pc' := 4) rfl rfl (by decide) (Nat.le_of_eq rfl) (by decide) ?_
  refine Wp.aloadN d5_4 (pc' := 5) rfl rfl rfl ?_
  refine Wp.aloadN d5_5 (pc' := 6) rfl rfl rfl ?_
  refine Wp.ldcO (nn := 16) rfl rfl (hw _ (List.mem_of_getElem? (i := 33) rfl)) (own_wS hw) d5_6 (pc' := 8) rfl (by decide) (by decide) (k' := 2) (n' := 20) rfl rfl (by decide) (by decide) (fun h1 c1 Xh1 => ?_)
  replace E_b := E_b.ext Xh1
  replace E_t := E_t.ext Xh1
  replace F0 := F0.ext Xh1
  replace F1 := F1.ext Xh1
  refine Wp.old fun hOc => ?_
  refine Wp.callS (W := 1) (argsL := [(.ref t), (.ref c1)]) (rest := [(.ref b)]) rfl (ctRNN l Z a0 hw hE t c1 h1 hOc) (hw _ (List.mem_of_getElem? (i := 34) rfl)) (hw _ (List.mem_of_getElem? (i := 35) rfl)) (hw _ (List.mem_of_getElem? (i := 37) rfl)) (hw _ (List.mem_of_getElem? (i := 36) rfl)) (by decide) (lenOf pd__Ljava_lang_Object_Ljava_lang_String__Ljava_lang_Object_ rfl) d5_8 rfl rfl rfl (Nat.le_of_eq rfl) (pc' := 11) rfl nofun nofun (by decide) (by decide) (k' := 2) (n' := 20) rfl rfl (by decide) (by decide) (fun vh2 h2 zh2 Kh2 qh2 => ?_)
  obtain rfl := qh2
  replace E_b := E_b.keep Kh2
  replace E_t := E_t.keep Kh2
  replace F0 := F0.keep Kh2 nin0
  replace F1 := F1.keep Kh2 nin0
  refine Wp.eqS (S' := [(.ref t), (.ref b)]) rfl ?_
  refine Wp.castY rfl (hw _ (List.mem_of_getElem? (i := 38) rfl)) (Ins.self E_t) d5_11 (pc' := 14) rfl ?_
  refine Wp.putF rfl (host := "") (Or.inl (hw _ (List.mem_of_getElem? (i := 39) rfl))) Via.refl F0 E_b (Or.inr ⟨(hw _ (List.mem_of_getElem? (i := 40) rfl)), rfl, rfl⟩) (hw _ (List.mem_of_getElem? (i := 6) rfl)) (ty := (.object "java/lang/String")) (by decide) rfl rfl d5_14 (pc' := 17) rfl (Or.inl (by simp)) (Sfe.exa E_b (by decide) (by decide)) (fun h3 W3 Fh3 => ?_)
  replace E_b := E_b.wr W3
  replace E_t := E_t.wr W3
  replace F1 := F1.other W3 (Or.inr (slot_ne (Or.inr (hw _ (List.mem_of_getElem? (i := 42) rfl))) (Or.inr (hw _ (List.mem_of_getElem? (i := 40) rfl))) (by decide) (t := .int) (t' := (.object "java/lang/String")) (by decide) (by decide)))
  replace F0 := Fh3
  refine Wp.aloadN d5_17 (pc' := 18) rfl rfl rfl ?_
  refine Wp.iloadN d5_18 (pc' := 19) rfl rfl ?_
  refine Wp.putF rfl (host := "") (Or.inl (hw _ (List.mem_of_getElem? (i := 41) rfl))) Via.refl F1 E_b (Or.inr ⟨(hw _ (List.mem_of_getElem? (i := 42) rfl)), rfl, rfl⟩) (hw _ (List.mem_of_getElem? (i := 6) rfl)) (ty := .int) (by decide) rfl rfl d5_19 (pc' := 22) rfl (Or.inl (by simp)) (Sfe.exa E_b (by decide) (by decide)) (fun h4 W4 Fh4 => ?_)
  replace E_b := E_b.wr W4
  replace E_t := E_t.wr W4
  replace F0 := F0.other W4 (Or.inr (slot_ne (Or.inr (hw _ (List.mem_of_getElem? (i := 40) rfl))) (Or.inr (hw _ (List.mem_of_getElem? (i := 42) rfl))) (by decide) (t := (.object "java/lang/String")) (t' := .int) (by decide) (by decide)))
  replace F1 := Fh4
  refine Wp.retn rfl d5_22 (by decide) (by decide) ?_
  exact ⟨rfl, F0, F1⟩
theorem d7_0 : decode prog_61_method_4_code 0 = .ok (.aload_n 1, 1) := by decide +kernel
theorem d7_1 : decode prog_61_method_4_code 1 = .ok (.instanceof 18, 3) := by decide +kernel
theorem d7_4 : decode prog_61_method_4_code 4 = .ok (.ifCond .ne 5, 3) := by decide +kernel
theorem d7_7 : decode prog_61_method_4_code 7 = .ok (.iconst 0, 1) := by decide +kernel
theorem d7_8 : decode prog_61_method_4_code 8 = .ok (.ireturn, 1) := by decide +kernel
theorem d7_9 : decode prog_61_method_4_code 9 = .ok (.aload_n 1, 1) := by decide +kernel
theorem d7_10 : decode prog_61_method_4_code 10 = .ok (.checkcast 18, 3) := by decide +kernel
theorem d7_13 : decode prog_61_method_4_code 13 = .ok (.astore_n 2, 1) := by decide +kernel
theorem d7_14 : decode prog_61_method_4_code 14 = .ok (.aload_n 0, 1) := by decide +kernel
theorem d7_15 : decode prog_61_method_4_code 15 = .ok (.getfield 17, 3) := by decide +kernel
theorem d7_18 : decode prog_61_method_4_code 18 = .ok (.aload_n 2, 1) := by decide +kernel
theorem d7_19 : decode prog_61_method_4_code 19 = .ok (.getfield 17, 3) := by decide +kernel
theorem d7_22 : decode prog_61_method_4_code 22 = .ok (.invokevirtual 26, 3) := by decide +kernel
theorem d7_25 : decode prog_61_method_4_code 25 = .ok (.ifCond .eq 18, 3) := by decide +kernel
theorem d7_28 : decode prog_61_method_4_code 28 = .ok (.aload_n 0, 1) := by decide +kernel
theorem d7_29 : decode prog_61_method_4_code 29 = .ok (.getfield 22, 3) := by decide +kernel
theorem d7_32 : decode prog_61_method_4_code 32 = .ok (.aload_n 2, 1) := by decide +kernel
theorem d7_33 : decode prog_61_method_4_code 33 = .ok (.getfield 22, 3) := by decide +kernel
theorem d7_36 : decode prog_61_method_4_code 36 = .ok (.if_icmp .ne 7, 3) := by decide +kernel
theorem d7_39 : decode prog_61_method_4_code 39 = .ok (.iconst 1, 1) := by decide +kernel
theorem d7_40 : decode prog_61_method_4_code 40 = .ok (.goto 4, 3) := by decide +kernel
theorem d7_43 : decode prog_61_method_4_code 43 = .ok (.iconst 0, 1) := by decide +kernel
theorem d7_44 : decode prog_61_method_4_code 44 = .ok (.ireturn, 1) := by decide +kernel
theorem ef_ctQN (m : MethodId) (x0 : Addr) : entryFrame m #[(.ref x0), .null] 3 = mkF m 0 #[.val (.ref x0), .val .null, .unset] [] := by first | (simp [entryFrame, mkF, argsToLocals, Value.category]; done) | rfl
set_option maxRecDepth 65536 in
set_option maxHeartbeats 40000000 in
theorem ctQN (l : Launch) (Z : State) (a0 : Array Value) (hw : ∀ d ∈ tables_1, d.before a0 Z = true) (hE : EW Z a0 [("java/lang/String", 7)]) (a : Addr) (h0 : Heap) (hO : Ext Z.heap h0) :
    Ct true l Z [("java/lang/String", 7)] [] (⟨"com/example/portwright/portwright/xml/SourceLocation", "equals", "(Ljava/lang/Object;)Z"⟩ : MethodName) prog_61_method_4_code 3 (some .boolean) ({ frames := 2, cells := 0, slots := 0, locals := 28 } : Room) #[(.ref a), .null] h0 [] [] (fun v h => v = some (.int 0)) := by
  refine Ct.of_wp (a0 := a0) (Ls := #[.val (.ref a), .val .null, .unset]) (plainFor_of_name pn_com_example_portwright_portwright_xml_SourceLocation) hE hO nofun (fun m => ef_ctQN m a) ?_
  refine Wp.aloadN d7_0 (pc' := 1) rfl rfl rfl ?_
  refine Wp.instNull d7_1 (pc' := 4) rfl ?_
  refine Wp.if_ne (pc1 := 9) (pc' := 7) d7_4 (by decide) (by decide) rfl (fun hc1 => by exact absurd hc1 (by decide)) (fun hc1 => ?_)
  refine Wp.iconst (x := (0 : Int32)) d7_7 (pc' := 8) rfl rfl ?_
  refine Wp.retN (x' := (0 : Int32)) (t := .boolean) rfl (by simp) rfl d7_8 (by decide) (by decide) ?_
  rfl
theorem ef_ctQT (m : MethodId) (x0 : Addr) (x1 : Addr) : entryFrame m #[(.ref x0), (.ref x1)] 3 = mkF m 0 #[.val (.ref x0), .val (.ref x1), .unset] [] := by first | (simp [entryFrame, mkF, argsToLocals, Value.category]; done) | rfl
set_option maxRecDepth 65536 in
set_option maxHeartbeats 40000000 in
theorem ctQT (l : Launch) (Z : State) (a0 : Array Value) (hw : ∀ d ∈ tables_1, d.before a0 Z = true) (hE : EW Z a0 [("java/lang/String", 7)]) (a t : Addr) (h0 : Heap) (hO : Ext Z.heap h0) (E_t : Exa Z h0 t "java/lang/String") :
    Ct true l Z [("java/lang/String", 7)] [] (⟨"com/example/portwright/portwright/xml/SourceLocation", "equals", "(Ljava/lang/Object;)Z"⟩ : MethodName) prog_61_method_4_code 3 (some .boolean) ({ frames := 2, cells := 0, slots := 0, locals := 28 } : Room) #[(.ref a), (.ref t)] h0 [] [] (fun v h => v = some (.int 0)) := by
  refine Ct.of_wp (a0 := a0) (Ls := #[.val (.ref a), .val (.ref t), .unset]) (plainFor_of_name pn_com_example_portwright_portwright_xml_SourceLocation) hE hO nofun (fun m => ef_ctQT m a t) ?_
  refine Wp.aloadN d7_0 (pc' := 1) rfl rfl rfl ?_
  refine Wp.instNo rfl (hw _ (List.mem_of_getElem? (i := 48) rfl)) E_t (ns_no (hw _ (List.mem_of_getElem? (i := 49) rfl)) (hw _ (List.mem_of_getElem? (i := 50) rfl)) (hw _ (List.mem_of_getElem? (i := 6) rfl)) (by decide) (by decide)) d7_1 (pc' := 4) rfl ?_
  refine Wp.if_ne (pc1 := 9) (pc' := 7) d7_4 (by decide) (by decide) rfl (fun hc1 => by exact absurd hc1 (by decide)) (fun hc1 => ?_)
  refine Wp.iconst (x := (0 : Int32)) d7_7 (pc' := 8) rfl rfl ?_
  refine Wp.retN (x' := (0 : Int32)) (t := .boolean) rfl (by simp) rfl d7_8 (by decide) (by decide) ?_
  rfl
theorem ef_ctQS (m : MethodId) (x0 : Addr) (x1 : Addr) : entryFrame m #[(.ref x0), (.ref x1)] 3 = mkF m 0 #[.val (.ref x0), .val (.ref x1), .unset] [] := by first | (simp [entryFrame, mkF, argsToLocals, Value.category]; done) | rfl
theorem pd__Ljava_lang_Object__Z : parseMethodDescriptor "(Ljava/lang/Object;)Z" = some ⟨[(.object "java/lang/Object")], some .boolean⟩ := by decide +kernel
set_option maxRecDepth 65536 in
set_option maxHeartbeats 40000000 in
theorem ctQS (l : Launch) (Z : State) (a0 : Array Value) (hw : ∀ d ∈ tables_1, d.before a0 Z = true) (hE : EW Z a0 [("java/lang/String", 7)]) (a t : Addr) (n : Int32) (xs : List Int32) (h0 : Heap) (hO : Ext Z.heap h0) (E_a : Exa Z h0 a "com/example/portwright/portwright/xml/SourceLocation") (Fa : Fld Z h0 a "com/example/portwright/portwright/xml/SourceLocation" "file" "Ljava/lang/String;" (.ref t)) (Ga : Fld Z h0 a "com/example/portwright/portwright/xml/SourceLocation" "line" "I" (.int n)) (S_t : SL Z h0 t xs) :
    Ct true l Z [("java/lang/String", 7)] [] (⟨"com/example/portwright/portwright/xml/SourceLocation", "equals", "(Ljava/lang/Object;)Z"⟩ : MethodName) prog_61_method_4_code 3 (some .boolean) ({ frames := 2, cells := 0, slots := 0, locals := 28 } : Room) #[(.ref a), (.ref a)] h0 [] [] (fun v h => v = some (.int 1)) := by
  refine Ct.of_wp (a0 := a0) (Ls := #[.val (.ref a), .val (.ref a), .unset]) (plainFor_of_name pn_com_example_portwright_portwright_xml_SourceLocation) hE hO nofun (fun m => ef_ctQS m a a) ?_
  refine Wp.aloadN d7_0 (pc' := 1) rfl rfl rfl ?_
  refine Wp.instY rfl (hw _ (List.mem_of_getElem? (i := 48) rfl)) (Ins.self E_a) d7_1 (pc' := 4) rfl ?_
  refine Wp.if_ne (pc1 := 9) (pc' := 7) d7_4 (by decide) (by decide) rfl (fun hc1 => ?_) (fun hc1 => by exact absurd hc1 (by decide))
  refine Wp.aloadN d7_9 (pc' := 10) rfl rfl rfl ?_
  refine Wp.castY rfl (hw _ (List.mem_of_getElem? (i := 48) rfl)) (Ins.self E_a) d7_10 (pc' := 13) rfl ?_
  refine Wp.astoreN (l' := #[.val (.ref a), .val (.ref a), .val (.ref a)]) d7_13 (pc' := 14) rfl rfl rfl ?_
  refine Wp.aloadN d7_14 (pc' := 15) rfl rfl rfl ?_
  refine Wp.getF rfl (host := "") (Or.inl (hw _ (List.mem_of_getElem? (i := 39) rfl))) Via.refl Fa d7_15 (pc' := 18) rfl ?_
  refine Wp.aloadN d7_18 (pc' := 19) rfl rfl rfl ?_
  refine Wp.getF rfl (host := "") (Or.inl (hw _ (List.mem_of_getElem? (i := 39) rfl))) Via.refl Fa d7_19 (pc' := 22) rfl ?_
  refine Wp.old fun hOc => ?_
  have E_t := S_t.1
  refine Wp.callV (a := t) (x' := (⟨"java/lang/String", "equals", "(Ljava/lang/Object;)Z"⟩ : MethodName)) (W := 0) (argsL := [(.ref t)]) (rest := []) rfl (ctEQS l Z a0 hw hE t h0 hOc) (hw _ (List.mem_of_getElem? (i := 52) rfl)) (hw _ (List.mem_of_getElem? (i := 53) rfl)) (hw _ (List.mem_of_getElem? (i := 55) rfl)) (hw _ (List.mem_of_getElem? (i := 54) rfl)) (hw _ (List.mem_of_getElem? (i := 56) rfl)) (hw _ (List.mem_of_getElem? (i := 10) rfl)) (fun s hZ => nf_sel rfl (hw _ (List.mem_of_getElem? (i := 55) rfl)) s hZ rfl) E_t (by decide) (lenOf pd__Ljava_lang_Object__Z rfl) d7_22 rfl rfl rfl (Nat.le_of_eq rfl) (pc' := 25) rfl nofun nofun (by decide) (by decide) (k' := 0) (n' := 0) rfl rfl (by decide) (by decide) (fun vh2 h2 zh2 Kh2 qh2 => ?_)
  obtain rfl := qh2
  replace Fa := Fa.keep Kh2 nin0
  replace Ga := Ga.keep Kh2 nin0
  refine Wp.eqS (S' := [(.int (1 : Int32))]) rfl ?_
  refine Wp.if_eq (pc1 := 43) (pc' := 28) d7_25 (by decide) (by decide) rfl (fun hc3 => by exact absurd hc3 (by decide)) (fun hc3 => ?_)
  refine Wp.aloadN d7_28 (pc' := 29) rfl rfl rfl ?_
  refine Wp.getF rfl (host := "") (Or.inl (hw _ (List.mem_of_getElem? (i := 41) rfl))) Via.refl Ga d7_29 (pc' := 32) rfl ?_
  refine Wp.aloadN d7_32 (pc' := 33) rfl rfl rfl ?_
  refine Wp.getF rfl (host := "") (Or.inl (hw _ (List.mem_of_getElem? (i := 41) rfl))) Via.refl Ga d7_33 (pc' := 36) rfl ?_
  refine Wp.icmp_ne (pc1 := 43) (pc' := 39) d7_36 (by decide) (by decide) rfl (fun hc4 => by exact absurd rfl hc4) (fun hc4 => ?_)
  refine Wp.iconst (x := (1 : Int32)) d7_39 (pc' := 40) rfl rfl ?_
  refine Wp.goto (pc' := 44) d7_40 (by decide) (by decide) ?_
  refine Wp.retN (x' := (1 : Int32)) (t := .boolean) rfl (by simp) rfl d7_44 (by decide) (by decide) ?_
  rfl
theorem ef_ctQO (m : MethodId) (x0 : Addr) (x1 : Addr) : entryFrame m #[(.ref x0), (.ref x1)] 3 = mkF m 0 #[.val (.ref x0), .val (.ref x1), .unset] [] := by first | (simp [entryFrame, mkF, argsToLocals, Value.category]; done) | rfl
set_option maxRecDepth 65536 in
set_option maxHeartbeats 40000000 in
theorem ctQO (l : Launch) (Z : State) (a0 : Array Value) (hw : ∀ d ∈ tables_1, d.before a0 Z = true) (hE : EW Z a0 [("java/lang/String", 7)]) (a b s t : Addr) (n m : Int32) (xs ys : List Int32) (cz : Int32) (h0 : Heap) (hO : Ext Z.heap h0) (E_b : Exa Z h0 b "com/example/portwright/portwright/xml/SourceLocation") (Fa : Fld Z h0 a "com/example/portwright/portwright/xml/SourceLocation" "file" "Ljava/lang/String;" (.ref s)) (Ga : Fld Z h0 a "com/example/portwright/portwright/xml/SourceLocation" "line" "I" (.int n)) (Fb : Fld Z h0 b "com/example/portwright/portwright/xml/SourceLocation" "file" "Ljava/lang/String;" (.ref t)) (Gb : Fld Z h0 b "com/example/portwright/portwright/xml/SourceLocation" "line" "I" (.int m)) (S_s : SL Z h0 s xs) (S_t : SL Z h0 t ys) (hn_s : xs.length < 2147483647) (hn_t : ys.length < 2147483647) (hst : s ≠ t) (hco : Sta Z Z.heap "java/lang/String" "COMPACT_STRINGS" "Z" (.int cz)) (hcz : ¬ cz = 0) :
    Ct true l Z [("java/lang/String", 7)] [] (⟨"com/example/portwright/portwright/xml/SourceLocation", "equals", "(Ljava/lang/Object;)Z"⟩ : MethodName) prog_61_method_4_code 3 (some .boolean) ({ frames := 2, cells := 0, slots := 0, locals := 28 } : Room) #[(.ref a), (.ref b)] h0 [] [] (fun v h => v = some (.int (if xs = ys ∧ n = m then 1 else 0))) := by
  refine Ct.of_wp (a0 := a0) (Ls := #[.val (.ref a), .val (.ref b), .unset]) (plainFor_of_name pn_com_example_portwright_portwright_xml_SourceLocation) hE hO nofun (fun m => ef_ctQO m a b) ?_
  refine Wp.aloadN d7_0 (pc' := 1) rfl rfl rfl ?_
  refine Wp.instY rfl (hw _ (List.mem_of_getElem? (i := 48) rfl)) (Ins.self E_b) d7_1 (pc' := 4) rfl ?_
  refine Wp.if_ne (pc1 := 9) (pc' := 7) d7_4 (by decide) (by decide) rfl (fun hc1 => ?_) (fun hc1 => by exact absurd hc1 (by decide))
  refine Wp.aloadN d7_9 (pc' := 10) rfl rfl rfl ?_
  refine Wp.castY rfl (hw _ (List.mem_of_getElem? (i := 48) rfl)) (Ins.self E_b) d7_10 (pc' := 13) rfl ?_
  refine Wp.astoreN (l' := #[.val (.ref a), .val (.ref b), .val (.ref b)]) d7_13 (pc' := 14) rfl rfl rfl ?_
  refine Wp.aloadN d7_14 (pc' := 15) rfl rfl rfl ?_
  refine Wp.getF rfl (host := "") (Or.inl (hw _ (List.mem_of_getElem? (i := 39) rfl))) Via.refl Fa d7_15 (pc' := 18) rfl ?_
  refine Wp.aloadN d7_18 (pc' := 19) rfl rfl rfl ?_
  refine Wp.getF rfl (host := "") (Or.inl (hw _ (List.mem_of_getElem? (i := 39) rfl))) Via.refl Fb d7_19 (pc' := 22) rfl ?_
  refine Wp.old fun hOc => ?_
  have E_s := S_s.1
  refine Wp.callV (a := s) (x' := (⟨"java/lang/String", "equals", "(Ljava/lang/Object;)Z"⟩ : MethodName)) (W := 0) (argsL := [(.ref t)]) (rest := []) rfl (ctEQ l Z a0 hw hE s t _ _ cz h0 hOc hn_s hn_t S_s S_t hst hco hcz) (hw _ (List.mem_of_getElem? (i := 52) rfl)) (hw _ (List.mem_of_getElem? (i := 53) rfl)) (hw _ (List.mem_of_getElem? (i := 55) rfl)) (hw _ (List.mem_of_getElem? (i := 54) rfl)) (hw _ (List.mem_of_getElem? (i := 56) rfl)) (hw _ (List.mem_of_getElem? (i := 10) rfl)) (fun s hZ => nf_sel rfl (hw _ (List.mem_of_getElem? (i := 55) rfl)) s hZ rfl) E_s (by decide) (lenOf pd__Ljava_lang_Object__Z rfl) d7_22 rfl rfl rfl (Nat.le_of_eq rfl) (pc' := 25) rfl nofun nofun (by decide) (by decide) (k' := 0) (n' := 0) rfl rfl (by decide) (by decide) (fun vh2 h2 zh2 Kh2 qh2 => ?_)
  obtain rfl := qh2
  replace Fa := Fa.keep Kh2 nin0
  replace Ga := Ga.keep Kh2 nin0
  replace Fb := Fb.keep Kh2 nin0
  replace Gb := Gb.keep Kh2 nin0
  refine Wp.eqS (S' := [(.int (if xs = ys then (1 : Int32) else 0))]) rfl ?_
  refine Wp.if_eq (pc1 := 43) (pc' := 28) d7_25 (by decide) (by decide) rfl (fun hc3 => ?_) (fun hc3 => ?_)
  · have hc3 : (if xs = ys then (1 : Int32) else 0) = (0 : Int32) := hc3
    refine Wp.iconst (x := (0 : Int32)) d7_43 (pc' := 44) rfl rfl ?_
    refine Wp.retN (x' := (0 : Int32)) (t := .boolean) rfl (by simp) rfl d7_44 (by decide) (by decide) ?_
    have z0 := hc3
    simp at z0
    simp [z0]
  · have hc3 : ¬ ((if xs = ys then (1 : Int32) else 0) = (0 : Int32)) := hc3
    refine Wp.aloadN d7_28 (pc' := 29) rfl rfl rfl ?_
    refine Wp.getF rfl (host := "") (Or.inl (hw _ (List.mem_of_getElem? (i := 41) rfl))) Via.refl Ga d7_29 (pc' := 32) rfl ?_
    refine Wp.aloadN d7_32 (pc' := 33) rfl rfl rfl ?_
    refine Wp.getF rfl (host := "") (Or.inl (hw _ (List.mem_of_getElem? (i := 41) rfl))) Via.refl Gb d7_33 (pc' := 36) rfl ?_
    refine Wp.icmp_ne (pc1 := 43) (pc' := 39) d7_36 (by decide) (by decide) rfl (fun hc4 => ?_) (fun hc4 => ?_)
    · have hc4 : ¬ (n = m) := hc4
      refine Wp.iconst (x := (0 : Int32)) d7_43 (pc' := 44) rfl rfl ?_
      refine Wp.retN (x' := (0 : Int32)) (t := .boolean) rfl (by simp) rfl d7_44 (by decide) (by decide) ?_
      have z0 := hc3
      simp at z0
      simp [z0, hc4]
    · have hc4 : n = m := hc4
      refine Wp.iconst (x := (1 : Int32)) d7_39 (pc' := 40) rfl rfl ?_
      refine Wp.goto (pc' := 44) d7_40 (by decide) (by decide) ?_
      refine Wp.retN (x' := (1 : Int32)) (t := .boolean) rfl (by simp) rfl d7_44 (by decide) (by decide) ?_
      have z0 := hc3
      simp at z0
      simp [z0, hc4]
theorem d9_0 : decode method_3_code 0 = .ok (.iload_n 0, 1) := by decide +kernel
theorem d9_1 : decode method_3_code 1 = .ok (.iconst 3, 1) := by decide +kernel
theorem d9_2 : decode method_3_code 2 = .ok (.iand, 1) := by decide +kernel
theorem d9_3 : decode method_3_code 3 = .ok (.iconst 3, 1) := by decide +kernel
theorem d9_4 : decode method_3_code 4 = .ok (.irem, 1) := by decide +kernel
theorem d9_5 : decode method_3_code 5 = .ok (.istore_n 2, 1) := by decide +kernel
theorem d9_6 : decode method_3_code 6 = .ok (.iload_n 1, 1) := by decide +kernel
theorem d9_7 : decode method_3_code 7 = .ok (.iconst 3, 1) := by decide +kernel
theorem d9_8 : decode method_3_code 8 = .ok (.iand, 1) := by decide +kernel
theorem d9_9 : decode method_3_code 9 = .ok (.iconst 3, 1) := by decide +kernel
theorem d9_10 : decode method_3_code 10 = .ok (.irem, 1) := by decide +kernel
theorem d9_11 : decode method_3_code 11 = .ok (.istore_n 3, 1) := by decide +kernel
theorem d9_12 : decode method_3_code 12 = .ok (.iload_n 2, 1) := by decide +kernel
theorem d9_13 : decode method_3_code 13 = .ok (.iload_n 3, 1) := by decide +kernel
theorem d9_14 : decode method_3_code 14 = .ok (.if_icmp .eq 5, 3) := by decide +kernel
theorem d9_17 : decode method_3_code 17 = .ok (.iconst 0, 1) := by decide +kernel
theorem d9_18 : decode method_3_code 18 = .ok (.ireturn, 1) := by decide +kernel
theorem d9_19 : decode method_3_code 19 = .ok (.iload_n 2, 1) := by decide +kernel
theorem d9_20 : decode method_3_code 20 = .ok (.ifCond .le 22, 3) := by decide +kernel
theorem d9_23 : decode method_3_code 23 = .ok (.iload_n 0, 1) := by decide +kernel
theorem d9_24 : decode method_3_code 24 = .ok (.iconst 2, 1) := by decide +kernel
theorem d9_25 : decode method_3_code 25 = .ok (.iushr, 1) := by decide +kernel
theorem d9_26 : decode method_3_code 26 = .ok (.sipush 255, 3) := by decide +kernel
theorem d9_29 : decode method_3_code 29 = .ok (.iand, 1) := by decide +kernel
theorem d9_30 : decode method_3_code 30 = .ok (.iload_n 1, 1) := by decide +kernel
theorem d9_31 : decode method_3_code 31 = .ok (.iconst 2, 1) := by decide +kernel
theorem d9_32 : decode method_3_code 32 = .ok (.iushr, 1) := by decide +kernel
theorem d9_33 : decode method_3_code 33 = .ok (.sipush 255, 3) := by decide +kernel
theorem d9_36 : decode method_3_code 36 = .ok (.iand, 1) := by decide +kernel
theorem d9_37 : decode method_3_code 37 = .ok (.if_icmp .eq 5, 3) := by decide +kernel
theorem d9_40 : decode method_3_code 40 = .ok (.iconst 0, 1) := by decide +kernel
theorem d9_41 : decode method_3_code 41 = .ok (.ireturn, 1) := by decide +kernel
theorem d9_42 : decode method_3_code 42 = .ok (.iload_n 2, 1) := by decide +kernel
theorem d9_43 : decode method_3_code 43 = .ok (.iconst 1, 1) := by decide +kernel
theorem d9_44 : decode method_3_code 44 = .ok (.if_icmp .le 24, 3) := by decide +kernel
theorem d9_47 : decode method_3_code 47 = .ok (.iload_n 0, 1) := by decide +kernel
theorem d9_48 : decode method_3_code 48 = .ok (.bipush 10, 2) := by decide +kernel
theorem d9_50 : decode method_3_code 50 = .ok (.iushr, 1) := by decide +kernel
theorem d9_51 : decode method_3_code 51 = .ok (.sipush 255, 3) := by decide +kernel
theorem d9_54 : decode method_3_code 54 = .ok (.iand, 1) := by decide +kernel
theorem d9_55 : decode method_3_code 55 = .ok (.iload_n 1, 1) := by decide +kernel
theorem d9_56 : decode method_3_code 56 = .ok (.bipush 10, 2) := by decide +kernel
theorem d9_58 : decode method_3_code 58 = .ok (.iushr, 1) := by decide +kernel
theorem d9_59 : decode method_3_code 59 = .ok (.sipush 255, 3) := by decide +kernel
theorem d9_62 : decode method_3_code 62 = .ok (.iand, 1) := by decide +kernel
theorem d9_63 : decode method_3_code 63 = .ok (.if_icmp .eq 5, 3) := by decide +kernel
theorem d9_66 : decode method_3_code 66 = .ok (.iconst 0, 1) := by decide +kernel
theorem d9_67 : decode method_3_code 67 = .ok (.ireturn, 1) := by decide +kernel
theorem d9_68 : decode method_3_code 68 = .ok (.iconst 1, 1) := by decide +kernel
theorem d9_69 : decode method_3_code 69 = .ok (.ireturn, 1) := by decide +kernel
theorem ef_ctSAME (m : MethodId) (x0 : Int32) (x1 : Int32) : entryFrame m #[(.int x0), (.int x1)] 4 = mkF m 0 #[.val (.int x0), .val (.int x1), .unset, .unset] [] := by first | (simp [entryFrame, mkF, argsToLocals, Value.category]; done) | rfl
theorem own_n1 {x : Int32} (h : ¬ (1 : Int32) < x) : x < 2 := by
  have e1 : (1 : Int32).toInt = 1 := rfl
  have e2 : (2 : Int32).toInt = 2 := rfl
  rw [Int32.lt_iff_toInt_lt] at *; omega
theorem own_n0 {x : Int32} (h : ¬ (0 : Int32) < x) : x < 1 := by
  have e1 : (1 : Int32).toInt = 1 := rfl
  have e2 : (0 : Int32).toInt = 0 := rfl
  rw [Int32.lt_iff_toInt_lt] at *; omega
theorem own_lt2 {x : Int32} (h : x < 1) : x < 2 := by
  have e1 : (1 : Int32).toInt = 1 := rfl
  have e2 : (2 : Int32).toInt = 2 := rfl
  rw [Int32.lt_iff_toInt_lt] at *; omega
theorem own_m1 {x : Int32} (h : (1 : Int32) < x) : ¬ x < 2 := by
  have e1 : (1 : Int32).toInt = 1 := rfl
  have e2 : (2 : Int32).toInt = 2 := rfl
  rw [Int32.lt_iff_toInt_lt] at *; omega
theorem own_m0 {x : Int32} (h : (0 : Int32) < x) : ¬ x < 1 := by
  have e1 : (1 : Int32).toInt = 1 := rfl
  have e2 : (0 : Int32).toInt = 0 := rfl
  rw [Int32.lt_iff_toInt_lt] at *; omega
set_option maxRecDepth 65536 in
set_option maxHeartbeats 40000000 in
theorem ctSAME (l : Launch) (Z : State) (a0 : Array Value) (hw : ∀ d ∈ tables_1, d.before a0 Z = true) (hE : EW Z a0 [("java/lang/String", 7)]) (p r : Int32) (h0 : Heap) (hO : Ext Z.heap h0) :
    Ct true l Z [("java/lang/String", 7)] [] (⟨"com/example/portwright/portwright/xml/SourceLocationEqualsPinLaw", "sameChars", "(II)Z"⟩ : MethodName) method_3_code 4 (some .boolean) ({ frames := 0, cells := 0, slots := 0, locals := 0 } : Room) #[(.int p), (.int r)] h0 [] [] (fun v h => v = some (.int (if own_str p = own_str r then 1 else 0))) := by
  refine Ct.of_wp (a0 := a0) (Ls := #[.val (.int p), .val (.int r), .unset, .unset]) (plainFor_of_name pn_com_example_portwright_portwright_xml_SourceLocationEqualsPinLaw) hE hO nofun (fun m => ef_ctSAME m p r) ?_
  refine Wp.iloadN d9_0 (pc' := 1) rfl rfl ?_
  refine Wp.iconst (x := (3 : Int32)) d9_1 (pc' := 2) rfl rfl ?_
  refine Wp.iand d9_2 (pc' := 3) rfl ?_
  refine Wp.iconst (x := (3 : Int32)) d9_3 (pc' := 4) rfl rfl ?_
  refine Wp.irem d9_4 (pc' := 5) rfl (by decide) ?_
  refine Wp.istoreN (l' := #[.val (.int p), .val (.int r), .val (.int ((p &&& (3 : Int32)) % (3 : Int32))), .unset]) d9_5 (pc' := 6) rfl rfl ?_
  refine Wp.iloadN d9_6 (pc' := 7) rfl rfl ?_
  refine Wp.iconst (x := (3 : Int32)) d9_7 (pc' := 8) rfl rfl ?_
  refine Wp.iand d9_8 (pc' := 9) rfl ?_
  refine Wp.iconst (x := (3 : Int32)) d9_9 (pc' := 10) rfl rfl ?_
  refine Wp.irem d9_10 (pc' := 11) rfl (by decide) ?_
  refine Wp.istoreN (l' := #[.val (.int p), .val (.int r), .val (.int ((p &&& (3 : Int32)) % (3 : Int32))), .val (.int ((r &&& (3 : Int32)) % (3 : Int32)))]) d9_11 (pc' := 12) rfl rfl ?_
  refine Wp.iloadN d9_12 (pc' := 13) rfl rfl ?_
  refine Wp.iloadN d9_13 (pc' := 14) rfl rfl ?_
  refine Wp.icmp_eq (pc1 := 19) (pc' := 17) d9_14 (by decide) (by decide) rfl (fun hc1 => ?_) (fun hc1 => ?_)
  · have hc1 : ((p &&& (3 : Int32)) % (3 : Int32)) = ((r &&& (3 : Int32)) % (3 : Int32)) := hc1
    refine Wp.iloadN d9_19 (pc' := 20) rfl rfl ?_
    refine Wp.if_le (pc1 := 42) (pc' := 23) d9_20 (by decide) (by decide) rfl (fun hc2 => ?_) (fun hc2 => ?_)
    · have hc2 : ¬ ((0 : Int32) < ((p &&& (3 : Int32)) % (3 : Int32))) := hc2
      refine Wp.iloadN d9_42 (pc' := 43) rfl rfl ?_
      refine Wp.iconst (x := (1 : Int32)) d9_43 (pc' := 44) rfl rfl ?_
      refine Wp.icmp_le (pc1 := 68) (pc' := 47) d9_44 (by decide) (by decide) rfl (fun hc3 => ?_) (fun hc3 => ?_)
      · have hc3 : ¬ ((1 : Int32) < ((p &&& (3 : Int32)) % (3 : Int32))) := hc3
        refine Wp.iconst (x := (1 : Int32)) d9_68 (pc' := 69) rfl rfl ?_
        refine Wp.retN (x' := (1 : Int32)) (t := .boolean) rfl (by simp) rfl d9_69 (by decide) (by decide) ?_
        rw [if_pos ((own_same p r).mpr ⟨(by first | exact hc1 | exact hc2 | exact hc3), (by first | exact Or.inl hc1 | exact Or.inr hc1 | exact Or.inl (own_n0 hc1) | exact Or.inl (own_n1 hc1) | exact Or.inl hc2 | exact Or.inr hc2 | exact Or.inl (own_n0 hc2) | exact Or.inl (own_n1 hc2) | exact Or.inl hc3 | exact Or.inr hc3 | exact Or.inl (own_n0 hc3) | exact Or.inl (own_n1 hc3)), (by first | exact Or.inl hc1 | exact Or.inr hc1 | exact Or.inl (own_n0 hc1) | exact Or.inl (own_n1 hc1) | exact Or.inl (own_lt2 (own_n0 hc1)) | exact Or.inl hc2 | exact Or.inr hc2 | exact Or.inl (own_n0 hc2) | exact Or.inl (own_n1 hc2) | exact Or.inl (own_lt2 (own_n0 hc2)) | exact Or.inl hc3 | exact Or.inr hc3 | exact Or.inl (own_n0 hc3) | exact Or.inl (own_n1 hc3) | exact Or.inl (own_lt2 (own_n0 hc3)))⟩)]
      · have hc3 : (1 : Int32) < ((p &&& (3 : Int32)) % (3 : Int32)) := hc3
        refine Wp.iloadN d9_47 (pc' := 48) rfl rfl ?_
        refine Wp.bipush (x := (10 : Int32)) d9_48 (pc' := 50) rfl rfl ?_
        refine Wp.iushr d9_50 (pc' := 51) rfl ?_
        refine Wp.sipush (x := (255 : Int32)) d9_51 (pc' := 54) rfl rfl ?_
        refine Wp.iand d9_54 (pc' := 55) rfl ?_
        refine Wp.iloadN d9_55 (pc' := 56) rfl rfl ?_
        refine Wp.bipush (x := (10 : Int32)) d9_56 (pc' := 58) rfl rfl ?_
        refine Wp.iushr d9_58 (pc' := 59) rfl ?_
        refine Wp.sipush (x := (255 : Int32)) d9_59 (pc' := 62) rfl rfl ?_
        refine Wp.iand d9_62 (pc' := 63) rfl ?_
        refine Wp.icmp_eq (pc1 := 68) (pc' := 66) d9_63 (by decide) (by decide) rfl (fun hc4 => ?_) (fun hc4 => ?_)
        · have hc4 : (((p.toUInt32 >>> ((10 : Int32) &&& 31).toUInt32).toInt32) &&& (255 : Int32)) = (((r.toUInt32 >>> ((10 : Int32) &&& 31).toUInt32).toInt32) &&& (255 : Int32)) := hc4
          refine Wp.iconst (x := (1 : Int32)) d9_68 (pc' := 69) rfl rfl ?_
          refine Wp.retN (x' := (1 : Int32)) (t := .boolean) rfl (by simp) rfl d9_69 (by decide) (by decide) ?_
          rw [if_pos ((own_same p r).mpr ⟨(by first | exact hc1 | exact hc2 | exact hc3 | exact hc4), (by first | exact Or.inl hc1 | exact Or.inr hc1 | exact Or.inl (own_n0 hc1) | exact Or.inl (own_n1 hc1) | exact Or.inl hc2 | exact Or.inr hc2 | exact Or.inl (own_n0 hc2) | exact Or.inl (own_n1 hc2) | exact Or.inl hc3 | exact Or.inr hc3 | exact Or.inl (own_n0 hc3) | exact Or.inl (own_n1 hc3) | exact Or.inl hc4 | exact Or.inr hc4 | exact Or.inl (own_n0 hc4) | exact Or.inl (own_n1 hc4)), (by first | exact Or.inl hc1 | exact Or.inr hc1 | exact Or.inl (own_n0 hc1) | exact Or.inl (own_n1 hc1) | exact Or.inl (own_lt2 (own_n0 hc1)) | exact Or.inl hc2 | exact Or.inr hc2 | exact Or.inl (own_n0 hc2) | exact Or.inl (own_n1 hc2) | exact Or.inl (own_lt2 (own_n0 hc2)) | exact Or.inl hc3 | exact Or.inr hc3 | exact Or.inl (own_n0 hc3) | exact Or.inl (own_n1 hc3) | exact Or.inl (own_lt2 (own_n0 hc3)) | exact Or.inl hc4 | exact Or.inr hc4 | exact Or.inl (own_n0 hc4) | exact Or.inl (own_n1 hc4) | exact Or.inl (own_lt2 (own_n0 hc4)))⟩)]
        · have hc4 : ¬ ((((p.toUInt32 >>> ((10 : Int32) &&& 31).toUInt32).toInt32) &&& (255 : Int32)) = (((r.toUInt32 >>> ((10 : Int32) &&& 31).toUInt32).toInt32) &&& (255 : Int32))) := hc4
          refine Wp.iconst (x := (0 : Int32)) d9_66 (pc' := 67) rfl rfl ?_
          refine Wp.retN (x' := (0 : Int32)) (t := .boolean) rfl (by simp) rfl d9_67 (by decide) (by decide) ?_
          rw [if_neg (fun e => by
            obtain ⟨e1, e2, e3⟩ := (own_same p r).mp e
            rcases e2 with e2 | e2 <;> rcases e3 with e3 | e3 <;> first | exact absurd e1 hc1 | exact absurd hc1 e1 | exact absurd e1 (own_m0 hc1) | exact absurd e1 (own_m1 hc1) | exact absurd e2 hc1 | exact absurd hc1 e2 | exact absurd e2 (own_m0 hc1) | exact absurd e2 (own_m1 hc1) | exact absurd e3 hc1 | exact absurd hc1 e3 | exact absurd e3 (own_m0 hc1) | exact absurd e3 (own_m1 hc1) | exact absurd e1 hc2 | exact absurd hc2 e1 | exact absurd e1 (own_m0 hc2) | exact absurd e1 (own_m1 hc2) | exact absurd e2 hc2 | exact absurd hc2 e2 | exact absurd e2 (own_m0 hc2) | exact absurd e2 (own_m1 hc2) | exact absurd e3 hc2 | exact absurd hc2 e3 | exact absurd e3 (own_m0 hc2) | exact absurd e3 (own_m1 hc2) | exact absurd e1 hc3 | exact absurd hc3 e1 | exact absurd e1 (own_m0 hc3) | exact absurd e1 (own_m1 hc3) | exact absurd e2 hc3 | exact absurd hc3 e2 | exact absurd e2 (own_m0 hc3) | exact absurd e2 (own_m1 hc3) | exact absurd e3 hc3 | exact absurd hc3 e3 | exact absurd e3 (own_m0 hc3) | exact absurd e3 (own_m1 hc3) | exact absurd e1 hc4 | exact absurd hc4 e1 | exact absurd e1 (own_m0 hc4) | exact absurd e1 (own_m1 hc4) | exact absurd e2 hc4 | exact absurd hc4 e2 | exact absurd e2 (own_m0 hc4) | exact absurd e2 (own_m1 hc4) | exact absurd e3 hc4 | exact absurd hc4 e3 | exact absurd e3 (own_m0 hc4) | exact absurd e3 (own_m1 hc4))]
    · have hc2 : (0 : Int32) < ((p &&& (3 : Int32)) % (3 : Int32)) := hc2
      refine Wp.iloadN d9_23 (pc' := 24) rfl rfl ?_
      refine Wp.iconst (x := (2 : Int32)) d9_24 (pc' := 25) rfl rfl ?_
      refine Wp.iushr d9_25 (pc' := 26) rfl ?_
      refine Wp.sipush (x := (255 : Int32)) d9_26 (pc' := 29) rfl rfl ?_
      refine Wp.iand d9_29 (pc' := 30) rfl ?_
      refine Wp.iloadN d9_30 (pc' := 31) rfl rfl ?_
      refine Wp.iconst (x := (2 : Int32)) d9_31 (pc' := 32) rfl rfl ?_
      refine Wp.iushr d9_32 (pc' := 33) rfl ?_
      refine Wp.sipush (x := (255 : Int32)) d9_33 (pc' := 36) rfl rfl ?_
      refine Wp.iand d9_36 (pc' := 37) rfl ?_
      refine Wp.icmp_eq (pc1 := 42) (pc' := 40) d9_37 (by decide) (by decide) rfl (fun hc5 => ?_) (fun hc5 => ?_)
      · have hc5 : (((p.toUInt32 >>> ((2 : Int32) &&& 31).toUInt32).toInt32) &&& (255 : Int32)) = (((r.toUInt32 >>> ((2 : Int32) &&& 31).toUInt32).toInt32) &&& (255 : Int32)) := hc5
        refine Wp.iloadN d9_42 (pc' := 43) rfl rfl ?_
        refine Wp.iconst (x := (1 : Int32)) d9_43 (pc' := 44) rfl rfl ?_
        refine Wp.icmp_le (pc1 := 68) (pc' := 47) d9_44 (by decide) (by decide) rfl (fun hc6 => ?_) (fun hc6 => ?_)
        · have hc6 : ¬ ((1 : Int32) < ((p &&& (3 : Int32)) % (3 : Int32))) := hc6
          refine Wp.iconst (x := (1 : Int32)) d9_68 (pc' := 69) rfl rfl ?_
          refine Wp.retN (x' := (1 : Int32)) (t := .boolean) rfl (by simp) rfl d9_69 (by decide) (by decide) ?_
          rw [if_pos ((own_same p r).mpr ⟨(by first | exact hc1 | exact hc2 | exact hc5 | exact hc6), (by first | exact Or.inl hc1 | exact Or.inr hc1 | exact Or.inl (own_n0 hc1) | exact Or.inl (own_n1 hc1) | exact Or.inl hc2 | exact Or.inr hc2 | exact Or.inl (own_n0 hc2) | exact Or.inl (own_n1 hc2) | exact Or.inl hc5 | exact Or.inr hc5 | exact Or.inl (own_n0 hc5) | exact Or.inl (own_n1 hc5) | exact Or.inl hc6 | exact Or.inr hc6 | exact Or.inl (own_n0 hc6) | exact Or.inl (own_n1 hc6)), (by first | exact Or.inl hc1 | exact Or.inr hc1 | exact Or.inl (own_n0 hc1) | exact Or.inl (own_n1 hc1) | exact Or.inl (own_lt2 (own_n0 hc1)) | exact Or.inl hc2 | exact Or.inr hc2 | exact Or.inl (own_n0 hc2) | exact Or.inl (own_n1 hc2) | exact Or.inl (own_lt2 (own_n0 hc2)) | exact Or.inl hc5 | exact Or.inr hc5 | exact Or.inl (own_n0 hc5) | exact Or.inl (own_n1 hc5) | exact Or.inl (own_lt2 (own_n0 hc5)) | exact Or.inl hc6 | exact Or.inr hc6 | exact Or.inl (own_n0 hc6) | exact Or.inl (own_n1 hc6) | exact Or.inl (own_lt2 (own_n0 hc6)))⟩)]
        · have hc6 : (1 : Int32) < ((p &&& (3 : Int32)) % (3 : Int32)) := hc6
          refine Wp.iloadN d9_47 (pc' := 48) rfl rfl ?_
          refine Wp.bipush (x := (10 : Int32)) d9_48 (pc' := 50) rfl rfl ?_
          refine Wp.iushr d9_50 (pc' := 51) rfl ?_
          refine Wp.sipush (x := (255 : Int32)) d9_51 (pc' := 54) rfl rfl ?_
          refine Wp.iand d9_54 (pc' := 55) rfl ?_
          refine Wp.iloadN d9_55 (pc' := 56) rfl rfl ?_
          refine Wp.bipush (x := (10 : Int32)) d9_56 (pc' := 58) rfl rfl ?_
          refine Wp.iushr d9_58 (pc' := 59) rfl ?_
          refine Wp.sipush (x := (255 : Int32)) d9_59 (pc' := 62) rfl rfl ?_
          refine Wp.iand d9_62 (pc' := 63) rfl ?_
          refine Wp.icmp_eq (pc1 := 68) (pc' := 66) d9_63 (by decide) (by decide) rfl (fun hc7 => ?_) (fun hc7 => ?_)
          · have hc7 : (((p.toUInt32 >>> ((10 : Int32) &&& 31).toUInt32).toInt32) &&& (255 : Int32)) = (((r.toUInt32 >>> ((10 : Int32) &&& 31).toUInt32).toInt32) &&& (255 : Int32)) := hc7
            refine Wp.iconst (x := (1 : Int32)) d9_68 (pc' := 69) rfl rfl ?_
            refine Wp.retN (x' := (1 : Int32)) (t := .boolean) rfl (by simp) rfl d9_69 (by decide) (by decide) ?_
            rw [if_pos ((own_same p r).mpr ⟨(by first | exact hc1 | exact hc2 | exact hc5 | exact hc6 | exact hc7), (by first | exact Or.inl hc1 | exact Or.inr hc1 | exact Or.inl (own_n0 hc1) | exact Or.inl (own_n1 hc1) | exact Or.inl hc2 | exact Or.inr hc2 | exact Or.inl (own_n0 hc2) | exact Or.inl (own_n1 hc2) | exact Or.inl hc5 | exact Or.inr hc5 | exact Or.inl (own_n0 hc5) | exact Or.inl (own_n1 hc5) | exact Or.inl hc6 | exact Or.inr hc6 | exact Or.inl (own_n0 hc6) | exact Or.inl (own_n1 hc6) | exact Or.inl hc7 | exact Or.inr hc7 | exact Or.inl (own_n0 hc7) | exact Or.inl (own_n1 hc7)), (by first | exact Or.inl hc1 | exact Or.inr hc1 | exact Or.inl (own_n0 hc1) | exact Or.inl (own_n1 hc1) | exact Or.inl (own_lt2 (own_n0 hc1)) | exact Or.inl hc2 | exact Or.inr hc2 | exact Or.inl (own_n0 hc2) | exact Or.inl (own_n1 hc2) | exact Or.inl (own_lt2 (own_n0 hc2)) | exact Or.inl hc5 | exact Or.inr hc5 | exact Or.inl (own_n0 hc5) | exact Or.inl (own_n1 hc5) | exact Or.inl (own_lt2 (own_n0 hc5)) | exact Or.inl hc6 | exact Or.inr hc6 | exact Or.inl (own_n0 hc6) | exact Or.inl (own_n1 hc6) | exact Or.inl (own_lt2 (own_n0 hc6)) | exact Or.inl hc7 | exact Or.inr hc7 | exact Or.inl (own_n0 hc7) | exact Or.inl (own_n1 hc7) | exact Or.inl (own_lt2 (own_n0 hc7)))⟩)]
          · have hc7 : ¬ ((((p.toUInt32 >>> ((10 : Int32) &&& 31).toUInt32).toInt32) &&& (255 : Int32)) = (((r.toUInt32 >>> ((10 : Int32) &&& 31).toUInt32).toInt32) &&& (255 : Int32))) := hc7
            refine Wp.iconst (x := (0 : Int32)) d9_66 (pc' := 67) rfl rfl ?_
            refine Wp.retN (x' := (0 : Int32)) (t := .boolean) rfl (by simp) rfl d9_67 (by decide) (by decide) ?_
            rw [if_neg (fun e => by
              obtain ⟨e1, e2, e3⟩ := (own_same p r).mp e
              rcases e2 with e2 | e2 <;> rcases e3 with e3 | e3 <;> first | exact absurd e1 hc1 | exact absurd hc1 e1 | exact absurd e1 (own_m0 hc1) | exact absurd e1 (own_m1 hc1) | exact absurd e2 hc1 | exact absurd hc1 e2 | exact absurd e2 (own_m0 hc1) | exact absurd e2 (own_m1 hc1) | exact absurd e3 hc1 | exact absurd hc1 e3 | exact absurd e3 (own_m0 hc1) | exact absurd e3 (own_m1 hc1) | exact absurd e1 hc2 | exact absurd hc2 e1 | exact absurd e1 (own_m0 hc2) | exact absurd e1 (own_m1 hc2) | exact absurd e2 hc2 | exact absurd hc2 e2 | exact absurd e2 (own_m0 hc2) | exact absurd e2 (own_m1 hc2) | exact absurd e3 hc2 | exact absurd hc2 e3 | exact absurd e3 (own_m0 hc2) | exact absurd e3 (own_m1 hc2) | exact absurd e1 hc5 | exact absurd hc5 e1 | exact absurd e1 (own_m0 hc5) | exact absurd e1 (own_m1 hc5) | exact absurd e2 hc5 | exact absurd hc5 e2 | exact absurd e2 (own_m0 hc5) | exact absurd e2 (own_m1 hc5) | exact absurd e3 hc5 | exact absurd hc5 e3 | exact absurd e3 (own_m0 hc5) | exact absurd e3 (own_m1 hc5) | exact absurd e1 hc6 | exact absurd hc6 e1 | exact absurd e1 (own_m0 hc6) | exact absurd e1 (own_m1 hc6) | exact absurd e2 hc6 | exact absurd hc6 e2 | exact absurd e2 (own_m0 hc6) | exact absurd e2 (own_m1 hc6) | exact absurd e3 hc6 | exact absurd hc6 e3 | exact absurd e3 (own_m0 hc6) | exact absurd e3 (own_m1 hc6) | exact absurd e1 hc7 | exact absurd hc7 e1 | exact absurd e1 (own_m0 hc7) | exact absurd e1 (own_m1 hc7) | exact absurd e2 hc7 | exact absurd hc7 e2 | exact absurd e2 (own_m0 hc7) | exact absurd e2 (own_m1 hc7) | exact absurd e3 hc7 | exact absurd hc7 e3 | exact absurd e3 (own_m0 hc7) | exact absurd e3 (own_m1 hc7))]
      · have hc5 : ¬ ((((p.toUInt32 >>> ((2 : Int32) &&& 31).toUInt32).toInt32) &&& (255 : Int32)) = (((r.toUInt32 >>> ((2 : Int32) &&& 31).toUInt32).toInt32) &&& (255 : Int32))) := hc5
        refine Wp.iconst (x := (0 : Int32)) d9_40 (pc' := 41) rfl rfl ?_
        refine Wp.retN (x' := (0 : Int32)) (t := .boolean) rfl (by simp) rfl d9_41 (by decide) (by decide) ?_
        rw [if_neg (fun e => by
          obtain ⟨e1, e2, e3⟩ := (own_same p r).mp e
          rcases e2 with e2 | e2 <;> rcases e3 with e3 | e3 <;> first | exact absurd e1 hc1 | exact absurd hc1 e1 | exact absurd e1 (own_m0 hc1) | exact absurd e1 (own_m1 hc1) | exact absurd e2 hc1 | exact absurd hc1 e2 | exact absurd e2 (own_m0 hc1) | exact absurd e2 (own_m1 hc1) | exact absurd e3 hc1 | exact absurd hc1 e3 | exact absurd e3 (own_m0 hc1) | exact absurd e3 (own_m1 hc1) | exact absurd e1 hc2 | exact absurd hc2 e1 | exact absurd e1 (own_m0 hc2) | exact absurd e1 (own_m1 hc2) | exact absurd e2 hc2 | exact absurd hc2 e2 | exact absurd e2 (own_m0 hc2) | exact absurd e2 (own_m1 hc2) | exact absurd e3 hc2 | exact absurd hc2 e3 | exact absurd e3 (own_m0 hc2) | exact absurd e3 (own_m1 hc2) | exact absurd e1 hc5 | exact absurd hc5 e1 | exact absurd e1 (own_m0 hc5) | exact absurd e1 (own_m1 hc5) | exact absurd e2 hc5 | exact absurd hc5 e2 | exact absurd e2 (own_m0 hc5) | exact absurd e2 (own_m1 hc5) | exact absurd e3 hc5 | exact absurd hc5 e3 | exact absurd e3 (own_m0 hc5) | exact absurd e3 (own_m1 hc5))]
  · have hc1 : ¬ (((p &&& (3 : Int32)) % (3 : Int32)) = ((r &&& (3 : Int32)) % (3 : Int32))) := hc1
    refine Wp.iconst (x := (0 : Int32)) d9_17 (pc' := 18) rfl rfl ?_
    refine Wp.retN (x' := (0 : Int32)) (t := .boolean) rfl (by simp) rfl d9_18 (by decide) (by decide) ?_
    rw [if_neg (fun e => by
      obtain ⟨e1, e2, e3⟩ := (own_same p r).mp e
      rcases e2 with e2 | e2 <;> rcases e3 with e3 | e3 <;> first | exact absurd e1 hc1 | exact absurd hc1 e1 | exact absurd e1 (own_m0 hc1) | exact absurd e1 (own_m1 hc1) | exact absurd e2 hc1 | exact absurd hc1 e2 | exact absurd e2 (own_m0 hc1) | exact absurd e2 (own_m1 hc1) | exact absurd e3 hc1 | exact absurd hc1 e3 | exact absurd e3 (own_m0 hc1) | exact absurd e3 (own_m1 hc1))]
theorem ef_ct0 (m : MethodId) (x0 : Int32) (x1 : Int32) (x2 : Int32) (x3 : Int32) (x4 : Int32) : entryFrame m #[(.int x0), (.int x1), (.int x2), (.int x3), (.int x4)] maxLocals = mkF m 0 #[.val (.int x0), .val (.int x1), .val (.int x2), .val (.int x3), .val (.int x4), .unset, .unset, .unset, .unset, .unset, .unset, .unset, .unset] [] := by first | (simp [entryFrame, mkF, argsToLocals, Value.category, maxLocals]; done) | rfl
theorem pd__I__C : parseMethodDescriptor "(I)[C" = some ⟨[.int], some (.array .char)⟩ := by decide +kernel
theorem pd___C_V : parseMethodDescriptor "([C)V" = some ⟨[(.array .char)], none⟩ := by decide +kernel
theorem pd__Ljava_lang_String_I_V : parseMethodDescriptor "(Ljava/lang/String;I)V" = some ⟨[(.object "java/lang/String"), .int], none⟩ := by decide +kernel
theorem pd__II_Z : parseMethodDescriptor "(II)Z" = some ⟨[.int, .int], some .boolean⟩ := by decide +kernel
set_option maxRecDepth 65536 in
set_option maxHeartbeats 40000000 in
theorem ct0 (l : Launch) (Z : State) (a0 : Array Value) (hw : ∀ d ∈ tables_1, d.before a0 Z = true) (hE : EW Z a0 [("java/lang/String", 7)]) (p1 p2 p3 p4 p5 cz : Int32) (h0 : Heap) (hO : Ext Z.heap h0) (hco : Sta Z Z.heap "java/lang/String" "COMPACT_STRINGS" "Z" (.int cz)) (hcz : ¬ cz = 0) :
    Ct true l Z [("java/lang/String", 7)] tables_1 x code maxLocals ret room_1 #[(.int p1), (.int p2), (.int p3), (.int p4), (.int p5)] h0 [] [] (fun v h => v = some (.int 1)) := by
  refine Ct.of_wp (a0 := a0) (Ls := #[.val (.int p1), .val (.int p2), .val (.int p3), .val (.int p4), .val (.int p5), .unset, .unset, .unset, .unset, .unset, .unset, .unset, .unset]) (plainFor_of_name pn_com_example_portwright_portwright_xml_SourceLocationEqualsPinLaw) hE hO nofun (fun m => ef_ct0 m p1 p2 p3 p4 p5) ?_
  refine Wp.iload at_0 (pc' := 2) rfl rfl ?_
  refine Wp.iconst (x := (1 : Int32)) at_2 (pc' := 3) rfl rfl ?_
  refine Wp.iand at_3 (pc' := 4) rfl ?_
  suffices hj12 : ∀ o5 : Int32, Wp true l Z a0 [("java/lang/String", 7)] room_1 x code maxLocals ret h0 [] (fun v h => v = some (.int 1)) h0 [] 0 0 12 #[.val (.int p1), .val (.int p2), .val (.int p3), .val (.int p4), .val (.int p5), .unset, .unset, .unset, .unset, .unset, .unset, .unset, .unset] [(.int o5)] by
    refine Wp.if_eq (pc1 := 11) (pc' := 7) at_4 (by decide) (by decide) rfl (fun hc1 => ?_) (fun hc1 => ?_)
    · have hc1 : (p5 &&& (1 : Int32)) = (0 : Int32) := hc1
      refine Wp.iloadN at_11 (pc' := 12) rfl rfl ?_
      exact hj12 _
    · have hc1 : ¬ ((p5 &&& (1 : Int32)) = (0 : Int32)) := hc1
      refine Wp.iloadN at_7 (pc' := 8) rfl rfl ?_
      refine Wp.goto (pc' := 12) at_8 (by decide) (by decide) ?_
      exact hj12 _
  intro o5
  refine Wp.istore (l' := #[.val (.int p1), .val (.int p2), .val (.int p3), .val (.int p4), .val (.int p5), .val (.int o5), .unset, .unset, .unset, .unset, .unset, .unset, .unset]) at_12 (pc' := 14) rfl rfl ?_
  refine Wp.iload at_14 (pc' := 16) rfl rfl ?_
  refine Wp.iconst (x := (2 : Int32)) at_16 (pc' := 17) rfl rfl ?_
  refine Wp.iand at_17 (pc' := 18) rfl ?_
  suffices hj26 : ∀ o6 : Int32, Wp true l Z a0 [("java/lang/String", 7)] room_1 x code maxLocals ret h0 [] (fun v h => v = some (.int 1)) h0 [] 0 0 26 #[.val (.int p1), .val (.int p2), .val (.int p3), .val (.int p4), .val (.int p5), .val (.int o5), .unset, .unset, .unset, .unset, .unset, .unset, .unset] [(.int o6)] by
    refine Wp.if_eq (pc1 := 25) (pc' := 21) at_18 (by decide) (by decide) rfl (fun hc2 => ?_) (fun hc2 => ?_)
    · have hc2 : (p5 &&& (2 : Int32)) = (0 : Int32) := hc2
      refine Wp.iloadN at_25 (pc' := 26) rfl rfl ?_
      exact hj26 _
    · have hc2 : ¬ ((p5 &&& (2 : Int32)) = (0 : Int32)) := hc2
      refine Wp.iloadN at_21 (pc' := 22) rfl rfl ?_
      refine Wp.goto (pc' := 26) at_22 (by decide) (by decide) ?_
      exact hj26 _
  intro o6
  refine Wp.istore (l' := #[.val (.int p1), .val (.int p2), .val (.int p3), .val (.int p4), .val (.int p5), .val (.int o5), .val (.int o6), .unset, .unset, .unset, .unset, .unset, .unset]) at_26 (pc' := 28) rfl rfl ?_
  refine Wp.iloadN at_28 (pc' := 29) rfl rfl ?_
  refine Wp.old fun hOc => ?_
  refine Wp.callS (W := 0) (argsL := [(.int p1)]) (rest := []) rfl (ctCHS l Z a0 hw hE p1 h0 hOc) (hw _ (List.mem_of_getElem? (i := 0) rfl)) (hw _ (List.mem_of_getElem? (i := 1) rfl)) (hw _ (List.mem_of_getElem? (i := 3) rfl)) (hw _ (List.mem_of_getElem? (i := 2) rfl)) (by decide) (lenOf pd__I__C rfl) at_29 rfl rfl rfl (Nat.le_of_eq rfl) (pc' := 32) rfl nofun nofun (by decide) (by decide) (k' := 1) (n' := 2) rfl rfl (by decide) (by decide) (fun vh3 h3 zh3 Kh3 qh3 => ?_)
  obtain ⟨a29, k_a29, rfl, sb_a29, V_a29⟩ := qh3
  refine Wp.eqS (S' := [(.ref a29)]) rfl ?_
  have sz_a29 : h0.size ≤ a29 := Nat.le_trans zh3 sb_a29
  refine Wp.astore (l' := #[.val (.int p1), .val (.int p2), .val (.int p3), .val (.int p4), .val (.int p5), .val (.int o5), .val (.int o6), .val (.ref a29), .unset, .unset, .unset, .unset, .unset]) at_32 (pc' := 34) rfl rfl rfl ?_
  refine Wp.iload at_34 (pc' := 36) rfl rfl ?_
  refine Wp.old fun hOc => ?_
  refine Wp.callS (W := 0) (argsL := [(.int o5)]) (rest := []) rfl (ctCHS l Z a0 hw hE o5 h3 hOc) (hw _ (List.mem_of_getElem? (i := 0) rfl)) (hw _ (List.mem_of_getElem? (i := 1) rfl)) (hw _ (List.mem_of_getElem? (i := 3) rfl)) (hw _ (List.mem_of_getElem? (i := 2) rfl)) (by decide) (lenOf pd__I__C rfl) at_36 rfl rfl rfl (Nat.le_of_eq rfl) (pc' := 39) rfl nofun nofun (by decide) (by decide) (k' := 2) (n' := 4) rfl rfl (by decide) (by decide) (fun vh4 h4 zh4 Kh4 qh4 => ?_)
  obtain ⟨a36, k_a36, rfl, sb_a36, V_a36⟩ := qh4
  have ne_a29_a36 : a29 ≠ a36 := Nat.ne_of_lt (Nat.lt_of_lt_of_le V_a29.lt sb_a36)
  replace V_a29 := V_a29.keep Kh4 nin0
  refine Wp.eqS (S' := [(.ref a36)]) rfl ?_
  have sz_a36 : h0.size ≤ a36 := Nat.le_trans zh4 sb_a36
  refine Wp.astore (l' := #[.val (.int p1), .val (.int p2), .val (.int p3), .val (.int p4), .val (.int p5), .val (.int o5), .val (.int o6), .val (.ref a29), .val (.ref a36), .unset, .unset, .unset, .unset]) at_39 (pc' := 41) rfl rfl rfl ?_
  refine Wp.new rfl (hw _ (List.mem_of_getElem? (i := 5) rfl)) (hw _ (List.mem_of_getElem? (i := 6) rfl)) (hw _ (List.mem_of_getElem? (i := 7) rfl)) at_41 (pc' := 44) rfl (k' := 3) (n' := 6) rfl rfl (by decide) (by decide) (fun h5 b5 g_b5 sz_b5 Xh5 E_b5 D_b5 => ?_)
  have ne_a29_b5 : a29 ≠ b5 := Nat.ne_of_lt (Nat.lt_of_lt_of_eq V_a29.lt g_b5.symm)
  have ne_a36_b5 : a36 ≠ b5 := Nat.ne_of_lt (Nat.lt_of_lt_of_eq V_a36.lt g_b5.symm)
  replace V_a29 := V_a29.ext Xh5
  replace V_a36 := V_a36.ext Xh5
  have F_file_b5 : Fld Z h5 b5 "com/example/portwright/portwright/xml/SourceLocation" "file" "Ljava/lang/String;" .null := D_b5 (Or.inr (hw _ (List.mem_of_getElem? (i := 40) rfl))) (ty := (.object "java/lang/String")) (by decide)
  have F_line_b5 : Fld Z h5 b5 "com/example/portwright/portwright/xml/SourceLocation" "line" "I" (.int (0 : Int32)) := D_b5 (Or.inr (hw _ (List.mem_of_getElem? (i := 42) rfl))) (ty := .int) (by decide)
  clear D_b5
  refine Wp.dup at_44 (pc' := 45) rfl rfl ?_
  refine Wp.new rfl (hw _ (List.mem_of_getElem? (i := 8) rfl)) (hw _ (List.mem_of_getElem? (i := 9) rfl)) (hw _ (List.mem_of_getElem? (i := 10) rfl)) at_45 (pc' := 48) rfl (k' := 4) (n' := 10) rfl rfl (by decide) (by decide) (fun h6 b6 g_b6 sz_b6 Xh6 E_b6 D_b6 => ?_)
  have ne_a29_b6 : a29 ≠ b6 := Nat.ne_of_lt (Nat.lt_of_lt_of_eq V_a29.lt g_b6.symm)
  have ne_a36_b6 : a36 ≠ b6 := Nat.ne_of_lt (Nat.lt_of_lt_of_eq V_a36.lt g_b6.symm)
  have ne_b5_b6 : b5 ≠ b6 := Nat.ne_of_lt (Nat.lt_of_lt_of_eq E_b5.lt g_b6.symm)
  replace V_a29 := V_a29.ext Xh6
  replace V_a36 := V_a36.ext Xh6
  replace E_b5 := E_b5.ext Xh6
  replace F_file_b5 := F_file_b5.ext Xh6
  replace F_line_b5 := F_line_b5.ext Xh6
  have F_value_b6 : Fld Z h6 b6 "java/lang/String" "value" "[B" .null := D_b6 (Or.inr (hw _ (List.mem_of_getElem? (i := 23) rfl))) (ty := (.array .byte)) (by decide)
  have F_coder_b6 : Fld Z h6 b6 "java/lang/String" "coder" "B" (.int (0 : Int32)) := D_b6 (Or.inr (hw _ (List.mem_of_getElem? (i := 24) rfl))) (ty := .byte) (by decide)
  clear D_b6
  refine Wp.dup at_48 (pc' := 49) rfl rfl ?_
  refine Wp.aload at_49 (pc' := 51) rfl rfl rfl ?_
  refine Wp.old fun hOc => ?_
  refine Wp.callI (a := b6) (W := 3) (argsL := [(.ref a29)]) (rest := [(.ref b6), (.ref b5), (.ref b5)]) rfl (ctSI l Z a0 hw hE b6 a29 k_a29 (own_cs p1) cz h6 hOc (own_cn p1) (own_cl p1) (own_hl p1) V_a29 E_b6 F_value_b6 F_coder_b6 (Nat.le_trans hO.1 sz_b6) ne_a29_b6 hco hcz) rfl rfl (hw _ (List.mem_of_getElem? (i := 11) rfl)) (hw _ (List.mem_of_getElem? (i := 12) rfl)) (hw _ (List.mem_of_getElem? (i := 13) rfl)) (hw _ (List.mem_of_getElem? (i := 10) rfl)) (by decide) (lenOf pd___C_V rfl) at_51 rfl rfl rfl (Nat.le_of_eq rfl) (pc' := 54) rfl (by simp) (by intro x hx; simp only [List.mem_cons, List.not_mem_nil, or_false] at hx; rcases hx with rfl; exact (Or.inr sz_b6)) (by decide) (by decide) (k' := 8) (n' := 18) rfl rfl (by decide) (by decide) (fun vh7 h7 zh7 Kh7 qh7 => ?_)
  obtain ⟨rfl, S_b6⟩ := qh7
  replace V_a29 := V_a29.keep Kh7 (ninS ne_a29_b6 nin0)
  replace V_a36 := V_a36.keep Kh7 (ninS ne_a36_b6 nin0)
  replace E_b5 := E_b5.keep Kh7
  replace F_file_b5 := F_file_b5.keep Kh7 (ninS ne_b5_b6 nin0)
  replace F_line_b5 := F_line_b5.keep Kh7 (ninS ne_b5_b6 nin0)
  replace E_b6 := E_b6.keep Kh7
  refine Wp.eqS (S' := [(.ref b6), (.ref b5), (.ref b5)]) rfl ?_
  refine Wp.iloadN at_54 (pc' := 55) rfl rfl ?_
  refine Wp.old fun hOc => ?_
  refine Wp.callI (a := b5) (W := 1) (argsL := [(.ref b6), (.int p3)]) (rest := [(.ref b5)]) rfl (ctLOC l Z a0 hw hE b5 b6 p3 h7 hOc (Nat.le_trans hO.1 sz_b5) E_b5 F_file_b5 F_line_b5 S_b6.1) rfl rfl (hw _ (List.mem_of_getElem? (i := 29) rfl)) (hw _ (List.mem_of_getElem? (i := 30) rfl)) (hw _ (List.mem_of_getElem? (i := 31) rfl)) (hw _ (List.mem_of_getElem? (i := 7) rfl)) (by decide) (lenOf pd__Ljava_lang_String_I_V rfl) at_55 rfl rfl rfl (Nat.le_of_eq rfl) (pc' := 58) rfl nofun (by intro x hx; simp only [List.mem_cons, List.not_mem_nil, or_false] at hx; rcases hx with rfl; exact (Or.inr sz_b5)) (by decide) (by decide) (k' := 10) (n' := 38) rfl rfl (by decide) (by decide) (fun vh8 h8 zh8 Kh8 qh8 => ?_)
  obtain ⟨rfl, K_b5, I_b5⟩ := qh8
  replace S_b6 := S_b6.keep1 Kh8 (Ne.symm ne_b5_b6) E_b5 (hw _ (List.mem_of_getElem? (i := 6) rfl))
  replace V_a29 := V_a29.keep Kh8 (ninS ne_a29_b5 nin0)
  replace V_a36 := V_a36.keep Kh8 (ninS ne_a36_b5 nin0)
  replace E_b5 := E_b5.keep Kh8
  replace E_b6 := E_b6.keep Kh8
  refine Wp.eqS (S' := [(.ref b5)]) rfl ?_
  refine Wp.astore (l' := #[.val (.int p1), .val (.int p2), .val (.int p3), .val (.int p4), .val (.int p5), .val (.int o5), .val (.int o6), .val (.ref a29), .val (.ref a36), .val (.ref b5), .unset, .unset, .unset]) at_58 (pc' := 60) rfl rfl rfl ?_
  refine Wp.new rfl (hw _ (List.mem_of_getElem? (i := 5) rfl)) (hw _ (List.mem_of_getElem? (i := 6) rfl)) (hw _ (List.mem_of_getElem? (i := 7) rfl)) at_60 (pc' := 63) rfl (k' := 11) (n' := 40) rfl rfl (by decide) (by decide) (fun h9 b9 g_b9 sz_b9 Xh9 E_b9 D_b9 => ?_)
  have ne_a29_b9 : a29 ≠ b9 := Nat.ne_of_lt (Nat.lt_of_lt_of_eq V_a29.lt g_b9.symm)
  have ne_a36_b9 : a36 ≠ b9 := Nat.ne_of_lt (Nat.lt_of_lt_of_eq V_a36.lt g_b9.symm)
  have ne_b5_b9 : b5 ≠ b9 := Nat.ne_of_lt (Nat.lt_of_lt_of_eq E_b5.lt g_b9.symm)
  have ne_b6_b9 : b6 ≠ b9 := Nat.ne_of_lt (Nat.lt_of_lt_of_eq E_b6.lt g_b9.symm)
  replace V_a29 := V_a29.ext Xh9
  replace V_a36 := V_a36.ext Xh9
  replace E_b5 := E_b5.ext Xh9
  replace E_b6 := E_b6.ext Xh9
  replace S_b6 := S_b6.ext Xh9
  replace K_b5 := K_b5.ext Xh9
  replace I_b5 := I_b5.ext Xh9
  have F_file_b9 : Fld Z h9 b9 "com/example/portwright/portwright/xml/SourceLocation" "file" "Ljava/lang/String;" .null := D_b9 (Or.inr (hw _ (List.mem_of_getElem? (i := 40) rfl))) (ty := (.object "java/lang/String")) (by decide)
  have F_line_b9 : Fld Z h9 b9 "com/example/portwright/portwright/xml/SourceLocation" "line" "I" (.int (0 : Int32)) := D_b9 (Or.inr (hw _ (List.mem_of_getElem? (i := 42) rfl))) (ty := .int) (by decide)
  clear D_b9
  refine Wp.dup at_63 (pc' := 64) rfl rfl ?_
  refine Wp.new rfl (hw _ (List.mem_of_getElem? (i := 8) rfl)) (hw _ (List.mem_of_getElem? (i := 9) rfl)) (hw _ (List.mem_of_getElem? (i := 10) rfl)) at_64 (pc' := 67) rfl (k' := 12) (n' := 44) rfl rfl (by decide) (by decide) (fun h10 b10 g_b10 sz_b10 Xh10 E_b10 D_b10 => ?_)
  have ne_a29_b10 : a29 ≠ b10 := Nat.ne_of_lt (Nat.lt_of_lt_of_eq V_a29.lt g_b10.symm)
  have ne_a36_b10 : a36 ≠ b10 := Nat.ne_of_lt (Nat.lt_of_lt_of_eq V_a36.lt g_b10.symm)
  have ne_b5_b10 : b5 ≠ b10 := Nat.ne_of_lt (Nat.lt_of_lt_of_eq E_b5.lt g_b10.symm)
  have ne_b6_b10 : b6 ≠ b10 := Nat.ne_of_lt (Nat.lt_of_lt_of_eq E_b6.lt g_b10.symm)
  have ne_b9_b10 : b9 ≠ b10 := Nat.ne_of_lt (Nat.lt_of_lt_of_eq E_b9.lt g_b10.symm)
  replace V_a29 := V_a29.ext Xh10
  replace V_a36 := V_a36.ext Xh10
  replace E_b5 := E_b5.ext Xh10
  replace E_b6 := E_b6.ext Xh10
  replace S_b6 := S_b6.ext Xh10
  replace K_b5 := K_b5.ext Xh10
  replace I_b5 := I_b5.ext Xh10
  replace E_b9 := E_b9.ext Xh10
  replace F_file_b9 := F_file_b9.ext Xh10
  replace F_line_b9 := F_line_b9.ext Xh10
  have F_value_b10 : Fld Z h10 b10 "java/lang/String" "value" "[B" .null := D_b10 (Or.inr (hw _ (List.mem_of_getElem? (i := 23) rfl))) (ty := (.array .byte)) (by decide)
  have F_coder_b10 : Fld Z h10 b10 "java/lang/String" "coder" "B" (.int (0 : Int32)) := D_b10 (Or.inr (hw _ (List.mem_of_getElem? (i := 24) rfl))) (ty := .byte) (by decide)
  clear D_b10
  refine Wp.dup at_67 (pc' := 68) rfl rfl ?_
  refine Wp.aload at_68 (pc' := 70) rfl rfl rfl ?_
  refine Wp.old fun hOc => ?_
  refine Wp.callI (a := b10) (W := 3) (argsL := [(.ref a36)]) (rest := [(.ref b10), (.ref b9), (.ref b9)]) rfl (ctSI l Z a0 hw hE b10 a36 k_a36 (own_cs o5) cz h10 hOc (own_cn o5) (own_cl o5) (own_hl o5) V_a36 E_b10 F_value_b10 F_coder_b10 (Nat.le_trans hO.1 sz_b10) ne_a36_b10 hco hcz) rfl rfl (hw _ (List.mem_of_getElem? (i := 11) rfl)) (hw _ (List.mem_of_getElem? (i := 12) rfl)) (hw _ (List.mem_of_getElem? (i := 13) rfl)) (hw _ (List.mem_of_getElem? (i := 10) rfl)) (by decide) (lenOf pd___C_V rfl) at_70 rfl rfl rfl (Nat.le_of_eq rfl) (pc' := 73) rfl (by simp) (by intro x hx; simp only [List.mem_cons, List.not_mem_nil, or_false] at hx; rcases hx with rfl; exact (Or.inr sz_b10)) (by decide) (by decide) (k' := 16) (n' := 52) rfl rfl (by decide) (by decide) (fun vh11 h11 zh11 Kh11 qh11 => ?_)
  obtain ⟨rfl, S_b10⟩ := qh11
  replace S_b6 := S_b6.keep1 Kh11 ne_b6_b10 E_b10 (hw _ (List.mem_of_getElem? (i := 9) rfl))
  replace V_a29 := V_a29.keep Kh11 (ninS ne_a29_b10 nin0)
  replace V_a36 := V_a36.keep Kh11 (ninS ne_a36_b10 nin0)
  replace E_b5 := E_b5.keep Kh11
  replace E_b6 := E_b6.keep Kh11
  replace K_b5 := K_b5.keep Kh11 (ninS ne_b5_b10 nin0)
  replace I_b5 := I_b5.keep Kh11 (ninS ne_b5_b10 nin0)
  replace E_b9 := E_b9.keep Kh11
  replace F_file_b9 := F_file_b9.keep Kh11 (ninS ne_b9_b10 nin0)
  replace F_line_b9 := F_line_b9.keep Kh11 (ninS ne_b9_b10 nin0)
  replace E_b10 := E_b10.keep Kh11
  refine Wp.eqS (S' := [(.ref b10), (.ref b9), (.ref b9)]) rfl ?_
  refine Wp.iload at_73 (pc' := 75) rfl rfl ?_
  refine Wp.old fun hOc => ?_
  refine Wp.callI (a := b9) (W := 1) (argsL := [(.ref b10), (.int o6)]) (rest := [(.ref b9)]) rfl (ctLOC l Z a0 hw hE b9 b10 o6 h11 hOc (Nat.le_trans hO.1 sz_b9) E_b9 F_file_b9 F_line_b9 S_b10.1) rfl rfl (hw _ (List.mem_of_getElem? (i := 29) rfl)) (hw _ (List.mem_of_getElem? (i := 30) rfl)) (hw _ (List.mem_of_getElem? (i := 31) rfl)) (hw _ (List.mem_of_getElem? (i := 7) rfl)) (by decide) (lenOf pd__Ljava_lang_String_I_V rfl) at_75 rfl rfl rfl (Nat.le_of_eq rfl) (pc' := 78) rfl nofun (by intro x hx; simp only [List.mem_cons, List.not_mem_nil, or_false] at hx; rcases hx with rfl; exact (Or.inr sz_b9)) (by decide) (by decide) (k' := 18) (n' := 72) rfl rfl (by decide) (by decide) (fun vh12 h12 zh12 Kh12 qh12 => ?_)
  obtain ⟨rfl, K_b9, I_b9⟩ := qh12
  replace S_b6 := S_b6.keep1 Kh12 ne_b6_b9 E_b9 (hw _ (List.mem_of_getElem? (i := 6) rfl))
  replace S_b10 := S_b10.keep1 Kh12 (Ne.symm ne_b9_b10) E_b9 (hw _ (List.mem_of_getElem? (i := 6) rfl))
  replace V_a29 := V_a29.keep Kh12 (ninS ne_a29_b9 nin0)
  replace V_a36 := V_a36.keep Kh12 (ninS ne_a36_b9 nin0)
  replace E_b5 := E_b5.keep Kh12
  replace E_b6 := E_b6.keep Kh12
  replace K_b5 := K_b5.keep Kh12 (ninS ne_b5_b9 nin0)
  replace I_b5 := I_b5.keep Kh12 (ninS ne_b5_b9 nin0)
  replace E_b9 := E_b9.keep Kh12
  replace E_b10 := E_b10.keep Kh12
  refine Wp.eqS (S' := [(.ref b9)]) rfl ?_
  refine Wp.astore (l' := #[.val (.int p1), .val (.int p2), .val (.int p3), .val (.int p4), .val (.int p5), .val (.int o5), .val (.int o6), .val (.ref a29), .val (.ref a36), .val (.ref b5), .val (.ref b9), .unset, .unset]) at_78 (pc' := 80) rfl rfl rfl ?_
  refine Wp.iload at_80 (pc' := 82) rfl rfl ?_
  refine Wp.iconst (x := (2 : Int32)) at_82 (pc' := 83) rfl rfl ?_
  refine Wp.iushr at_83 (pc' := 84) rfl ?_
  refine Wp.iconst (x := (3 : Int32)) at_84 (pc' := 85) rfl rfl ?_
  refine Wp.iand at_85 (pc' := 86) rfl ?_
  refine Wp.istore (l' := #[.val (.int p1), .val (.int p2), .val (.int p3), .val (.int p4), .val (.int p5), .val (.int o5), .val (.int o6), .val (.ref a29), .val (.ref a36), .val (.ref b5), .val (.ref b9), .val (.int (((p5.toUInt32 >>> ((2 : Int32) &&& 31).toUInt32).toInt32) &&& (3 : Int32))), .unset]) at_86 (pc' := 88) rfl rfl ?_
  refine Wp.iload at_88 (pc' := 90) rfl rfl ?_
  refine Wp.if_ne (pc1 := 108) (pc' := 93) at_90 (by decide) (by decide) rfl (fun hc13 => ?_) (fun hc13 => ?_)
  · have hc13 : ¬ ((((p5.toUInt32 >>> ((2 : Int32) &&& 31).toUInt32).toInt32) &&& (3 : Int32)) = (0 : Int32)) := hc13
    refine Wp.iload at_108 (pc' := 110) rfl rfl ?_
    refine Wp.iconst (x := (1 : Int32)) at_110 (pc' := 111) rfl rfl ?_
    refine Wp.icmp_ne (pc1 := 141) (pc' := 114) at_111 (by decide) (by decide) rfl (fun hc14 => ?_) (fun hc14 => ?_)
    · have hc14 : ¬ ((((p5.toUInt32 >>> ((2 : Int32) &&& 31).toUInt32).toInt32) &&& (3 : Int32)) = (1 : Int32)) := hc14
      refine Wp.iload at_141 (pc' := 143) rfl rfl ?_
      refine Wp.iconst (x := (2 : Int32)) at_143 (pc' := 144) rfl rfl ?_
      refine Wp.icmp_ne (pc1 := 155) (pc' := 147) at_144 (by decide) (by decide) rfl (fun hc15 => ?_) (fun hc15 => ?_)
      · have hc15 : ¬ ((((p5.toUInt32 >>> ((2 : Int32) &&& 31).toUInt32).toInt32) &&& (3 : Int32)) = (2 : Int32)) := hc15
        refine Wp.iloadN at_155 (pc' := 156) rfl rfl ?_
        refine Wp.iload at_156 (pc' := 158) rfl rfl ?_
        refine Wp.old fun hOc => ?_
        refine Wp.callS (W := 0) (argsL := [(.int p1), (.int o5)]) (rest := []) rfl (ctSAME l Z a0 hw hE p1 o5 h12 hOc) (hw _ (List.mem_of_getElem? (i := 57) rfl)) (hw _ (List.mem_of_getElem? (i := 58) rfl)) (hw _ (List.mem_of_getElem? (i := 59) rfl)) (hw _ (List.mem_of_getElem? (i := 2) rfl)) (by decide) (lenOf pd__II_Z rfl) at_158 rfl rfl rfl (Nat.le_of_eq rfl) (pc' := 161) rfl nofun nofun (by decide) (by decide) (k' := 18) (n' := 72) rfl rfl (by decide) (by decide) (fun vh16 h16 zh16 Kh16 qh16 => ?_)
        obtain rfl := qh16
        replace S_b6 := S_b6.keep0 Kh16
        replace S_b10 := S_b10.keep0 Kh16
        replace V_a29 := V_a29.keep Kh16 nin0
        replace V_a36 := V_a36.keep Kh16 nin0
        replace E_b5 := E_b5.keep Kh16
        replace E_b6 := E_b6.keep Kh16
        replace K_b5 := K_b5.keep Kh16 nin0
        replace I_b5 := I_b5.keep Kh16 nin0
        replace E_b9 := E_b9.keep Kh16
        replace E_b10 := E_b10.keep Kh16
        replace K_b9 := K_b9.keep Kh16 nin0
        replace I_b9 := I_b9.keep Kh16 nin0
        refine Wp.eqS (S' := [(.int (if own_str p1 = own_str o5 then (1 : Int32) else 0))]) rfl ?_
        refine Wp.if_eq (pc1 := 174) (pc' := 164) at_161 (by decide) (by decide) rfl (fun hc17 => ?_) (fun hc17 => ?_)
        · have hc17 : (if own_str p1 = own_str o5 then (1 : Int32) else 0) = (0 : Int32) := hc17
          refine Wp.iconst (x := (0 : Int32)) at_174 (pc' := 175) rfl rfl ?_
          refine Wp.istore (l' := #[.val (.int p1), .val (.int p2), .val (.int p3), .val (.int p4), .val (.int p5), .val (.int o5), .val (.int o6), .val (.ref a29), .val (.ref a36), .val (.ref b5), .val (.ref b9), .val (.int (((p5.toUInt32 >>> ((2 : Int32) &&& 31).toUInt32).toInt32) &&& (3 : Int32))), .val (.int (0 : Int32))]) at_175 (pc' := 177) rfl rfl ?_
          refine Wp.aload at_177 (pc' := 179) rfl rfl rfl ?_
          refine Wp.aload at_179 (pc' := 181) rfl rfl rfl ?_
          refine Wp.old fun hOc => ?_
          refine Wp.callV (a := b5) (x' := (⟨"com/example/portwright/portwright/xml/SourceLocation", "equals", "(Ljava/lang/Object;)Z"⟩ : MethodName)) (W := 0) (argsL := [(.ref b9)]) (rest := []) rfl (ctQO l Z a0 hw hE b5 b9 b6 b10 p3 o6 (own_str p1) (own_str o5) cz h16 hOc E_b9 K_b5 I_b5 K_b9 I_b9 S_b6 S_b10 (own_sl _) (own_sl _) ne_b6_b10 hco hcz) (hw _ (List.mem_of_getElem? (i := 43) rfl)) (hw _ (List.mem_of_getElem? (i := 44) rfl)) (hw _ (List.mem_of_getElem? (i := 46) rfl)) (hw _ (List.mem_of_getElem? (i := 45) rfl)) (hw _ (List.mem_of_getElem? (i := 47) rfl)) (hw _ (List.mem_of_getElem? (i := 7) rfl)) (fun s hZ => nf_sel rfl (hw _ (List.mem_of_getElem? (i := 46) rfl)) s hZ rfl) E_b5 (by decide) (lenOf pd__Ljava_lang_Object__Z rfl) at_181 rfl rfl rfl (Nat.le_of_eq rfl) (pc' := 184) rfl nofun nofun (by decide) (by decide) (k' := 18) (n' := 72) rfl rfl (by decide) (by decide) (fun vh18 h18 zh18 Kh18 qh18 => ?_)
          obtain rfl : vh18 = some (.int (0 : Int32)) := by
            have z0 := hc17
            simp at z0
            rw [qh18]; refine congrArg (fun z => some (Value.int z)) ?_; first | (refine if_neg (fun e => ?_); exact z0 e.1) | (refine if_neg (fun e => ?_); exact z0 e.1.symm) | (refine if_neg (fun e => ?_); exact z0 e.2) | (refine if_neg (fun e => ?_); exact z0 e.2.symm) | (refine if_pos (And.intro ?_ ?_); exact z0; exact z0) | (refine if_pos (And.intro ?_ ?_); exact z0.symm; exact z0.symm)
          replace S_b6 := S_b6.keep0 Kh18
          replace S_b10 := S_b10.keep0 Kh18
          replace V_a29 := V_a29.keep Kh18 nin0
          replace V_a36 := V_a36.keep Kh18 nin0
          replace E_b5 := E_b5.keep Kh18
          replace E_b6 := E_b6.keep Kh18
          replace K_b5 := K_b5.keep Kh18 nin0
          replace I_b5 := I_b5.keep Kh18 nin0
          replace E_b9 := E_b9.keep Kh18
          replace E_b10 := E_b10.keep Kh18
          replace K_b9 := K_b9.keep Kh18 nin0
          replace I_b9 := I_b9.keep Kh18 nin0
          refine Wp.eqS (S' := [(.int (0 : Int32))]) rfl ?_
          refine Wp.iload at_184 (pc' := 186) rfl rfl ?_
          refine Wp.icmp_ne (pc1 := 205) (pc' := 189) at_186 (by decide) (by decide) rfl (fun hc19 => by exact absurd hc19 (by decide)) (fun hc19 => ?_)
          refine Wp.aload at_189 (pc' := 191) rfl rfl rfl ?_
          refine Wp.aload at_191 (pc' := 193) rfl rfl rfl ?_
          refine Wp.old fun hOc => ?_
          refine Wp.callV (a := b9) (x' := (⟨"com/example/portwright/portwright/xml/SourceLocation", "equals", "(Ljava/lang/Object;)Z"⟩ : MethodName)) (W := 0) (argsL := [(.ref b5)]) (rest := []) rfl (ctQO l Z a0 hw hE b9 b5 b10 b6 o6 p3 (own_str o5) (own_str p1) cz h18 hOc E_b5 K_b9 I_b9 K_b5 I_b5 S_b10 S_b6 (own_sl _) (own_sl _) (Ne.symm ne_b6_b10) hco hcz) (hw _ (List.mem_of_getElem? (i := 43) rfl)) (hw _ (List.mem_of_getElem? (i := 44) rfl)) (hw _ (List.mem_of_getElem? (i := 46) rfl)) (hw _ (List.mem_of_getElem? (i := 45) rfl)) (hw _ (List.mem_of_getElem? (i := 47) rfl)) (hw _ (List.mem_of_getElem? (i := 7) rfl)) (fun s hZ => nf_sel rfl (hw _ (List.mem_of_getElem? (i := 46) rfl)) s hZ rfl) E_b9 (by decide) (lenOf pd__Ljava_lang_Object__Z rfl) at_193 rfl rfl rfl (Nat.le_of_eq rfl) (pc' := 196) rfl nofun nofun (by decide) (by decide) (k' := 18) (n' := 72) rfl rfl (by decide) (by decide) (fun vh20 h20 zh20 Kh20 qh20 => ?_)
          obtain rfl : vh20 = some (.int (0 : Int32)) := by
            have z0 := hc17
            simp at z0
            rw [qh20]; refine congrArg (fun z => some (Value.int z)) ?_; first | (refine if_neg (fun e => ?_); exact z0 e.1) | (refine if_neg (fun e => ?_); exact z0 e.1.symm) | (refine if_neg (fun e => ?_); exact z0 e.2) | (refine if_neg (fun e => ?_); exact z0 e.2.symm) | (refine if_pos (And.intro ?_ ?_); exact z0; exact z0) | (refine if_pos (And.intro ?_ ?_); exact z0.symm; exact z0.symm)
          replace S_b6 := S_b6.keep0 Kh20
          replace S_b10 := S_b10.keep0 Kh20
          replace V_a29 := V_a29.keep Kh20 nin0
          replace V_a36 := V_a36.keep Kh20 nin0
          replace E_b5 := E_b5.keep Kh20
          replace E_b6 := E_b6.keep Kh20
          replace K_b5 := K_b5.keep Kh20 nin0
          replace I_b5 := I_b5.keep Kh20 nin0
          replace E_b9 := E_b9.keep Kh20
          replace E_b10 := E_b10.keep Kh20
          replace K_b9 := K_b9.keep Kh20 nin0
          replace I_b9 := I_b9.keep Kh20 nin0
          refine Wp.eqS (S' := [(.int (0 : Int32))]) rfl ?_
          refine Wp.iload at_196 (pc' := 198) rfl rfl ?_
          refine Wp.icmp_ne (pc1 := 205) (pc' := 201) at_198 (by decide) (by decide) rfl (fun hc21 => by exact absurd hc21 (by decide)) (fun hc21 => ?_)
          refine Wp.iconst (x := (1 : Int32)) at_201 (pc' := 202) rfl rfl ?_
          refine Wp.goto (pc' := 206) at_202 (by decide) (by decide) ?_
          refine Wp.retN (x' := (1 : Int32)) (t := .boolean) rfl (by simp) rfl at_206 (by decide) (by decide) ?_
          rfl
        · have hc17 : ¬ ((if own_str p1 = own_str o5 then (1 : Int32) else 0) = (0 : Int32)) := hc17
          refine Wp.iloadN at_164 (pc' := 165) rfl rfl ?_
          refine Wp.iload at_165 (pc' := 167) rfl rfl ?_
          refine Wp.icmp_ne (pc1 := 174) (pc' := 170) at_167 (by decide) (by decide) rfl (fun hc22 => ?_) (fun hc22 => ?_)
          · have hc22 : ¬ (p3 = o6) := hc22
            refine Wp.iconst (x := (0 : Int32)) at_174 (pc' := 175) rfl rfl ?_
            refine Wp.istore (l' := #[.val (.int p1), .val (.int p2), .val (.int p3), .val (.int p4), .val (.int p5), .val (.int o5), .val (.int o6), .val (.ref a29), .val (.ref a36), .val (.ref b5), .val (.ref b9), .val (.int (((p5.toUInt32 >>> ((2 : Int32) &&& 31).toUInt32).toInt32) &&& (3 : Int32))), .val (.int (0 : Int32))]) at_175 (pc' := 177) rfl rfl ?_
            refine Wp.aload at_177 (pc' := 179) rfl rfl rfl ?_
            refine Wp.aload at_179 (pc' := 181) rfl rfl rfl ?_
            refine Wp.old fun hOc => ?_
            refine Wp.callV (a := b5) (x' := (⟨"com/example/portwright/portwright/xml/SourceLocation", "equals", "(Ljava/lang/Object;)Z"⟩ : MethodName)) (W := 0) (argsL := [(.ref b9)]) (rest := []) rfl (ctQO l Z a0 hw hE b5 b9 b6 b10 p3 o6 (own_str p1) (own_str o5) cz h16 hOc E_b9 K_b5 I_b5 K_b9 I_b9 S_b6 S_b10 (own_sl _) (own_sl _) ne_b6_b10 hco hcz) (hw _ (List.mem_of_getElem? (i := 43) rfl)) (hw _ (List.mem_of_getElem? (i := 44) rfl)) (hw _ (List.mem_of_getElem? (i := 46) rfl)) (hw _ (List.mem_of_getElem? (i := 45) rfl)) (hw _ (List.mem_of_getElem? (i := 47) rfl)) (hw _ (List.mem_of_getElem? (i := 7) rfl)) (fun s hZ => nf_sel rfl (hw _ (List.mem_of_getElem? (i := 46) rfl)) s hZ rfl) E_b5 (by decide) (lenOf pd__Ljava_lang_Object__Z rfl) at_181 rfl rfl rfl (Nat.le_of_eq rfl) (pc' := 184) rfl nofun nofun (by decide) (by decide) (k' := 18) (n' := 72) rfl rfl (by decide) (by decide) (fun vh23 h23 zh23 Kh23 qh23 => ?_)
            obtain rfl : vh23 = some (.int (0 : Int32)) := by
              have z0 := hc17
              simp at z0
              have z1 := hc22
              rw [qh23]; refine congrArg (fun z => some (Value.int z)) ?_; first | (refine if_neg (fun e => ?_); exact z0 e.1) | (refine if_neg (fun e => ?_); exact z0 e.1.symm) | (refine if_neg (fun e => ?_); exact z0 e.2) | (refine if_neg (fun e => ?_); exact z0 e.2.symm) | (refine if_neg (fun e => ?_); exact z1 e.1) | (refine if_neg (fun e => ?_); exact z1 e.1.symm) | (refine if_neg (fun e => ?_); exact z1 e.2) | (refine if_neg (fun e => ?_); exact z1 e.2.symm) | (refine if_pos (And.intro ?_ ?_); exact z0; exact z0) | (refine if_pos (And.intro ?_ ?_); exact z0.symm; exact z0.symm) | (refine if_pos (And.intro ?_ ?_); exact z0; exact z1) | (refine if_pos (And.intro ?_ ?_); exact z0.symm; exact z1.symm) | (refine if_pos (And.intro ?_ ?_); exact z1; exact z0) | (refine if_pos (And.intro ?_ ?_); exact z1.symm; exact z0.symm) | (refine if_pos (And.intro ?_ ?_); exact z1; exact z1) | (refine if_pos (And.intro ?_ ?_); exact z1.symm; exact z1.symm)
            replace S_b6 := S_b6.keep0 Kh23
            replace S_b10 := S_b10.keep0 Kh23
            replace V_a29 := V_a29.keep Kh23 nin0
            replace V_a36 := V_a36.keep Kh23 nin0
            replace E_b5 := E_b5.keep Kh23
            replace E_b6 := E_b6.keep Kh23
            replace K_b5 := K_b5.keep Kh23 nin0
            replace I_b5 := I_b5.keep Kh23 nin0
            replace E_b9 := E_b9.keep Kh23
            replace E_b10 := E_b10.keep Kh23
            replace K_b9 := K_b9.keep Kh23 nin0
            replace I_b9 := I_b9.keep Kh23 nin0
            refine Wp.eqS (S' := [(.int (0 : Int32))]) rfl ?_
            refine Wp.iload at_184 (pc' := 186) rfl rfl ?_
            refine Wp.icmp_ne (pc1 := 205) (pc' := 189) at_186 (by decide) (by decide) rfl (fun hc24 => by exact absurd hc24 (by decide)) (fun hc24 => ?_)
            refine Wp.aload at_189 (pc' := 191) rfl rfl rfl ?_
            refine Wp.aload at_191 (pc' := 193) rfl rfl rfl ?_
            refine Wp.old fun hOc => ?_
            refine Wp.callV (a := b9) (x' := (⟨"com/example/portwright/portwright/xml/SourceLocation", "equals", "(Ljava/lang/Object;)Z"⟩ : MethodName)) (W := 0) (argsL := [(.ref b5)]) (rest := []) rfl (ctQO l Z a0 hw hE b9 b5 b10 b6 o6 p3 (own_str o5) (own_str p1) cz h23 hOc E_b5 K_b9 I_b9 K_b5 I_b5 S_b10 S_b6 (own_sl _) (own_sl _) (Ne.symm ne_b6_b10) hco hcz) (hw _ (List.mem_of_getElem? (i := 43) rfl)) (hw _ (List.mem_of_getElem? (i := 44) rfl)) (hw _ (List.mem_of_getElem? (i := 46) rfl)) (hw _ (List.mem_of_getElem? (i := 45) rfl)) (hw _ (List.mem_of_getElem? (i := 47) rfl)) (hw _ (List.mem_of_getElem? (i := 7) rfl)) (fun s hZ => nf_sel rfl (hw _ (List.mem_of_getElem? (i := 46) rfl)) s hZ rfl) E_b9 (by decide) (lenOf pd__Ljava_lang_Object__Z rfl) at_193 rfl rfl rfl (Nat.le_of_eq rfl) (pc' := 196) rfl nofun nofun (by decide) (by decide) (k' := 18) (n' := 72) rfl rfl (by decide) (by decide) (fun vh25 h25 zh25 Kh25 qh25 => ?_)
            obtain rfl : vh25 = some (.int (0 : Int32)) := by
              have z0 := hc17
              simp at z0
              have z1 := hc22
              rw [qh25]; refine congrArg (fun z => some (Value.int z)) ?_; first | (refine if_neg (fun e => ?_); exact z0 e.1) | (refine if_neg (fun e => ?_); exact z0 e.1.symm) | (refine if_neg (fun e => ?_); exact z0 e.2) | (refine if_neg (fun e => ?_); exact z0 e.2.symm) | (refine if_neg (fun e => ?_); exact z1 e.1) | (refine if_neg (fun e => ?_); exact z1 e.1.symm) | (refine if_neg (fun e => ?_); exact z1 e.2) | (refine if_neg (fun e => ?_); exact z1 e.2.symm) | (refine if_pos (And.intro ?_ ?_); exact z0; exact z0) | (refine if_pos (And.intro ?_ ?_); exact z0.symm; exact z0.symm) | (refine if_pos (And.intro ?_ ?_); exact z0; exact z1) | (refine if_pos (And.intro ?_ ?_); exact z0.symm; exact z1.symm) | (refine if_pos (And.intro ?_ ?_); exact z1; exact z0) | (refine if_pos (And.intro ?_ ?_); exact z1.symm; exact z0.symm) | (refine if_pos (And.intro ?_ ?_); exact z1; exact z1) | (refine if_pos (And.intro ?_ ?_); exact z1.symm; exact z1.symm)
            replace S_b6 := S_b6.keep0 Kh25
            replace S_b10 := S_b10.keep0 Kh25
            replace V_a29 := V_a29.keep Kh25 nin0
            replace V_a36 := V_a36.keep Kh25 nin0
            replace E_b5 := E_b5.keep Kh25
            replace E_b6 := E_b6.keep Kh25
            replace K_b5 := K_b5.keep Kh25 nin0
            replace I_b5 := I_b5.keep Kh25 nin0
            replace E_b9 := E_b9.keep Kh25
            replace E_b10 := E_b10.keep Kh25
            replace K_b9 := K_b9.keep Kh25 nin0
            replace I_b9 := I_b9.keep Kh25 nin0
            refine Wp.eqS (S' := [(.int (0 : Int32))]) rfl ?_
            refine Wp.iload at_196 (pc' := 198) rfl rfl ?_
            refine Wp.icmp_ne (pc1 := 205) (pc' := 201) at_198 (by decide) (by decide) rfl (fun hc26 => by exact absurd hc26 (by decide)) (fun hc26 => ?_)
            refine Wp.iconst (x := (1 : Int32)) at_201 (pc' := 202) rfl rfl ?_
            refine Wp.goto (pc' := 206) at_202 (by decide) (by decide) ?_
            refine Wp.retN (x' := (1 : Int32)) (t := .boolean) rfl (by simp) rfl at_206 (by decide) (by decide) ?_
            rfl
          · have hc22 : p3 = o6 := hc22
            refine Wp.iconst (x := (1 : Int32)) at_170 (pc' := 171) rfl rfl ?_
            refine Wp.goto (pc' := 175) at_171 (by decide) (by decide) ?_
            refine Wp.istore (l' := #[.val (.int p1), .val (.int p2), .val (.int p3), .val (.int p4), .val (.int p5), .val (.int o5), .val (.int o6), .val (.ref a29), .val (.ref a36), .val (.ref b5), .val (.ref b9), .val (.int (((p5.toUInt32 >>> ((2 : Int32) &&& 31).toUInt32).toInt32) &&& (3 : Int32))), .val (.int (1 : Int32))]) at_175 (pc' := 177) rfl rfl ?_
            refine Wp.aload at_177 (pc' := 179) rfl rfl rfl ?_
            refine Wp.aload at_179 (pc' := 181) rfl rfl rfl ?_
            refine Wp.old fun hOc => ?_
            refine Wp.callV (a := b5) (x' := (⟨"com/example/portwright/portwright/xml/SourceLocation", "equals", "(Ljava/lang/Object;)Z"⟩ : MethodName)) (W := 0) (argsL := [(.ref b9)]) (rest := []) rfl (ctQO l Z a0 hw hE b5 b9 b6 b10 p3 o6 (own_str p1) (own_str o5) cz h16 hOc E_b9 K_b5 I_b5 K_b9 I_b9 S_b6 S_b10 (own_sl _) (own_sl _) ne_b6_b10 hco hcz) (hw _ (List.mem_of_getElem? (i := 43) rfl)) (hw _ (List.mem_of_getElem? (i := 44) rfl)) (hw _ (List.mem_of_getElem? (i := 46) rfl)) (hw _ (List.mem_of_getElem? (i := 45) rfl)) (hw _ (List.mem_of_getElem? (i := 47) rfl)) (hw _ (List.mem_of_getElem? (i := 7) rfl)) (fun s hZ => nf_sel rfl (hw _ (List.mem_of_getElem? (i := 46) rfl)) s hZ rfl) E_b5 (by decide) (lenOf pd__Ljava_lang_Object__Z rfl) at_181 rfl rfl rfl (Nat.le_of_eq rfl) (pc' := 184) rfl nofun nofun (by decide) (by decide) (k' := 18) (n' := 72) rfl rfl (by decide) (by decide) (fun vh27 h27 zh27 Kh27 qh27 => ?_)
            obtain rfl : vh27 = some (.int (1 : Int32)) := by
              have z0 := hc17
              simp at z0
              have z1 := hc22
              rw [qh27]; refine congrArg (fun z => some (Value.int z)) ?_; first | (refine if_neg (fun e => ?_); exact z0 e.1) | (refine if_neg (fun e => ?_); exact z0 e.1.symm) | (refine if_neg (fun e => ?_); exact z0 e.2) | (refine if_neg (fun e => ?_); exact z0 e.2.symm) | (refine if_neg (fun e => ?_); exact z1 e.1) | (refine if_neg (fun e => ?_); exact z1 e.1.symm) | (refine if_neg (fun e => ?_); exact z1 e.2) | (refine if_neg (fun e => ?_); exact z1 e.2.symm) | (refine if_pos (And.intro ?_ ?_); exact z0; exact z0) | (refine if_pos (And.intro ?_ ?_); exact z0.symm; exact z0.symm) | (refine if_pos (And.intro ?_ ?_); exact z0; exact z1) | (refine if_pos (And.intro ?_ ?_); exact z0.symm; exact z1.symm) | (refine if_pos (And.intro ?_ ?_); exact z1; exact z0) | (refine if_pos (And.intro ?_ ?_); exact z1.symm; exact z0.symm) | (refine if_pos (And.intro ?_ ?_); exact z1; exact z1) | (refine if_pos (And.intro ?_ ?_); exact z1.symm; exact z1.symm)
            replace S_b6 := S_b6.keep0 Kh27
            replace S_b10 := S_b10.keep0 Kh27
            replace V_a29 := V_a29.keep Kh27 nin0
            replace V_a36 := V_a36.keep Kh27 nin0
            replace E_b5 := E_b5.keep Kh27
            replace E_b6 := E_b6.keep Kh27
            replace K_b5 := K_b5.keep Kh27 nin0
            replace I_b5 := I_b5.keep Kh27 nin0
            replace E_b9 := E_b9.keep Kh27
            replace E_b10 := E_b10.keep Kh27
            replace K_b9 := K_b9.keep Kh27 nin0
            replace I_b9 := I_b9.keep Kh27 nin0
            refine Wp.eqS (S' := [(.int (1 : Int32))]) rfl ?_
            refine Wp.iload at_184 (pc' := 186) rfl rfl ?_
            refine Wp.icmp_ne (pc1 := 205) (pc' := 189) at_186 (by decide) (by decide) rfl (fun hc28 => by exact absurd hc28 (by decide)) (fun hc28 => ?_)
            refine Wp.aload at_189 (pc' := 191) rfl rfl rfl ?_
            refine Wp.aload at_191 (pc' := 193) rfl rfl rfl ?_
            refine Wp.old fun hOc => ?_
            refine Wp.callV (a := b9) (x' := (⟨"com/example/portwright/portwright/xml/SourceLocation", "equals", "(Ljava/lang/Object;)Z"⟩ : MethodName)) (W := 0) (argsL := [(.ref b5)]) (rest := []) rfl (ctQO l Z a0 hw hE b9 b5 b10 b6 o6 p3 (own_str o5) (own_str p1) cz h27 hOc E_b5 K_b9 I_b9 K_b5 I_b5 S_b10 S_b6 (own_sl _) (own_sl _) (Ne.symm ne_b6_b10) hco hcz) (hw _ (List.mem_of_getElem? (i := 43) rfl)) (hw _ (List.mem_of_getElem? (i := 44) rfl)) (hw _ (List.mem_of_getElem? (i := 46) rfl)) (hw _ (List.mem_of_getElem? (i := 45) rfl)) (hw _ (List.mem_of_getElem? (i := 47) rfl)) (hw _ (List.mem_of_getElem? (i := 7) rfl)) (fun s hZ => nf_sel rfl (hw _ (List.mem_of_getElem? (i := 46) rfl)) s hZ rfl) E_b9 (by decide) (lenOf pd__Ljava_lang_Object__Z rfl) at_193 rfl rfl rfl (Nat.le_of_eq rfl) (pc' := 196) rfl nofun nofun (by decide) (by decide) (k' := 18) (n' := 72) rfl rfl (by decide) (by decide) (fun vh29 h29 zh29 Kh29 qh29 => ?_)
            obtain rfl : vh29 = some (.int (1 : Int32)) := by
              have z0 := hc17
              simp at z0
              have z1 := hc22
              rw [qh29]; refine congrArg (fun z => some (Value.int z)) ?_; first | (refine if_neg (fun e => ?_); exact z0 e.1) | (refine if_neg (fun e => ?_); exact z0 e.1.symm) | (refine if_neg (fun e => ?_); exact z0 e.2) | (refine if_neg (fun e => ?_); exact z0 e.2.symm) | (refine if_neg (fun e => ?_); exact z1 e.1) | (refine if_neg (fun e => ?_); exact z1 e.1.symm) | (refine if_neg (fun e => ?_); exact z1 e.2) | (refine if_neg (fun e => ?_); exact z1 e.2.symm) | (refine if_pos (And.intro ?_ ?_); exact z0; exact z0) | (refine if_pos (And.intro ?_ ?_); exact z0.symm; exact z0.symm) | (refine if_pos (And.intro ?_ ?_); exact z0; exact z1) | (refine if_pos (And.intro ?_ ?_); exact z0.symm; exact z1.symm) | (refine if_pos (And.intro ?_ ?_); exact z1; exact z0) | (refine if_pos (And.intro ?_ ?_); exact z1.symm; exact z0.symm) | (refine if_pos (And.intro ?_ ?_); exact z1; exact z1) | (refine if_pos (And.intro ?_ ?_); exact z1.symm; exact z1.symm)
            replace S_b6 := S_b6.keep0 Kh29
            replace S_b10 := S_b10.keep0 Kh29
            replace V_a29 := V_a29.keep Kh29 nin0
            replace V_a36 := V_a36.keep Kh29 nin0
            replace E_b5 := E_b5.keep Kh29
            replace E_b6 := E_b6.keep Kh29
            replace K_b5 := K_b5.keep Kh29 nin0
            replace I_b5 := I_b5.keep Kh29 nin0
            replace E_b9 := E_b9.keep Kh29
            replace E_b10 := E_b10.keep Kh29
            replace K_b9 := K_b9.keep Kh29 nin0
            replace I_b9 := I_b9.keep Kh29 nin0
            refine Wp.eqS (S' := [(.int (1 : Int32))]) rfl ?_
            refine Wp.iload at_196 (pc' := 198) rfl rfl ?_
            refine Wp.icmp_ne (pc1 := 205) (pc' := 201) at_198 (by decide) (by decide) rfl (fun hc30 => by exact absurd hc30 (by decide)) (fun hc30 => ?_)
            refine Wp.iconst (x := (1 : Int32)) at_201 (pc' := 202) rfl rfl ?_
            refine Wp.goto (pc' := 206) at_202 (by decide) (by decide) ?_
            refine Wp.retN (x' := (1 : Int32)) (t := .boolean) rfl (by simp) rfl at_206 (by decide) (by decide) ?_
            rfl
      · have hc15 : (((p5.toUInt32 >>> ((2 : Int32) &&& 31).toUInt32).toInt32) &&& (3 : Int32)) = (2 : Int32) := hc15
        refine Wp.aload at_147 (pc' := 149) rfl rfl rfl ?_
        refine Wp.aload at_149 (pc' := 151) rfl rfl rfl ?_
        refine Wp.old fun hOc => ?_
        refine Wp.callV (a := b5) (x' := (⟨"com/example/portwright/portwright/xml/SourceLocation", "equals", "(Ljava/lang/Object;)Z"⟩ : MethodName)) (W := 0) (argsL := [(.ref b5)]) (rest := []) rfl (ctQS l Z a0 hw hE b5 b6 p3 _ h12 hOc E_b5 K_b5 I_b5 S_b6) (hw _ (List.mem_of_getElem? (i := 43) rfl)) (hw _ (List.mem_of_getElem? (i := 44) rfl)) (hw _ (List.mem_of_getElem? (i := 46) rfl)) (hw _ (List.mem_of_getElem? (i := 45) rfl)) (hw _ (List.mem_of_getElem? (i := 47) rfl)) (hw _ (List.mem_of_getElem? (i := 7) rfl)) (fun s hZ => nf_sel rfl (hw _ (List.mem_of_getElem? (i := 46) rfl)) s hZ rfl) E_b5 (by decide) (lenOf pd__Ljava_lang_Object__Z rfl) at_151 rfl rfl rfl (Nat.le_of_eq rfl) (pc' := 154) rfl nofun nofun (by decide) (by decide) (k' := 18) (n' := 72) rfl rfl (by decide) (by decide) (fun vh31 h31 zh31 Kh31 qh31 => ?_)
        obtain rfl := qh31
        replace S_b6 := S_b6.keep0 Kh31
        replace S_b10 := S_b10.keep0 Kh31
        replace V_a29 := V_a29.keep Kh31 nin0
        replace V_a36 := V_a36.keep Kh31 nin0
        replace E_b5 := E_b5.keep Kh31
        replace E_b6 := E_b6.keep Kh31
        replace K_b5 := K_b5.keep Kh31 nin0
        replace I_b5 := I_b5.keep Kh31 nin0
        replace E_b9 := E_b9.keep Kh31
        replace E_b10 := E_b10.keep Kh31
        replace K_b9 := K_b9.keep Kh31 nin0
        replace I_b9 := I_b9.keep Kh31 nin0
        refine Wp.eqS (S' := [(.int (1 : Int32))]) rfl ?_
        refine Wp.retN (x' := (1 : Int32)) (t := .boolean) rfl (by simp) rfl at_154 (by decide) (by decide) ?_
        rfl
    · have hc14 : (((p5.toUInt32 >>> ((2 : Int32) &&& 31).toUInt32).toInt32) &&& (3 : Int32)) = (1 : Int32) := hc14
      refine Wp.new rfl (hw _ (List.mem_of_getElem? (i := 8) rfl)) (hw _ (List.mem_of_getElem? (i := 9) rfl)) (hw _ (List.mem_of_getElem? (i := 10) rfl)) at_114 (pc' := 117) rfl (k' := 19) (n' := 76) rfl rfl (by decide) (by decide) (fun h32 b32 g_b32 sz_b32 Xh32 E_b32 D_b32 => ?_)
      have ne_a29_b32 : a29 ≠ b32 := Nat.ne_of_lt (Nat.lt_of_lt_of_eq V_a29.lt g_b32.symm)
      have ne_a36_b32 : a36 ≠ b32 := Nat.ne_of_lt (Nat.lt_of_lt_of_eq V_a36.lt g_b32.symm)
      have ne_b5_b32 : b5 ≠ b32 := Nat.ne_of_lt (Nat.lt_of_lt_of_eq E_b5.lt g_b32.symm)
      have ne_b6_b32 : b6 ≠ b32 := Nat.ne_of_lt (Nat.lt_of_lt_of_eq E_b6.lt g_b32.symm)
      have ne_b9_b32 : b9 ≠ b32 := Nat.ne_of_lt (Nat.lt_of_lt_of_eq E_b9.lt g_b32.symm)
      have ne_b10_b32 : b10 ≠ b32 := Nat.ne_of_lt (Nat.lt_of_lt_of_eq E_b10.lt g_b32.symm)
      replace V_a29 := V_a29.ext Xh32
      replace V_a36 := V_a36.ext Xh32
      replace E_b5 := E_b5.ext Xh32
      replace E_b6 := E_b6.ext Xh32
      replace S_b6 := S_b6.ext Xh32
      replace K_b5 := K_b5.ext Xh32
      replace I_b5 := I_b5.ext Xh32
      replace E_b9 := E_b9.ext Xh32
      replace E_b10 := E_b10.ext Xh32
      replace S_b10 := S_b10.ext Xh32
      replace K_b9 := K_b9.ext Xh32
      replace I_b9 := I_b9.ext Xh32
      have F_value_b32 : Fld Z h32 b32 "java/lang/String" "value" "[B" .null := D_b32 (Or.inr (hw _ (List.mem_of_getElem? (i := 23) rfl))) (ty := (.array .byte)) (by decide)
      have F_coder_b32 : Fld Z h32 b32 "java/lang/String" "coder" "B" (.int (0 : Int32)) := D_b32 (Or.inr (hw _ (List.mem_of_getElem? (i := 24) rfl))) (ty := .byte) (by decide)
      clear D_b32
      refine Wp.dup at_117 (pc' := 118) rfl rfl ?_
      refine Wp.aload at_118 (pc' := 120) rfl rfl rfl ?_
      refine Wp.old fun hOc => ?_
      refine Wp.callI (a := b32) (W := 1) (argsL := [(.ref a36)]) (rest := [(.ref b32)]) rfl (ctSI l Z a0 hw hE b32 a36 k_a36 (own_cs o5) cz h32 hOc (own_cn o5) (own_cl o5) (own_hl o5) V_a36 E_b32 F_value_b32 F_coder_b32 (Nat.le_trans hO.1 sz_b32) ne_a36_b32 hco hcz) rfl rfl (hw _ (List.mem_of_getElem? (i := 11) rfl)) (hw _ (List.mem_of_getElem? (i := 12) rfl)) (hw _ (List.mem_of_getElem? (i := 13) rfl)) (hw _ (List.mem_of_getElem? (i := 10) rfl)) (by decide) (lenOf pd___C_V rfl) at_120 rfl rfl rfl (Nat.le_of_eq rfl) (pc' := 123) rfl (by simp) (by intro x hx; simp only [List.mem_cons, List.not_mem_nil, or_false] at hx; rcases hx with rfl; exact (Or.inr sz_b32)) (by decide) (by decide) (k' := 23) (n' := 84) rfl rfl (by decide) (by decide) (fun vh33 h33 zh33 Kh33 qh33 => ?_)
      obtain ⟨rfl, S_b32⟩ := qh33
      replace S_b6 := S_b6.keep1 Kh33 ne_b6_b32 E_b32 (hw _ (List.mem_of_getElem? (i := 9) rfl))
      replace S_b10 := S_b10.keep1 Kh33 ne_b10_b32 E_b32 (hw _ (List.mem_of_getElem? (i := 9) rfl))
      replace V_a29 := V_a29.keep Kh33 (ninS ne_a29_b32 nin0)
      replace V_a36 := V_a36.keep Kh33 (ninS ne_a36_b32 nin0)
      replace E_b5 := E_b5.keep Kh33
      replace E_b6 := E_b6.keep Kh33
      replace K_b5 := K_b5.keep Kh33 (ninS ne_b5_b32 nin0)
      replace I_b5 := I_b5.keep Kh33 (ninS ne_b5_b32 nin0)
      replace E_b9 := E_b9.keep Kh33
      replace E_b10 := E_b10.keep Kh33
      replace K_b9 := K_b9.keep Kh33 (ninS ne_b9_b32 nin0)
      replace I_b9 := I_b9.keep Kh33 (ninS ne_b9_b32 nin0)
      replace E_b32 := E_b32.keep Kh33
      refine Wp.eqS (S' := [(.ref b32)]) rfl ?_
      refine Wp.astore (l' := #[.val (.int p1), .val (.int p2), .val (.int p3), .val (.int p4), .val (.int p5), .val (.int o5), .val (.int o6), .val (.ref a29), .val (.ref a36), .val (.ref b5), .val (.ref b9), .val (.int (((p5.toUInt32 >>> ((2 : Int32) &&& 31).toUInt32).toInt32) &&& (3 : Int32))), .val (.ref b32)]) at_123 (pc' := 125) rfl rfl rfl ?_
      refine Wp.aload at_125 (pc' := 127) rfl rfl rfl ?_
      refine Wp.aload at_127 (pc' := 129) rfl rfl rfl ?_
      refine Wp.old fun hOc => ?_
      refine Wp.callV (a := b5) (x' := (⟨"com/example/portwright/portwright/xml/SourceLocation", "equals", "(Ljava/lang/Object;)Z"⟩ : MethodName)) (W := 0) (argsL := [(.ref b32)]) (rest := []) rfl (ctQT l Z a0 hw hE b5 b32 h33 hOc S_b32.1) (hw _ (List.mem_of_getElem? (i := 43) rfl)) (hw _ (List.mem_of_getElem? (i := 44) rfl)) (hw _ (List.mem_of_getElem? (i := 46) rfl)) (hw _ (List.mem_of_getElem? (i := 45) rfl)) (hw _ (List.mem_of_getElem? (i := 47) rfl)) (hw _ (List.mem_of_getElem? (i := 7) rfl)) (fun s hZ => nf_sel rfl (hw _ (List.mem_of_getElem? (i := 46) rfl)) s hZ rfl) E_b5 (by decide) (lenOf pd__Ljava_lang_Object__Z rfl) at_129 rfl rfl rfl (Nat.le_of_eq rfl) (pc' := 132) rfl nofun nofun (by decide) (by decide) (k' := 23) (n' := 84) rfl rfl (by decide) (by decide) (fun vh34 h34 zh34 Kh34 qh34 => ?_)
      obtain rfl := qh34
      replace S_b6 := S_b6.keep0 Kh34
      replace S_b10 := S_b10.keep0 Kh34
      replace S_b32 := S_b32.keep0 Kh34
      replace V_a29 := V_a29.keep Kh34 nin0
      replace V_a36 := V_a36.keep Kh34 nin0
      replace E_b5 := E_b5.keep Kh34
      replace E_b6 := E_b6.keep Kh34
      replace K_b5 := K_b5.keep Kh34 nin0
      replace I_b5 := I_b5.keep Kh34 nin0
      replace E_b9 := E_b9.keep Kh34
      replace E_b10 := E_b10.keep Kh34
      replace K_b9 := K_b9.keep Kh34 nin0
      replace I_b9 := I_b9.keep Kh34 nin0
      replace E_b32 := E_b32.keep Kh34
      refine Wp.eqS (S' := [(.int (0 : Int32))]) rfl ?_
      refine Wp.if_ne (pc1 := 139) (pc' := 135) at_132 (by decide) (by decide) rfl (fun hc35 => by exact absurd hc35 (by decide)) (fun hc35 => ?_)
      refine Wp.iconst (x := (1 : Int32)) at_135 (pc' := 136) rfl rfl ?_
      refine Wp.goto (pc' := 140) at_136 (by decide) (by decide) ?_
      refine Wp.retN (x' := (1 : Int32)) (t := .boolean) rfl (by simp) rfl at_140 (by decide) (by decide) ?_
      rfl
  · have hc13 : (((p5.toUInt32 >>> ((2 : Int32) &&& 31).toUInt32).toInt32) &&& (3 : Int32)) = (0 : Int32) := hc13
    refine Wp.aload at_93 (pc' := 95) rfl rfl rfl ?_
    refine Wp.aconstNull at_95 (pc' := 96) rfl ?_
    refine Wp.old fun hOc => ?_
    refine Wp.callV (a := b5) (x' := (⟨"com/example/portwright/portwright/xml/SourceLocation", "equals", "(Ljava/lang/Object;)Z"⟩ : MethodName)) (W := 0) (argsL := [.null]) (rest := []) rfl (ctQN l Z a0 hw hE b5 h12 hOc) (hw _ (List.mem_of_getElem? (i := 43) rfl)) (hw _ (List.mem_of_getElem? (i := 44) rfl)) (hw _ (List.mem_of_getElem? (i := 46) rfl)) (hw _ (List.mem_of_getElem? (i := 45) rfl)) (hw _ (List.mem_of_getElem? (i := 47) rfl)) (hw _ (List.mem_of_getElem? (i := 7) rfl)) (fun s hZ => nf_sel rfl (hw _ (List.mem_of_getElem? (i := 46) rfl)) s hZ rfl) E_b5 (by decide) (lenOf pd__Ljava_lang_Object__Z rfl) at_96 rfl rfl rfl (Nat.le_of_eq rfl) (pc' := 99) rfl nofun nofun (by decide) (by decide) (k' := 18) (n' := 72) rfl rfl (by decide) (by decide) (fun vh36 h36 zh36 Kh36 qh36 => ?_)
    obtain rfl := qh36
    replace S_b6 := S_b6.keep0 Kh36
    replace S_b10 := S_b10.keep0 Kh36
    replace V_a29 := V_a29.keep Kh36 nin0
    replace V_a36 := V_a36.keep Kh36 nin0
    replace E_b5 := E_b5.keep Kh36
    replace E_b6 := E_b6.keep Kh36
    replace K_b5 := K_b5.keep Kh36 nin0
    replace I_b5 := I_b5.keep Kh36 nin0
    replace E_b9 := E_b9.keep Kh36
    replace E_b10 := E_b10.keep Kh36
    replace K_b9 := K_b9.keep Kh36 nin0
    replace I_b9 := I_b9.keep Kh36 nin0
    refine Wp.eqS (S' := [(.int (0 : Int32))]) rfl ?_
    refine Wp.if_ne (pc1 := 106) (pc' := 102) at_99 (by decide) (by decide) rfl (fun hc37 => by exact absurd hc37 (by decide)) (fun hc37 => ?_)
    refine Wp.iconst (x := (1 : Int32)) at_102 (pc' := 103) rfl rfl ?_
    refine Wp.goto (pc' := 107) at_103 (by decide) (by decide) ?_
    refine Wp.retN (x' := (1 : Int32)) (t := .boolean) rfl (by simp) rfl at_107 (by decide) (by decide) ?_
    rfl
set_option maxRecDepth 65536 in
set_option maxHeartbeats 40000000 in
theorem comes_1 {Post : Tables → Env → Array Value → State → Outcome → State → Prop} (hpost : ∀ tb e args s v u, (limb_1_1.after args s (.returned v) u = true ∧ limb_1_2.after args s (.returned v) u = true ∧ True) → ReturnedEndW s (.returned v) u (Jvm.fieldLocs frame_1_writes args s ++ Jvm.arrayLocs frame_1_arrays args s ++ Jvm.staticLocs frame_1_statics s) 32 2176 → Post tb e args s (.returned v) u) :
    ArmFor flags0 classFile x code maxLocals ret World_1 tables_1 room_1 Calls_1 rest_1 Pre_1 Post := by
  intro l hfl _ _ p e ha hc hk s m args below hf hA hF happ hP
  obtain ⟨hcalls, hrest, hpre⟩ := hP
  obtain ⟨-, -, -, hnamed, -, -, -, hat⟩ := (Spec.applies_iff hf).mp happ
  obtain ⟨hg, hn⟩ := and_e (Cond.before_iff.mp (show (Jvm.Cond.and given_1 narrow_1).before args s = true from hpre))
  obtain ⟨gc, ga0⟩ := and_e hg
  obtain ⟨ga0, ga1⟩ := and_e ga0
  obtain ⟨ga1, ga2⟩ := and_e ga1
  obtain ⟨ga2, ga3⟩ := and_e ga2
  obtain ⟨ga3, ga4⟩ := and_e ga3
  obtain ⟨w0, w1, w2, w3, w4, rfl⟩ : ∃ w0 w1 w2 w3 w4 : Value, args = #[w0, w1, w2, w3, w4] := by
    have hs : args.size = 5 := by simpa [Cond.value, given_1] using gc
    obtain ⟨L⟩ := args
    match L, hs with
    | [w0, w1, w2, w3, w4], _ => exact ⟨w0, w1, w2, w3, w4, rfl⟩
  have hw := fun d (hd : d ∈ tables_1) => atoms_spec (ws := Jvm.Cond.code x code maxLocals ret :: tables_1) hat d (List.mem_cons_of_mem _ hd)
  obtain ⟨hsets, hown0⟩ := atoms_of _ (rest_1_c_eq ▸ (show rest_1_c.before _ s = true from hrest))
  obtain ⟨i0, ei0⟩ := is_v ga0
  obtain rfl : w0 = (.int i0) := Option.some.inj ei0
  obtain ⟨i1, ei1⟩ := is_v ga1
  obtain rfl : w1 = (.int i1) := Option.some.inj ei1
  obtain ⟨i2, ei2⟩ := is_v ga2
  obtain rfl : w2 = (.int i2) := Option.some.inj ei2
  obtain ⟨i3, ei3⟩ := is_v ga3
  obtain rfl : w3 = (.int i3) := Option.some.inj ei3
  obtain ⟨i4, ei4⟩ := is_v ga4
  obtain rfl : w4 = (.int i4) := Option.some.inj ei4
  have hn3 := not_v (Cond.before_iff.mp (hsets _ (List.mem_of_getElem? (i := 2) rfl)))
  obtain ⟨cz, ecz⟩ := is_v (Cond.before_iff.mp (hsets _ (List.mem_of_getElem? (i := 1) rfl)))
  have hco := Sta.start ecz (Or.inl (hsets _ (List.mem_of_getElem? (i := 0) rfl)))
  have hcz : ¬ cz = 0 := gotF (Cond.eq_ints ecz (Term.int_eval (0))) hn3
  have hE : EW s _ [("java/lang/String", 7)] := (EW.cons (hw _ (List.mem_of_getElem? (i := 21) rfl)) (by decide) EW.nil)
  have hCH : CHv s [("java/lang/String", 7)] s.vm s.heap := CHv.start hE (fun p hp => by simp only [List.mem_cons, List.not_mem_nil, or_false] at hp; rcases hp with rfl <;> exact hcalls.1 _ (by simp [consts_1])) (hsets _ (List.mem_of_getElem? (i := 2) rfl)) (hw _ (List.mem_of_getElem? (i := 22) rfl)) (hw _ (List.mem_of_getElem? (i := 9) rfl))
  obtain ⟨n, o, h1, h2, h3, _, L, rfl, ⟨N, rfl⟩, -, hq⟩ := (ct0 l s _ hw hE i0 i1 i2 i3 i4 cz s.heap ⟨Nat.le_refl _, fun _ _ q => q⟩ hco hcz) p e ha hc hk s m _ below hf ((Spec.applies_iff_loose hf).mp happ).1 ⟨rfl, State.Warmed39.refl s, rfl, hCH, fun x hx => nomatch hx⟩ trivial
  refine ⟨n, _, h1, h2, h3, hpost _ _ _ _ _ _ ⟨Cond.after_iff.mpr rfl, Cond.after_iff.mpr (eq_i res_at (Term.int_eval (1)) rfl), trivial⟩ ⟨hq.1.1, hq.1.2.1, hq.1.2.2.1, (hq.1.2.2.2.sift fun y hy => Or.inr ((N y hy).resolve_left (fun q => nomatch q))).mono (by decide) (by decide)⟩⟩
theorem main_1_1 : Claimed_1_1 := comes_1 fun _ _ _ _ _ _ h hF => ⟨h.1, hF⟩
theorem main_1_2 : Claimed_1_2 := comes_1 fun _ _ _ _ _ _ h hF => ⟨h.2.1, hF⟩
end Jvm.Pilot.@@N@@
namespace Jvm.Pilot.@@N@@
open Jvm Jvm.ClassFile Sem Op Lib Jvm.Free Jvm.Stand Jvm.Pilot.@@N@@.Jvm.D
/-! MADE BY PROGRAM (witnessworld.py) out of the Statement's table words and the real class files: 21 classes; the members and pool entries that the words name. The judged class is class 1, her method 3. -/
namespace start1
open Jvm.ClassFile
def u (s : String) : CpInfo := .utf8 (stringToUtf16 s)
/-- a pool by its gaps: so many unusable entries, then the entry; so many at the end -/
def gap : Nat → List CpInfo → List CpInfo
  | 0, r => r
  | n + 1, r => .unusable :: gap n r
def poolList (es : List (Nat × CpInfo)) (last : Nat) : List CpInfo := es.foldr (fun e r => gap e.1 (e.2 :: r)) (gap last [])
def pool (es : List (Nat × CpInfo)) (last : Nat) : Array CpInfo := ⟨poolList es last⟩
def fileOf (pool : Array CpInfo) (this : Nat) (attrs : Array Attribute := #[]) (ms : Array MethodInfo := #[]) (fl : Nat := 33) (sup : Nat := 0) (ifs : Array Nat := #[]) (fds : Array FieldInfo := #[]) : ClassFile where
  minorVersion := 0
  majorVersion := 65
  constantPool := pool
  accessFlags := fl
  thisClass := this
  superClass := sup
  interfaces := ifs
  fields := fds
  methods := ms
  attributes := attrs
def plain (name : String) (sup : Option ClassId) : Class where
  name := name
  kind := .ordinary
  loader := none
  accessFlags := 33
  super := sup
  interfaces := #[]
  cf := none
  fields := #[]
  methods := #[]
  instanceTypes := #[]
  staticTypes := #[]
  resolved := #[]
  callSites := []
  init := .initialized
  statics := none
  mirror := none

def pool0 : Array CpInfo := pool [(5, u "<init>"), (0, u "()V"), (1, .class_ 10), (1, u "java/lang/Object")] 113

def k0c0 : Code := { maxStack := 0, maxLocals := 1, code := object_method_1_code, exceptionTable := #[], attributes := #[] }
def k0m0 : Method := { name := "<init>", desc := "()V", sig := { parameters := [], returnType := none }, accessFlags := 1, code := some k0c0 }
/-- java/lang/Object -/
def k0 : Class := { plain "java/lang/Object" none with
  accessFlags := 33
  interfaces := #[]
  cf := some (fileOf pool0 8 #[] #[{ accessFlags := 1, nameIndex := 5, descriptorIndex := 6, attributes := #[] }] 33 0 #[] #[])
  fields := #[]
  methods := #[k0m0]
  instanceTypes := #[]
  staticTypes := #[]
  resolved := Array.replicate 124 none
  statics := none }

def pool1 : Array CpInfo := pool [(2, .class_ 4), (1, u "java/lang/Object"), (0, u "<init>"), (0, u "()V"), (0, .methodref 8 9), (0, .class_ 10), (0, .nameAndType 11 12), (0, u "com/example/portwright/portwright/xml/SourceLocationEqualsPinLaw"), (0, u "chars"), (0, u "(I)[C"), (0, .class_ 14), (0, u "com/example/portwright/portwright/xml/SourceLocation"), (0, .class_ 16), (0, u "java/lang/String"), (0, .methodref 15 18), (0, .nameAndType 5 19), (0, u "([C)V"), (0, .methodref 13 21), (0, .nameAndType 5 22), (0, u "(Ljava/lang/String;I)V"), (0, .methodref 13 24), (0, .nameAndType 25 26), (0, u "equals"), (0, u "(Ljava/lang/Object;)Z"), (0, .methodref 8 28), (0, .nameAndType 29 30), (0, u "sameChars"), (0, u "(II)Z"), (5, u "law"), (0, u "(IIIII)Z")] 2

def k1m0 : Method := { name := "<init>", desc := "()V", sig := { parameters := [], returnType := none }, accessFlags := 1, code := none }
def k1c1 : Code := { maxStack := 4, maxLocals := 3, code := method_2_code, exceptionTable := #[], attributes := #[] }
def k1m1 : Method := { name := "chars", desc := "(I)[C", sig := { parameters := [.int], returnType := some (.array .char) }, accessFlags := 10, code := some k1c1 }
def k1c2 : Code := { maxStack := 3, maxLocals := 4, code := method_3_code, exceptionTable := #[], attributes := #[] }
def k1m2 : Method := { name := "sameChars", desc := "(II)Z", sig := { parameters := [.int, .int], returnType := some .boolean }, accessFlags := 10, code := some k1c2 }
def k1c3 : Code := { maxStack := 5, maxLocals := 13, code := code, exceptionTable := #[], attributes := #[] }
def k1m3 : Method := { name := "law", desc := "(IIIII)Z", sig := { parameters := [.int, .int, .int, .int, .int], returnType := some .boolean }, accessFlags := 9, code := some k1c3 }
/-- com/example/portwright/portwright/xml/SourceLocationEqualsPinLaw -/
def k1 : Class := { plain "com/example/portwright/portwright/xml/SourceLocationEqualsPinLaw" (some 0) with
  accessFlags := 49
  interfaces := #[]
  cf := some (fileOf pool1 8 #[] #[{ accessFlags := 1, nameIndex := 5, descriptorIndex := 6, attributes := #[] }, { accessFlags := 10, nameIndex := 11, descriptorIndex := 12, attributes := #[] }, { accessFlags := 10, nameIndex := 29, descriptorIndex := 30, attributes := #[] }, { accessFlags := 9, nameIndex := 36, descriptorIndex := 37, attributes := #[] }] 49 2 #[] #[])
  fields := #[]
  methods := #[k1m0, k1m1, k1m2, k1m3]
  instanceTypes := #[]
  staticTypes := #[]
  resolved := Array.replicate 40 none
  statics := none }

def pool2 : Array CpInfo := pool [(1, .methodref 2 3), (0, .class_ 4), (0, .nameAndType 5 6), (0, u "java/lang/Object"), (0, u "<init>"), (0, u "()V"), (0, .string 8), (0, u "file"), (0, .methodref 10 11), (0, .class_ 12), (0, .nameAndType 13 14), (0, u "java/util/Objects"), (0, u "requireNonNull"), (0, u "(Ljava/lang/Object;Ljava/lang/String;)Ljava/lang/Object;"), (0, .class_ 16), (0, u "java/lang/String"), (0, .fieldref 18 19), (0, .class_ 20), (0, .nameAndType 8 21), (0, u "com/example/portwright/portwright/xml/SourceLocation"), (0, u "Ljava/lang/String;"), (0, .fieldref 18 23), (0, .nameAndType 24 25), (0, u "line"), (0, u "I"), (0, .methodref 15 27), (0, .nameAndType 28 29), (0, u "equals"), (0, u "(Ljava/lang/Object;)Z"), (14, u "(Ljava/lang/String;I)V")] 24

def k2c0 : Code := { maxStack := 3, maxLocals := 3, code := prog_61_method_1_code, exceptionTable := #[], attributes := #[] }
def k2m0 : Method := { name := "<init>", desc := "(Ljava/lang/String;I)V", sig := { parameters := [(.object "java/lang/String"), .int], returnType := none }, accessFlags := 1, code := some k2c0 }
def k2c1 : Code := { maxStack := 2, maxLocals := 3, code := prog_61_method_4_code, exceptionTable := #[], attributes := #[] }
def k2m1 : Method := { name := "equals", desc := "(Ljava/lang/Object;)Z", sig := { parameters := [(.object "java/lang/Object")], returnType := some .boolean }, accessFlags := 1, code := some k2c1 }
/-- com/example/portwright/portwright/xml/SourceLocation -/
def k2 : Class := { plain "com/example/portwright/portwright/xml/SourceLocation" (some 0) with
  accessFlags := 49
  interfaces := #[]
  cf := some (fileOf pool2 18 #[] #[{ accessFlags := 1, nameIndex := 5, descriptorIndex := 44, attributes := #[] }, { accessFlags := 1, nameIndex := 28, descriptorIndex := 29, attributes := #[] }] 49 2 #[] #[{ accessFlags := 18, nameIndex := 8, descriptorIndex := 21, attributes := #[] }, { accessFlags := 18, nameIndex := 24, descriptorIndex := 25, attributes := #[] }])
  fields := #[{ name := "file", type := (.object "java/lang/String"), accessFlags := 18, slot := 0, constantValue := 0 }, { name := "line", type := .int, accessFlags := 18, slot := 1, constantValue := 0 }]
  methods := #[k2m0, k2m1]
  instanceTypes := #[(.object "java/lang/String"), .int]
  staticTypes := #[]
  resolved := Array.replicate 69 none
  statics := none }

def pool3 : Array CpInfo := pool [(1, .class_ 2), (0, u "java/io/Serializable"), (0, .class_ 4), (0, u "java/lang/Object")] 2

/-- java/io/Serializable -/
def k3 : Class := { plain "java/io/Serializable" (some 0) with
  accessFlags := 1537
  interfaces := #[]
  cf := some (fileOf pool3 1 #[] #[] 1537 3 #[] #[])
  fields := #[]
  methods := #[]
  instanceTypes := #[]
  staticTypes := #[]
  resolved := Array.replicate 7 none
  statics := none }

def pool4 : Array CpInfo := pool [(1, .class_ 2), (0, u "java/lang/Comparable"), (0, .class_ 4), (0, u "java/lang/Object")] 7

/-- java/lang/Comparable -/
def k4 : Class := { plain "java/lang/Comparable" (some 0) with
  accessFlags := 1537
  interfaces := #[]
  cf := some (fileOf pool4 1 #[] #[] 1537 3 #[] #[])
  fields := #[]
  methods := #[]
  instanceTypes := #[]
  staticTypes := #[]
  resolved := Array.replicate 12 none
  statics := none }

def pool5 : Array CpInfo := pool [(2, .class_ 4), (1, u "java/lang/CharSequence"), (42, .class_ 48), (0, u "java/lang/CharSequence$1CodePointIterator"), (10, .class_ 60), (0, u "java/lang/CharSequence$1CharIterator"), (5, .class_ 67), (0, u "java/lang/Object")] 63

/-- java/lang/CharSequence -/
def k5 : Class := { plain "java/lang/CharSequence" (some 0) with
  accessFlags := 1537
  interfaces := #[]
  cf := some (fileOf pool5 2 #[.nestMembers #[47, 59]] #[] 1537 66 #[] #[])
  fields := #[]
  methods := #[]
  instanceTypes := #[]
  staticTypes := #[]
  resolved := Array.replicate 131 none
  statics := none }

def pool6 : Array CpInfo := pool [(1, .class_ 2), (0, u "java/lang/constant/Constable"), (0, .class_ 4), (0, u "java/lang/Object")] 6

/-- java/lang/constant/Constable -/
def k6 : Class := { plain "java/lang/constant/Constable" (some 0) with
  accessFlags := 1537
  interfaces := #[]
  cf := some (fileOf pool6 1 #[] #[] 1537 3 #[] #[])
  fields := #[]
  methods := #[]
  instanceTypes := #[]
  staticTypes := #[]
  resolved := Array.replicate 11 none
  statics := none }

def pool7 : Array CpInfo := pool [(1, .class_ 2), (0, u "java/lang/constant/ConstantDesc"), (0, .class_ 4), (0, u "java/lang/Object")] 32

/-- java/lang/constant/ConstantDesc -/
def k7 : Class := { plain "java/lang/constant/ConstantDesc" (some 0) with
  accessFlags := 1537
  interfaces := #[]
  cf := some (fileOf pool7 1 #[] #[] 1537 3 #[] #[])
  fields := #[]
  methods := #[]
  instanceTypes := #[]
  staticTypes := #[]
  resolved := Array.replicate 37 none
  statics := none }

def pool8 : Array CpInfo := pool [(1, .methodref 2 3), (0, .class_ 4), (0, .nameAndType 5 6), (0, u "java/lang/Object"), (0, u "<init>"), (0, u "()V"), (0, .string 8), (0, u ""), (0, .fieldref 10 11), (0, .class_ 12), (0, .nameAndType 13 14), (0, u "java/lang/String"), (0, u "value"), (0, u "[B"), (0, .fieldref 10 16), (0, .nameAndType 17 18), (0, u "coder"), (0, u "B"), (2, u "hash"), (0, u "I"), (2, u "hashIsZero"), (0, u "Z"), (0, .methodref 10 28), (0, .nameAndType 5 29), (0, u "([CIILjava/lang/Void;)V"), (8, .fieldref 10 39), (0, .nameAndType 40 26), (0, u "COMPACT_STRINGS"), (1, .class_ 44), (1, u "java/lang/StringUTF16"), (0, u "compress"), (1, .methodref 42 48), (0, .nameAndType 49 50), (0, u "coderFromArrayLen"), (0, u "([BI)B"), (56, .class_ 109), (1, u "java/lang/StringLatin1"), (67, .methodref 42 178), (0, .nameAndType 45 179), (0, u "([CII)[B"), (361, .methodref 107 542), (0, .nameAndType 543 544), (0, u "equals"), (0, u "([B[B)Z"), (28, u "(Ljava/lang/Object;)Z"), (1, .class_ 576), (0, u "java/lang/CharSequence"), (22, u "CASE_INSENSITIVE_ORDER"), (0, u "Ljava/util/Comparator;"), (409, u "([C)V"), (90, u "serialPersistentFields"), (0, u "[Ljava/io/ObjectStreamField;"), (0, .class_ 1104), (0, u "java/lang/String$CaseInsensitiveComparator"), (1, .class_ 1107), (0, u "java/io/Serializable"), (0, .class_ 1109), (0, u "java/lang/Comparable"), (0, .class_ 1111), (0, u "java/lang/constant/Constable"), (0, .class_ 1113), (0, u "java/lang/constant/ConstantDesc"), (2, u "serialVersionUID"), (0, u "J"), (3, u "REPL"), (0, u "C"), (2, u "LATIN1"), (1, u "UTF16")] 323

def k8m0 : Method := { name := "<init>", desc := "()V", sig := { parameters := [], returnType := none }, accessFlags := 1, code := none }
def k8c1 : Code := { maxStack := 5, maxLocals := 2, code := jdk_42_method_3_code, exceptionTable := #[], attributes := #[] }
def k8m1 : Method := { name := "<init>", desc := "([C)V", sig := { parameters := [(.array .char)], returnType := none }, accessFlags := 1, code := some k8c1 }
def k8c2 : Code := { maxStack := 2, maxLocals := 3, code := jdk_42_method_66_code, exceptionTable := #[], attributes := #[] }
def k8m2 : Method := { name := "equals", desc := "(Ljava/lang/Object;)Z", sig := { parameters := [(.object "java/lang/Object")], returnType := some .boolean }, accessFlags := 1, code := some k8c2 }
def k8c3 : Code := { maxStack := 4, maxLocals := 6, code := jdk_42_method_149_code, exceptionTable := #[], attributes := #[] }
def k8m3 : Method := { name := "<init>", desc := "([CIILjava/lang/Void;)V", sig := { parameters := [(.array .char), .int, .int, (.object "java/lang/Void")], returnType := none }, accessFlags := 2, code := some k8c3 }
/-- java/lang/String -/
def k8 : Class := { plain "java/lang/String" (some 0) with
  accessFlags := 49
  interfaces := #[3, 4, 5, 6, 7]
  cf := some (fileOf pool8 10 #[.nestMembers #[1103]] #[{ accessFlags := 1, nameIndex := 5, descriptorIndex := 6, attributes := #[] }, { accessFlags := 1, nameIndex := 5, descriptorIndex := 1010, attributes := #[] }, { accessFlags := 1, nameIndex := 543, descriptorIndex := 573, attributes := #[] }, { accessFlags := 2, nameIndex := 5, descriptorIndex := 29, attributes := #[] }] 49 2 #[1106, 1108, 575, 1110, 1112] #[{ accessFlags := 18, nameIndex := 13, descriptorIndex := 14, attributes := #[] }, { accessFlags := 18, nameIndex := 17, descriptorIndex := 18, attributes := #[] }, { accessFlags := 2, nameIndex := 21, descriptorIndex := 22, attributes := #[] }, { accessFlags := 2, nameIndex := 25, descriptorIndex := 26, attributes := #[] }, { accessFlags := 26, nameIndex := 1116, descriptorIndex := 1117, attributes := #[] }, { accessFlags := 24, nameIndex := 40, descriptorIndex := 26, attributes := #[] }, { accessFlags := 26, nameIndex := 1101, descriptorIndex := 1102, attributes := #[] }, { accessFlags := 26, nameIndex := 1121, descriptorIndex := 1122, attributes := #[] }, { accessFlags := 25, nameIndex := 599, descriptorIndex := 600, attributes := #[] }, { accessFlags := 24, nameIndex := 1125, descriptorIndex := 18, attributes := #[] }, { accessFlags := 24, nameIndex := 1127, descriptorIndex := 18, attributes := #[] }])
  fields := #[{ name := "value", type := (.array .byte), accessFlags := 18, slot := 0, constantValue := 0 }, { name := "coder", type := .byte, accessFlags := 18, slot := 1, constantValue := 0 }, { name := "hash", type := .int, accessFlags := 2, slot := 2, constantValue := 0 }, { name := "hashIsZero", type := .boolean, accessFlags := 2, slot := 3, constantValue := 0 }, { name := "serialVersionUID", type := .long, accessFlags := 26, slot := 0, constantValue := 0 }, { name := "COMPACT_STRINGS", type := .boolean, accessFlags := 24, slot := 1, constantValue := 0 }, { name := "serialPersistentFields", type := (.array (.object "java/io/ObjectStreamField")), accessFlags := 26, slot := 2, constantValue := 0 }, { name := "REPL", type := .char, accessFlags := 26, slot := 3, constantValue := 0 }, { name := "CASE_INSENSITIVE_ORDER", type := (.object "java/util/Comparator"), accessFlags := 25, slot := 4, constantValue := 0 }, { name := "LATIN1", type := .byte, accessFlags := 24, slot := 5, constantValue := 0 }, { name := "UTF16", type := .byte, accessFlags := 24, slot := 6, constantValue := 0 }]
  methods := #[k8m0, k8m1, k8m2, k8m3]
  instanceTypes := #[(.array .byte), .byte, .int, .boolean]
  staticTypes := #[.long, .boolean, (.array (.object "java/io/ObjectStreamField")), .char, (.object "java/util/Comparator"), .byte, .byte]
  resolved := Array.replicate 1451 none
  statics := some 0 }

def pool9 : Array CpInfo := pool [(2, .class_ 4), (1, u "java/lang/Object"), (0, u "<init>"), (0, u "()V"), (35, .class_ 44), (1, u "java/util/Objects"), (0, u "requireNonNull"), (48, u "(Ljava/lang/Object;Ljava/lang/String;)Ljava/lang/Object;")] 89

def k9m0 : Method := { name := "<init>", desc := "()V", sig := { parameters := [], returnType := none }, accessFlags := 2, code := none }
def k9c1 : Code := { maxStack := 3, maxLocals := 2, code := jdk_31_method_11_code, exceptionTable := #[], attributes := #[] }
def k9m1 : Method := { name := "requireNonNull", desc := "(Ljava/lang/Object;Ljava/lang/String;)Ljava/lang/Object;", sig := { parameters := [(.object "java/lang/Object"), (.object "java/lang/String")], returnType := some (.object "java/lang/Object") }, accessFlags := 9, code := some k9c1 }
/-- java/util/Objects -/
def k9 : Class := { plain "java/util/Objects" (some 0) with
  accessFlags := 49
  interfaces := #[]
  cf := some (fileOf pool9 42 #[] #[{ accessFlags := 2, nameIndex := 5, descriptorIndex := 6, attributes := #[] }, { accessFlags := 9, nameIndex := 45, descriptorIndex := 94, attributes := #[] }] 49 2 #[] #[])
  fields := #[]
  methods := #[k9m0, k9m1]
  instanceTypes := #[]
  staticTypes := #[]
  resolved := Array.replicate 184 none
  statics := none }

def pool10 : Array CpInfo := pool [(4, .class_ 6), (1, u "java/lang/Object"), (0, u "<init>"), (0, u "()V"), (5, .class_ 16), (1, u "java/lang/StringLatin1"), (104, u "$assertionsDisabled"), (0, u "Z"), (98, .class_ 223), (1, u "java/lang/StringLatin1$LinesSpliterator"), (57, u "equals"), (0, u "([B[B)Z"), (107, .class_ 391), (0, u "java/lang/StringLatin1$CharsSpliterator")] 3

def k10m0 : Method := { name := "<init>", desc := "()V", sig := { parameters := [], returnType := none }, accessFlags := 0, code := none }
def k10c1 : Code := { maxStack := 3, maxLocals := 3, code := jdk_43_method_13_code, exceptionTable := #[], attributes := #[] }
def k10m1 : Method := { name := "equals", desc := "([B[B)Z", sig := { parameters := [(.array .byte), (.array .byte)], returnType := some .boolean }, accessFlags := 9, code := some k10c1 }
/-- java/lang/StringLatin1 -/
def k10 : Class := { plain "java/lang/StringLatin1" (some 0) with
  accessFlags := 48
  interfaces := #[]
  cf := some (fileOf pool10 14 #[.nestMembers #[390, 221]] #[{ accessFlags := 0, nameIndex := 7, descriptorIndex := 8, attributes := #[] }, { accessFlags := 9, nameIndex := 281, descriptorIndex := 282, attributes := #[] }] 48 4 #[] #[{ accessFlags := 4120, nameIndex := 121, descriptorIndex := 122, attributes := #[] }])
  fields := #[{ name := "$assertionsDisabled", type := .boolean, accessFlags := 4120, slot := 0, constantValue := 0 }]
  methods := #[k10m0, k10m1]
  instanceTypes := #[]
  staticTypes := #[.boolean]
  resolved := Array.replicate 395 none
  statics := none }

def pool11 : Array CpInfo := pool [(6, .class_ 8), (1, u "java/lang/Object"), (0, u "<init>"), (0, u "()V"), (1, .class_ 14), (1, u "java/lang/StringUTF16"), (31, u "$assertionsDisabled"), (0, u "Z"), (13, u "HI_BYTE_SHIFT"), (0, u "I"), (2, u "LO_BYTE_SHIFT"), (49, .methodref 12 116), (0, .nameAndType 117 118), (0, u "compress"), (0, u "([CI[BII)I"), (3, u "([CII)[B"), (138, u "coderFromArrayLen"), (0, u "([BI)B"), (106, .class_ 371), (1, u "java/lang/StringUTF16$LinesSpliterator"), (58, u "MAX_LENGTH"), (196, .class_ 628), (0, u "java/lang/StringUTF16$CodePointsSpliterator"), (0, .class_ 630), (0, u "java/lang/StringUTF16$CharsSpliterator")] 4

def k11m0 : Method := { name := "<init>", desc := "()V", sig := { parameters := [], returnType := none }, accessFlags := 0, code := none }
def k11c1 : Code := { maxStack := 2, maxLocals := 2, code := jdk_52_method_15_code, exceptionTable := #[], attributes := #[] }
def k11m1 : Method := { name := "coderFromArrayLen", desc := "([BI)B", sig := { parameters := [(.array .byte), .int], returnType := some .byte }, accessFlags := 8, code := some k11c1 }
def k11c2 : Code := { maxStack := 5, maxLocals := 6, code := jdk_52_method_16_code, exceptionTable := #[], attributes := #[] }
def k11m2 : Method := { name := "compress", desc := "([CII)[B", sig := { parameters := [(.array .char), .int, .int], returnType := some (.array .byte) }, accessFlags := 9, code := some k11c2 }
def k11c3 : Code := { maxStack := 3, maxLocals := 7, code := jdk_52_method_21_code, exceptionTable := #[], attributes := #[] }
def k11m3 : Method := { name := "compress", desc := "([CI[BII)I", sig := { parameters := [(.array .char), .int, (.array .byte), .int, .int], returnType := some .int }, accessFlags := 9, code := some k11c3 }
/-- java/lang/StringUTF16 -/
def k11 : Class := { plain "java/lang/StringUTF16" (some 0) with
  accessFlags := 48
  interfaces := #[]
  cf := some (fileOf pool11 12 #[.nestMembers #[627, 629, 369]] #[{ accessFlags := 0, nameIndex := 9, descriptorIndex := 10, attributes := #[] }, { accessFlags := 8, nameIndex := 261, descriptorIndex := 262, attributes := #[] }, { accessFlags := 9, nameIndex := 117, descriptorIndex := 122, attributes := #[] }, { accessFlags := 9, nameIndex := 117, descriptorIndex := 118, attributes := #[] }] 48 6 #[] #[{ accessFlags := 26, nameIndex := 61, descriptorIndex := 62, attributes := #[] }, { accessFlags := 26, nameIndex := 65, descriptorIndex := 62, attributes := #[] }, { accessFlags := 24, nameIndex := 430, descriptorIndex := 62, attributes := #[] }, { accessFlags := 4120, nameIndex := 46, descriptorIndex := 47, attributes := #[] }])
  fields := #[{ name := "HI_BYTE_SHIFT", type := .int, accessFlags := 26, slot := 0, constantValue := 0 }, { name := "LO_BYTE_SHIFT", type := .int, accessFlags := 26, slot := 1, constantValue := 0 }, { name := "MAX_LENGTH", type := .int, accessFlags := 24, slot := 2, constantValue := 0 }, { name := "$assertionsDisabled", type := .boolean, accessFlags := 4120, slot := 3, constantValue := 0 }]
  methods := #[k11m0, k11m1, k11m2, k11m3]
  instanceTypes := #[]
  staticTypes := #[.int, .int, .int, .boolean]
  resolved := Array.replicate 635 none
  statics := none }

def pool12 : Array CpInfo := pool [(2, .class_ 4), (1, u "java/lang/Object"), (0, u "<init>"), (0, u "()V"), (17, .class_ 26), (1, u "jdk/internal/util/Preconditions"), (28, .class_ 56), (0, u "jdk/internal/util/Preconditions$4"), (57, .class_ 115), (0, u "jdk/internal/util/Preconditions$1"), (7, u "SIOOBE_FORMATTER"), (0, u "Ljava/util/function/BiFunction;"), (0, .class_ 126), (0, u "jdk/internal/util/Preconditions$2"), (3, u "AIOOBE_FORMATTER"), (0, .class_ 132), (0, u "jdk/internal/util/Preconditions$3"), (3, u "IOOBE_FORMATTER")] 57

def k12m0 : Method := { name := "<init>", desc := "()V", sig := { parameters := [], returnType := none }, accessFlags := 1, code := none }
/-- jdk/internal/util/Preconditions -/
def k12 : Class := { plain "jdk/internal/util/Preconditions" (some 0) with
  accessFlags := 33
  interfaces := #[]
  cf := some (fileOf pool12 24 #[.nestMembers #[55, 131, 125, 114]] #[{ accessFlags := 1, nameIndex := 5, descriptorIndex := 6, attributes := #[] }] 33 2 #[] #[{ accessFlags := 25, nameIndex := 123, descriptorIndex := 124, attributes := #[] }, { accessFlags := 25, nameIndex := 130, descriptorIndex := 124, attributes := #[] }, { accessFlags := 25, nameIndex := 136, descriptorIndex := 124, attributes := #[] }])
  fields := #[{ name := "SIOOBE_FORMATTER", type := (.object "java/util/function/BiFunction"), accessFlags := 25, slot := 0, constantValue := 0 }, { name := "AIOOBE_FORMATTER", type := (.object "java/util/function/BiFunction"), accessFlags := 25, slot := 1, constantValue := 0 }, { name := "IOOBE_FORMATTER", type := (.object "java/util/function/BiFunction"), accessFlags := 25, slot := 2, constantValue := 0 }]
  methods := #[k12m0]
  instanceTypes := #[]
  staticTypes := #[(.object "java/util/function/BiFunction"), (.object "java/util/function/BiFunction"), (.object "java/util/function/BiFunction")]
  resolved := Array.replicate 194 none
  statics := some 1 }

def pool13 : Array CpInfo := pool [(9, u "<init>"), (6, .class_ 18), (1, u "java/lang/Object"), (0, u "()V"), (1, .class_ 23), (1, u "jdk/internal/util/ArraysSupport"), (0, u "LOG2_ARRAY_LONG_INDEX_SCALE"), (0, u "I"), (2, u "U"), (0, u "Ljdk/internal/misc/Unsafe;"), (8, u "BIG_ENDIAN"), (0, u "Z"), (8, u "LOG2_BYTE_BIT_SIZE"), (4, u "LOG2_ARRAY_INT_INDEX_SCALE"), (54, u "JLA"), (0, u "Ljdk/internal/access/JavaLangAccess;"), (11, u "LOG2_ARRAY_BOOLEAN_INDEX_SCALE"), (9, u "LOG2_ARRAY_BYTE_INDEX_SCALE"), (5, u "LOG2_ARRAY_CHAR_INDEX_SCALE"), (5, u "LOG2_ARRAY_SHORT_INDEX_SCALE"), (18, u "LOG2_ARRAY_FLOAT_INDEX_SCALE"), (24, u "LOG2_ARRAY_DOUBLE_INDEX_SCALE"), (89, u "T_BOOLEAN"), (2, u "T_CHAR"), (1, u "T_FLOAT"), (1, u "T_DOUBLE"), (1, u "T_BYTE"), (1, u "T_SHORT"), (1, u "T_INT"), (1, u "T_LONG"), (1, u "SOFT_MAX_ARRAY_LENGTH")] 83

def k13m0 : Method := { name := "<init>", desc := "()V", sig := { parameters := [], returnType := none }, accessFlags := 2, code := none }
/-- jdk/internal/util/ArraysSupport -/
def k13 : Class := { plain "jdk/internal/util/ArraysSupport" (some 0) with
  accessFlags := 33
  interfaces := #[]
  cf := some (fileOf pool13 21 #[] #[{ accessFlags := 2, nameIndex := 9, descriptorIndex := 19, attributes := #[] }] 33 16 #[] #[{ accessFlags := 24, nameIndex := 28, descriptorIndex := 29, attributes := #[] }, { accessFlags := 26, nameIndex := 38, descriptorIndex := 39, attributes := #[] }, { accessFlags := 25, nameIndex := 121, descriptorIndex := 25, attributes := #[] }, { accessFlags := 25, nameIndex := 131, descriptorIndex := 25, attributes := #[] }, { accessFlags := 25, nameIndex := 137, descriptorIndex := 25, attributes := #[] }, { accessFlags := 25, nameIndex := 143, descriptorIndex := 25, attributes := #[] }, { accessFlags := 25, nameIndex := 53, descriptorIndex := 25, attributes := #[] }, { accessFlags := 25, nameIndex := 24, descriptorIndex := 25, attributes := #[] }, { accessFlags := 25, nameIndex := 162, descriptorIndex := 25, attributes := #[] }, { accessFlags := 25, nameIndex := 187, descriptorIndex := 25, attributes := #[] }, { accessFlags := 26, nameIndex := 48, descriptorIndex := 25, attributes := #[] }, { accessFlags := 25, nameIndex := 277, descriptorIndex := 25, attributes := #[] }, { accessFlags := 25, nameIndex := 280, descriptorIndex := 25, attributes := #[] }, { accessFlags := 25, nameIndex := 282, descriptorIndex := 25, attributes := #[] }, { accessFlags := 25, nameIndex := 284, descriptorIndex := 25, attributes := #[] }, { accessFlags := 25, nameIndex := 286, descriptorIndex := 25, attributes := #[] }, { accessFlags := 25, nameIndex := 288, descriptorIndex := 25, attributes := #[] }, { accessFlags := 25, nameIndex := 290, descriptorIndex := 25, attributes := #[] }, { accessFlags := 25, nameIndex := 292, descriptorIndex := 25, attributes := #[] }, { accessFlags := 26, nameIndex := 108, descriptorIndex := 109, attributes := #[] }, { accessFlags := 25, nameIndex := 294, descriptorIndex := 25, attributes := #[] }])
  fields := #[{ name := "U", type := (.object "jdk/internal/misc/Unsafe"), accessFlags := 24, slot := 0, constantValue := 0 }, { name := "BIG_ENDIAN", type := .boolean, accessFlags := 26, slot := 1, constantValue := 0 }, { name := "LOG2_ARRAY_BOOLEAN_INDEX_SCALE", type := .int, accessFlags := 25, slot := 2, constantValue := 0 }, { name := "LOG2_ARRAY_BYTE_INDEX_SCALE", type := .int, accessFlags := 25, slot := 3, constantValue := 0 }, { name := "LOG2_ARRAY_CHAR_INDEX_SCALE", type := .int, accessFlags := 25, slot := 4, constantValue := 0 }, { name := "LOG2_ARRAY_SHORT_INDEX_SCALE", type := .int, accessFlags := 25, slot := 5, constantValue := 0 }, { name := "LOG2_ARRAY_INT_INDEX_SCALE", type := .int, accessFlags := 25, slot := 6, constantValue := 0 }, { name := "LOG2_ARRAY_LONG_INDEX_SCALE", type := .int, accessFlags := 25, slot := 7, constantValue := 0 }, { name := "LOG2_ARRAY_FLOAT_INDEX_SCALE", type := .int, accessFlags := 25, slot := 8, constantValue := 0 }, { name := "LOG2_ARRAY_DOUBLE_INDEX_SCALE", type := .int, accessFlags := 25, slot := 9, constantValue := 0 }, { name := "LOG2_BYTE_BIT_SIZE", type := .int, accessFlags := 26, slot := 10, constantValue := 0 }, { name := "T_BOOLEAN", type := .int, accessFlags := 25, slot := 11, constantValue := 0 }, { name := "T_CHAR", type := .int, accessFlags := 25, slot := 12, constantValue := 0 }, { name := "T_FLOAT", type := .int, accessFlags := 25, slot := 13, constantValue := 0 }, { name := "T_DOUBLE", type := .int, accessFlags := 25, slot := 14, constantValue := 0 }, { name := "T_BYTE", type := .int, accessFlags := 25, slot := 15, constantValue := 0 }, { name := "T_SHORT", type := .int, accessFlags := 25, slot := 16, constantValue := 0 }, { name := "T_INT", type := .int, accessFlags := 25, slot := 17, constantValue := 0 }, { name := "T_LONG", type := .int, accessFlags := 25, slot := 18, constantValue := 0 }, { name := "JLA", type := (.object "jdk/internal/access/JavaLangAccess"), accessFlags := 26, slot := 19, constantValue := 0 }, { name := "SOFT_MAX_ARRAY_LENGTH", type := .int, accessFlags := 25, slot := 20, constantValue := 0 }]
  methods := #[k13m0]
  instanceTypes := #[]
  staticTypes := #[(.object "jdk/internal/misc/Unsafe"), .boolean, .int, .int, .int, .int, .int, .int, .int, .int, .int, .int, .int, .int, .int, .int, .int, .int, .int, (.object "jdk/internal/access/JavaLangAccess"), .int]
  resolved := Array.replicate 378 none
  statics := none }

def pool14 : Array CpInfo := pool [(1, u "java/lang/Cloneable"), (0, .class_ 1), (0, u "java/lang/Object"), (0, .class_ 3)] 3

/-- java/lang/Cloneable -/
def k14 : Class := { plain "java/lang/Cloneable" (some 0) with
  accessFlags := 1537
  interfaces := #[]
  cf := some (fileOf pool14 2 #[] #[] 1537 4 #[] #[])
  fields := #[]
  methods := #[]
  instanceTypes := #[]
  staticTypes := #[]
  resolved := Array.replicate 8 none
  statics := none }

/-- the primitive byte -/
def k15 : Class := { plain "byte" none with kind := .primitive 'B', accessFlags := 0x411 }
/-- [B -/
def k16 : Class := { plain "[B" (some 0) with kind := .array 15 .byte, interfaces := #[14, 3], accessFlags := 1041 }

/-- the primitive char -/
def k17 : Class := { plain "char" none with kind := .primitive 'C', accessFlags := 0x411 }
/-- [C -/
def k18 : Class := { plain "[C" (some 0) with kind := .array 17 .char, interfaces := #[14, 3], accessFlags := 1041 }

/-- the primitive int -/
def k19 : Class := { plain "int" none with kind := .primitive 'I', accessFlags := 0x411 }
/-- [I -/
def k20 : Class := { plain "[I" (some 0) with kind := .array 19 .int, interfaces := #[14, 3], accessFlags := 1041 }

def heap : Heap := #[{ cls := 8, slots := #[.long 0, .int 1, .null, .int 0, .null, .int 0, .int 0], vm := .statics 8 },
  { cls := 12, slots := #[.null, .null, .null], vm := .statics 12 }]
def classes : Array Class := #[k0, k1, k2, k3, k4, k5, k6, k7, k8, k9, k10, k11, k12, k13, k14, k15, k16, k17, k18, k19, k20]
def interned : List (Array UInt16 × Addr) := []
def slotsUsed : Nat := 10
def theMethod : MethodId := ⟨1, 3⟩
def args0 : Array Value := #[.int 5, .int 7, .int 3, .int 9, .int 2]
def aboutOver (below : List Frame) : State where
  vm := { classes := classes, interned := interned.toArray }
  heap := heap
  slotsUsed := slotsUsed
  threads := #[{ frames := .invoking theMethod args0 :: below }]
def below0 : List Frame := [.native { method := ⟨0, 0⟩, args := #[] }]
def about1 : State := aboutOver below0
def p0 : Program := .bare "" "" ""
def e0 : Env := launch0.env 0 0 0
theorem w_frames : about1.frames = Frame.invoking theMethod args0 :: below0 := rfl
set_option maxRecDepth 65536 in
theorem w_args : argsFit about1.vm theMethod args0 = true := by decide +kernel
set_option maxRecDepth 65536 in
theorem w_heap : heapFits about1 = true := by decide +kernel
set_option maxRecDepth 65536 in
theorem w_runnable : about1.curStatus? = some .runnable := by decide +kernel
set_option maxRecDepth 65536 in
theorem w_alone : about1.alone = true := by decide +kernel
set_option maxRecDepth 65536 in
theorem w_named : about1.methodNamed? x = some theMethod := by decide +kernel
set_option maxRecDepth 65536 in
theorem w_hears : about1.hears theMethod below0 = true := by decide +kernel
set_option maxRecDepth 65536 in
theorem w_ripe : about1.ripe theMethod args0 below0 = true := by decide +kernel
theorem w_running : about1.status = .running := rfl
set_option maxRecDepth 65536 in
theorem w_room : about1.hasRoom e0.platform room_1 = true :=
  launch0.hasRoom_least _ room_1 (by decide +kernel) (by decide +kernel) (by decide +kernel) (by decide +kernel) (by decide +kernel) (by decide +kernel)
theorem allAtoms_all (ts : List Jvm.Cond) (a : Array Jvm.Value) (st : Jvm.State) : (allAtoms ts).before a st = ts.all (fun c => c.before a st) := by
  induction ts with
  | nil => rfl
  | cons c t ih =>
    show (Jvm.Cond.and c (allAtoms t)).before a st = _
    rw [Jvm.Cond.before_and, ih, List.all_cons]
def words1 : List Jvm.Cond := Jvm.Cond.code x code maxLocals ret :: tables_1
/-- a 'code' word, met by the world's own term for the bytes: nothing is compared byte by byte -/
theorem code_word {y : MethodName} {bytes : ByteArray} {mx : Nat} {rt : Option FieldType} {a : Array Value} {s : State} {m : MethodId} {meth : Method} {c : Code} (h1 : s.methodNamed? y = some m) (h2 : s.vm.method? m = some meth) (h3 : meth.code = some c) (h4 : c.code = bytes)
    (h5 : (c.maxLocals == mx && c.exceptionTable.isEmpty && decide (c.maxStack ≤ mostOperands) && decide (meth.sig.returnType = rt) && !meth.locks && decide (parseMethodDescriptor y.desc = some meth.sig)) = true) : (Jvm.Cond.code y bytes mx rt).before a s = true := by
  simp only [Bool.and_eq_true, beq_iff_eq, Bool.not_eq_true', decide_eq_true_eq] at h5
  obtain ⟨⟨⟨⟨⟨g1, g2⟩, g3⟩, g4⟩, g5⟩, g6⟩ := h5
  simp [Cond.before, Cond.holds, Cond.value, h1, h2, h3, h4, g1, g2, g3, g4, g5, g6]
def isCode : Jvm.Cond → Bool
  | .code _ _ _ _ => true
  | _ => false
theorem all_split {L : List Jvm.Cond} {P : Jvm.Cond → Bool} (h1 : L.all (fun c => isCode c || P c) = true) (h2 : ∀ c ∈ L.filter isCode, P c = true) : L.all P = true := by
  refine List.all_eq_true.mpr fun c hc => ?_
  have h := List.all_eq_true.mp h1 c hc
  rcases Bool.eq_false_or_eq_true (isCode c) with hi | hi
  · exact h2 c (List.mem_filter.mpr ⟨hc, hi⟩)
  · simpa [hi] using h
set_option maxRecDepth 65536 in
theorem w_c0 : (Jvm.Cond.code x code maxLocals ret).before args0 about1 = true := code_word (m := ⟨1, 3⟩) (meth := k1m3) (c := k1c3) (by decide +kernel) rfl rfl rfl (by decide +kernel)
set_option maxRecDepth 65536 in
theorem w_c1 : (Jvm.Cond.code ({ cls := "com/example/portwright/portwright/xml/SourceLocationEqualsPinLaw", name := "chars", desc := "(I)[C" } : Jvm.MethodName) method_2_code (3 : Nat) (Option.some (Jvm.ClassFile.FieldType.array Jvm.ClassFile.FieldType.char))).before args0 about1 = true := code_word (m := ⟨1, 1⟩) (meth := k1m1) (c := k1c1) (by decide +kernel) rfl rfl rfl (by decide +kernel)
set_option maxRecDepth 65536 in
theorem w_c2 : (Jvm.Cond.code ({ cls := "java/lang/String", name := "<init>", desc := "([C)V" } : Jvm.MethodName) jdk_42_method_3_code (2 : Nat) (Option.none : Option Jvm.ClassFile.FieldType)).before args0 about1 = true := code_word (m := ⟨8, 1⟩) (meth := k8m1) (c := k8c1) (by decide +kernel) rfl rfl rfl (by decide +kernel)
set_option maxRecDepth 65536 in
theorem w_c3 : (Jvm.Cond.code ({ cls := "java/lang/String", name := "<init>", desc := "([CIILjava/lang/Void;)V" } : Jvm.MethodName) jdk_42_method_149_code (6 : Nat) (Option.none : Option Jvm.ClassFile.FieldType)).before args0 about1 = true := code_word (m := ⟨8, 3⟩) (meth := k8m3) (c := k8c3) (by decide +kernel) rfl rfl rfl (by decide +kernel)
set_option maxRecDepth 65536 in
theorem w_c4 : (Jvm.Cond.code ({ cls := "java/lang/Object", name := "<init>", desc := "()V" } : Jvm.MethodName) object_method_1_code (1 : Nat) (Option.none : Option Jvm.ClassFile.FieldType)).before args0 about1 = true := code_word (m := ⟨0, 0⟩) (meth := k0m0) (c := k0c0) (by decide +kernel) rfl rfl rfl (by decide +kernel)
set_option maxRecDepth 65536 in
theorem w_c5 : (Jvm.Cond.code ({ cls := "com/example/portwright/portwright/xml/SourceLocation", name := "<init>", desc := "(Ljava/lang/String;I)V" } : Jvm.MethodName) prog_61_method_1_code (3 : Nat) (Option.none : Option Jvm.ClassFile.FieldType)).before args0 about1 = true := code_word (m := ⟨2, 0⟩) (meth := k2m0) (c := k2c0) (by decide +kernel) rfl rfl rfl (by decide +kernel)
set_option maxRecDepth 65536 in
theorem w_c6 : (Jvm.Cond.code ({ cls := "java/util/Objects", name := "requireNonNull", desc := "(Ljava/lang/Object;Ljava/lang/String;)Ljava/lang/Object;" } : Jvm.MethodName) jdk_31_method_11_code (2 : Nat) (Option.some (Jvm.ClassFile.FieldType.object "java/lang/Object"))).before args0 about1 = true := code_word (m := ⟨9, 1⟩) (meth := k9m1) (c := k9c1) (by decide +kernel) rfl rfl rfl (by decide +kernel)
set_option maxRecDepth 65536 in
theorem w_c7 : (Jvm.Cond.code ({ cls := "com/example/portwright/portwright/xml/SourceLocation", name := "equals", desc := "(Ljava/lang/Object;)Z" } : Jvm.MethodName) prog_61_method_4_code (3 : Nat) (Option.some Jvm.ClassFile.FieldType.boolean)).before args0 about1 = true := code_word (m := ⟨2, 1⟩) (meth := k2m1) (c := k2c1) (by decide +kernel) rfl rfl rfl (by decide +kernel)
set_option maxRecDepth 65536 in
theorem w_c8 : (Jvm.Cond.code ({ cls := "java/lang/String", name := "equals", desc := "(Ljava/lang/Object;)Z" } : Jvm.MethodName) jdk_42_method_66_code (3 : Nat) (Option.some Jvm.ClassFile.FieldType.boolean)).before args0 about1 = true := code_word (m := ⟨8, 2⟩) (meth := k8m2) (c := k8c2) (by decide +kernel) rfl rfl rfl (by decide +kernel)
set_option maxRecDepth 65536 in
theorem w_c9 : (Jvm.Cond.code ({ cls := "com/example/portwright/portwright/xml/SourceLocationEqualsPinLaw", name := "sameChars", desc := "(II)Z" } : Jvm.MethodName) method_3_code (4 : Nat) (Option.some Jvm.ClassFile.FieldType.boolean)).before args0 about1 = true := code_word (m := ⟨1, 2⟩) (meth := k1m2) (c := k1c2) (by decide +kernel) rfl rfl rfl (by decide +kernel)
set_option maxRecDepth 65536 in
theorem w_c10 : (Jvm.Cond.code ({ cls := "java/lang/StringLatin1", name := "equals", desc := "([B[B)Z" } : Jvm.MethodName) jdk_43_method_13_code (3 : Nat) (Option.some Jvm.ClassFile.FieldType.boolean)).before args0 about1 = true := code_word (m := ⟨10, 1⟩) (meth := k10m1) (c := k10c1) (by decide +kernel) rfl rfl rfl (by decide +kernel)
set_option maxRecDepth 65536 in
theorem w_c11 : (Jvm.Cond.code ({ cls := "java/lang/StringUTF16", name := "compress", desc := "([CII)[B" } : Jvm.MethodName) jdk_52_method_16_code (6 : Nat) (Option.some (Jvm.ClassFile.FieldType.array Jvm.ClassFile.FieldType.byte))).before args0 about1 = true := code_word (m := ⟨11, 2⟩) (meth := k11m2) (c := k11c2) (by decide +kernel) rfl rfl rfl (by decide +kernel)
set_option maxRecDepth 65536 in
theorem w_c12 : (Jvm.Cond.code ({ cls := "java/lang/StringUTF16", name := "compress", desc := "([CI[BII)I" } : Jvm.MethodName) jdk_52_method_21_code (7 : Nat) (Option.some Jvm.ClassFile.FieldType.int)).before args0 about1 = true := code_word (m := ⟨11, 3⟩) (meth := k11m3) (c := k11c3) (by decide +kernel) rfl rfl rfl (by decide +kernel)
set_option maxRecDepth 65536 in
theorem w_c13 : (Jvm.Cond.code ({ cls := "java/lang/StringUTF16", name := "coderFromArrayLen", desc := "([BI)B" } : Jvm.MethodName) jdk_52_method_15_code (2 : Nat) (Option.some Jvm.ClassFile.FieldType.byte)).before args0 about1 = true := code_word (m := ⟨11, 1⟩) (meth := k11m1) (c := k11c1) (by decide +kernel) rfl rfl rfl (by decide +kernel)
def codes1 : List Jvm.Cond := [Jvm.Cond.code x code maxLocals ret, Jvm.Cond.code ({ cls := "com/example/portwright/portwright/xml/SourceLocationEqualsPinLaw", name := "chars", desc := "(I)[C" } : Jvm.MethodName) method_2_code (3 : Nat) (Option.some (Jvm.ClassFile.FieldType.array Jvm.ClassFile.FieldType.char)), Jvm.Cond.code ({ cls := "java/lang/String", name := "<init>", desc := "([C)V" } : Jvm.MethodName) jdk_42_method_3_code (2 : Nat) (Option.none : Option Jvm.ClassFile.FieldType), Jvm.Cond.code ({ cls := "java/lang/String", name := "<init>", desc := "([CIILjava/lang/Void;)V" } : Jvm.MethodName) jdk_42_method_149_code (6 : Nat) (Option.none : Option Jvm.ClassFile.FieldType), Jvm.Cond.code ({ cls := "java/lang/Object", name := "<init>", desc := "()V" } : Jvm.MethodName) object_method_1_code (1 : Nat) (Option.none : Option Jvm.ClassFile.FieldType), Jvm.Cond.code ({ cls := "com/example/portwright/portwright/xml/SourceLocation", name := "<init>", desc := "(Ljava/lang/String;I)V" } : Jvm.MethodName) prog_61_method_1_code (3 : Nat) (Option.none : Option Jvm.ClassFile.FieldType), Jvm.Cond.code ({ cls := "java/util/Objects", name := "requireNonNull", desc := "(Ljava/lang/Object;Ljava/lang/String;)Ljava/lang/Object;" } : Jvm.MethodName) jdk_31_method_11_code (2 : Nat) (Option.some (Jvm.ClassFile.FieldType.object "java/lang/Object")), Jvm.Cond.code ({ cls := "com/example/portwright/portwright/xml/SourceLocation", name := "equals", desc := "(Ljava/lang/Object;)Z" } : Jvm.MethodName) prog_61_method_4_code (3 : Nat) (Option.some Jvm.ClassFile.FieldType.boolean), Jvm.Cond.code ({ cls := "java/lang/String", name := "equals", desc := "(Ljava/lang/Object;)Z" } : Jvm.MethodName) jdk_42_method_66_code (3 : Nat) (Option.some Jvm.ClassFile.FieldType.boolean), Jvm.Cond.code ({ cls := "com/example/portwright/portwright/xml/SourceLocationEqualsPinLaw", name := "sameChars", desc := "(II)Z" } : Jvm.MethodName) method_3_code (4 : Nat) (Option.some Jvm.ClassFile.FieldType.boolean), Jvm.Cond.code ({ cls := "java/lang/StringLatin1", name := "equals", desc := "([B[B)Z" } : Jvm.MethodName) jdk_43_method_13_code (3 : Nat) (Option.some Jvm.ClassFile.FieldType.boolean), Jvm.Cond.code ({ cls := "java/lang/StringUTF16", name := "compress", desc := "([CII)[B" } : Jvm.MethodName) jdk_52_method_16_code (6 : Nat) (Option.some (Jvm.ClassFile.FieldType.array Jvm.ClassFile.FieldType.byte)), Jvm.Cond.code ({ cls := "java/lang/StringUTF16", name := "compress", desc := "([CI[BII)I" } : Jvm.MethodName) jdk_52_method_21_code (7 : Nat) (Option.some Jvm.ClassFile.FieldType.int), Jvm.Cond.code ({ cls := "java/lang/StringUTF16", name := "coderFromArrayLen", desc := "([BI)B" } : Jvm.MethodName) jdk_52_method_15_code (2 : Nat) (Option.some Jvm.ClassFile.FieldType.byte)]
set_option maxRecDepth 65536 in
theorem codes_eq : words1.filter isCode = codes1 := rfl
theorem w_codes : ∀ c ∈ words1.filter isCode, c.before args0 about1 = true := by
  rw [codes_eq]
  intro c hc
  simp only [codes1, List.mem_cons, List.not_mem_nil, or_false] at hc
  rcases hc with rfl | rfl | rfl | rfl | rfl | rfl | rfl | rfl | rfl | rfl | rfl | rfl | rfl | rfl
  · exact w_c0
  · exact w_c1
  · exact w_c2
  · exact w_c3
  · exact w_c4
  · exact w_c5
  · exact w_c6
  · exact w_c7
  · exact w_c8
  · exact w_c9
  · exact w_c10
  · exact w_c11
  · exact w_c12
  · exact w_c13
set_option maxRecDepth 65536 in
theorem w_t1 : (words1.take 24).all (fun c => isCode c || c.before args0 about1) = true := by decide +kernel
set_option maxRecDepth 65536 in
theorem w_t2 : ((words1.drop 24).take 24).all (fun c => isCode c || c.before args0 about1) = true := by decide +kernel
set_option maxRecDepth 65536 in
theorem w_t3 : (((words1.drop 24).drop 24).take 24).all (fun c => isCode c || c.before args0 about1) = true := by decide +kernel
set_option maxRecDepth 65536 in
theorem w_t4 : (((words1.drop 24).drop 24).drop 24).all (fun c => isCode c || c.before args0 about1) = true := by decide +kernel
theorem w_tables : (allAtoms (Jvm.Cond.code x code maxLocals ret :: tables_1)).before args0 about1 = true := by
  rw [allAtoms_all]
  show words1.all (fun c => c.before args0 about1) = true
  refine all_split ?_ w_codes
  rw [← List.take_append_drop 24 words1, List.all_append, w_t1, ← List.take_append_drop 24 (words1.drop 24), List.all_append, w_t2, ← List.take_append_drop 24 ((words1.drop 24).drop 24), List.all_append, w_t3, w_t4]
  rfl
set_option maxRecDepth 65536 in
theorem w_rest : rest_1_c.before args0 about1 = true := by decide +kernel
set_option maxRecDepth 65536 in
theorem w_case : (Jvm.Cond.and given_1 narrow_1).before args0 about1 = true := by decide +kernel
set_option maxRecDepth 65536 in
theorem w_consts : constsHeld consts_1 about1 := Jvm.Lit.constsHeldB_iff.mp (by decide +kernel)
theorem w_applies : (headSpec (Jvm.Cond.code x code maxLocals ret :: tables_1) room_1).applies x e0.platform about1 = true :=
  (Spec.applies_iff w_frames).mpr ⟨w_running, w_runnable, w_alone, w_named, w_hears, w_ripe, w_room, w_tables⟩
theorem atStart : AtStart classFile x code maxLocals ret World_1 tables_1 room_1 Calls_1 rest_1 Pre_1 launch0 p0 e0 about1 theMethod args0 below0 :=
  ⟨lists_1, trivial, launch0.admits_env _ _ _, launch0.least_env, fairChoices_fair.cas, fairChoices_fair.clock, w_frames, w_args, w_heap, w_applies, ⟨w_consts, trivial⟩, w_rest, w_case⟩
end start1
theorem witness_1 : WitnessClaimed_1 := ⟨start1.p0, start1.e0, start1.about1, start1.theMethod, start1.args0, start1.below0, start1.atStart⟩
end Jvm.Pilot.@@N@@
