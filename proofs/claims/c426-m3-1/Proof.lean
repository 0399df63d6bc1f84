import JvmDerived
import JvmDerived.Pilot.@@N@@Statement
import JvmDerived.Pilot.@@N@@Code
set_option linter.unusedVariables false
set_option linter.unusedSimpArgs false
namespace Jvm.Own
open Sem ClassFile Op Lib Jvm.Stand Jvm.Free Jvm.LawKit Jvm.RoadKit
/-! A small logic of walks: 'Wp' says of a point of a body (pc, locals, stack, heap) that from every state that stands there the run ends with Q; one rule an instruction. 'Ct' is a body's contract. -/
def Fen (wd : Bool) (U : State) (o : Outcome) (U' : State) (L : List Loc) (k n : Nat) : Prop := ReturnedEndW U o U' L k n ∧ (wd = false → U.WarmedH U'.vm)
def Wh (hs : Heap) (ws : List Addr) (L : List Loc) : Prop := ∀ y ∈ L, y.base ∈ ws ∨ hs.size ≤ y.base
def Sf (Z : State) (EL : List (String × Nat)) (vm : Vm) (h : Heap) (F : List Addr) : Prop := ∀ x ∈ F, x < h.size ∧ Safe Z EL vm h x
def Sfe (Z : State) (EL : List (String × Nat)) (h : Heap) (F : List Addr) (a : Addr) : Prop := ∀ vm, Z.vm.Alike vm → Sf Z EL vm h F → Safe Z EL vm h a
def Ct (wd : Bool) (l : Launch) (Z : State) (EL : List (String × Nat)) (cw : List Cond) (y : MethodName) (bytes : ByteArray) (maxL : Nat) (ret : Option FieldType) (rm : Room) (as : Array Value) (h : Heap) (F ws : List Addr) (Q : Option Value → Heap → Prop) : Prop :=
  MetFree l y (head1 (Cond.code y bytes maxL ret :: cw) rm)
    (fun a U => a = as ∧ Z.Warmed39 U.vm ∧ U.heap = h ∧ CHv Z EL U.vm h ∧ Sf Z EL U.vm h F) (fun _ _ _ _ _ => True)
    (fun _ U o U' => ∃ v L, o = .returned v ∧ (Wh U.heap ws L ∧ Q v U'.heap) ∧ CHr Z EL U.vm U.heap U'.vm U'.heap ∧ Fen wd U o U' L rm.cells rm.slots)
def Inv (wd : Bool) (l : Launch) (Z : State) (a0 : Array Value) (EL : List (String × Nat)) (R : Room) (y : MethodName) (bytes : ByteArray) (maxL : Nat) (ret : Option FieldType) (hs : Heap) (ws : List Addr) (h : Heap) (F : List Addr) (k n : Nat)
    (p : Program) (e : Env) (s : State) (m : MethodId) (args : Array Value) (below : List Frame) (meth : Method) (c : Code) (vm0 : Vm) (k0 : Nat) (T : State) (locs : List Loc) : Prop :=
  (EW Z a0 EL ∧ p.tables.exec = Jvm.exec ∧ c.code = bytes ∧ c.maxLocals = maxL ∧ meth.sig.returnType = ret ∧ meth.name = y.name ∧ meth.locks = false) ∧
  (s.heap = hs ∧ (∀ x ∈ ws, Z.heap.size ≤ x) ∧ Z.heap.size ≤ hs.size ∧ Wh hs ws locs ∧ Ext Z.heap h) ∧
  (vm0.findClass y.cls = some m.cls ∧ s.Since vm0 k0 ∧ k0 ≤ h.size ∧ (wd = false → s.WarmedH vm0) ∧ Z.Warmed39 vm0 ∧ CHr Z EL s.vm hs vm0 h ∧ Sf Z EL vm0 h F) ∧
  Stand p l e R (s.setVm vm0) m args below meth c T locs k n ∧ T.heap = h
def Out (wd : Bool) (Z : State) (EL : List (String × Nat)) (R : Room) (hs : Heap) (ws : List Addr) (Q : Option Value → Heap → Prop) (p : Program) (e : Env) (s : State) (below : List Frame) (st : State) : Prop :=
  ∃ (v : Option Value) (t : State), Steps p.tables e below st t ∧ t.status = .running ∧ Ended t below (.returned v) ∧ ∃ L, Wh hs ws L ∧ Q v t.heap ∧ CHr Z EL s.vm hs t.vm t.heap ∧ Fen wd s (.returned v) t L R.cells R.slots
def Wp (wd : Bool) (l : Launch) (Z : State) (a0 : Array Value) (EL : List (String × Nat)) (R : Room) (y : MethodName) (bytes : ByteArray) (maxL : Nat) (ret : Option FieldType) (hs : Heap) (ws : List Addr) (Q : Option Value → Heap → Prop) (h : Heap) (F : List Addr) (k n pc : Nat) (Ls : Array Slot) (S : List Value) : Prop :=
  ∀ (p : Program) (e : Env) (s : State) (m : MethodId) (args : Array Value) (below : List Frame) (meth : Method) (c : Code) (vm0 : Vm) (k0 : Nat) (T : State) (locs : List Loc),
    Inv wd l Z a0 EL R y bytes maxL ret hs ws h F k n p e s m args below meth c vm0 k0 T locs → Out wd Z EL R hs ws Q p e s below (T.setTop (mkF m pc Ls S))
section Kit
variable {wd : Bool} {l : Launch} {Z : State} {EL : List (String × Nat)} {R : Room} {y : MethodName} {bytes : ByteArray} {maxL : Nat} {ret : Option FieldType} {hs : Heap} {ws : List Addr} {Q : Option Value → Heap → Prop} {h h' : Heap} {F F' : List Addr} {k n k' n' pc pc' pc1 : Nat} {Ls Ls' : Array Slot} {S S' : List Value}
variable {a0 : Array Value} {a b : Addr} {C O nm d : String} {v w : Value} {sl : Nat} {cl : Cell} {ty : FieldType}
theorem Sfe.mem (q : a ∈ F) : Sfe Z EL h F a := fun _ _ S => (S a q).2
theorem Sfe.exa (E : Exa Z h a C) (h1 : C ≠ "java/lang/String") (h2 : C ≠ "[B") : Sfe Z EL h F a := fun _ hal _ => Safe.exa hal E h1 h2
theorem Sfe.arr (A : Arr Z h a cl ty) (ht : ty ≠ .byte) : Sfe Z EL h F a := fun _ hal _ => Safe.arr hal A ht
theorem Out.back {p : Program} {e : Env} {s : State} {below : List Frame} {st st' : State} (o : Out wd Z EL R hs ws Q p e s below st') (f : ∀ t, Steps p.tables e below st' t → Steps p.tables e below st t) : Out wd Z EL R hs ws Q p e s below st := by
  obtain ⟨v, t, h1, r⟩ := o; exact ⟨v, t, f t h1, r⟩
theorem Wp.lift (f : ∀ (p : Program) (e : Env) (m : MethodId) (below : List Frame) (c : Code) (T t : State), At T m c below → p.tables.exec = Jvm.exec → c.code = bytes → Steps p.tables e below (T.setTop (mkF m pc' Ls' S')) t → Steps p.tables e below (T.setTop (mkF m pc Ls S)) t)
    (K : Wp wd l Z a0 EL R y bytes maxL ret hs ws Q h F k n pc' Ls' S') : Wp wd l Z a0 EL R y bytes maxL ret hs ws Q h F k n pc Ls S :=
  fun p e s m args below meth c vm0 k0 T locs I => (K p e s m args below meth c vm0 k0 T locs I).back fun t st => f p e m below c T t I.2.2.2.1.here I.1.2.1 I.1.2.2.1 st
theorem Wp.old (K : Ext Z.heap h → Wp wd l Z a0 EL R y bytes maxL ret hs ws Q h F k n pc Ls S) : Wp wd l Z a0 EL R y bytes maxL ret hs ws Q h F k n pc Ls S :=
  fun p e s m args below meth c vm0 k0 T locs I => K I.2.1.2.2.2.2 p e s m args below meth c vm0 k0 T locs I
theorem Wp.eqS (q : S = S') (K : Wp wd l Z a0 EL R y bytes maxL ret hs ws Q h F k n pc Ls S') : Wp wd l Z a0 EL R y bytes maxL ret hs ws Q h F k n pc Ls S := q ▸ K
theorem Wp.more (hk : k ≤ k') (hn : n ≤ n') (K : Wp wd l Z a0 EL R y bytes maxL ret hs ws Q h F k' n' pc Ls S) : Wp wd l Z a0 EL R y bytes maxL ret hs ws Q h F k n pc Ls S :=
  fun p e s m args below meth c vm0 k0 T locs I => K p e s m args below meth c vm0 k0 T locs ⟨I.1, I.2.1, I.2.2.1, I.2.2.2.1.mono hk hn, I.2.2.2.2⟩
theorem Wp.less (hF : ∀ x ∈ F', x ∈ F) (K : Wp wd l Z a0 EL R y bytes maxL ret hs ws Q h F' k n pc Ls S) : Wp wd l Z a0 EL R y bytes maxL ret hs ws Q h F k n pc Ls S :=
  fun p e s m args below meth c vm0 k0 T locs I => K p e s m args below meth c vm0 k0 T locs ⟨I.1, I.2.1, ⟨I.2.2.1.1, I.2.2.1.2.1, I.2.2.1.2.2.1, I.2.2.1.2.2.2.1, I.2.2.1.2.2.2.2.1, I.2.2.1.2.2.2.2.2.1, fun x hx => I.2.2.1.2.2.2.2.2.2 x (hF x hx)⟩, I.2.2.2⟩
/-- the cells of the start stand, but for the listed -/
theorem keep_of {s T : State} {locs : List Loc} {kk nn : Nat} (hsm : s.sameButNew T locs kk nn) (hL : Wh s.heap ws locs) : Keep s.heap T.heap ws := by
  refine ⟨hsm.2.1, fun x c hx hn => ?_, fun x c hx => ?_⟩
  · obtain ⟨c', h1, h2, -, h4⟩ := hsm.2.2.2.2.2 x c hx
    have hb := (Array.getElem?_eq_some_iff.mp hx).1
    have hsl : c'.slots = c.slots := Array.ext_getElem? fun i => h4 i fun hm => (hL _ hm).elim hn fun q => absurd q (Nat.not_le.mpr hb)
    have hcc : c' = c := by rw [h2, hsl]
    rw [← hcc]; exact h1
  · obtain ⟨c', h1, h2, h3, -⟩ := hsm.2.2.2.2.2 x c hx
    exact ⟨c', h1, by rw [h2], by rw [h2], h3⟩
theorem Ext.trans {h1 h2 h3 : Heap} (A : Ext h1 h2) (B : Ext h2 h3) : Ext h1 h3 := ⟨Nat.le_trans A.1 B.1, fun x c q => B.2 x c (A.2 x c q)⟩
theorem ext_wr (O : Ext Z.heap h) (W : Wr h h' a sl v) (q : Z.heap.size ≤ a) : Ext Z.heap h' := ⟨by rw [W.size]; exact O.1, fun x c hx => by
  obtain ⟨c', h1, -, -, -, h5, -⟩ := wr_at W (O.2 x c hx)
  rw [← h5 (Nat.ne_of_lt (Nat.lt_of_lt_of_le (Array.getElem?_eq_some_iff.mp hx).1 q))]; exact h1⟩
theorem ext_keep {wc : List Addr} (O : Ext Z.heap h) (K : Keep h h' wc) (q : ∀ x ∈ wc, Z.heap.size ≤ x) : Ext Z.heap h' := ⟨Nat.le_trans O.1 K.1, fun x c hx => K.2.1 x c (O.2 x c hx) fun hm => absurd (Array.getElem?_eq_some_iff.mp hx).1 (Nat.not_lt.mpr (q x hm))⟩
/-- a step that reads the tables or the heap and moves neither but by resolving -/
theorem Wp.tab (law : ∀ (p : Program) (e : Env) (s : State) (m : MethodId) (args : Array Value) (below : List Frame) (meth : Method) (c : Code) (T : State) (locs : List Loc), Stand p l e R s m args below meth c T locs k n → p.tables.exec = Jvm.exec → Z.Warmed39 s.vm → s.vm.findClass y.cls = some m.cls → c.code = bytes → c.maxLocals = maxL → s.heap = hs → T.heap = h → Ext Z.heap h →
      ∃ T', Stand p l e R s m args below meth c T' locs k n ∧ T'.heap = h ∧ ∀ t, Steps p.tables e below (T'.setTop (mkF m pc' Ls' S')) t → Steps p.tables e below (T.setTop (mkF m pc Ls S)) t)
    (K : Wp wd l Z a0 EL R y bytes maxL ret hs ws Q h F k n pc' Ls' S') : Wp wd l Z a0 EL R y bytes maxL ret hs ws Q h F k n pc Ls S := fun p e s m args below meth c vm0 k0 T locs I => by
  obtain ⟨⟨i1, i2, i3, i4, i5⟩, J, ⟨j1, j2, j3, j4, j5, j6⟩, X, eT⟩ := I
  obtain ⟨T', X', eT', st⟩ := law p e (s.setVm vm0) m args below meth c T locs X i2 j5 j1 i3 i4 J.1 eT J.2.2.2.2
  exact (K p e s m args below meth c vm0 k0 T' locs ⟨⟨i1, i2, i3, i4, i5⟩, J, ⟨j1, j2, j3, j4, j5, j6⟩, X', eT'⟩).back st
/-- a step that writes one place -/
theorem Wp.put (hw : a ∈ ws ∨ hs.size ≤ a) (sf : Sfe Z EL h F a) (law : ∀ (p : Program) (e : Env) (s : State) (m : MethodId) (args : Array Value) (below : List Frame) (meth : Method) (c : Code) (T : State) (locs : List Loc), Stand p l e R s m args below meth c T locs k n → p.tables.exec = Jvm.exec → Z.Warmed39 s.vm → s.vm.findClass y.cls = some m.cls → c.code = bytes → meth.name = y.name → T.heap = h →
      ∃ T' h', Stand p l e R s m args below meth c T' (locs ++ [⟨a, sl⟩]) k n ∧ T'.heap = h' ∧ Wr h h' a sl v ∧ ∀ t, Steps p.tables e below (T'.setTop (mkF m pc' Ls' S')) t → Steps p.tables e below (T.setTop (mkF m pc Ls S)) t)
    (K : ∀ h', Wr h h' a sl v → Wp wd l Z a0 EL R y bytes maxL ret hs ws Q h' F k n pc' Ls' S') : Wp wd l Z a0 EL R y bytes maxL ret hs ws Q h F k n pc Ls S := fun p e s m args below meth c vm0 k0 T locs I => by
  obtain ⟨⟨i1, i2, i3, i4, i5, i6, i7⟩, ⟨q1, q2, q3, q4, q5⟩, ⟨j1, j2, j3, j4, j5, j6, j7⟩, X, eT⟩ := I
  obtain ⟨T', h', X', eT', W, st⟩ := law p e (s.setVm vm0) m args below meth c T locs X i2 j5 j1 i3 i6 eT
  have S := sf vm0 j5.alike j7
  refine (K h' W p e s m args below meth c vm0 k0 T' _ ⟨⟨i1, i2, i3, i4, i5, i6, i7⟩, ⟨q1, q2, q3, fun z hz => ?_, ext_wr q5 W (hw.elim (q2 a) (Nat.le_trans q3))⟩, ⟨j1, j2, by rw [W.size]; exact j3, j4, j5, j6.trans (CHr.wr W S j6.1), fun x hx => ⟨by rw [W.size]; exact (j7 x hx).1, Safe.wr W S j6.1 (j7 x hx).2⟩⟩, X', eT'⟩).back st
  rcases List.mem_append.mp hz with hz | hz
  · exact q4 z hz
  · cases List.mem_singleton.mp hz; exact hw
/-- a step that makes one cell -/
theorem Wp.mk (P : Heap → Prop) (hlt : ∀ h', P h' → h.size < h'.size) (law : ∀ (p : Program) (e : Env) (s : State) (m : MethodId) (args : Array Value) (below : List Frame) (meth : Method) (c : Code) (T : State) (locs : List Loc), Stand p l e R s m args below meth c T locs k n → p.tables.exec = Jvm.exec → Z.Warmed39 s.vm → s.vm.findClass y.cls = some m.cls → c.code = bytes → T.heap = h →
      ∃ T' h', Stand p l e R s m args below meth c T' locs k' n' ∧ T'.heap = h' ∧ Ext h h' ∧ P h' ∧ ∀ t, Steps p.tables e below (T'.setTop (mkF m pc' Ls' S')) t → Steps p.tables e below (T.setTop (mkF m pc Ls S)) t)
    (K : ∀ h', hs.size ≤ h.size → Ext h h' → P h' → Wp wd l Z a0 EL R y bytes maxL ret hs ws Q h' (h.size :: F) k' n' pc' Ls' S') : Wp wd l Z a0 EL R y bytes maxL ret hs ws Q h F k n pc Ls S := fun p e s m args below meth c vm0 k0 T locs I => by
  obtain ⟨⟨i1, i2, i3, i4, i5⟩, ⟨q1, q2, q3, q4, q5⟩, ⟨j1, j2, j3, j4, j5, j6, j7⟩, X, eT⟩ := I
  obtain ⟨T', h', X', eT', E, hP, st⟩ := law p e (s.setVm vm0) m args below meth c T locs X i2 j5 j1 i3 eT
  refine (K h' j6.2.1 E hP p e s m args below meth c vm0 k0 T' _ ⟨⟨i1, i2, i3, i4, i5⟩, ⟨q1, q2, q3, q4, Ext.trans q5 E⟩, ⟨j1, j2, Nat.le_trans j3 E.1, j4, j5, j6.trans (CHr.ext E j6.1), fun x hx => ?_⟩, X', eT'⟩).back st
  rcases List.mem_cons.mp hx with rfl | hx
  · exact ⟨hlt h' hP, Safe.ext E j6.1 (Safe.new (Nat.le_refl _))⟩
  · exact ⟨Nat.lt_of_lt_of_le (j7 x hx).1 E.1, Safe.ext E j6.1 (j7 x hx).2⟩
/-- the return -/
theorem Wp.leave (hk : k ≤ R.cells) (hn : n ≤ R.slots) {v' : Option Value} (hv : ret = none → v' = none) (hQ : Q v' h) (law : ∀ (p : Program) (e : Env) (s : State) (m : MethodId) (args : Array Value) (below : List Frame) (meth : Method) (c : Code) (T : State) (locs : List Loc) (fs : List Frame), Stand p l e R s m args below meth c T locs k n → p.tables.exec = Jvm.exec → c.code = bytes → meth.sig.returnType = ret →
      (∀ (f : JFrame) (acts : List Action), f.method = m → f.locked = none → f.entered = [] → (doReturn e (T.setTop f) acts v').1 = T.setFrames fs) → Steps p.tables e below (T.setTop (mkF m pc Ls S)) (T.setFrames fs)) :
    Wp wd l Z a0 EL R y bytes maxL ret hs ws Q h F k n pc Ls S := fun p e s m args below meth c vm0 k0 T locs I => by
  obtain ⟨⟨i1, i2, i3, i4, i5, i6, i7⟩, ⟨q1, q2, q3, q4, q5⟩, ⟨j1, j2, j3, j4, j5, j6, j7⟩, X, eT⟩ := I
  subst eT
  obtain ⟨fs, hr, hrun, hended, hE⟩ := X.leaveW j2 j3 (v := v') (by rw [i5]; exact hv) i7
  refine ⟨v', _, law p e (s.setVm vm0) m args below meth c T locs fs X i2 i3 i5 hr, hrun, hended, locs, q4, hQ, j6.trans (show CHr Z EL vm0 T.heap T.vm T.heap from CHv.at X j5 i1 j6.1), ⟨hE.1, hE.2.1, hE.2.2.1, hE.2.2.2.mono hk hn⟩, fun z => ?_⟩
  exact State.WarmedH.trans (t := s.setVm vm0) (j4 z) X.warmed
end Kit
end Jvm.Own
namespace Jvm.Own
open Sem ClassFile Op Lib Jvm.Stand Jvm.Free Jvm.LawKit Jvm.RoadKit
section Rules
variable {wd : Bool} {l : Launch} {Z : State} {EL : List (String × Nat)} {R : Room} {y : MethodName} {bytes : ByteArray} {maxL : Nat} {ret : Option FieldType} {hs : Heap} {ws : List Addr} {Q : Option Value → Heap → Prop} {h h' : Heap} {F F' : List Addr} {k n k' n' pc pc' pc1 : Nat} {Ls Ls' : Array Slot} {S S' : List Value}
variable {a0 : Array Value} {a b : Addr} {C O nm d : String} {v w : Value} {sl : Nat} {cl : Cell} {ty : FieldType}
theorem Wp.iloadN {i : Fin 4} {x : Int32} (hd : decode bytes pc = .ok (.iload_n i, 1)) (hp : pc + 1 = pc') (hl : Ls[i.val]? = some (.val (.int x))) (K : Wp wd l Z a0 EL R y bytes maxL ret hs ws Q h F k n pc' Ls (.int x :: S)) : Wp wd l Z a0 EL R y bytes maxL ret hs ws Q h F k n pc Ls S := by
  subst hp; exact Wp.lift (fun p e m below c T t A hx hby st => XS.iloadN A hx rfl (hb hby hd) hl st) K
theorem Wp.iload {i : Nat} {x : Int32} (hd : decode bytes pc = .ok (.iload i, 2)) (hp : pc + 2 = pc') (hl : Ls[i]? = some (.val (.int x))) (K : Wp wd l Z a0 EL R y bytes maxL ret hs ws Q h F k n pc' Ls (.int x :: S)) : Wp wd l Z a0 EL R y bytes maxL ret hs ws Q h F k n pc Ls S := by
  subst hp; exact Wp.lift (fun p e m below c T t A hx hby st => XS.iload A hx rfl (hb hby hd) hl st) K
theorem Wp.istoreN {i : Fin 4} {x : Int32} {l' : Array Slot} (hd : decode bytes pc = .ok (.istore_n i, 1)) (hp : pc + 1 = pc') (hl : storeLocals Ls i.val (.int x) = some l') (K : Wp wd l Z a0 EL R y bytes maxL ret hs ws Q h F k n pc' l' S) : Wp wd l Z a0 EL R y bytes maxL ret hs ws Q h F k n pc Ls (.int x :: S) := by
  subst hp; exact Wp.lift (fun p e m below c T t A hx hby st => XS.istoreN A hx rfl (hb hby hd) rfl hl st) K
theorem Wp.istore {i : Nat} {x : Int32} {l' : Array Slot} (hd : decode bytes pc = .ok (.istore i, 2)) (hp : pc + 2 = pc') (hl : storeLocals Ls i (.int x) = some l') (K : Wp wd l Z a0 EL R y bytes maxL ret hs ws Q h F k n pc' l' S) : Wp wd l Z a0 EL R y bytes maxL ret hs ws Q h F k n pc Ls (.int x :: S) := by
  subst hp; exact Wp.lift (fun p e m below c T t A hx hby st => XS.istore A hx rfl (hb hby hd) rfl hl st) K
theorem Wp.lloadN {i : Fin 4} {x : Int64} (hd : decode bytes pc = .ok (.lload_n i, 1)) (hp : pc + 1 = pc') (hl : Ls[i.val]? = some (.val (.long x))) (K : Wp wd l Z a0 EL R y bytes maxL ret hs ws Q h F k n pc' Ls (.long x :: S)) : Wp wd l Z a0 EL R y bytes maxL ret hs ws Q h F k n pc Ls S := by
  subst hp; exact Wp.lift (fun p e m below c T t A hx hby st => XS.lloadN A hx rfl (hb hby hd) hl st) K
theorem Wp.lload {i : Nat} {x : Int64} (hd : decode bytes pc = .ok (.lload i, 2)) (hp : pc + 2 = pc') (hl : Ls[i]? = some (.val (.long x))) (K : Wp wd l Z a0 EL R y bytes maxL ret hs ws Q h F k n pc' Ls (.long x :: S)) : Wp wd l Z a0 EL R y bytes maxL ret hs ws Q h F k n pc Ls S := by
  subst hp; exact Wp.lift (fun p e m below c T t A hx hby st => XS.lload A hx rfl (hb hby hd) hl st) K
theorem Wp.lstoreN {i : Fin 4} {x : Int64} {l' : Array Slot} (hd : decode bytes pc = .ok (.lstore_n i, 1)) (hp : pc + 1 = pc') (hl : storeLocals Ls i.val (.long x) = some l') (K : Wp wd l Z a0 EL R y bytes maxL ret hs ws Q h F k n pc' l' S) : Wp wd l Z a0 EL R y bytes maxL ret hs ws Q h F k n pc Ls (.long x :: S) := by
  subst hp; exact Wp.lift (fun p e m below c T t A hx hby st => XS.lstoreN A hx rfl (hb hby hd) rfl hl st) K
theorem Wp.lstore {i : Nat} {x : Int64} {l' : Array Slot} (hd : decode bytes pc = .ok (.lstore i, 2)) (hp : pc + 2 = pc') (hl : storeLocals Ls i (.long x) = some l') (K : Wp wd l Z a0 EL R y bytes maxL ret hs ws Q h F k n pc' l' S) : Wp wd l Z a0 EL R y bytes maxL ret hs ws Q h F k n pc Ls (.long x :: S) := by
  subst hp; exact Wp.lift (fun p e m below c T t A hx hby st => XS.lstore A hx rfl (hb hby hd) rfl hl st) K
theorem Wp.aloadN {i : Fin 4} {v : Value} (hd : decode bytes pc = .ok (.aload_n i, 1)) (hp : pc + 1 = pc') (hl : Ls[i.val]? = some (.val v)) (hv : v.isRef = true) (K : Wp wd l Z a0 EL R y bytes maxL ret hs ws Q h F k n pc' Ls (v :: S)) : Wp wd l Z a0 EL R y bytes maxL ret hs ws Q h F k n pc Ls S := by
  subst hp; exact Wp.lift (fun p e m below c T t A hx hby st => XS.aloadN A hx rfl (hb hby hd) hl hv st) K
theorem Wp.aload {i : Nat} {v : Value} (hd : decode bytes pc = .ok (.aload i, 2)) (hp : pc + 2 = pc') (hl : Ls[i]? = some (.val v)) (hv : v.isRef = true) (K : Wp wd l Z a0 EL R y bytes maxL ret hs ws Q h F k n pc' Ls (v :: S)) : Wp wd l Z a0 EL R y bytes maxL ret hs ws Q h F k n pc Ls S := by
  subst hp; exact Wp.lift (fun p e m below c T t A hx hby st => XS.aload A hx rfl (hb hby hd) hl hv st) K
theorem Wp.astoreN {i : Fin 4} {v : Value} {l' : Array Slot} (hd : decode bytes pc = .ok (.astore_n i, 1)) (hp : pc + 1 = pc') (hv : v.isRef = true) (hl : storeLocals Ls i.val v = some l') (K : Wp wd l Z a0 EL R y bytes maxL ret hs ws Q h F k n pc' l' S) : Wp wd l Z a0 EL R y bytes maxL ret hs ws Q h F k n pc Ls (v :: S) := by
  subst hp; exact Wp.lift (fun p e m below c T t A hx hby st => XS.astoreN A hx rfl (hb hby hd) rfl hv hl st) K
theorem Wp.astore {i : Nat} {v : Value} {l' : Array Slot} (hd : decode bytes pc = .ok (.astore i, 2)) (hp : pc + 2 = pc') (hv : v.isRef = true) (hl : storeLocals Ls i v = some l') (K : Wp wd l Z a0 EL R y bytes maxL ret hs ws Q h F k n pc' l' S) : Wp wd l Z a0 EL R y bytes maxL ret hs ws Q h F k n pc Ls (v :: S) := by
  subst hp; exact Wp.lift (fun p e m below c T t A hx hby st => XS.astore A hx rfl (hb hby hd) rfl hv hl st) K
theorem Wp.iconst {i : Int} {x : Int32} (hd : decode bytes pc = .ok (.iconst i, 1)) (hp : pc + 1 = pc') (hi : Int32.ofInt i = x) (K : Wp wd l Z a0 EL R y bytes maxL ret hs ws Q h F k n pc' Ls (.int x :: S)) : Wp wd l Z a0 EL R y bytes maxL ret hs ws Q h F k n pc Ls S := by
  subst hp; exact Wp.lift (fun p e m below c T t A hx hby st => XS.iconst A hx rfl (hb hby hd) (hi ▸ st)) K
theorem Wp.bipush {i : Int} {x : Int32} (hd : decode bytes pc = .ok (.bipush i, 2)) (hp : pc + 2 = pc') (hi : (Int8.ofInt i).toInt32 = x) (K : Wp wd l Z a0 EL R y bytes maxL ret hs ws Q h F k n pc' Ls (.int x :: S)) : Wp wd l Z a0 EL R y bytes maxL ret hs ws Q h F k n pc Ls S := by
  subst hp; exact Wp.lift (fun p e m below c T t A hx hby st => XS.bipush A hx rfl (hb hby hd) (hi ▸ st)) K
theorem Wp.sipush {i : Int} {x : Int32} (hd : decode bytes pc = .ok (.sipush i, 3)) (hp : pc + 3 = pc') (hi : (Int16.ofInt i).toInt32 = x) (K : Wp wd l Z a0 EL R y bytes maxL ret hs ws Q h F k n pc' Ls (.int x :: S)) : Wp wd l Z a0 EL R y bytes maxL ret hs ws Q h F k n pc Ls S := by
  subst hp; exact Wp.lift (fun p e m below c T t A hx hby st => XS.sipush A hx rfl (hb hby hd) (hi ▸ st)) K
theorem Wp.lconst {i : Fin 2} {x : Int64} (hd : decode bytes pc = .ok (.lconst i, 1)) (hp : pc + 1 = pc') (hi : Int64.ofNat i = x) (K : Wp wd l Z a0 EL R y bytes maxL ret hs ws Q h F k n pc' Ls (.long x :: S)) : Wp wd l Z a0 EL R y bytes maxL ret hs ws Q h F k n pc Ls S := by
  subst hp; exact Wp.lift (fun p e m below c T t A hx hby st => XS.lconst A hx rfl (hb hby hd) (hi ▸ st)) K
theorem Wp.aconstNull  (hd : decode bytes pc = .ok (.aconst_null, 1)) (hp : pc + 1 = pc') (K : Wp wd l Z a0 EL R y bytes maxL ret hs ws Q h F k n pc' Ls (.null :: S)) : Wp wd l Z a0 EL R y bytes maxL ret hs ws Q h F k n pc Ls S := by
  subst hp; exact Wp.lift (fun p e m below c T t A hx hby st => XS.aconstNull A hx rfl (hb hby hd) st) K
theorem Wp.iadd {x z : Int32} (hd : decode bytes pc = .ok (.iadd, 1)) (hp : pc + 1 = pc') (K : Wp wd l Z a0 EL R y bytes maxL ret hs ws Q h F k n pc' Ls (.int (x + z) :: S)) : Wp wd l Z a0 EL R y bytes maxL ret hs ws Q h F k n pc Ls (.int z :: .int x :: S) := by
  subst hp; exact Wp.lift (fun p e m below c T t A hx hby st => XS.iadd A hx rfl (hb hby hd) rfl st) K
theorem Wp.ladd {x z : Int64} (hd : decode bytes pc = .ok (.ladd, 1)) (hp : pc + 1 = pc') (K : Wp wd l Z a0 EL R y bytes maxL ret hs ws Q h F k n pc' Ls (.long (x + z) :: S)) : Wp wd l Z a0 EL R y bytes maxL ret hs ws Q h F k n pc Ls (.long z :: .long x :: S) := by
  subst hp; exact Wp.lift (fun p e m below c T t A hx hby st => XS.ladd A hx rfl (hb hby hd) rfl st) K
theorem Wp.isub {x z : Int32} (hd : decode bytes pc = .ok (.isub, 1)) (hp : pc + 1 = pc') (K : Wp wd l Z a0 EL R y bytes maxL ret hs ws Q h F k n pc' Ls (.int (x - z) :: S)) : Wp wd l Z a0 EL R y bytes maxL ret hs ws Q h F k n pc Ls (.int z :: .int x :: S) := by
  subst hp; exact Wp.lift (fun p e m below c T t A hx hby st => XS.isub A hx rfl (hb hby hd) rfl st) K
theorem Wp.lsub {x z : Int64} (hd : decode bytes pc = .ok (.lsub, 1)) (hp : pc + 1 = pc') (K : Wp wd l Z a0 EL R y bytes maxL ret hs ws Q h F k n pc' Ls (.long (x - z) :: S)) : Wp wd l Z a0 EL R y bytes maxL ret hs ws Q h F k n pc Ls (.long z :: .long x :: S) := by
  subst hp; exact Wp.lift (fun p e m below c T t A hx hby st => XS.lsub A hx rfl (hb hby hd) rfl st) K
theorem Wp.imul {x z : Int32} (hd : decode bytes pc = .ok (.imul, 1)) (hp : pc + 1 = pc') (K : Wp wd l Z a0 EL R y bytes maxL ret hs ws Q h F k n pc' Ls (.int (x * z) :: S)) : Wp wd l Z a0 EL R y bytes maxL ret hs ws Q h F k n pc Ls (.int z :: .int x :: S) := by
  subst hp; exact Wp.lift (fun p e m below c T t A hx hby st => XS.imul A hx rfl (hb hby hd) rfl st) K
theorem Wp.lmul {x z : Int64} (hd : decode bytes pc = .ok (.lmul, 1)) (hp : pc + 1 = pc') (K : Wp wd l Z a0 EL R y bytes maxL ret hs ws Q h F k n pc' Ls (.long (x * z) :: S)) : Wp wd l Z a0 EL R y bytes maxL ret hs ws Q h F k n pc Ls (.long z :: .long x :: S) := by
  subst hp; exact Wp.lift (fun p e m below c T t A hx hby st => XS.lmul A hx rfl (hb hby hd) rfl st) K
theorem Wp.iand {x z : Int32} (hd : decode bytes pc = .ok (.iand, 1)) (hp : pc + 1 = pc') (K : Wp wd l Z a0 EL R y bytes maxL ret hs ws Q h F k n pc' Ls (.int (x &&& z) :: S)) : Wp wd l Z a0 EL R y bytes maxL ret hs ws Q h F k n pc Ls (.int z :: .int x :: S) := by
  subst hp; exact Wp.lift (fun p e m below c T t A hx hby st => XS.iand A hx rfl (hb hby hd) rfl st) K
theorem Wp.land {x z : Int64} (hd : decode bytes pc = .ok (.land, 1)) (hp : pc + 1 = pc') (K : Wp wd l Z a0 EL R y bytes maxL ret hs ws Q h F k n pc' Ls (.long (x &&& z) :: S)) : Wp wd l Z a0 EL R y bytes maxL ret hs ws Q h F k n pc Ls (.long z :: .long x :: S) := by
  subst hp; exact Wp.lift (fun p e m below c T t A hx hby st => XS.land A hx rfl (hb hby hd) rfl st) K
theorem Wp.ior {x z : Int32} (hd : decode bytes pc = .ok (.ior, 1)) (hp : pc + 1 = pc') (K : Wp wd l Z a0 EL R y bytes maxL ret hs ws Q h F k n pc' Ls (.int (x ||| z) :: S)) : Wp wd l Z a0 EL R y bytes maxL ret hs ws Q h F k n pc Ls (.int z :: .int x :: S) := by
  subst hp; exact Wp.lift (fun p e m below c T t A hx hby st => XS.ior A hx rfl (hb hby hd) rfl st) K
theorem Wp.lor {x z : Int64} (hd : decode bytes pc = .ok (.lor, 1)) (hp : pc + 1 = pc') (K : Wp wd l Z a0 EL R y bytes maxL ret hs ws Q h F k n pc' Ls (.long (x ||| z) :: S)) : Wp wd l Z a0 EL R y bytes maxL ret hs ws Q h F k n pc Ls (.long z :: .long x :: S) := by
  subst hp; exact Wp.lift (fun p e m below c T t A hx hby st => XS.lor A hx rfl (hb hby hd) rfl st) K
theorem Wp.ixor {x z : Int32} (hd : decode bytes pc = .ok (.ixor, 1)) (hp : pc + 1 = pc') (K : Wp wd l Z a0 EL R y bytes maxL ret hs ws Q h F k n pc' Ls (.int (x ^^^ z) :: S)) : Wp wd l Z a0 EL R y bytes maxL ret hs ws Q h F k n pc Ls (.int z :: .int x :: S) := by
  subst hp; exact Wp.lift (fun p e m below c T t A hx hby st => XS.ixor A hx rfl (hb hby hd) rfl st) K
theorem Wp.lxor {x z : Int64} (hd : decode bytes pc = .ok (.lxor, 1)) (hp : pc + 1 = pc') (K : Wp wd l Z a0 EL R y bytes maxL ret hs ws Q h F k n pc' Ls (.long (x ^^^ z) :: S)) : Wp wd l Z a0 EL R y bytes maxL ret hs ws Q h F k n pc Ls (.long z :: .long x :: S) := by
  subst hp; exact Wp.lift (fun p e m below c T t A hx hby st => XS.lxor A hx rfl (hb hby hd) rfl st) K
theorem Wp.ineg {x : Int32} (hd : decode bytes pc = .ok (.ineg, 1)) (hp : pc + 1 = pc') (K : Wp wd l Z a0 EL R y bytes maxL ret hs ws Q h F k n pc' Ls (.int (-x) :: S)) : Wp wd l Z a0 EL R y bytes maxL ret hs ws Q h F k n pc Ls (.int x :: S) := by
  subst hp; exact Wp.lift (fun p e m below c T t A hx hby st => XS.ineg A hx rfl (hb hby hd) rfl st) K
theorem Wp.i2l {x : Int32} (hd : decode bytes pc = .ok (.i2l, 1)) (hp : pc + 1 = pc') (K : Wp wd l Z a0 EL R y bytes maxL ret hs ws Q h F k n pc' Ls (.long (x.toInt64) :: S)) : Wp wd l Z a0 EL R y bytes maxL ret hs ws Q h F k n pc Ls (.int x :: S) := by
  subst hp; exact Wp.lift (fun p e m below c T t A hx hby st => XS.i2l A hx rfl (hb hby hd) rfl st) K
theorem Wp.l2i {x : Int64} (hd : decode bytes pc = .ok (.l2i, 1)) (hp : pc + 1 = pc') (K : Wp wd l Z a0 EL R y bytes maxL ret hs ws Q h F k n pc' Ls (.int (x.toInt32) :: S)) : Wp wd l Z a0 EL R y bytes maxL ret hs ws Q h F k n pc Ls (.long x :: S) := by
  subst hp; exact Wp.lift (fun p e m below c T t A hx hby st => XS.l2i A hx rfl (hb hby hd) rfl st) K
theorem Wp.i2b {x : Int32} (hd : decode bytes pc = .ok (.i2b, 1)) (hp : pc + 1 = pc') (K : Wp wd l Z a0 EL R y bytes maxL ret hs ws Q h F k n pc' Ls (.int (x.toInt8.toInt32) :: S)) : Wp wd l Z a0 EL R y bytes maxL ret hs ws Q h F k n pc Ls (.int x :: S) := by
  subst hp; exact Wp.lift (fun p e m below c T t A hx hby st => XS.i2b A hx rfl (hb hby hd) rfl st) K
theorem Wp.i2s {x : Int32} (hd : decode bytes pc = .ok (.i2s, 1)) (hp : pc + 1 = pc') (K : Wp wd l Z a0 EL R y bytes maxL ret hs ws Q h F k n pc' Ls (.int (x.toInt16.toInt32) :: S)) : Wp wd l Z a0 EL R y bytes maxL ret hs ws Q h F k n pc Ls (.int x :: S) := by
  subst hp; exact Wp.lift (fun p e m below c T t A hx hby st => XS.i2s A hx rfl (hb hby hd) rfl st) K
theorem Wp.i2c {x : Int32} (hd : decode bytes pc = .ok (.i2c, 1)) (hp : pc + 1 = pc') (K : Wp wd l Z a0 EL R y bytes maxL ret hs ws Q h F k n pc' Ls (.int (x.toUInt32.toUInt16.toUInt32.toInt32) :: S)) : Wp wd l Z a0 EL R y bytes maxL ret hs ws Q h F k n pc Ls (.int x :: S) := by
  subst hp; exact Wp.lift (fun p e m below c T t A hx hby st => XS.i2c A hx rfl (hb hby hd) rfl st) K
theorem Wp.ishl {x : Int32} {z : Int32} (hd : decode bytes pc = .ok (.ishl, 1)) (hp : pc + 1 = pc') (K : Wp wd l Z a0 EL R y bytes maxL ret hs ws Q h F k n pc' Ls (.int (x <<< (z &&& 31)) :: S)) : Wp wd l Z a0 EL R y bytes maxL ret hs ws Q h F k n pc Ls (.int z :: .int x :: S) := by
  subst hp; exact Wp.lift (fun p e m below c T t A hx hby st => XS.ishl A hx rfl (hb hby hd) rfl st) K
theorem Wp.ishr {x : Int32} {z : Int32} (hd : decode bytes pc = .ok (.ishr, 1)) (hp : pc + 1 = pc') (K : Wp wd l Z a0 EL R y bytes maxL ret hs ws Q h F k n pc' Ls (.int (x >>> (z &&& 31)) :: S)) : Wp wd l Z a0 EL R y bytes maxL ret hs ws Q h F k n pc Ls (.int z :: .int x :: S) := by
  subst hp; exact Wp.lift (fun p e m below c T t A hx hby st => XS.ishr A hx rfl (hb hby hd) rfl st) K
theorem Wp.iushr {x : Int32} {z : Int32} (hd : decode bytes pc = .ok (.iushr, 1)) (hp : pc + 1 = pc') (K : Wp wd l Z a0 EL R y bytes maxL ret hs ws Q h F k n pc' Ls (.int ((x.toUInt32 >>> (z &&& 31).toUInt32).toInt32) :: S)) : Wp wd l Z a0 EL R y bytes maxL ret hs ws Q h F k n pc Ls (.int z :: .int x :: S) := by
  subst hp; exact Wp.lift (fun p e m below c T t A hx hby st => XS.iushr A hx rfl (hb hby hd) rfl st) K
theorem Wp.lshl {x : Int64} {z : Int32} (hd : decode bytes pc = .ok (.lshl, 1)) (hp : pc + 1 = pc') (K : Wp wd l Z a0 EL R y bytes maxL ret hs ws Q h F k n pc' Ls (.long (x <<< (z &&& 0x3f).toInt64) :: S)) : Wp wd l Z a0 EL R y bytes maxL ret hs ws Q h F k n pc Ls (.int z :: .long x :: S) := by
  subst hp; exact Wp.lift (fun p e m below c T t A hx hby st => XS.lshl A hx rfl (hb hby hd) rfl st) K
theorem Wp.lshr {x : Int64} {z : Int32} (hd : decode bytes pc = .ok (.lshr, 1)) (hp : pc + 1 = pc') (K : Wp wd l Z a0 EL R y bytes maxL ret hs ws Q h F k n pc' Ls (.long (x >>> (z &&& 0x3f).toInt64) :: S)) : Wp wd l Z a0 EL R y bytes maxL ret hs ws Q h F k n pc Ls (.int z :: .long x :: S) := by
  subst hp; exact Wp.lift (fun p e m below c T t A hx hby st => XS.lshr A hx rfl (hb hby hd) rfl st) K
theorem Wp.lushr {x : Int64} {z : Int32} (hd : decode bytes pc = .ok (.lushr, 1)) (hp : pc + 1 = pc') (K : Wp wd l Z a0 EL R y bytes maxL ret hs ws Q h F k n pc' Ls (.long ((x.toUInt64 >>> (z &&& 0x3f).toInt64.toUInt64).toInt64) :: S)) : Wp wd l Z a0 EL R y bytes maxL ret hs ws Q h F k n pc Ls (.int z :: .long x :: S) := by
  subst hp; exact Wp.lift (fun p e m below c T t A hx hby st => XS.lushr A hx rfl (hb hby hd) rfl st) K
theorem Wp.lcmp {x z : Int64} (hd : decode bytes pc = .ok (.lcmp, 1)) (hp : pc + 1 = pc') (K : Wp wd l Z a0 EL R y bytes maxL ret hs ws Q h F k n pc' Ls (.int (lcmpW x z) :: S)) : Wp wd l Z a0 EL R y bytes maxL ret hs ws Q h F k n pc Ls (.long z :: .long x :: S) := by
  subst hp; exact Wp.lift (fun p e m below c T t A hx hby st => XS.lcmp A hx rfl (hb hby hd) rfl st) K
theorem Wp.idiv {x z : Int32} (hd : decode bytes pc = .ok (.idiv, 1)) (hp : pc + 1 = pc') (hz : z ≠ 0) (K : Wp wd l Z a0 EL R y bytes maxL ret hs ws Q h F k n pc' Ls (.int (x / z) :: S)) : Wp wd l Z a0 EL R y bytes maxL ret hs ws Q h F k n pc Ls (.int z :: .int x :: S) := by
  subst hp; exact Wp.lift (fun p e m below c T t A hx hby st => XS.idiv A hx rfl (hb hby hd) rfl hz st) K
theorem Wp.irem {x z : Int32} (hd : decode bytes pc = .ok (.irem, 1)) (hp : pc + 1 = pc') (hz : z ≠ 0) (K : Wp wd l Z a0 EL R y bytes maxL ret hs ws Q h F k n pc' Ls (.int (x % z) :: S)) : Wp wd l Z a0 EL R y bytes maxL ret hs ws Q h F k n pc Ls (.int z :: .int x :: S) := by
  subst hp; exact Wp.lift (fun p e m below c T t A hx hby st => XS.irem A hx rfl (hb hby hd) rfl hz (by rw [irem_eq_mod]; exact st)) K
theorem Wp.ldiv {x z : Int64} (hd : decode bytes pc = .ok (.ldiv, 1)) (hp : pc + 1 = pc') (hz : z ≠ 0) (K : Wp wd l Z a0 EL R y bytes maxL ret hs ws Q h F k n pc' Ls (.long (x / z) :: S)) : Wp wd l Z a0 EL R y bytes maxL ret hs ws Q h F k n pc Ls (.long z :: .long x :: S) := by
  subst hp; exact Wp.lift (fun p e m below c T t A hx hby st => XS.ldiv A hx rfl (hb hby hd) rfl hz st) K
theorem Wp.lrem {x z : Int64} (hd : decode bytes pc = .ok (.lrem, 1)) (hp : pc + 1 = pc') (hz : z ≠ 0) (K : Wp wd l Z a0 EL R y bytes maxL ret hs ws Q h F k n pc' Ls (.long (x - (x / z) * z) :: S)) : Wp wd l Z a0 EL R y bytes maxL ret hs ws Q h F k n pc Ls (.long z :: .long x :: S) := by
  subst hp; exact Wp.lift (fun p e m below c T t A hx hby st => XS.lrem A hx rfl (hb hby hd) rfl hz st) K
theorem Wp.dup {v : Value} (hd : decode bytes pc = .ok (.dup, 1)) (hp : pc + 1 = pc') (hc : v.category = 1) (K : Wp wd l Z a0 EL R y bytes maxL ret hs ws Q h F k n pc' Ls (v :: v :: S)) : Wp wd l Z a0 EL R y bytes maxL ret hs ws Q h F k n pc Ls (v :: S) := by
  subst hp; exact Wp.lift (fun p e m below c T t A hx hby st => XS.dup A hx rfl (hb hby hd) rfl hc st) K
theorem Wp.pop {v : Value} (hd : decode bytes pc = .ok (.pop, 1)) (hp : pc + 1 = pc') (hc : v.category = 1) (K : Wp wd l Z a0 EL R y bytes maxL ret hs ws Q h F k n pc' Ls S) : Wp wd l Z a0 EL R y bytes maxL ret hs ws Q h F k n pc Ls (v :: S) := by
  subst hp; exact Wp.lift (fun p e m below c T t A hx hby st => XS.pop A hx rfl (hb hby hd) rfl hc st) K
theorem Wp.dupX1 {v w : Value} (hd : decode bytes pc = .ok (.dup_x1, 1)) (hp : pc + 1 = pc') (hc : v.category = 1) (hc' : w.category = 1) (K : Wp wd l Z a0 EL R y bytes maxL ret hs ws Q h F k n pc' Ls (v :: w :: v :: S)) : Wp wd l Z a0 EL R y bytes maxL ret hs ws Q h F k n pc Ls (v :: w :: S) := by
  subst hp; exact Wp.lift (fun p e m below c T t A hx hby st => XS.dupX1 A hx rfl (hb hby hd) rfl hc hc' st) K
theorem Wp.dup2 {v w : Value} (hd : decode bytes pc = .ok (.dup2, 1)) (hp : pc + 1 = pc') (hc : v.category = 1) (hc' : w.category = 1) (K : Wp wd l Z a0 EL R y bytes maxL ret hs ws Q h F k n pc' Ls (v :: w :: v :: w :: S)) : Wp wd l Z a0 EL R y bytes maxL ret hs ws Q h F k n pc Ls (v :: w :: S) := by
  subst hp; exact Wp.lift (fun p e m below c T t A hx hby st => XT.dup2 A hx rfl (hb hby hd) rfl hc hc' st) K
theorem Wp.iinc {i : Nat} {q : Int} {x : Int32} {l' : Array Slot} (hd : decode bytes pc = .ok (.iinc i q, 3)) (hp : pc + 3 = pc') (hl : Ls[i]? = some (.val (.int x))) (hs' : storeLocals Ls i (.int (x + Int32.ofInt q)) = some l') (K : Wp wd l Z a0 EL R y bytes maxL ret hs ws Q h F k n pc' l' S) : Wp wd l Z a0 EL R y bytes maxL ret hs ws Q h F k n pc Ls S := by
  subst hp; exact Wp.lift (fun p e m below c T t A hx hby st => XS.iinc A hx rfl (hb hby hd) hl hs' st) K
theorem Wp.goto {q : Int} (hd : decode bytes pc = .ok (.goto q, 3)) (h0 : 0 ≤ (pc : Int) + q) (hp : ((pc : Int) + q).toNat = pc') (K : Wp wd l Z a0 EL R y bytes maxL ret hs ws Q h F k n pc' Ls S) : Wp wd l Z a0 EL R y bytes maxL ret hs ws Q h F k n pc Ls S :=
  Wp.lift (fun p e m below c T t A hx hby st => XS.goto A hx rfl rfl (hb hby hd) h0 hp st) K
theorem Wp.tswOut {dflt low high : Int} {offs : Array Int} {len : Nat} {x : Int32} (hd : decode bytes pc = .ok (.tableswitch dflt low high offs, len)) (hout : x.toInt < low ∨ x.toInt > high) (h0 : 0 ≤ (pc : Int) + dflt) (hp : ((pc : Int) + dflt).toNat = pc') (K : Wp wd l Z a0 EL R y bytes maxL ret hs ws Q h F k n pc' Ls S) : Wp wd l Z a0 EL R y bytes maxL ret hs ws Q h F k n pc Ls (.int x :: S) :=
  Wp.lift (fun p e m below c T t A hx hby st => XS.tswOut A hx rfl rfl (hb hby hd) rfl hout h0 hp st) K
theorem Wp.tswIn {dflt low high q : Int} {offs : Array Int} {len : Nat} {x : Int32} (hd : decode bytes pc = .ok (.tableswitch dflt low high offs, len)) (hin : ¬ (x.toInt < low ∨ x.toInt > high)) (hoff : offs[(x.toInt - low).toNat]? = some q) (h0 : 0 ≤ (pc : Int) + q) (hp : ((pc : Int) + q).toNat = pc') (K : Wp wd l Z a0 EL R y bytes maxL ret hs ws Q h F k n pc' Ls S) : Wp wd l Z a0 EL R y bytes maxL ret hs ws Q h F k n pc Ls (.int x :: S) :=
  Wp.lift (fun p e m below c T t A hx hby st => XS.tswIn A hx rfl rfl (hb hby hd) rfl hin hoff h0 hp st) K
theorem Wp.icmp_lt {x z : Int32} {q : Int} (hd : decode bytes pc = .ok (.if_icmp .lt q, 3)) (h0 : 0 ≤ (pc : Int) + q) (h1 : ((pc : Int) + q).toNat = pc1) (hp : pc + 3 = pc') (K1 : x < z → Wp wd l Z a0 EL R y bytes maxL ret hs ws Q h F k n pc1 Ls S) (K2 : ¬ (x < z) → Wp wd l Z a0 EL R y bytes maxL ret hs ws Q h F k n pc' Ls S) : Wp wd l Z a0 EL R y bytes maxL ret hs ws Q h F k n pc Ls (.int z :: .int x :: S) := by
  subst hp
  exact (Classical.em (x < z)).elim (fun hc => Wp.lift (fun p e m below c T t A hx hby st => XS.icmpYes A hx rfl rfl (hb hby hd) rfl (tlt hc).1 h0 h1 st) (K1 hc)) (fun hc => Wp.lift (fun p e m below c T t A hx hby st => XS.icmpNo A hx rfl (hb hby hd) rfl (flt hc).1 st) (K2 hc))
theorem Wp.if_lt {x : Int32} {q : Int} (hd : decode bytes pc = .ok (.ifCond .lt q, 3)) (h0 : 0 ≤ (pc : Int) + q) (h1 : ((pc : Int) + q).toNat = pc1) (hp : pc + 3 = pc') (K1 : x < (0 : Int32) → Wp wd l Z a0 EL R y bytes maxL ret hs ws Q h F k n pc1 Ls S) (K2 : ¬ (x < (0 : Int32)) → Wp wd l Z a0 EL R y bytes maxL ret hs ws Q h F k n pc' Ls S) : Wp wd l Z a0 EL R y bytes maxL ret hs ws Q h F k n pc Ls (.int x :: S) := by
  subst hp
  exact (Classical.em (x < (0 : Int32))).elim (fun hc => Wp.lift (fun p e m below c T t A hx hby st => XS.ifYes A hx rfl rfl (hb hby hd) rfl ((if0 _ _).trans (tlt hc).1) h0 h1 st) (K1 hc)) (fun hc => Wp.lift (fun p e m below c T t A hx hby st => XS.ifNo A hx rfl (hb hby hd) rfl ((if0 _ _).trans (flt hc).1) st) (K2 hc))
theorem Wp.icmp_ge {x z : Int32} {q : Int} (hd : decode bytes pc = .ok (.if_icmp .ge q, 3)) (h0 : 0 ≤ (pc : Int) + q) (h1 : ((pc : Int) + q).toNat = pc1) (hp : pc + 3 = pc') (K1 : ¬ (x < z) → Wp wd l Z a0 EL R y bytes maxL ret hs ws Q h F k n pc1 Ls S) (K2 : x < z → Wp wd l Z a0 EL R y bytes maxL ret hs ws Q h F k n pc' Ls S) : Wp wd l Z a0 EL R y bytes maxL ret hs ws Q h F k n pc Ls (.int z :: .int x :: S) := by
  subst hp
  exact (Classical.em (x < z)).elim (fun hc => Wp.lift (fun p e m below c T t A hx hby st => XS.icmpNo A hx rfl (hb hby hd) rfl (tlt hc).2.1 st) (K2 hc)) (fun hc => Wp.lift (fun p e m below c T t A hx hby st => XS.icmpYes A hx rfl rfl (hb hby hd) rfl (flt hc).2.1 h0 h1 st) (K1 hc))
theorem Wp.if_ge {x : Int32} {q : Int} (hd : decode bytes pc = .ok (.ifCond .ge q, 3)) (h0 : 0 ≤ (pc : Int) + q) (h1 : ((pc : Int) + q).toNat = pc1) (hp : pc + 3 = pc') (K1 : ¬ (x < (0 : Int32)) → Wp wd l Z a0 EL R y bytes maxL ret hs ws Q h F k n pc1 Ls S) (K2 : x < (0 : Int32) → Wp wd l Z a0 EL R y bytes maxL ret hs ws Q h F k n pc' Ls S) : Wp wd l Z a0 EL R y bytes maxL ret hs ws Q h F k n pc Ls (.int x :: S) := by
  subst hp
  exact (Classical.em (x < (0 : Int32))).elim (fun hc => Wp.lift (fun p e m below c T t A hx hby st => XS.ifNo A hx rfl (hb hby hd) rfl ((if0 _ _).trans (tlt hc).2.1) st) (K2 hc)) (fun hc => Wp.lift (fun p e m below c T t A hx hby st => XS.ifYes A hx rfl rfl (hb hby hd) rfl ((if0 _ _).trans (flt hc).2.1) h0 h1 st) (K1 hc))
theorem Wp.icmp_gt {x z : Int32} {q : Int} (hd : decode bytes pc = .ok (.if_icmp .gt q, 3)) (h0 : 0 ≤ (pc : Int) + q) (h1 : ((pc : Int) + q).toNat = pc1) (hp : pc + 3 = pc') (K1 : z < x → Wp wd l Z a0 EL R y bytes maxL ret hs ws Q h F k n pc1 Ls S) (K2 : ¬ (z < x) → Wp wd l Z a0 EL R y bytes maxL ret hs ws Q h F k n pc' Ls S) : Wp wd l Z a0 EL R y bytes maxL ret hs ws Q h F k n pc Ls (.int z :: .int x :: S) := by
  subst hp
  exact (Classical.em (z < x)).elim (fun hc => Wp.lift (fun p e m below c T t A hx hby st => XS.icmpYes A hx rfl rfl (hb hby hd) rfl (tlt hc).2.2.1 h0 h1 st) (K1 hc)) (fun hc => Wp.lift (fun p e m below c T t A hx hby st => XS.icmpNo A hx rfl (hb hby hd) rfl (flt hc).2.2.1 st) (K2 hc))
theorem Wp.if_gt {x : Int32} {q : Int} (hd : decode bytes pc = .ok (.ifCond .gt q, 3)) (h0 : 0 ≤ (pc : Int) + q) (h1 : ((pc : Int) + q).toNat = pc1) (hp : pc + 3 = pc') (K1 : (0 : Int32) < x → Wp wd l Z a0 EL R y bytes maxL ret hs ws Q h F k n pc1 Ls S) (K2 : ¬ ((0 : Int32) < x) → Wp wd l Z a0 EL R y bytes maxL ret hs ws Q h F k n pc' Ls S) : Wp wd l Z a0 EL R y bytes maxL ret hs ws Q h F k n pc Ls (.int x :: S) := by
  subst hp
  exact (Classical.em ((0 : Int32) < x)).elim (fun hc => Wp.lift (fun p e m below c T t A hx hby st => XS.ifYes A hx rfl rfl (hb hby hd) rfl ((if0 _ _).trans (tlt hc).2.2.1) h0 h1 st) (K1 hc)) (fun hc => Wp.lift (fun p e m below c T t A hx hby st => XS.ifNo A hx rfl (hb hby hd) rfl ((if0 _ _).trans (flt hc).2.2.1) st) (K2 hc))
theorem Wp.icmp_le {x z : Int32} {q : Int} (hd : decode bytes pc = .ok (.if_icmp .le q, 3)) (h0 : 0 ≤ (pc : Int) + q) (h1 : ((pc : Int) + q).toNat = pc1) (hp : pc + 3 = pc') (K1 : ¬ (z < x) → Wp wd l Z a0 EL R y bytes maxL ret hs ws Q h F k n pc1 Ls S) (K2 : z < x → Wp wd l Z a0 EL R y bytes maxL ret hs ws Q h F k n pc' Ls S) : Wp wd l Z a0 EL R y bytes maxL ret hs ws Q h F k n pc Ls (.int z :: .int x :: S) := by
  subst hp
  exact (Classical.em (z < x)).elim (fun hc => Wp.lift (fun p e m below c T t A hx hby st => XS.icmpNo A hx rfl (hb hby hd) rfl (tlt hc).2.2.2 st) (K2 hc)) (fun hc => Wp.lift (fun p e m below c T t A hx hby st => XS.icmpYes A hx rfl rfl (hb hby hd) rfl (flt hc).2.2.2 h0 h1 st) (K1 hc))
theorem Wp.if_le {x : Int32} {q : Int} (hd : decode bytes pc = .ok (.ifCond .le q, 3)) (h0 : 0 ≤ (pc : Int) + q) (h1 : ((pc : Int) + q).toNat = pc1) (hp : pc + 3 = pc') (K1 : ¬ ((0 : Int32) < x) → Wp wd l Z a0 EL R y bytes maxL ret hs ws Q h F k n pc1 Ls S) (K2 : (0 : Int32) < x → Wp wd l Z a0 EL R y bytes maxL ret hs ws Q h F k n pc' Ls S) : Wp wd l Z a0 EL R y bytes maxL ret hs ws Q h F k n pc Ls (.int x :: S) := by
  subst hp
  exact (Classical.em ((0 : Int32) < x)).elim (fun hc => Wp.lift (fun p e m below c T t A hx hby st => XS.ifNo A hx rfl (hb hby hd) rfl ((if0 _ _).trans (tlt hc).2.2.2) st) (K2 hc)) (fun hc => Wp.lift (fun p e m below c T t A hx hby st => XS.ifYes A hx rfl rfl (hb hby hd) rfl ((if0 _ _).trans (flt hc).2.2.2) h0 h1 st) (K1 hc))
theorem Wp.icmp_eq {x z : Int32} {q : Int} (hd : decode bytes pc = .ok (.if_icmp .eq q, 3)) (h0 : 0 ≤ (pc : Int) + q) (h1 : ((pc : Int) + q).toNat = pc1) (hp : pc + 3 = pc') (K1 : x = z → Wp wd l Z a0 EL R y bytes maxL ret hs ws Q h F k n pc1 Ls S) (K2 : ¬ (x = z) → Wp wd l Z a0 EL R y bytes maxL ret hs ws Q h F k n pc' Ls S) : Wp wd l Z a0 EL R y bytes maxL ret hs ws Q h F k n pc Ls (.int z :: .int x :: S) := by
  subst hp
  exact (Classical.em (x = z)).elim (fun hc => Wp.lift (fun p e m below c T t A hx hby st => XS.icmpYes A hx rfl rfl (hb hby hd) rfl (teq hc).1 h0 h1 st) (K1 hc)) (fun hc => Wp.lift (fun p e m below c T t A hx hby st => XS.icmpNo A hx rfl (hb hby hd) rfl (feq hc).1 st) (K2 hc))
theorem Wp.if_eq {x : Int32} {q : Int} (hd : decode bytes pc = .ok (.ifCond .eq q, 3)) (h0 : 0 ≤ (pc : Int) + q) (h1 : ((pc : Int) + q).toNat = pc1) (hp : pc + 3 = pc') (K1 : x = (0 : Int32) → Wp wd l Z a0 EL R y bytes maxL ret hs ws Q h F k n pc1 Ls S) (K2 : ¬ (x = (0 : Int32)) → Wp wd l Z a0 EL R y bytes maxL ret hs ws Q h F k n pc' Ls S) : Wp wd l Z a0 EL R y bytes maxL ret hs ws Q h F k n pc Ls (.int x :: S) := by
  subst hp
  exact (Classical.em (x = (0 : Int32))).elim (fun hc => Wp.lift (fun p e m below c T t A hx hby st => XS.ifYes A hx rfl rfl (hb hby hd) rfl ((if0 _ _).trans (teq hc).1) h0 h1 st) (K1 hc)) (fun hc => Wp.lift (fun p e m below c T t A hx hby st => XS.ifNo A hx rfl (hb hby hd) rfl ((if0 _ _).trans (feq hc).1) st) (K2 hc))
theorem Wp.icmp_ne {x z : Int32} {q : Int} (hd : decode bytes pc = .ok (.if_icmp .ne q, 3)) (h0 : 0 ≤ (pc : Int) + q) (h1 : ((pc : Int) + q).toNat = pc1) (hp : pc + 3 = pc') (K1 : ¬ (x = z) → Wp wd l Z a0 EL R y bytes maxL ret hs ws Q h F k n pc1 Ls S) (K2 : x = z → Wp wd l Z a0 EL R y bytes maxL ret hs ws Q h F k n pc' Ls S) : Wp wd l Z a0 EL R y bytes maxL ret hs ws Q h F k n pc Ls (.int z :: .int x :: S) := by
  subst hp
  exact (Classical.em (x = z)).elim (fun hc => Wp.lift (fun p e m below c T t A hx hby st => XS.icmpNo A hx rfl (hb hby hd) rfl (teq hc).2 st) (K2 hc)) (fun hc => Wp.lift (fun p e m below c T t A hx hby st => XS.icmpYes A hx rfl rfl (hb hby hd) rfl (feq hc).2 h0 h1 st) (K1 hc))
theorem Wp.if_ne {x : Int32} {q : Int} (hd : decode bytes pc = .ok (.ifCond .ne q, 3)) (h0 : 0 ≤ (pc : Int) + q) (h1 : ((pc : Int) + q).toNat = pc1) (hp : pc + 3 = pc') (K1 : ¬ (x = (0 : Int32)) → Wp wd l Z a0 EL R y bytes maxL ret hs ws Q h F k n pc1 Ls S) (K2 : x = (0 : Int32) → Wp wd l Z a0 EL R y bytes maxL ret hs ws Q h F k n pc' Ls S) : Wp wd l Z a0 EL R y bytes maxL ret hs ws Q h F k n pc Ls (.int x :: S) := by
  subst hp
  exact (Classical.em (x = (0 : Int32))).elim (fun hc => Wp.lift (fun p e m below c T t A hx hby st => XS.ifNo A hx rfl (hb hby hd) rfl ((if0 _ _).trans (teq hc).2) st) (K2 hc)) (fun hc => Wp.lift (fun p e m below c T t A hx hby st => XS.ifYes A hx rfl rfl (hb hby hd) rfl ((if0 _ _).trans (feq hc).2) h0 h1 st) (K1 hc))
theorem Wp.ifnullYes {q : Int} (hd : decode bytes pc = .ok (.ifnull q, 3)) (h0 : 0 ≤ (pc : Int) + q) (h1 : ((pc : Int) + q).toNat = pc') (K : Wp wd l Z a0 EL R y bytes maxL ret hs ws Q h F k n pc' Ls S) : Wp wd l Z a0 EL R y bytes maxL ret hs ws Q h F k n pc Ls (.null :: S) :=
  Wp.lift (fun p e m below c T t A hx hby st => XS.ifnullYes A hx rfl rfl (hb hby hd) rfl h0 h1 st) K
theorem Wp.ifnullNo {q : Int} (hd : decode bytes pc = .ok (.ifnull q, 3)) (hp : pc + 3 = pc') (K : Wp wd l Z a0 EL R y bytes maxL ret hs ws Q h F k n pc' Ls S) : Wp wd l Z a0 EL R y bytes maxL ret hs ws Q h F k n pc Ls ((.ref a) :: S) := by
  subst hp; exact Wp.lift (fun p e m below c T t A hx hby st => XS.ifnullNo A hx rfl (hb hby hd) rfl st) K
theorem Wp.ifnonnullYes {q : Int} (hd : decode bytes pc = .ok (.ifnonnull q, 3)) (h0 : 0 ≤ (pc : Int) + q) (h1 : ((pc : Int) + q).toNat = pc') (K : Wp wd l Z a0 EL R y bytes maxL ret hs ws Q h F k n pc' Ls S) : Wp wd l Z a0 EL R y bytes maxL ret hs ws Q h F k n pc Ls ((.ref a) :: S) :=
  Wp.lift (fun p e m below c T t A hx hby st => XS.ifnonnullYes A hx rfl rfl (hb hby hd) rfl h0 h1 st) K
theorem Wp.ifnonnullNo {q : Int} (hd : decode bytes pc = .ok (.ifnonnull q, 3)) (hp : pc + 3 = pc') (K : Wp wd l Z a0 EL R y bytes maxL ret hs ws Q h F k n pc' Ls S) : Wp wd l Z a0 EL R y bytes maxL ret hs ws Q h F k n pc Ls (.null :: S) := by
  subst hp; exact Wp.lift (fun p e m below c T t A hx hby st => XS.ifnonnullNo A hx rfl (hb hby hd) rfl st) K
theorem Wp.acmp_eq {q : Int} (hv : v.isRef = true) (hw : w.isRef = true) (hd : decode bytes pc = .ok (.if_acmp .eq q, 3)) (h0 : 0 ≤ (pc : Int) + q) (h1 : ((pc : Int) + q).toNat = pc1) (hp : pc + 3 = pc') (K1 : v = w → Wp wd l Z a0 EL R y bytes maxL ret hs ws Q h F k n pc1 Ls S) (K2 : ¬ v = w → Wp wd l Z a0 EL R y bytes maxL ret hs ws Q h F k n pc' Ls S) : Wp wd l Z a0 EL R y bytes maxL ret hs ws Q h F k n pc Ls (w :: v :: S) := by
  by_cases hc : v = w
  · exact Wp.tab (fun p e s m args below meth c T locs X hx hZ hown hby hml hsh eT hO => ⟨T, X, eT, fun t st => Jvm.RoadKit.acmp (g := mkF m pc Ls (w :: v :: S)) X hx rfl hv hw (same := true) rfl (hb hby hd) rfl (decide_eq_true hc) h0 (by simp [acV]; omega) st⟩) (K1 hc)
  · exact Wp.tab (fun p e s m args below meth c T locs X hx hZ hown hby hml hsh eT hO => ⟨T, X, eT, fun t st => Jvm.RoadKit.acmp (g := mkF m pc Ls (w :: v :: S)) X hx rfl hv hw (same := false) rfl (hb hby hd) rfl (decide_eq_false hc) h0 (by simp [acV]; omega) st⟩) (K2 hc)
theorem Wp.acmp_ne {q : Int} (hv : v.isRef = true) (hw : w.isRef = true) (hd : decode bytes pc = .ok (.if_acmp .ne q, 3)) (h0 : 0 ≤ (pc : Int) + q) (h1 : ((pc : Int) + q).toNat = pc1) (hp : pc + 3 = pc') (K1 : ¬ v = w → Wp wd l Z a0 EL R y bytes maxL ret hs ws Q h F k n pc1 Ls S) (K2 : v = w → Wp wd l Z a0 EL R y bytes maxL ret hs ws Q h F k n pc' Ls S) : Wp wd l Z a0 EL R y bytes maxL ret hs ws Q h F k n pc Ls (w :: v :: S) := by
  by_cases hc : v = w
  · exact Wp.tab (fun p e s m args below meth c T locs X hx hZ hown hby hml hsh eT hO => ⟨T, X, eT, fun t st => Jvm.RoadKit.acmp (g := mkF m pc Ls (w :: v :: S)) X hx rfl hv hw (same := true) rfl (hb hby hd) rfl (decide_eq_true hc) h0 (by simp [acV]; omega) st⟩) (K2 hc)
  · exact Wp.tab (fun p e s m args below meth c T locs X hx hZ hown hby hml hsh eT hO => ⟨T, X, eT, fun t st => Jvm.RoadKit.acmp (g := mkF m pc Ls (w :: v :: S)) X hx rfl hv hw (same := false) rfl (hb hby hd) rfl (decide_eq_false hc) h0 (by simp [acV]; omega) st⟩) (K1 hc)
theorem Wp.getF {own host : String} {index : Nat} (hown0 : y.cls = own) (lk : (Cond.fieldLink own index C nm d).before a0 Z = true ∨ (Cond.fieldLinkNest own index C nm d host).before a0 Z = true) (via : Via Z C O nm d) (Fl : Fld Z h a O nm d v) (hd : decode bytes pc = .ok (.getfield index, 3)) (hp : pc + 3 = pc') (K : Wp wd l Z a0 EL R y bytes maxL ret hs ws Q h F k n pc' Ls (v :: S)) : Wp wd l Z a0 EL R y bytes maxL ret hs ws Q h F k n pc Ls (.ref a :: S) := by
  subst hp hown0
  exact Wp.tab (fun p e s m args below meth c T locs X hx hZ hown hby hml hsh eT hO => Jvm.RoadKit.getF X hx hZ hown lk via eT Fl (g := mkF m pc Ls (.ref a :: S)) rfl rfl (hb hby hd)) K
theorem Wp.getS {own host : String} {index : Nat} (hown0 : y.cls = own) (lk : (Cond.fieldLink own index C nm d).before a0 Z = true ∨ (Cond.fieldLinkNest own index C nm d host).before a0 Z = true) (via : Via Z C O nm d) (Sv : Sta Z Z.heap O nm d v) (hd : decode bytes pc = .ok (.getstatic index, 3)) (hp : pc + 3 = pc') (K : Wp wd l Z a0 EL R y bytes maxL ret hs ws Q h F k n pc' Ls (v :: S)) : Wp wd l Z a0 EL R y bytes maxL ret hs ws Q h F k n pc Ls S := by
  subst hp hown0
  exact Wp.tab (fun p e s m args below meth c T locs X hx hZ hown hby hml hsh eT hO => Jvm.RoadKit.getS2 X hx hZ hown lk via eT (Sv.ext hO) (g := mkF m pc Ls S) rfl (hb hby hd)) K
theorem Wp.castY {own : String} {index : Nat} (hown0 : y.cls = own) (lk : (Cond.classLink own index C).before a0 Z = true) (I : Ins Z h a C true) (hd : decode bytes pc = .ok (.checkcast index, 3)) (hp : pc + 3 = pc') (K : Wp wd l Z a0 EL R y bytes maxL ret hs ws Q h F k n pc' Ls (.ref a :: S)) : Wp wd l Z a0 EL R y bytes maxL ret hs ws Q h F k n pc Ls (.ref a :: S) := by
  subst hp hown0
  exact Wp.tab (fun p e s m args below meth c T locs X hx hZ hown hby hml hsh eT hO => Jvm.RoadKit.castY X hx hZ hown lk eT I (g := mkF m pc Ls (.ref a :: S)) rfl rfl (hb hby hd)) K
theorem Wp.instY {own : String} {index : Nat} (hown0 : y.cls = own) (lk : (Cond.classLink own index C).before a0 Z = true) (I : Ins Z h a C true) (hd : decode bytes pc = .ok (.instanceof index, 3)) (hp : pc + 3 = pc') (K : Wp wd l Z a0 EL R y bytes maxL ret hs ws Q h F k n pc' Ls (.int 1 :: S)) : Wp wd l Z a0 EL R y bytes maxL ret hs ws Q h F k n pc Ls (.ref a :: S) := by
  subst hp hown0
  exact Wp.tab (fun p e s m args below meth c T locs X hx hZ hown hby hml hsh eT hO => Jvm.RoadKit.instY X hx hZ hown lk eT I (g := mkF m pc Ls (.ref a :: S)) rfl rfl (hb hby hd)) K
theorem Wp.instN {own D : String} {index : Nat} (hown0 : y.cls = own) (lk : (Cond.classLink own index C).before a0 Z = true) (I : Ins Z hs a C false) (E : Exa Z hs a D) (hd : decode bytes pc = .ok (.instanceof index, 3)) (hp : pc + 3 = pc') (K : Wp wd l Z a0 EL R y bytes maxL ret hs ws Q h F k n pc' Ls (.int 0 :: S)) : Wp wd l Z a0 EL R y bytes maxL ret hs ws Q h F k n pc Ls (.ref a :: S) := by
  subst hp hown0
  exact Wp.tab (fun p e s m args below meth c T locs X hx hZ hown hby hml hsh eT hO => Jvm.RoadKit.instN X hx hZ hown lk eT (hsh ▸ I) (hsh ▸ E) (g := mkF m pc Ls (.ref a :: S)) rfl rfl (hb hby hd)) K
theorem Wp.instNo {own D : String} {index : Nat} (hown0 : y.cls = own) (lk : (Cond.classLink own index C).before a0 Z = true) (E : Exa Z h a D) (hno : ∃ c t, Z.vm.findClass D = some c ∧ Z.vm.findClass C = some t ∧ Z.vm.assignable c t = false) (hd : decode bytes pc = .ok (.instanceof index, 3)) (hp : pc + 3 = pc') (K : Wp wd l Z a0 EL R y bytes maxL ret hs ws Q h F k n pc' Ls (.int 0 :: S)) : Wp wd l Z a0 EL R y bytes maxL ret hs ws Q h F k n pc Ls (.ref a :: S) := by
  subst hp hown0
  exact Wp.tab (fun p e s m args below meth c T locs X hx hZ hown hby hml hsh eT hO => Jvm.RoadKit.instNo X hx hZ hown lk eT E hno (g := mkF m pc Ls (.ref a :: S)) rfl rfl (hb hby hd)) K
theorem Wp.instNull {index : Nat} (hd : decode bytes pc = .ok (.instanceof index, 3)) (hp : pc + 3 = pc') (K : Wp wd l Z a0 EL R y bytes maxL ret hs ws Q h F k n pc' Ls (.int 0 :: S)) : Wp wd l Z a0 EL R y bytes maxL ret hs ws Q h F k n pc Ls (.null :: S) := by
  subst hp
  exact Wp.tab (fun p e s m args below meth c T locs X hx hZ hown hby hml hsh eT hO => ⟨T, X, eT, fun t st => X.instanceofNull hx (g := mkF m pc Ls (.null :: S)) rfl rfl (hb hby hd) t st⟩) K
theorem Wp.castNull {index : Nat} (hd : decode bytes pc = .ok (.checkcast index, 3)) (hp : pc + 3 = pc') (K : Wp wd l Z a0 EL R y bytes maxL ret hs ws Q h F k n pc' Ls (.null :: S)) : Wp wd l Z a0 EL R y bytes maxL ret hs ws Q h F k n pc Ls (.null :: S) := by
  subst hp
  exact Wp.tab (fun p e s m args below meth c T locs X hx hZ hown hby hml hsh eT hO => ⟨T, X, eT, fun t st => X.checkcastNull hx (g := mkF m pc Ls (.null :: S)) rfl rfl (hb hby hd) t st⟩) K
theorem Wp.initO {own : String} {idx : Nat} {W : Nat} (hown0 : y.cls = own) (w1 : (Cond.methodLink own idx Lib.objectInit).before a0 Z = true) (w2 : (Cond.instanceMethod Lib.objectInit).before a0 Z = true) (w3 : (Cond.code Lib.objectInit ⟨#[0xb1]⟩ 1 none).before a0 Z = true) (hd : decode bytes pc = .ok (.invokespecial idx, 3)) (hp : pc + 3 = pc') (hsz : Ls.size = maxL)
    (hf : 1 ≤ R.frames) (hW : (S.map fun v => v.category).sum ≤ W) (hl : W + 12 ≤ R.locals) (K : Wp wd l Z a0 EL R y bytes maxL ret hs ws Q h F k n pc' Ls S) : Wp wd l Z a0 EL R y bytes maxL ret hs ws Q h F k n pc Ls (.ref a :: S) := by
  subst hp hown0
  exact Wp.tab (fun p e s m args below meth c T locs X hx hZ hown hby hml hsh eT hO => Jvm.RoadKit.initO X hx hZ hown w1 w2 w3 eT (g := mkF m pc Ls (.ref a :: S)) rfl (by rw [hml]; exact hsz) rfl (hb hby hd) hf (W := W) (by show 2 * 0 + _ ≤ _; omega) hl) K
theorem Wp.ldcI {own : String} {index : Nat} {x : Int32} (hown0 : y.cls = own) (wc : (Cond.constant own index x).before a0 Z = true) (hd : decode bytes pc = .ok (.ldc index, 2)) (hp : pc + 2 = pc') (K : Wp wd l Z a0 EL R y bytes maxL ret hs ws Q h F k n pc' Ls (.int x :: S)) : Wp wd l Z a0 EL R y bytes maxL ret hs ws Q h F k n pc Ls S := by
  subst hp hown0
  exact Wp.tab (fun p e s m args below meth c T locs X hx hZ hown hby hml hsh eT hO => ⟨T, X, eT, fun t st => X.ldcInt hx hown (mvT hZ wc) (g := mkF m pc Ls S) rfl (hb hby hd) t st⟩) K
theorem Wp.ldcL {own : String} {index : Nat} {x : Int64} (hown0 : y.cls = own) (wc : (Cond.constantLong own index x).before a0 Z = true) (hd : decode bytes pc = .ok (.ldc2_w index, 3)) (hp : pc + 3 = pc') (K : Wp wd l Z a0 EL R y bytes maxL ret hs ws Q h F k n pc' Ls (.long x :: S)) : Wp wd l Z a0 EL R y bytes maxL ret hs ws Q h F k n pc Ls S := by
  subst hp hown0
  exact Wp.tab (fun p e s m args below meth c T locs X hx hZ hown hby hml hsh eT hO => ⟨T, X, eT, fun t st => X.ldc2Long hx hown (mvT hZ wc) (g := mkF m pc Ls S) rfl (hb hby hd) t st⟩) K
theorem Wp.alen {kA : ClassId} {z : Int32} {vs : List Value} {dv : Value} (V : Arv Z h a kA ty z vs dv) (hd : decode bytes pc = .ok (.arraylength, 1)) (hp : pc + 1 = pc') (K : Wp wd l Z a0 EL R y bytes maxL ret hs ws Q h F k n pc' Ls (.int z :: S)) : Wp wd l Z a0 EL R y bytes maxL ret hs ws Q h F k n pc Ls (.ref a :: S) := by
  subst hp
  obtain ⟨cl, A, -, hz1, hz2, -⟩ := V
  have e1 := len_of hz1 hz2
  exact Wp.tab (fun p e s m args below meth c T locs X hx hZ hown hby hml hsh eT hO => ⟨T, X, eT, fun t st => X.arraylength hx (by rw [eT]; exact A.1) (State.isArrayOf_alike hZ.alike A.2.1) (g := mkF m pc Ls (.ref a :: S)) rfl rfl (hb hby hd) t (by rw [e1]; exact st)⟩) K
theorem Wp.caload {kA : ClassId} {z j : Int32} {vs : List Value} {dv : Value} (V : Arv Z h a kA .char z vs dv) (h1 : ¬ j < 0) (h2 : j < z) (hv : vs.getD j.toNatClampNeg dv = v) (hd : decode bytes pc = .ok (.caload, 1)) (hp : pc + 1 = pc') (K : Wp wd l Z a0 EL R y bytes maxL ret hs ws Q h F k n pc' Ls (v :: S)) : Wp wd l Z a0 EL R y bytes maxL ret hs ws Q h F k n pc Ls (.int j :: .ref a :: S) := by
  subst hp
  obtain ⟨cl, A, -, hz1, hz2, H, -⟩ := V
  have hin := inb_of hz1 ⟨h1, h2⟩
  have hat := H.at hin hv
  exact Wp.tab (fun p e s m args below meth c T locs X hx hZ hown hby hml hsh eT hO => ⟨T, X, eT, fun t st => X.caload hx (by rw [eT]; exact A.1) (State.isArrayOf_alike hZ.alike A.2.1) A.2.2 hin hat (g := mkF m pc Ls (.int j :: .ref a :: S)) rfl rfl (hb hby hd) t st⟩) K
theorem Wp.iaload {kA : ClassId} {z j : Int32} {vs : List Value} {dv : Value} (V : Arv Z h a kA .int z vs dv) (h1 : ¬ j < 0) (h2 : j < z) (hv : vs.getD j.toNatClampNeg dv = v) (hd : decode bytes pc = .ok (.iaload, 1)) (hp : pc + 1 = pc') (K : Wp wd l Z a0 EL R y bytes maxL ret hs ws Q h F k n pc' Ls (v :: S)) : Wp wd l Z a0 EL R y bytes maxL ret hs ws Q h F k n pc Ls (.int j :: .ref a :: S) := by
  subst hp
  obtain ⟨cl, A, -, hz1, hz2, H, -⟩ := V
  have hin := inb_of hz1 ⟨h1, h2⟩
  have hat := H.at hin hv
  exact Wp.tab (fun p e s m args below meth c T locs X hx hZ hown hby hml hsh eT hO => ⟨T, X, eT, fun t st => X.iaload hx (by rw [eT]; exact A.1) (State.isArrayOf_alike hZ.alike A.2.1) A.2.2 hin hat (g := mkF m pc Ls (.int j :: .ref a :: S)) rfl rfl (hb hby hd) t st⟩) K
theorem Wp.laload {kA : ClassId} {z j : Int32} {vs : List Value} {dv : Value} (V : Arv Z h a kA .long z vs dv) (h1 : ¬ j < 0) (h2 : j < z) (hv : vs.getD j.toNatClampNeg dv = v) (hd : decode bytes pc = .ok (.laload, 1)) (hp : pc + 1 = pc') (K : Wp wd l Z a0 EL R y bytes maxL ret hs ws Q h F k n pc' Ls (v :: S)) : Wp wd l Z a0 EL R y bytes maxL ret hs ws Q h F k n pc Ls (.int j :: .ref a :: S) := by
  subst hp
  obtain ⟨cl, A, -, hz1, hz2, H, -⟩ := V
  have hin := inb_of hz1 ⟨h1, h2⟩
  have hat := H.at hin hv
  exact Wp.tab (fun p e s m args below meth c T locs X hx hZ hown hby hml hsh eT hO => ⟨T, X, eT, fun t st => X.laload hx (by rw [eT]; exact A.1) (State.isArrayOf_alike hZ.alike A.2.1) A.2.2 hin hat (g := mkF m pc Ls (.int j :: .ref a :: S)) rfl rfl (hb hby hd) t st⟩) K
theorem Wp.baload {kA : ClassId} {z j : Int32} {vs : List Value} {dv : Value} (V : Arv Z h a kA .byte z vs dv) (h1 : ¬ j < 0) (h2 : j < z) (hv : vs.getD j.toNatClampNeg dv = v) (hd : decode bytes pc = .ok (.baload, 1)) (hp : pc + 1 = pc') (K : Wp wd l Z a0 EL R y bytes maxL ret hs ws Q h F k n pc' Ls (v :: S)) : Wp wd l Z a0 EL R y bytes maxL ret hs ws Q h F k n pc Ls (.int j :: .ref a :: S) := by
  subst hp
  obtain ⟨cl, A, -, hz1, hz2, H, -⟩ := V
  have hin := inb_of hz1 ⟨h1, h2⟩
  have hat := H.at hin hv
  exact Wp.tab (fun p e s m args below meth c T locs X hx hZ hown hby hml hsh eT hO => ⟨T, X, eT, fun t st => X.baloadBytes hx (by rw [eT]; exact A.1) (State.isArrayOf_alike hZ.alike A.2.1) A.2.2 hin hat (g := mkF m pc Ls (.int j :: .ref a :: S)) rfl rfl (hb hby hd) t st⟩) K
theorem Wp.aaload {kA : ClassId} {z j : Int32} {vs : List Value} {dv : Value} (V : Arv Z h a kA ty z vs dv) (hty : ty.isReference = true) (h1 : ¬ j < 0) (h2 : j < z) (hv : vs.getD j.toNatClampNeg dv = v) (hd : decode bytes pc = .ok (.aaload, 1)) (hp : pc + 1 = pc') (K : Wp wd l Z a0 EL R y bytes maxL ret hs ws Q h F k n pc' Ls (v :: S)) : Wp wd l Z a0 EL R y bytes maxL ret hs ws Q h F k n pc Ls (.int j :: .ref a :: S) := by
  subst hp
  obtain ⟨cl, A, -, hz1, hz2, H, -⟩ := V
  have hin := inb_of hz1 ⟨h1, h2⟩
  have hat := H.at hin hv
  exact Wp.tab (fun p e s m args below meth c T locs X hx hZ hown hby hml hsh eT hO => ⟨T, X, eT, fun t st => X.aaload hx (by rw [eT]; exact A.1) (State.isArrayOf_alike hZ.alike A.2.1) hty A.2.2 hin hat (g := mkF m pc Ls (.int j :: .ref a :: S)) rfl rfl (hb hby hd) t st⟩) K
theorem Wp.putF {own host : String} {index kk : Nat} {C0 : String} {old : Value} (hown0 : y.cls = own) (lk : (Cond.fieldLink own index C0 nm d).before a0 Z = true ∨ (Cond.fieldLinkNest own index C0 nm d host).before a0 Z = true) (via : Via Z C0 O nm d) (Fl : Fld Z h a O nm d old) (E : Exa Z h a C)
    (L : (Cond.lays C O nm d).before a0 Z = true ∨ ((Cond.laysFinal C O nm d).before a0 Z = true ∧ own = O ∧ y.name = "<init>")) (wi : (Cond.instantiable C kk).before a0 Z = true) (hty : parseFieldDescriptor d = some ty) (hn : narrow ty v = v) (hf : fits ty v = true) (hd : decode bytes pc = .ok (.putfield index, 3)) (hp : pc + 3 = pc')
    (hw : a ∈ ws ∨ hs.size ≤ a) (sf : Sfe Z EL h F a) (K : ∀ h', Wr h h' a (Jvm.RoadKit.slotOf Z O nm d) v → Fld Z h' a O nm d v → Wp wd l Z a0 EL R y bytes maxL ret hs ws Q h' F k n pc' Ls S) : Wp wd l Z a0 EL R y bytes maxL ret hs ws Q h F k n pc Ls (v :: .ref a :: S) := by
  subst hp hown0
  exact Wp.put hw sf (fun p e s m args below meth c T locs X hx hZ hown hby hnm eT => Jvm.RoadKit.putF X hx hZ hown lk via eT Fl E (L.imp id fun q => ⟨q.1, q.2.1, hnm.trans q.2.2⟩) wi hty hn hf (g := mkF m pc Ls (v :: .ref a :: S)) rfl rfl (hb hby hd)) (fun h' W => K h' W (Fl.same W))
theorem Wp.putFN {own : String} {index kk : Nat} {C0 : String} {old v' : Value} (hown0 : y.cls = own) (lk : (Cond.fieldLink own index C0 nm d).before a0 Z = true) (via : Via Z C0 O nm d) (Fl : Fld Z h a O nm d old) (E : Exa Z h a C)
    (L : (Cond.lays C O nm d).before a0 Z = true ∨ ((Cond.laysFinal C O nm d).before a0 Z = true ∧ own = O ∧ y.name = "<init>")) (wi : (Cond.instantiable C kk).before a0 Z = true) (hty : parseFieldDescriptor d = some ty) (hn : narrow ty v = v') (hf : fits ty v' = true) (hd : decode bytes pc = .ok (.putfield index, 3)) (hp : pc + 3 = pc')
    (hw : a ∈ ws ∨ hs.size ≤ a) (sf : Sfe Z EL h F a) (K : ∀ h', Wr h h' a (Jvm.RoadKit.slotOf Z O nm d) v' → Fld Z h' a O nm d v' → Wp wd l Z a0 EL R y bytes maxL ret hs ws Q h' F k n pc' Ls S) : Wp wd l Z a0 EL R y bytes maxL ret hs ws Q h F k n pc Ls (v :: .ref a :: S) := by
  subst hp hown0
  exact Wp.put hw sf (fun p e s m args below meth c T locs X hx hZ hown hby hnm eT => Jvm.RoadKit.putFN X hx hZ hown lk via eT Fl E (L.imp id fun q => ⟨q.1, q.2.1, hnm.trans q.2.2⟩) wi hty hn hf (g := mkF m pc Ls (v :: .ref a :: S)) rfl rfl (hb hby hd)) (fun h' W => K h' W (Fl.same W))
theorem Wp.castore {kA : ClassId} {z j x : Int32} {vs : List Value} {dv : Value} {i : Nat} (V : Arv Z h a kA .char z vs dv) (h1 : ¬ j < 0) (h2 : j < z) (hj : j.toNatClampNeg = i) (hi : i < vs.length) (hd : decode bytes pc = .ok (.castore, 1)) (hp : pc + 1 = pc')
    (hw : a ∈ ws ∨ hs.size ≤ a) (K : ∀ h', Wr h h' a j.toNatClampNeg (.int (nar .char x)) → Arv Z h' a kA .char z (vs.set i (.int (nar .char x))) dv → Wp wd l Z a0 EL R y bytes maxL ret hs ws Q h' F k n pc' Ls S) : Wp wd l Z a0 EL R y bytes maxL ret hs ws Q h F k n pc Ls (.int x :: .int j :: .ref a :: S) := by
  subst hp
  obtain ⟨cl, A, hz0, hz1, hz2, H, G⟩ := V
  have hin := inb_of hz1 ⟨h1, h2⟩
  exact Wp.put hw (Sfe.arr A (by decide)) (fun p e s m args below meth c T locs X hx hZ hown hby hnm eT => Jvm.RoadKit.stC X hx hZ eT A hin (g := mkF m pc Ls (.int x :: .int j :: .ref a :: S)) rfl rfl (hb hby hd)) (fun h' W => K h' W (Arv.set A hz0 hz1 hz2 H G (fits_nar_char _) W i hj hi))
theorem Wp.bastore {kA : ClassId} {z j x : Int32} {vs : List Value} {dv : Value} {i : Nat} (V : Arv Z h a kA .byte z vs dv) (h1 : ¬ j < 0) (h2 : j < z) (hj : j.toNatClampNeg = i) (hi : i < vs.length) (hd : decode bytes pc = .ok (.bastore, 1)) (hp : pc + 1 = pc')
    (hw : a ∈ ws ∨ hs.size ≤ a) (sf : Sfe Z EL h F a) (K : ∀ h', Wr h h' a j.toNatClampNeg (.int (nar .byte x)) → Arv Z h' a kA .byte z (vs.set i (.int (nar .byte x))) dv → Wp wd l Z a0 EL R y bytes maxL ret hs ws Q h' F k n pc' Ls S) : Wp wd l Z a0 EL R y bytes maxL ret hs ws Q h F k n pc Ls (.int x :: .int j :: .ref a :: S) := by
  subst hp
  obtain ⟨cl, A, hz0, hz1, hz2, H, G⟩ := V
  have hin := inb_of hz1 ⟨h1, h2⟩
  exact Wp.put hw sf (fun p e s m args below meth c T locs X hx hZ hown hby hnm eT => Jvm.RoadKit.stB X hx hZ eT A hin (g := mkF m pc Ls (.int x :: .int j :: .ref a :: S)) rfl rfl (hb hby hd)) (fun h' W => K h' W (Arv.set A hz0 hz1 hz2 H G (fits_nar_byte _) W i hj hi))
theorem Wp.iastore {kA : ClassId} {z j x : Int32} {vs : List Value} {dv : Value} {i : Nat} (V : Arv Z h a kA .int z vs dv) (h1 : ¬ j < 0) (h2 : j < z) (hj : j.toNatClampNeg = i) (hi : i < vs.length) (hd : decode bytes pc = .ok (.iastore, 1)) (hp : pc + 1 = pc')
    (hw : a ∈ ws ∨ hs.size ≤ a) (K : ∀ h', Wr h h' a j.toNatClampNeg (.int x) → Arv Z h' a kA .int z (vs.set i (.int x)) dv → Wp wd l Z a0 EL R y bytes maxL ret hs ws Q h' F k n pc' Ls S) : Wp wd l Z a0 EL R y bytes maxL ret hs ws Q h F k n pc Ls (.int x :: .int j :: .ref a :: S) := by
  subst hp
  obtain ⟨cl, A, hz0, hz1, hz2, H, G⟩ := V
  have hin := inb_of hz1 ⟨h1, h2⟩
  exact Wp.put hw (Sfe.arr A (by decide)) (fun p e s m args below meth c T locs X hx hZ hown hby hnm eT => Jvm.RoadKit.stI X hx hZ eT A hin (g := mkF m pc Ls (.int x :: .int j :: .ref a :: S)) rfl rfl (hb hby hd)) (fun h' W => K h' W (Arv.set A hz0 hz1 hz2 H G rfl W i hj hi))
theorem Wp.lastore {kA : ClassId} {z j : Int32} {x : Int64} {vs : List Value} {dv : Value} {i : Nat} (V : Arv Z h a kA .long z vs dv) (h1 : ¬ j < 0) (h2 : j < z) (hj : j.toNatClampNeg = i) (hi : i < vs.length) (hd : decode bytes pc = .ok (.lastore, 1)) (hp : pc + 1 = pc')
    (hw : a ∈ ws ∨ hs.size ≤ a) (K : ∀ h', Wr h h' a j.toNatClampNeg (.long x) → Arv Z h' a kA .long z (vs.set i (.long x)) dv → Wp wd l Z a0 EL R y bytes maxL ret hs ws Q h' F k n pc' Ls S) : Wp wd l Z a0 EL R y bytes maxL ret hs ws Q h F k n pc Ls (.long x :: .int j :: .ref a :: S) := by
  subst hp
  obtain ⟨cl, A, hz0, hz1, hz2, H, G⟩ := V
  have hin := inb_of hz1 ⟨h1, h2⟩
  exact Wp.put hw (Sfe.arr A (by decide)) (fun p e s m args below meth c T locs X hx hZ hown hby hnm eT => Jvm.RoadKit.stJ X hx hZ eT A hin (g := mkF m pc Ls (.long x :: .int j :: .ref a :: S)) rfl rfl (hb hby hd)) (fun h' W => K h' W (Arv.set A hz0 hz1 hz2 H G rfl W i hj hi))
theorem Wp.aastore {kA : ClassId} {z j : Int32} {vs : List Value} {dv : Value} {i : Nat} (V : Arv Z h a kA ty z vs dv) (hty : ty.isReference = true) (hby0 : ty ≠ .byte) (hfit : fits ty v = true) (St : v = .null ∨ ∃ D y', v = .ref y' ∧ Ovr Z kA D ∧ Ins Z h y' D true) (h1 : ¬ j < 0) (h2 : j < z) (hj : j.toNatClampNeg = i) (hi : i < vs.length) (hd : decode bytes pc = .ok (.aastore, 1)) (hp : pc + 1 = pc')
    (hw : a ∈ ws ∨ hs.size ≤ a) (K : ∀ h', Wr h h' a j.toNatClampNeg v → Arv Z h' a kA ty z (vs.set i v) dv → Wp wd l Z a0 EL R y bytes maxL ret hs ws Q h' F k n pc' Ls S) : Wp wd l Z a0 EL R y bytes maxL ret hs ws Q h F k n pc Ls (v :: .int j :: .ref a :: S) := by
  subst hp
  obtain ⟨cl, A, hz0, hz1, hz2, H, G⟩ := V
  have hin := inb_of hz1 ⟨h1, h2⟩
  have hSt : Sto Z h a v := by
    rcases St with rfl | ⟨D, y', rfl, Ov, I⟩
    · exact Or.inl rfl
    · exact Sto.ofV A hz0 Ov I
  exact Wp.put hw (Sfe.arr A hby0) (fun p e s m args below meth c T locs X hx hZ hown hby hnm eT => Jvm.RoadKit.stR X hx hZ eT A hin hty hSt (g := mkF m pc Ls (v :: .int j :: .ref a :: S)) rfl rfl (hb hby hd)) (fun h' W => K h' W (Arv.set A hz0 hz1 hz2 H G hfit W i hj hi))
theorem Wp.new {own : String} {index : Nat} (hown0 : y.cls = own) (lk : (Cond.classLink own index C).before a0 Z = true) (wi : (Cond.instantiable C sl).before a0 Z = true) (wz : (Cond.initialized C).before a0 Z = true) (hd : decode bytes pc = .ok (.new index, 3)) (hp : pc + 3 = pc') (hk : k + 1 = k') (hn : n + sl = n') (hk' : k' ≤ R.cells) (hn' : n' ≤ R.slots)
    (K : ∀ h' b, b = h.size → hs.size ≤ b → Ext h h' → Exa Z h' b C → (∀ {O nm d : String} {ty : FieldType}, Laid Z a0 C O nm d → parseFieldDescriptor d = some ty → Fld Z h' b O nm d (defaultValue ty)) → Wp wd l Z a0 EL R y bytes maxL ret hs ws Q h' (b :: F) k' n' pc' Ls (.ref b :: S)) : Wp wd l Z a0 EL R y bytes maxL ret hs ws Q h F k n pc Ls S := by
  subst hp hown0 hk hn
  exact Wp.mk (fun h' => Exa Z h' h.size C ∧ ∀ {O nm d : String} {ty : FieldType}, Laid Z a0 C O nm d → parseFieldDescriptor d = some ty → Fld Z h' h.size O nm d (defaultValue ty)) (fun h' q => q.1.lt)
    (fun p e s m args below meth c T locs X hx hZ hown hby eT => by obtain ⟨T', h', X', e', E, A, D, -, st⟩ := Jvm.RoadKit.newO X hx hZ hown lk wi wz eT (g := mkF m pc Ls S) rfl (hb hby hd) hk' hn'; exact ⟨T', h', X', e', E, ⟨A, D⟩, st⟩) (fun h' z E q => K h' _ rfl z E q.1 q.2)
theorem Wp.newP {aty : ArrayType} {z : Int32} {cap : Nat} (wa : (Cond.arrayClass (newarray.typeOf aty)).before a0 Z = true) (hz : ¬ z < 0) (hcap : z.toNatClampNeg ≤ cap) (hb8 : cap * 8 ≤ 536870912) (hd : decode bytes pc = .ok (.newarray aty, 2)) (hp : pc + 2 = pc') (hk : k + 1 = k') (hn : n + cap = n') (hk' : k' ≤ R.cells) (hn' : n' ≤ R.slots)
    (K : ∀ h' b kA, b = h.size → hs.size ≤ b → Ext h h' → Arv Z h' b kA (newarray.typeOf aty) z [] (defaultValue (newarray.typeOf aty)) → Wp wd l Z a0 EL R y bytes maxL ret hs ws Q h' (b :: F) k' n' pc' Ls (.ref b :: S)) : Wp wd l Z a0 EL R y bytes maxL ret hs ws Q h F k n pc Ls (.int z :: S) := by
  subst hp hk hn
  exact Wp.mk (fun h' => ∃ kA, Arv Z h' h.size kA (newarray.typeOf aty) z [] (defaultValue (newarray.typeOf aty))) (fun h' q => q.elim fun _ A => A.lt)
    (fun p e s m args below meth c T locs X hx hZ hown hby eT => by obtain ⟨T', h', kA, X', e', E, A, st⟩ := Jvm.RoadKit.newP X hx hZ wa eT (g := mkF m pc Ls (.int z :: S)) rfl (hb hby hd) rfl hz hcap hb8 hk' hn'; exact ⟨T', h', X', e', E, ⟨kA, Arv.new A hz⟩, st⟩) (fun h' z E q => q.elim fun kA A => K h' _ kA rfl z E A)
theorem Wp.newR {own : String} {index : Nat} {z : Int32} {cap : Nat} (hown0 : y.cls = own) (lk : (Cond.classLink own index C).before a0 Z = true) (wa : (Cond.arrayOver (.object C)).before a0 Z = true) (hz : ¬ z < 0) (hcap : z.toNatClampNeg ≤ cap) (hb8 : cap * 8 ≤ 536870912) (hd : decode bytes pc = .ok (.anewarray index, 3)) (hp : pc + 3 = pc') (hk : k + 1 = k') (hn : n + cap = n') (hk' : k' ≤ R.cells) (hn' : n' ≤ R.slots)
    (K : ∀ h' b kA, b = h.size → hs.size ≤ b → Ext h h' → Arv Z h' b kA (.object C) z [] .null → Ovr Z kA C → Wp wd l Z a0 EL R y bytes maxL ret hs ws Q h' (b :: F) k' n' pc' Ls (.ref b :: S)) : Wp wd l Z a0 EL R y bytes maxL ret hs ws Q h F k n pc Ls (.int z :: S) := by
  subst hp hk hn hown0
  exact Wp.mk (fun h' => ∃ kA, Arv Z h' h.size kA (.object C) z [] .null ∧ Ovr Z kA C) (fun h' q => q.elim fun _ A => A.1.lt)
    (fun p e s m args below meth c T locs X hx hZ hown hby eT => by obtain ⟨T', h', kA, X', e', E, A, Ov, st⟩ := Jvm.RoadKit.newR X hx hZ hown lk wa eT (g := mkF m pc Ls (.int z :: S)) rfl (hb hby hd) rfl hz hcap hb8 hk' hn'; exact ⟨T', h', X', e', E, ⟨kA, Arv.new A hz, Ov⟩, st⟩) (fun h' z E q => q.elim fun kA A => K h' _ kA rfl z E A.1 A.2)
theorem Wp.retn (hr : ret = none) (hd : decode bytes pc = .ok (.return_, 1)) (hk : k ≤ R.cells) (hn : n ≤ R.slots) (hQ : Q none h) : Wp wd l Z a0 EL R y bytes maxL ret hs ws Q h F k n pc Ls [] :=
  Wp.leave hk hn (fun _ => rfl) hQ (fun p e s m args below meth c T locs fs X hx hby hret hl => X.returnOut hx (hret.trans hr) (hb hby hd) hl)
theorem Wp.retN {t : FieldType} {x x' : Int32} (hr : ret = some t) (ht : t = .boolean ∨ t = .byte ∨ t = .char ∨ t = .short) (hx' : nar t x = x') (hd : decode bytes pc = .ok (.ireturn, 1)) (hk : k ≤ R.cells) (hn : n ≤ R.slots) (hQ : Q (some (.int x')) h) : Wp wd l Z a0 EL R y bytes maxL ret hs ws Q h F k n pc Ls (.int x :: S) := by
  subst hx'
  exact Wp.leave hk hn (fun q => by rw [hr] at q; cases q) hQ (fun p e s m args below meth c T locs fs X hx hby hret hl => Jvm.RoadKit.retN X hx (hret.trans hr) ht (hb hby hd) hl)
theorem Wp.retV {i : Instr} {t : FieldType} (hr : ret = some t) (hn' : narrow t v = v) (hi : (i = .ireturn ∧ (t = .int ∨ t = .boolean ∨ t = .byte ∨ t = .char ∨ t = .short) ∧ ∃ z, v = .int z) ∨ (i = .lreturn ∧ t = .long ∧ ∃ z, v = .long z) ∨ (i = .dreturn ∧ t = .double ∧ ∃ z, v = .double z) ∨ (i = .freturn ∧ t = .float ∧ ∃ z, v = .float z) ∨ (i = .areturn ∧ t.isReference = true ∧ v.isRef = true))
    (hd : decode bytes pc = .ok (i, 1)) (hk : k ≤ R.cells) (hn : n ≤ R.slots) (hQ : Q (some v) h) : Wp wd l Z a0 EL R y bytes maxL ret hs ws Q h F k n pc Ls (v :: S) :=
  Wp.leave hk hn (fun q => by rw [hr] at q; cases q) hQ (fun p e s m args below meth c T locs fs X hx hby hret hl => Jvm.RoadKit.retOut X hx (hret.trans hr) hn' hi (hb hby hd) hl)
theorem Wp.retI {x : Int32} (hr : ret = some .int) (hd : decode bytes pc = .ok (.ireturn, 1)) (hk : k ≤ R.cells) (hn : n ≤ R.slots) (hQ : Q (some (.int x)) h) : Wp wd l Z a0 EL R y bytes maxL ret hs ws Q h F k n pc Ls (.int x :: S) :=
  Wp.retV hr rfl (Or.inl ⟨rfl, Or.inl rfl, _, rfl⟩) hd hk hn hQ
theorem Wp.retL {x : Int64} (hr : ret = some .long) (hd : decode bytes pc = .ok (.lreturn, 1)) (hk : k ≤ R.cells) (hn : n ≤ R.slots) (hQ : Q (some (.long x)) h) : Wp wd l Z a0 EL R y bytes maxL ret hs ws Q h F k n pc Ls (.long x :: S) :=
  Wp.retV hr rfl (Or.inr (Or.inl ⟨rfl, rfl, _, rfl⟩)) hd hk hn hQ
theorem Wp.retA {t : FieldType} (hr : ret = some t) (ht : t.isReference = true) (hv : v.isRef = true) (hd : decode bytes pc = .ok (.areturn, 1)) (hk : k ≤ R.cells) (hn : n ≤ R.slots) (hQ : Q (some v) h) : Wp wd l Z a0 EL R y bytes maxL ret hs ws Q h F k n pc Ls (v :: S) :=
  Wp.retV hr (by cases t <;> first | rfl | cases ht) (Or.inr (Or.inr (Or.inr (Or.inr ⟨rfl, ht, hv⟩)))) hd hk hn hQ
end Rules
end Jvm.Own
namespace Jvm.Own
open Sem ClassFile Op Lib Jvm.Stand Jvm.Free Jvm.LawKit Jvm.RoadKit
section Calls
variable {wd : Bool} {l : Launch} {Z : State} {EL : List (String × Nat)} {R : Room} {y : MethodName} {bytes : ByteArray} {maxL : Nat} {ret : Option FieldType} {hs : Heap} {ws : List Addr} {Q : Option Value → Heap → Prop} {h h' : Heap} {F F' : List Addr} {k n k' n' pc pc' pc1 : Nat} {Ls Ls' : Array Slot} {S S' : List Value}
variable {a0 : Array Value} {a b : Addr} {C O nm d : String} {v w : Value} {sl : Nat} {cl : Cell} {ty : FieldType}
variable {y' : MethodName} {bytes' : ByteArray} {maxL' : Nat} {ret' : Option FieldType} {rm : Room} {as : Array Value} {Fc wc : List Addr} {Qc : Option Value → Heap → Prop}
theorem mvMN {s : State} {args : Array Value} {own host : String} {idx : Nat} (hZ : Z.Warmed39 s.vm) (w : (Cond.methodLinkNest own idx y' host).before a0 Z = true) : (Cond.methodLinkNest own idx y' host).before args s = true := (Cond.methodLinkNest_wide hZ w :)
/-- a body's contract, from its walk -/
theorem Ct.of_wp {cw : List Cond} (hpl : plainFor y = true) (hE : EW Z a0 EL) (hO : Ext Z.heap h) (hws : ∀ x ∈ ws, Z.heap.size ≤ x) (hef : ∀ m, entryFrame m as maxL = mkF m 0 Ls []) (K : Wp wd l Z a0 EL rm y bytes maxL ret h ws Q h F 0 0 0 Ls []) : Ct wd l Z EL cw y bytes maxL ret rm as h F ws Q := by
  refine MetFree.of_bodySF (code := bytes) (maxLocals := maxL) (ret := ret) hpl hisR ?_
  intro p e s m args below meth c s₁ Bd hml0 hP hK
  obtain ⟨rfl, hZ, rfl, hC, hF⟩ := hP
  have e0 : s₁.heap = s.heap := by rw [Bd.state]; rfl
  obtain ⟨v, t, h1, h2, h3, L, r1, r2, r3, r4⟩ := K p e s m args below meth c s.vm s.heap.size s₁ [] ⟨⟨hE, Bd.exec, Bd.bytes, hml0, Bd.returns, (name_of_methodNamed Bd.named Bd.method).1, Bd.notSynchronized⟩, ⟨rfl, hws, hO.1, (fun _ q => nomatch q), hO⟩, ⟨findClass_of_methodNamed Bd.named, (State.WarmedH.refl s).since _, Nat.le_refl _, fun _ => State.WarmedH.refl s, hZ, CHr.refl hC, hF⟩, Stand.of_body Bd, e0⟩
  exact ⟨t, _, castTop (hef m) h1, h2, h3, v, L, rfl, ⟨r1, r2⟩, r3, r4⟩
/-- a contract pays a call -/
theorem Ct.pays {p : Program} {e : Env} {below : List Frame} {s : State} {args : Array Value} {vm0 : Vm} {len W : Nat} (hM : Ct wd l Z EL [] y' bytes' maxL' ret' rm as h Fc wc Qc) (hE : EW Z a0 EL) (hZ : Z.Warmed39 vm0) (wcode : (Cond.code y' bytes' maxL' ret').before a0 Z = true) (wz : (Cond.initialized y'.cls).before a0 Z = true) (hf : rm.frames + 1 ≤ R.frames) (hl : W + (maxL' + 11) + rm.locals ≤ R.locals) (H : CHv Z EL vm0 h) (HF : Sf Z EL vm0 h Fc) :
    BackS l R p e below (s.setVm vm0) args y' len W (fun A a => a = as ∧ A.U.heap = h ∧ A.cells + rm.cells ≤ R.cells ∧ A.slots + rm.slots ≤ R.slots)
      (fun A _ v B => ∃ L, (Wh h wc L ∧ Qc v B.U.heap) ∧ B.locs = A.locs ++ L ∧ B.cells = A.cells + rm.cells ∧ B.slots = A.slots + rm.slots ∧ CHr Z EL vm0 h B.U.vm B.U.heap ∧ Keep h B.U.heap wc ∧ (wd = false → (s.setVm vm0).WarmedH B.U.vm)) :=
  BackS.of_freeW (bytes := bytes') (maxL := maxL') (ret := ret') (E := fun _ first o t L k n => k = rm.cells ∧ n = rm.slots ∧ (∃ v, o = .returned v ∧ Wh first.heap wc L ∧ Qc v t.heap) ∧ CHr Z EL first.vm first.heap t.vm t.heap ∧ Keep first.heap t.heap wc ∧ (wd = false → first.WarmedH t.vm)) hM hf hl
    (fun m meth c A a Y hp => have hU : Z.Warmed39 A.U.vm := wtrans (s := s.setVm vm0) hZ Y.warmed
      ⟨by show (Cond.and _ .tt).before a A.U = true; rw [Cond.before_and, mv hU wcode]; rfl, mv hU wcode, mv hU wz, hp.2.2.1, hp.2.2.2⟩)
    (fun m meth c A a g mk Y hp => ⟨hp.1, wtrans (s := s.setVm vm0) hZ Y.warmed, hp.2.1, (CHv.at Y hZ hE H).1, fun x hx => ⟨(HF x hx).1, CHr.safe (CHv.at Y hZ hE H) (HF x hx).1 (HF x hx).2⟩⟩) (fun _ _ _ _ _ _ _ _ _ => trivial)
    (fun _ first _ t ⟨v, L, h1, h2, h3, h4⟩ => ⟨L, _, _, h4.1, rfl, rfl, ⟨v, h1, h2⟩, h3, (show Keep first.heap t.heap wc from keep_of (T := ({ t with vm := first.vm } : State)) h4.1.2.2.2 h2.1), h4.2⟩)
    (fun m meth c A a g mk v t L k n Y hp _ _ ⟨e1, e2, ⟨v', e3, e4, e5⟩, e6, e7, e8⟩ => by
      cases e3; subst e1 e2
      have eh : (A.U.calling g mk a).heap = h := hp.2.1
      rw [eh] at e4 e6 e7
      exact ⟨L, ⟨e4, e5⟩, rfl, rfl, rfl, (CHv.at Y hZ hE H).trans e6, e7, fun z => State.WarmedH.trans (t := A.U) Y.warmed (e8 z)⟩)
/-- a call, whatever its kind -/
theorem Wp.call {len W : Nat} {rest : List Value} (Cc : Ct wd l Z EL [] y' bytes' maxL' ret' rm as h Fc wc Qc) (wcode : (Cond.code y' bytes' maxL' ret').before a0 Z = true) (wz : (Cond.initialized y'.cls).before a0 Z = true) (hFc : ∀ x ∈ Fc, x ∈ F) (hwc : ∀ x ∈ wc, x ∈ ws ∨ hs.size ≤ x) (hf : rm.frames + 1 ≤ R.frames) (hl : W + (maxL' + 11) + rm.locals ≤ R.locals) (hk : k + rm.cells = k') (hn : n + rm.slots = n') (hk' : k' ≤ R.cells) (hn' : n' ≤ R.slots)
    (law : ∀ (p : Program) (e : Env) (s : State) (m : MethodId) (args : Array Value) (below : List Frame) (meth : Method) (c : Code) (T : State) (locs : List Loc) (Pre : Pt → Array Value → Prop) (Post : Pt → Array Value → Option Value → Pt → Prop), Stand p l e R s m args below meth c T locs k n → p.tables.exec = Jvm.exec → Z.Warmed39 s.vm → s.vm.findClass y.cls = some m.cls → c.code = bytes → c.maxLocals = maxL → T.heap = h →
      BackS l R p e below s args y' len W Pre Post → (∀ vm₁, s.WarmedH vm₁ → Pre ⟨T.setVm vm₁, locs, k, n⟩ as) →
      ∃ (v : Option Value) (vm₁ : Vm) (B : Pt), s.WarmedH vm₁ ∧ Stand p l e R (s.setVm B.U.vm) m args below meth c B.U B.locs B.cells B.slots ∧ s.Since B.U.vm B.U.heap.size ∧ T.heap.size ≤ B.U.heap.size ∧ Post ⟨T.setVm vm₁, locs, k, n⟩ as v B ∧
        Steps p.tables e below (T.setTop (mkF m pc Ls S)) (B.U.setTop (mkF m pc' Ls (v.toList ++ rest))))
    (K : ∀ v h', hs.size ≤ h.size → Keep h h' wc → Qc v h' → Wp wd l Z a0 EL R y bytes maxL ret hs ws Q h' F k' n' pc' Ls (v.toList ++ rest)) : Wp wd l Z a0 EL R y bytes maxL ret hs ws Q h F k n pc Ls S := fun p e s m args below meth c vm0 k0 T locs I => by
  obtain ⟨⟨i1, i2, i3, i4, i5⟩, ⟨q1, q2, q3, q4, q5⟩, ⟨j1, j2, j3, j4, j5, j6, j7⟩, X, eT⟩ := I
  subst hk hn
  obtain ⟨v, vm₁, ⟨U, L', kk, nn⟩, hW₁, X', hS', hgr, ⟨L, ⟨c1, c2⟩, c3, c4, c5, c6, c7, c8⟩, st⟩ := law p e (s.setVm vm0) m args below meth c T locs _ _ X i2 j5 j1 i3 i4 eT (Ct.pays Cc i1 j5 wcode wz hf hl j6.1 fun x hx => j7 x (hFc x hx)) (fun _ _ => ⟨rfl, eT, hk', hn'⟩)
  dsimp only [Pt.U, Pt.locs, Pt.cells, Pt.slots] at X' hS' hgr c2 c3 c4 c5 c6 c7 c8 st
  subst c3 c4 c5
  have hhs : hs.size ≤ h.size := j6.2.1
  have hSin : s.Since U.vm U.heap.size := j2.trans hS' (Nat.le_trans j3 (by rw [← eT]; exact hgr))
  refine (K v U.heap hhs c7 c2 p e s m args below meth c U.vm U.heap.size U _ ⟨⟨i1, i2, i3, i4, i5⟩, ⟨q1, q2, q3, fun z hz => ?_, ext_keep q5 c7 fun x hx => (hwc x hx).elim (q2 x) (Nat.le_trans q3)⟩, ⟨(hS'.1.alike.findClass _ _).trans j1, hSin, Nat.le_refl _, fun z => State.WarmedH.trans (t := s.setVm vm0) (j4 z) (c8 z), State.Warmed39.trans (t := s.setVm vm0) j5 hS'.1, j6.trans c6, fun x hx => ⟨Nat.lt_of_lt_of_le (j7 x hx).1 c7.1, CHr.safe c6 (j7 x hx).1 (j7 x hx).2⟩⟩, X', rfl⟩).back fun t => st.trans
  rcases List.mem_append.mp hz with hz | hz
  · exact q4 z hz
  · rcases c1 z hz with q | q
    · exact hwc _ q
    · exact Or.inr (Nat.le_trans hhs q)

theorem Wp.callS {own : String} {idx W : Nat} {argsL rest : List Value} (hown0 : y.cls = own) (Cc : Ct wd l Z EL [] y' bytes' maxL' ret' rm as h Fc wc Qc) (wl : (Cond.methodLink own idx y').before a0 Z = true) (wst : (Cond.static y').before a0 Z = true) (wcode : (Cond.code y' bytes' maxL' ret').before a0 Z = true) (wz : (Cond.initialized y'.cls).before a0 Z = true) (hy : y'.cls ≠ "java/lang/invoke/MethodHandle" ∧ y'.cls ≠ "java/lang/invoke/VarHandle") (hlen : ∀ sig, parseMethodDescriptor y'.desc = some sig → argsL.length = sig.parameters.length) (hd : decode bytes pc = .ok (.invokestatic idx, 3))
    (hsz : Ls.size = maxL) (hst : S = argsL.reverse ++ rest) (has : argsL.toArray = as) (hW : (rest.map fun v => v.category).sum ≤ W) (hp : pc + 3 = pc') (hFc : ∀ x ∈ Fc, x ∈ F) (hwc : ∀ x ∈ wc, x ∈ ws ∨ hs.size ≤ x) (hf : rm.frames + 1 ≤ R.frames) (hl : W + (maxL' + 11) + rm.locals ≤ R.locals) (hk : k + rm.cells = k') (hn : n + rm.slots = n') (hk' : k' ≤ R.cells) (hn' : n' ≤ R.slots)
    (K : ∀ v h', hs.size ≤ h.size → Keep h h' wc → Qc v h' → Wp wd l Z a0 EL R y bytes maxL ret hs ws Q h' F k' n' pc' Ls (v.toList ++ rest)) : Wp wd l Z a0 EL R y bytes maxL ret hs ws Q h F k n pc Ls S := by
  subst hown0 hst has hp
  exact Wp.call Cc wcode wz hFc hwc hf hl hk hn hk' hn' (fun p e s m args below meth c T locs Pre Post X hx hZ hown hby hml eT hK hpre => callSS X hx hown (mvT hZ wl) (mvT hZ wst) (mvT hZ wz) (mvT hZ wcode) hy hK (g := mkF m pc Ls (argsL.reverse ++ rest)) rfl (by rw [hml]; exact hsz) hlen rfl (by show 2 * 0 + _ ≤ _; omega) (hb hby hd) hpre) K
theorem Wp.callI {own : String} {idx W : Nat} {argsL rest : List Value} (hown0 : y.cls = own) (Cc : Ct wd l Z EL [] y' bytes' maxL' ret' rm as h Fc wc Qc) (hy1 : y'.name = "<init>") (hr' : ret' = none) (wl : (Cond.methodLink own idx y').before a0 Z = true) (wi : (Cond.instanceMethod y').before a0 Z = true) (wcode : (Cond.code y' bytes' maxL' ret').before a0 Z = true) (wz : (Cond.initialized y'.cls).before a0 Z = true) (hy : y'.cls ≠ "java/lang/invoke/MethodHandle" ∧ y'.cls ≠ "java/lang/invoke/VarHandle") (hlen : ∀ sig, parseMethodDescriptor y'.desc = some sig → argsL.length = sig.parameters.length) (hd : decode bytes pc = .ok (.invokespecial idx, 3))
    (hsz : Ls.size = maxL) (hst : S = argsL.reverse ++ .ref a :: rest) (has : (Value.ref a :: argsL).toArray = as) (hW : (rest.map fun v => v.category).sum ≤ W) (hp : pc + 3 = pc') (hFc : ∀ x ∈ Fc, x ∈ F) (hwc : ∀ x ∈ wc, x ∈ ws ∨ hs.size ≤ x) (hf : rm.frames + 1 ≤ R.frames) (hl : W + (maxL' + 11) + rm.locals ≤ R.locals) (hk : k + rm.cells = k') (hn : n + rm.slots = n') (hk' : k' ≤ R.cells) (hn' : n' ≤ R.slots)
    (K : ∀ v h', hs.size ≤ h.size → Keep h h' wc → Qc v h' → Wp wd l Z a0 EL R y bytes maxL ret hs ws Q h' F k' n' pc' Ls (v.toList ++ rest)) : Wp wd l Z a0 EL R y bytes maxL ret hs ws Q h F k n pc Ls S := by
  subst hown0 hst has hp hr'
  exact Wp.call Cc wcode wz hFc hwc hf hl hk hn hk' hn' (fun p e s m args below meth c T locs Pre Post X hx hZ hown hby hml eT hK hpre => X.specialBackS hx hy1 hown (mvT hZ wl) (mvT hZ wi) (mvT hZ wcode) hy hK (g := mkF m pc Ls (argsL.reverse ++ .ref a :: rest)) rfl (by rw [hml]; exact hsz) (Steps.refl _) hlen rfl (by show 2 * 0 + _ ≤ _; omega) (hb hby hd) hpre) K
theorem Wp.callIN {host : String} {own : String} {idx W : Nat} {argsL rest : List Value} (hown0 : y.cls = own) (Cc : Ct wd l Z EL [] y' bytes' maxL' ret' rm as h Fc wc Qc) (hy1 : y'.name = "<init>") (hr' : ret' = none) (wl : (Cond.methodLinkNest own idx y' host).before a0 Z = true) (wi : (Cond.instanceMethod y').before a0 Z = true) (wcode : (Cond.code y' bytes' maxL' ret').before a0 Z = true) (wz : (Cond.initialized y'.cls).before a0 Z = true) (hy : y'.cls ≠ "java/lang/invoke/MethodHandle" ∧ y'.cls ≠ "java/lang/invoke/VarHandle") (hlen : ∀ sig, parseMethodDescriptor y'.desc = some sig → argsL.length = sig.parameters.length) (hd : decode bytes pc = .ok (.invokespecial idx, 3))
    (hsz : Ls.size = maxL) (hst : S = argsL.reverse ++ .ref a :: rest) (has : (Value.ref a :: argsL).toArray = as) (hW : (rest.map fun v => v.category).sum ≤ W) (hp : pc + 3 = pc') (hFc : ∀ x ∈ Fc, x ∈ F) (hwc : ∀ x ∈ wc, x ∈ ws ∨ hs.size ≤ x) (hf : rm.frames + 1 ≤ R.frames) (hl : W + (maxL' + 11) + rm.locals ≤ R.locals) (hk : k + rm.cells = k') (hn : n + rm.slots = n') (hk' : k' ≤ R.cells) (hn' : n' ≤ R.slots)
    (K : ∀ v h', hs.size ≤ h.size → Keep h h' wc → Qc v h' → Wp wd l Z a0 EL R y bytes maxL ret hs ws Q h' F k' n' pc' Ls (v.toList ++ rest)) : Wp wd l Z a0 EL R y bytes maxL ret hs ws Q h F k n pc Ls S := by
  subst hown0 hst has hp hr'
  exact Wp.call Cc wcode wz hFc hwc hf hl hk hn hk' hn' (fun p e s m args below meth c T locs Pre Post X hx hZ hown hby hml eT hK hpre => X.specialBackNestS hx hy1 hown (mvMN hZ wl) (mvT hZ wi) (mvT hZ wcode) hy hK (g := mkF m pc Ls (argsL.reverse ++ .ref a :: rest)) rfl (by rw [hml]; exact hsz) (Steps.refl _) hlen rfl (by show 2 * 0 + _ ≤ _; omega) (hb hby hd) hpre) K
theorem Wp.callV {x' : MethodName} {own : String} {idx W : Nat} {argsL rest : List Value} (hown0 : y.cls = own) (Cc : Ct wd l Z EL [] y' bytes' maxL' ret' rm as h Fc wc Qc) (wl : (Cond.methodLink own idx x').before a0 Z = true) (wd' : (Cond.declares x').before a0 Z = true) (wsel : (Cond.selects C x' y').before a0 Z = true) (wi : (Cond.instanceMethod y').before a0 Z = true) (wcode : (Cond.code y' bytes' maxL' ret').before a0 Z = true) (wz : (Cond.initialized y'.cls).before a0 Z = true) (nf : ∀ s : State, Z.Warmed39 s.vm → NotFace s x') (E : Exa Z h a C) (hy : x'.cls ≠ "java/lang/invoke/MethodHandle" ∧ x'.cls ≠ "java/lang/invoke/VarHandle") (hlen : ∀ sig, parseMethodDescriptor x'.desc = some sig → argsL.length = sig.parameters.length) (hd : decode bytes pc = .ok (.invokevirtual idx, 3))
    (hsz : Ls.size = maxL) (hst : S = argsL.reverse ++ .ref a :: rest) (has : (Value.ref a :: argsL).toArray = as) (hW : (rest.map fun v => v.category).sum ≤ W) (hp : pc + 3 = pc') (hFc : ∀ x ∈ Fc, x ∈ F) (hwc : ∀ x ∈ wc, x ∈ ws ∨ hs.size ≤ x) (hf : rm.frames + 1 ≤ R.frames) (hl : W + (maxL' + 11) + rm.locals ≤ R.locals) (hk : k + rm.cells = k') (hn : n + rm.slots = n') (hk' : k' ≤ R.cells) (hn' : n' ≤ R.slots)
    (K : ∀ v h', hs.size ≤ h.size → Keep h h' wc → Qc v h' → Wp wd l Z a0 EL R y bytes maxL ret hs ws Q h' F k' n' pc' Ls (v.toList ++ rest)) : Wp wd l Z a0 EL R y bytes maxL ret hs ws Q h F k n pc Ls S := by
  subst hown0 hst has hp
  exact Wp.call Cc wcode wz hFc hwc hf hl hk hn hk' hn' (fun p e s m args below meth c T locs Pre Post X hx hZ hown hby hml eT hK hpre => by
    obtain ⟨cq, kq, qa, qb, qc⟩ := isOf (T := T) hZ eT E
    exact X.virtualBackS hx hown (mvT hZ wl) (mvT hZ wd') (nf s hZ) (mvT hZ wsel) (mvT hZ wi) hy hK qa qc (g := mkF m pc Ls (argsL.reverse ++ .ref a :: rest)) rfl (by rw [hml]; exact hsz) (Steps.refl _) hlen rfl (by show 2 * 0 + _ ≤ _; omega) (hb hby hd) hpre) K
theorem nf_sel {x' y'' : MethodName} (hc : C = x'.cls) (wsel : (Cond.selects C x' y'').before a0 Z = true) (s : State) (hZ : Z.Warmed39 s.vm) (h1 : x' = y'') : NotFace s x' := by
  subst h1 hc; exact notFace_of_selects (args := #[]) (mvT hZ wsel)
theorem Wp.callF {x' : MethodName} {count : Nat} {own : String} {idx W : Nat} {argsL rest : List Value} (hown0 : y.cls = own) (Cc : Ct wd l Z EL [] y' bytes' maxL' ret' rm as h Fc wc Qc) (wl : (Cond.methodLink own idx x').before a0 Z = true) (wd' : (Cond.declares x').before a0 Z = true) (wf : (Cond.interfaceMethod x'.cls x'.cls x'.name x'.desc).before a0 Z = true) (wsel : (Cond.selects C x' y').before a0 Z = true) (wi : (Cond.instanceMethod y').before a0 Z = true) (wp : (Cond.publicMethod y').before a0 Z = true) (hfa : ((Cond.interfaceMethod x'.cls x'.cls x'.name x'.desc).onTables && (Cond.interfaceMethod x'.cls x'.cls x'.name x'.desc).keepsFace) = true) (wu : (Cond.unhidden C x'.name x'.desc).before a0 Z = true) (wca : (Cond.castable C x'.cls).before a0 Z = true) (wcode : (Cond.code y' bytes' maxL' ret').before a0 Z = true) (wz : (Cond.initialized y'.cls).before a0 Z = true) (E : Exa Z h a C) (hy : x'.cls ≠ "java/lang/invoke/MethodHandle" ∧ x'.cls ≠ "java/lang/invoke/VarHandle") (hlen : ∀ sig, parseMethodDescriptor x'.desc = some sig → argsL.length = sig.parameters.length) (hd : decode bytes pc = .ok (.invokeinterface idx count, 5))
    (hsz : Ls.size = maxL) (hst : S = argsL.reverse ++ .ref a :: rest) (has : (Value.ref a :: argsL).toArray = as) (hW : (rest.map fun v => v.category).sum ≤ W) (hp : pc + 5 = pc') (hFc : ∀ x ∈ Fc, x ∈ F) (hwc : ∀ x ∈ wc, x ∈ ws ∨ hs.size ≤ x) (hf : rm.frames + 1 ≤ R.frames) (hl : W + (maxL' + 11) + rm.locals ≤ R.locals) (hk : k + rm.cells = k') (hn : n + rm.slots = n') (hk' : k' ≤ R.cells) (hn' : n' ≤ R.slots)
    (K : ∀ v h', hs.size ≤ h.size → Keep h h' wc → Qc v h' → Wp wd l Z a0 EL R y bytes maxL ret hs ws Q h' F k' n' pc' Ls (v.toList ++ rest)) : Wp wd l Z a0 EL R y bytes maxL ret hs ws Q h F k n pc Ls S := by
  subst hown0 hst has hp
  exact Wp.call Cc wcode wz hFc hwc hf hl hk hn hk' hn' (fun p e s m args below meth c T locs Pre Post X hx hZ hown hby hml eT hK hpre => by
    obtain ⟨cq, kq, qa, qb, qc⟩ := isOf (T := T) hZ eT E
    exact X.interfaceBackS hx hown (mvT hZ wl) (mvT hZ wd') (mvT hZ wf hfa) (mvT hZ wsel) (mvT hZ wi) (mvT hZ wp) (mvT hZ wu) (mvT hZ wca) hy hK qa qb qc (g := mkF m pc Ls (argsL.reverse ++ .ref a :: rest)) rfl (by rw [hml]; exact hsz) (Steps.refl _) hlen rfl (by show 2 * 0 + _ ≤ _; omega) (hb hby hd) hpre) K
/-- ldc of a String constant, opaque -/
theorem Wp.ldcO {own text : String} {idx nn : Nat} (hwd : wd = true) (hown0 : y.cls = own) (lk : (Cond.stringLink own idx text).before a0 Z = true) (wS : ∀ d ∈ Bundle.stringAtoms, d.before a0 Z = true) (hd : decode bytes pc = .ok (.ldc idx, 2)) (hp : pc + 2 = pc') (hnn : 4 * text.toList.length ≤ nn) (hbig : nn ≤ 536870912) (hk : k + 2 = k') (hn : n + (nn + 4) = n') (hk' : k' ≤ R.cells) (hn' : n' ≤ R.slots)
    (K : ∀ h' b, Ext h h' → Wp wd l Z a0 EL R y bytes maxL ret hs ws Q h' F k' n' pc' Ls (.ref b :: S)) : Wp wd l Z a0 EL R y bytes maxL ret hs ws Q h F k n pc Ls S := fun p e s m args below meth c vm0 k0 T locs I => by
  obtain ⟨⟨i1, i2, i3, i4, i5⟩, ⟨q1, q2, q3, q4, q5⟩, ⟨j1, j2, j3, j4, j5, j6, j7⟩, X, eT⟩ := I
  subst hk hn hp hown0
  obtain ⟨b, T', h', k1, X', e', E, hS, hk1, hW, hf, hC, -, st⟩ := ldcOH X i2 j5 j1 lk wS eT j2 j3 i1 j6.1 (g := mkF m pc Ls S) rfl (hb i3 hd) hnn hbig hk' hn'
  exact (K h' b E p e s m args below meth c T'.vm k1 T' locs ⟨⟨i1, i2, i3, i4, i5⟩, ⟨q1, q2, q3, q4, Ext.trans q5 E⟩, ⟨hf, hS, hk1, (fun z => by rw [hwd] at z; cases z), hW, j6.trans hC, fun x hx => ⟨Nat.lt_of_lt_of_le (j7 x hx).1 E.1, CHr.safe hC (j7 x hx).1 (j7 x hx).2⟩⟩, X', e'⟩).back st
/-- ldc of a String constant whose text is read -/
theorem Wp.ldcC {own text : String} {idx nn : Nat} {vs : List Value} {z : Int32} (hwd : wd = true) (hown0 : y.cls = own) (lk : (Cond.stringLink own idx text).before a0 Z = true) (wS : ∀ d ∈ Bundle.stringAtoms, d.before a0 Z = true) (hmem : (own, idx) ∈ EL) (ht : (∀ c ∈ text.toList, c.toNat < 256) ∧ text.toList.map (fun c => Value.int (Jvm.Lit.byteI c.toNat.toUInt16)) = vs) (hz : ¬ z < 0) (hl : z.toNatClampNeg = vs.length)
    (hd : decode bytes pc = .ok (.ldc idx, 2)) (hp : pc + 2 = pc') (hnn : 4 * text.toList.length ≤ nn) (hbig : nn ≤ 536870912) (hk : k + 2 = k') (hn : n + (nn + 4) = n') (hk' : k' ≤ R.cells) (hn' : n' ≤ R.slots)
    (K : ∀ h' b c kA, Ext h h' → Exa Z h' b "java/lang/String" → Fld Z h' b "java/lang/String" "coder" "B" (.int 0) → Fld Z h' b "java/lang/String" "value" "[B" (.ref c) → Arv Z h' c kA .byte z vs (.int 0) → (∀ x ∈ F, x ≠ b ∧ x ≠ c) → Wp wd l Z a0 EL R y bytes maxL ret hs ws Q h' F k' n' pc' Ls (.ref b :: S)) : Wp wd l Z a0 EL R y bytes maxL ret hs ws Q h F k n pc Ls S := fun p e s m args below meth c vm0 k0 T locs I => by
  obtain ⟨⟨i1, i2, i3, i4, i5⟩, ⟨q1, q2, q3, q4, q5⟩, ⟨j1, j2, j3, j4, j5, j6, j7⟩, X, eT⟩ := I
  subst hk hn hp hown0
  obtain ⟨b, T', h', k1, cc, kA, X', e', E, hS, hk1, hW, hf, r1, r2, r3, r4, -, -, hC, -, hne, st⟩ := ldcCH X i2 j5 j1 lk wS eT j2 j3 i1 hmem j6.1 ht hz hl (g := mkF m pc Ls S) rfl (hb i3 hd) hnn hbig hk' hn'
  have hSf : Sf Z EL T'.vm h' F := fun x hx => ⟨Nat.lt_of_lt_of_le (j7 x hx).1 E.1, CHr.safe hC (j7 x hx).1 (j7 x hx).2⟩
  exact (K h' b cc kA E r1 r2 r3 r4 (fun x hx => hne x (hSf x hx).2) p e s m args below meth c T'.vm k1 T' locs ⟨⟨i1, i2, i3, i4, i5⟩, ⟨q1, q2, q3, q4, Ext.trans q5 E⟩, ⟨hf, hS, hk1, (fun z => by rw [hwd] at z; cases z), hW, j6.trans hC, hSf⟩, X', e'⟩).back st
end Calls
end Jvm.Own
namespace Jvm.Own
open Sem ClassFile Op Lib Jvm.Stand Jvm.Free Jvm.LawKit Jvm.RoadKit
/-! small naturals as ints -/
theorem on_toInt {i : Nat} (h : i < 2147483648) : (Int32.ofNat i).toInt = i := Int32.toInt_ofNat_of_lt h
theorem on_lt {i n : Nat} (hn : n < 2147483648) (h : i < n) : Int32.ofNat i < Int32.ofNat n := by rw [Int32.lt_iff_toInt_lt, on_toInt (by omega), on_toInt hn]; omega
theorem on_nlt {i n : Nat} (hi : i < 2147483648) (h : n ≤ i) : ¬ Int32.ofNat i < Int32.ofNat n := by rw [Int32.lt_iff_toInt_lt, on_toInt hi, on_toInt (i := n) (by omega)]; omega
theorem on_nneg {i : Nat} (hi : i < 2147483648) : ¬ Int32.ofNat i < 0 := by rw [Int32.lt_iff_toInt_lt, on_toInt hi]; show ¬ ((i : Int) < 0); omega
theorem on_clamp {i : Nat} (hi : i < 2147483648) : (Int32.ofNat i).toNatClampNeg = i := by simp only [Int32.toNatClampNeg, on_toInt hi]; omega
theorem on_succ (i : Nat) : Int32.ofNat i + (1 : Int32) = Int32.ofNat (i + 1) := (Int32.ofNat_add i 1).symm
theorem on_eq {i n : Nat} (hi : i < 2147483648) (hn : n < 2147483648) : Int32.ofNat i = Int32.ofNat n ↔ i = n := by
  rw [← Int32.toInt_inj, on_toInt hi, on_toInt hn]; omega
/-- what the low byte of a char is, as the JVM keeps it -/
def lb (c : Int32) : Int32 := c.toInt8.toInt32
theorem nar_lb (c : Int32) : nar .byte c.toInt8.toInt32 = lb c := by show (c.toInt8.toInt32).toInt8.toInt32 = _; rw [Int8.toInt8_toInt32]; rfl
theorem set_step {f : Int32 → Value} {cs : List Int32} {i j : Nat} {c : Int32} {z v : Value} (hc : cs[i]? = some c) (hv : v = f c) : ((cs.take i).map f ++ List.replicate (j + 1) z).set i v = (cs.take (i + 1)).map f ++ List.replicate j z := by
  obtain ⟨hi, rfl⟩ := List.getElem?_eq_some_iff.mp hc
  have hl : ((cs.take i).map f).length = i := by simp; omega
  rw [List.set_append_right _ _ (by omega), hl, Nat.sub_self, List.replicate_succ, List.set_cons_zero, List.take_add_one, List.map_append, hv, hc]
  simp
/-- an object of C is none of K: neither C nor its only superclass O is K -/
theorem ns_no {Z : State} {a0 : Array Value} {C O K : String} {n : Nat} (w : (Cond.superclass C O).before a0 Z = true) (wr : (Cond.noSuperclass O).before a0 Z = true) (wk : (Cond.instantiable K n).before a0 Z = true) (hn : C ≠ K) (hn2 : O ≠ K) : ∃ c t, Z.vm.findClass C = some c ∧ Z.vm.findClass K = some t ∧ Z.vm.assignable c t = false := by
  obtain ⟨t, kt, g1, g2, g3, g4, -⟩ := Cond.instantiable_spec wk
  have hN : NS Z O K := by
    obtain ⟨c, k, h1, h2, h3, -, -⟩ := Cond.noSuperclass_spec wr
    have ne := ids_ne h1 g1 hn2
    refine ⟨c, t, h1, g1, fun fuel => ?_⟩
    cases fuel with
    | zero => rfl
    | succ f => simp [Vm.isSubclassAux, ne, h2, h3]
  obtain ⟨c, t', h0, g0, n3⟩ := NS.step w hN hn
  cases g1.symm.trans g0
  obtain ⟨p, k, kp, h1, h2, h3, h4, h5, -, h7⟩ := Cond.superclass_spec h0 w
  have ne := ids_ne h0 g0 hn
  have g5 : kt.isInterface = false := (Bool.or_eq_false_iff.mp g4).1
  refine ⟨c, t, h0, g1, ?_⟩
  show Z.vm.assignableAux (255 + 1) c t = false
  simp [Vm.assignableAux, ne, h2, g2, h5, g3, g5, Vm.isSubclass, n3]
section Str
variable {Z : State} {a0 : Array Value} {h h' : Heap} {s w : Addr} {bs : List Int32} {C : String} {n sl : Nat} {v : Value} {k : ClassId} {ty : FieldType} {z : Int32} {vs : List Value} {d : Value}
/-- a Latin-1 String: its bytes, as ints -/
def SL (Z : State) (h : Heap) (s : Addr) (bs : List Int32) : Prop := Exa Z h s "java/lang/String" ∧ Fld Z h s "java/lang/String" "coder" "B" (.int 0) ∧ ∃ b k, Fld Z h s "java/lang/String" "value" "[B" (.ref b) ∧ Arv Z h b k .byte (Int32.ofNat bs.length) (bs.map Value.int) (.int 0)
theorem SL.lt (S : SL Z h s bs) : s < h.size := S.1.lt
theorem SL.ext (S : SL Z h s bs) (E : Ext h h') : SL Z h' s bs := by
  obtain ⟨A, B, b, k, D, G⟩ := S; exact ⟨A.ext E, B.ext E, b, k, D.ext E, G.ext E⟩
theorem SL.keep0 (S : SL Z h s bs) (K : Keep h h' []) : SL Z h' s bs := by
  obtain ⟨A, B, b, k, D, G⟩ := S; exact ⟨A.keep K, B.keep K nin0, b, k, D.keep K nin0, G.keep K nin0⟩
theorem SL.keep1 (S : SL Z h s bs) (K : Keep h h' [w]) (q : s ≠ w) (E : Exa Z h w C) (wi : (Cond.instantiable C n).before a0 Z = true) : SL Z h' s bs := by
  obtain ⟨A, B, b, k, D, G⟩ := S; exact ⟨A.keep K, B.keep K (ninS q nin0), b, k, D.keep K (ninS q nin0), G.keep K (ninS (Ne.symm (Exa.neArv E G wi)) nin0)⟩
theorem SL.wr (S : SL Z h s bs) (W : Wr h h' w sl v) (q : s ≠ w) (E : Exa Z h w C) (wi : (Cond.instantiable C n).before a0 Z = true) : SL Z h' s bs := S.keep1 (Keep.of_wr W) q E wi
theorem Arv.neTy {a b : Addr} {k' : ClassId} {ty' : FieldType} {z' : Int32} {vs' : List Value} {d' : Value} (A : Arv Z h a k ty z vs d) (B : Arv Z h b k' ty' z' vs' d') (q : ty ≠ ty') : a ≠ b := fun e => by
  subst e
  obtain ⟨c, ⟨h1, ⟨-, kk, h2, cm, h3⟩, -⟩, -⟩ := A
  obtain ⟨c', ⟨g1, ⟨-, kk', g2, cm', g3⟩, -⟩, -⟩ := B
  cases h1.symm.trans g1
  cases h2.symm.trans g2
  rw [h3] at g3; injection g3 with _ g3; exact q g3
theorem SL.keepA (S : SL Z h s bs) (K : Keep h h' [w]) (V : Arv Z h w k ty z vs d) (ht : ty ≠ .byte) (wi : (Cond.instantiable "java/lang/String" n).before a0 Z = true) : SL Z h' s bs := by
  obtain ⟨A, B, b, k, D, G⟩ := S
  have q : s ≠ w := Exa.neArv A V wi
  exact ⟨A.keep K, B.keep K (ninS q nin0), b, k, D.keep K (ninS q nin0), G.keep K (ninS (Arv.neTy G V (Ne.symm ht)) nin0)⟩
theorem SL.wrA (S : SL Z h s bs) (W : Wr h h' w sl v) (V : Arv Z h w k ty z vs d) (ht : ty ≠ .byte) (wi : (Cond.instantiable "java/lang/String" n).before a0 Z = true) : SL Z h' s bs := S.keepA (Keep.of_wr W) V ht wi
end Str
end Jvm.Own
namespace Jvm.Own
/-- two lists of one length that are alike up to i, and at i .. -/
theorem take_step {α : Type} {xs ys : List α} {i : Nat} {x y : α} (hx : xs[i]? = some x) (hy : ys[i]? = some y) (h : xs.take i = ys.take i) : (xs.take (i + 1) = ys.take (i + 1)) ↔ x = y := by
  rw [List.take_add_one, List.take_add_one, hx, hy, h]; simp
theorem ne_at {α : Type} {xs ys : List α} {i : Nat} {x y : α} (hx : xs[i]? = some x) (hy : ys[i]? = some y) (h : ¬ x = y) : ¬ xs = ys := fun e => by
  rw [e, hy] at hx; exact h (Option.some.inj hx).symm
theorem ne_len {α : Type} {xs ys : List α} (hx : xs.length < 2147483647) (hy : ys.length < 2147483647) (h : ¬ Int32.ofNat xs.length = Int32.ofNat ys.length) : ¬ xs = ys := fun e => h (by rw [e])
theorem all_take {α : Type} {xs ys : List α} (hl : xs.length = ys.length) (h : xs.take xs.length = ys.take xs.length) : xs = ys := by
  rw [List.take_length] at h; rw [hl, List.take_length] at h; exact h
end Jvm.Own
@@BLOCK:NumsL.lean.txt@@
namespace Jvm.Pilot.@@N@@
open Jvm Jvm.ClassFile Sem Op Lib Jvm.Free Jvm.Stand Jvm.LawKit Jvm.RoadKit Bundle Jvm.Own Jvm.Pilot.@@N@@.Jvm.D
theorem own_and3 (p : Int32) : (p &&& (3 : Int32)) = 0 ∨ (p &&& (3 : Int32)) = 1 ∨ (p &&& (3 : Int32)) = 2 ∨ (p &&& (3 : Int32)) = 3 := by
  have e := Jvm.Kit.i32_mask p 3 (k := 2) (by decide) (by decide)
  simp only [← Int32.toInt_inj]
  show _ = (0 : Int) ∨ _ = (1 : Int) ∨ _ = (2 : Int) ∨ _ = (3 : Int)
  rw [e]; omega
theorem own_255 (x : Int32) : ¬ (255 : Int32) < (x &&& (255 : Int32)) ∧ ¬ (x &&& (255 : Int32)) < 0 := by
  have e := Jvm.Kit.i32_mask x 255 (k := 8) (by decide) (by decide)
  have e1 : (255 : Int32).toInt = 255 := rfl
  have e2 : (0 : Int32).toInt = 0 := rfl
  rw [Int32.lt_iff_toInt_lt, Int32.lt_iff_toInt_lt, e]; omega
theorem own_nar (x : Int32) : nar .char (x &&& (255 : Int32)) = x &&& (255 : Int32) := i2c_mask x
theorem own_lb {x y : Int32} (hx : ¬ (255 : Int32) < x ∧ ¬ x < 0) (hy : ¬ (255 : Int32) < y ∧ ¬ y < 0) : lb x = lb y ↔ x = y := by
  constructor
  · intro h
    have e1 : (255 : Int32).toInt = 255 := rfl
    have e2 : (0 : Int32).toInt = 0 := rfl
    simp only [Int32.lt_iff_toInt_lt, e1, e2] at hx hy
    have h1 := congrArg Int32.toInt h
    simp only [lb, Int8.toInt_toInt32, Int32.toInt_toInt8, Int.bmod_def] at h1
    apply Int32.toInt_inj.mp
    omega
  · rintro rfl; rfl
def own_b (c : Int32) : Prop := c &&& (255 : Int32) = c
theorem own_bm (x : Int32) : own_b (x &&& (255 : Int32)) := by show _ &&& _ = _; rw [Int32.and_assoc, Int32.and_self]
theorem own_b0 : own_b 0 := rfl
theorem own_bx {x y : Int32} (hx : own_b x) (hy : own_b y) : own_b (x ^^^ y) := by
  show (x ^^^ y) &&& 255 = x ^^^ y
  have h1 : x &&& 255 = x := hx
  have h2 : y &&& 255 = y := hy
  have g1 := congrArg Int32.toBitVec h1
  have g2 := congrArg Int32.toBitVec h2
  apply Int32.toBitVec_inj.mp
  simp only [Int32.toBitVec_and, Int32.toBitVec_xor] at g1 g2 ⊢
  ext i hi
  have f1 := congrArg (fun b : BitVec 32 => b[i]) g1
  have f2 := congrArg (fun b : BitVec 32 => b[i]) g2
  simp only [BitVec.getElem_and, BitVec.getElem_xor] at f1 f2 ⊢
  revert f1 f2
  generalize x.toBitVec[i] = p; generalize y.toBitVec[i] = q; generalize (Int32.toBitVec 255)[i] = r
  revert p q r; decide
theorem own_bc {x : Int32} (hx : own_b x) : x.toUInt32.toUInt16.toUInt32.toInt32 = x := by
  have h1 : x &&& 255 = x := hx
  rw [← h1]; exact i2c_mask x
theorem own_bn {x : Int32} (hx : own_b x) : nar .char x = x := own_bc hx
theorem own_br {x : Int32} (hx : own_b x) : ¬ (255 : Int32) < x ∧ ¬ x < 0 := by
  have h1 : x &&& 255 = x := hx
  rw [← h1]; exact own_255 x
def own_mk (l a b : Int32) : List Int32 := if l = 0 then [] else if l = 1 then [a] else [a, b]
def own_st (l a b : Int32) : List Int32 := (own_mk l a b).map lb
theorem own_l3 (p : Int32) : ((p &&& (3 : Int32)) % (3 : Int32)) = 0 ∨ ((p &&& (3 : Int32)) % (3 : Int32)) = 1 ∨ ((p &&& (3 : Int32)) % (3 : Int32)) = 2 := by
  rcases own_and3 p with h | h | h | h <;> rw [h] <;> decide
theorem own_same {l m a b c d : Int32} (hl : l = 0 ∨ l = 1 ∨ l = 2) (hm : m = 0 ∨ m = 1 ∨ m = 2) (ha : own_b a) (hb : own_b b) (hc : own_b c) (hd : own_b d) : own_st l a b = own_st m c d ↔ l = m ∧ (l < 1 ∨ a = c) ∧ (l < 2 ∨ b = d) := by
  have h0 := own_lb (own_br ha) (own_br hc)
  have h1 := own_lb (own_br hb) (own_br hd)
  unfold own_st own_mk
  rcases hl with rfl | rfl | rfl <;> rcases hm with rfl | rfl | rfl <;> simp [h0, h1] <;> decide
theorem own_cl (l a b : Int32) : (own_mk l a b).length ≤ 2 := by
  unfold own_mk; split
  · decide
  · split <;> simp
theorem own_cn (l a b : Int32) : (own_mk l a b).length < 2147483647 := Nat.lt_of_le_of_lt (own_cl l a b) (by decide)
theorem own_sl (l a b : Int32) : (own_st l a b).length < 2147483647 := by have := own_cn l a b; simpa [own_st] using this
theorem own_hl {l a b : Int32} (ha : own_b a) (hb : own_b b) : ∀ c ∈ own_mk l a b, ¬ (255 : Int32) < c := by
  intro c hc
  unfold own_mk at hc
  split at hc
  · cases hc
  · split at hc
    · cases List.mem_singleton.mp hc; exact (own_br ha).1
    · rcases List.mem_cons.mp hc with rfl | hc
      · exact (own_br ha).1
      · cases List.mem_singleton.mp hc; exact (own_br hb).1
theorem own_wS {Z : State} {a0 : Array Value} (hw : ∀ d ∈ tables_1, d.before a0 Z = true) : ∀ d ∈ Bundle.stringAtoms, d.before a0 Z = true := by
  intro d hd
  simp only [Bundle.stringAtoms, Bundle.sN, List.mem_cons, List.not_mem_nil, or_false] at hd
  rcases hd with rfl | rfl | rfl | rfl | rfl | rfl | rfl
  · exact (hw _ (List.mem_of_getElem? (i := 6) rfl))
  · exact (hw _ (List.mem_of_getElem? (i := 5) rfl))
  · exact (hw _ (List.mem_of_getElem? (i := 19) rfl))
  · exact (hw _ (List.mem_of_getElem? (i := 20) rfl))
  · exact (hw _ (List.mem_of_getElem? (i := 21) rfl))
  · exact (hw _ (List.mem_of_getElem? (i := 22) rfl))
  · exact (hw _ (List.mem_of_getElem? (i := 23) rfl))
theorem d6_0 : decode jdk_52_method_21_code 0 = .ok (.iconst 0, 1) := by decide +kernel
theorem d6_1 : decode jdk_52_method_21_code 1 = .ok (.istore 5, 2) := by decide +kernel
theorem d6_3 : decode jdk_52_method_21_code 3 = .ok (.iload 5, 2) := by decide +kernel
theorem d6_5 : decode jdk_52_method_21_code 5 = .ok (.iload 4, 2) := by decide +kernel
theorem d6_7 : decode jdk_52_method_21_code 7 = .ok (.if_icmp .ge 37, 3) := by decide +kernel
theorem d6_10 : decode jdk_52_method_21_code 10 = .ok (.aload_n 0, 1) := by decide +kernel
theorem d6_11 : decode jdk_52_method_21_code 11 = .ok (.iload_n 1, 1) := by decide +kernel
theorem d6_12 : decode jdk_52_method_21_code 12 = .ok (.caload, 1) := by decide +kernel
theorem d6_13 : decode jdk_52_method_21_code 13 = .ok (.istore 6, 2) := by decide +kernel
theorem d6_15 : decode jdk_52_method_21_code 15 = .ok (.iload 6, 2) := by decide +kernel
theorem d6_17 : decode jdk_52_method_21_code 17 = .ok (.sipush 255, 3) := by decide +kernel
theorem d6_20 : decode jdk_52_method_21_code 20 = .ok (.if_icmp .le 6, 3) := by decide +kernel
theorem d6_23 : decode jdk_52_method_21_code 23 = .ok (.iload 5, 2) := by decide +kernel
theorem d6_25 : decode jdk_52_method_21_code 25 = .ok (.ireturn, 1) := by decide +kernel
theorem d6_26 : decode jdk_52_method_21_code 26 = .ok (.aload_n 2, 1) := by decide +kernel
theorem d6_27 : decode jdk_52_method_21_code 27 = .ok (.iload_n 3, 1) := by decide +kernel
theorem d6_28 : decode jdk_52_method_21_code 28 = .ok (.iload 6, 2) := by decide +kernel
theorem d6_30 : decode jdk_52_method_21_code 30 = .ok (.i2b, 1) := by decide +kernel
theorem d6_31 : decode jdk_52_method_21_code 31 = .ok (.bastore, 1) := by decide +kernel
theorem d6_32 : decode jdk_52_method_21_code 32 = .ok (.iinc 1 1, 3) := by decide +kernel
theorem d6_35 : decode jdk_52_method_21_code 35 = .ok (.iinc 3 1, 3) := by decide +kernel
theorem d6_38 : decode jdk_52_method_21_code 38 = .ok (.iinc 5 1, 3) := by decide +kernel
theorem d6_41 : decode jdk_52_method_21_code 41 = .ok (.goto (-38), 3) := by decide +kernel
theorem d6_44 : decode jdk_52_method_21_code 44 = .ok (.iload 4, 2) := by decide +kernel
theorem d6_46 : decode jdk_52_method_21_code 46 = .ok (.ireturn, 1) := by decide +kernel
set_option maxRecDepth 65536 in
set_option maxHeartbeats 40000000 in
theorem own_lpC (l : Launch) (Z : State) (a0 : Array Value) (hw : ∀ d ∈ tables_1, d.before a0 Z = true) (hE : EW Z a0 [("java/lang/String", 7), ("com/example/portwright/portwright/xml/XmlElementIsPinLaw", 32)]) (a d : Addr) (ka kd : ClassId) (cs : List Int32) (hn : cs.length < 2147483647) (hs : Heap) :
    ∀ (j i : Nat) (h : Heap) (s6 : Slot), i + j = cs.length → (s6 = .unset ∨ ∃ x : Int32, s6 = .val (.int x)) → (∀ c ∈ cs.take i, ¬ (255 : Int32) < c) → Arv Z h a ka .char (Int32.ofNat cs.length) (cs.map Value.int) (.int 0) → Arv Z h d kd .byte (Int32.ofNat cs.length) ((cs.take i).map (fun c => Value.int (lb c)) ++ List.replicate j (.int 0)) (.int 0) → a ≠ d →
      Wp true l Z a0 [("java/lang/String", 7), ("com/example/portwright/portwright/xml/XmlElementIsPinLaw", 32)] ({ frames := 0, cells := 0, slots := 0, locals := 0 } : Room) (⟨"java/lang/StringUTF16", "compress", "([CI[BII)I"⟩ : MethodName) jdk_52_method_21_code 7 (some .int) hs [d] (fun v h => (v = some (.int (Int32.ofNat cs.length)) ∧ (∀ c ∈ cs, ¬ (255 : Int32) < c) ∧ Arv Z h d kd .byte (Int32.ofNat cs.length) (cs.map fun c => Value.int (lb c)) (.int 0)) ∨ ∃ t c, t < cs.length ∧ cs[t]? = some c ∧ (255 : Int32) < c ∧ v = some (.int (Int32.ofNat t))) h [d] 0 0 3 #[.val (.ref a), .val (.int (Int32.ofNat i)), .val (.ref d), .val (.int (Int32.ofNat i)), .val (.int (Int32.ofNat cs.length)), .val (.int (Int32.ofNat i)), s6] [] := by
  intro j
  induction j with
  | zero =>
    intro i h s6 hi h6 hall V_a V_d ne_a_d
    have ei : i = cs.length := by omega
    subst ei
    rw [List.take_length] at hall V_d
    refine Wp.iload d6_3 (pc' := 5) rfl rfl ?_
    refine Wp.iload d6_5 (pc' := 7) rfl rfl ?_
    refine Wp.icmp_ge (pc1 := 44) (pc' := 10) d6_7 (by decide) (by decide) rfl (fun hc101 => ?_) (fun hc101 => by exact absurd hc101 Int32.lt_irrefl)
    refine Wp.iload d6_44 (pc' := 46) rfl rfl ?_
    refine Wp.retI rfl d6_46 (by decide) (by decide) ?_
    exact Or.inl ⟨rfl, hall, by simpa using V_d⟩
  | succ j ih =>
    intro i h s6 hi h6 hall V_a V_d ne_a_d
    have hin : i < cs.length := by omega
    obtain ⟨c, hc⟩ : ∃ c, cs[i]? = some c := ⟨_, List.getElem?_eq_getElem hin⟩
    refine Wp.iload d6_3 (pc' := 5) rfl rfl ?_
    refine Wp.iload d6_5 (pc' := 7) rfl rfl ?_
    refine Wp.icmp_ge (pc1 := 44) (pc' := 10) d6_7 (by decide) (by decide) rfl (fun hc101 => by exact absurd (on_lt (by omega) hin) hc101) (fun hc101 => ?_)
    refine Wp.aloadN d6_10 (pc' := 11) rfl rfl rfl ?_
    refine Wp.iloadN d6_11 (pc' := 12) rfl rfl ?_
    refine Wp.caload V_a (on_nneg (by omega)) (on_lt (by omega) hin) (v := .int c) (by rw [on_clamp (by omega)]; simp [List.getD_eq_getElem?_getD, hc]) d6_12 (pc' := 13) rfl ?_
    refine Wp.istore (l' := #[.val (.ref a), .val (.int (Int32.ofNat i)), .val (.ref d), .val (.int (Int32.ofNat i)), .val (.int (Int32.ofNat cs.length)), .val (.int (Int32.ofNat i)), .val (.int c)]) d6_13 (pc' := 15) rfl (by rcases h6 with rfl | ⟨_, rfl⟩ <;> rfl) ?_
    refine Wp.iload d6_15 (pc' := 17) rfl rfl ?_
    refine Wp.sipush (x := (255 : Int32)) d6_17 (pc' := 20) rfl rfl ?_
    refine Wp.icmp_le (pc1 := 26) (pc' := 23) d6_20 (by decide) (by decide) rfl (fun hc102 => ?_) (fun hc102 => ?_)
    · have hcc : ¬ ((255 : Int32) < c) := hc102
      refine Wp.aloadN d6_26 (pc' := 27) rfl rfl rfl ?_
      refine Wp.iloadN d6_27 (pc' := 28) rfl rfl ?_
      refine Wp.iload d6_28 (pc' := 30) rfl rfl ?_
      refine Wp.i2b d6_30 (pc' := 31) rfl ?_
      refine Wp.bastore V_d (on_nneg (by omega)) (on_lt (by omega) hin) (i := i) (on_clamp (by omega)) (by simp; omega) d6_31 (pc' := 32) rfl (Or.inl (by simp)) (Sfe.mem (by simp)) (fun h2 W2 V2 => ?_)
      replace V_a := V_a.other W2 ne_a_d
      rw [nar_lb, set_step (f := fun c => Value.int (lb c)) hc rfl] at V2
      refine Wp.iinc (l' := #[.val (.ref a), .val (.int ((Int32.ofNat i) + (1 : Int32))), .val (.ref d), .val (.int (Int32.ofNat i)), .val (.int (Int32.ofNat cs.length)), .val (.int (Int32.ofNat i)), .val (.int c)]) d6_32 (pc' := 35) rfl rfl rfl ?_
      refine Wp.iinc (l' := #[.val (.ref a), .val (.int ((Int32.ofNat i) + (1 : Int32))), .val (.ref d), .val (.int ((Int32.ofNat i) + (1 : Int32))), .val (.int (Int32.ofNat cs.length)), .val (.int (Int32.ofNat i)), .val (.int c)]) d6_35 (pc' := 38) rfl rfl rfl ?_
      refine Wp.iinc (l' := #[.val (.ref a), .val (.int ((Int32.ofNat i) + (1 : Int32))), .val (.ref d), .val (.int ((Int32.ofNat i) + (1 : Int32))), .val (.int (Int32.ofNat cs.length)), .val (.int ((Int32.ofNat i) + (1 : Int32))), .val (.int c)]) d6_38 (pc' := 41) rfl rfl rfl ?_
      refine Wp.goto (pc' := 3) d6_41 (by decide) (by decide) ?_
      rw [on_succ]
      refine ih (i + 1) h2 _ (by omega) (Or.inr ⟨c, rfl⟩) (fun x hx => ?_) V_a V2 ne_a_d
      rw [List.take_add_one, hc] at hx
      rcases List.mem_append.mp hx with hx | hx
      · exact hall x hx
      · simp at hx; subst hx; exact hcc
    · have hc102 : (255 : Int32) < c := hc102
      refine Wp.iload d6_23 (pc' := 25) rfl rfl ?_
      refine Wp.retI rfl d6_25 (by decide) (by decide) ?_
      exact Or.inr ⟨i, c, hin, hc, hc102, rfl⟩
theorem pn_java_lang_StringUTF16 : plainName "java/lang/StringUTF16" = true := by first | (simp [plainName, overriddenIn]; done) | decide +kernel
theorem ef_ctCMP5 (m : MethodId) (x0 : Addr) (x1 : Int32) (x2 : Addr) (x3 : Int32) (x4 : Int32) : entryFrame m #[(.ref x0), (.int x1), (.ref x2), (.int x3), (.int x4)] 7 = mkF m 0 #[.val (.ref x0), .val (.int x1), .val (.ref x2), .val (.int x3), .val (.int x4), .unset, .unset] [] := by first | (simp [entryFrame, mkF, argsToLocals, Value.category]; done) | rfl
set_option maxRecDepth 65536 in
set_option maxHeartbeats 40000000 in
theorem ctCMP5 (l : Launch) (Z : State) (a0 : Array Value) (hw : ∀ d ∈ tables_1, d.before a0 Z = true) (hE : EW Z a0 [("java/lang/String", 7), ("com/example/portwright/portwright/xml/XmlElementIsPinLaw", 32)]) (a d : Addr) (ka kd : ClassId) (cs : List Int32) (h0 : Heap) (hO : Ext Z.heap h0) (hn : cs.length < 2147483647) (V_a : Arv Z h0 a ka .char (Int32.ofNat cs.length) (cs.map Value.int) (.int 0)) (V_d : Arv Z h0 d kd .byte (Int32.ofNat cs.length) (List.replicate cs.length (.int 0)) (.int 0)) (ne_a_d : a ≠ d) (hd0 : Z.heap.size ≤ d) :
    Ct true l Z [("java/lang/String", 7), ("com/example/portwright/portwright/xml/XmlElementIsPinLaw", 32)] [] (⟨"java/lang/StringUTF16", "compress", "([CI[BII)I"⟩ : MethodName) jdk_52_method_21_code 7 (some .int) ({ frames := 0, cells := 0, slots := 0, locals := 0 } : Room) #[(.ref a), (.int (0 : Int32)), (.ref d), (.int (0 : Int32)), (.int (Int32.ofNat cs.length))] h0 [d] [d] (fun v h => (v = some (.int (Int32.ofNat cs.length)) ∧ (∀ c ∈ cs, ¬ (255 : Int32) < c) ∧ Arv Z h d kd .byte (Int32.ofNat cs.length) (cs.map fun c => Value.int (lb c)) (.int 0)) ∨ ∃ t c, t < cs.length ∧ cs[t]? = some c ∧ (255 : Int32) < c ∧ v = some (.int (Int32.ofNat t))) := by
  refine Ct.of_wp (a0 := a0) (Ls := #[.val (.ref a), .val (.int (0 : Int32)), .val (.ref d), .val (.int (0 : Int32)), .val (.int (Int32.ofNat cs.length)), .unset, .unset]) (plainFor_of_name pn_java_lang_StringUTF16) hE hO (by intro x hx; cases List.mem_singleton.mp hx; exact hd0) (fun m => ef_ctCMP5 m a (0 : Int32) d (0 : Int32) (Int32.ofNat cs.length)) ?_
  refine Wp.iconst (x := (0 : Int32)) d6_0 (pc' := 1) rfl rfl ?_
  refine Wp.istore (l' := #[.val (.ref a), .val (.int (0 : Int32)), .val (.ref d), .val (.int (0 : Int32)), .val (.int (Int32.ofNat cs.length)), .val (.int (0 : Int32)), .unset]) d6_1 (pc' := 3) rfl rfl ?_
  exact own_lpC l Z a0 hw hE a d ka kd cs hn h0 cs.length 0 h0 _ (by omega) (Or.inl rfl) (by simp) V_a (by simpa using V_d) ne_a_d
theorem d5_0 : decode jdk_52_method_16_code 0 = .ok (.iload_n 2, 1) := by decide +kernel
theorem d5_1 : decode jdk_52_method_16_code 1 = .ok (.newarray .byte, 2) := by decide +kernel
theorem d5_3 : decode jdk_52_method_16_code 3 = .ok (.astore_n 3, 1) := by decide +kernel
theorem d5_4 : decode jdk_52_method_16_code 4 = .ok (.aload_n 0, 1) := by decide +kernel
theorem d5_5 : decode jdk_52_method_16_code 5 = .ok (.iload_n 1, 1) := by decide +kernel
theorem d5_6 : decode jdk_52_method_16_code 6 = .ok (.aload_n 3, 1) := by decide +kernel
theorem d5_7 : decode jdk_52_method_16_code 7 = .ok (.iconst 0, 1) := by decide +kernel
theorem d5_8 : decode jdk_52_method_16_code 8 = .ok (.iload_n 2, 1) := by decide +kernel
theorem d5_9 : decode jdk_52_method_16_code 9 = .ok (.invokestatic 115, 3) := by decide +kernel
theorem d5_12 : decode jdk_52_method_16_code 12 = .ok (.istore 4, 2) := by decide +kernel
theorem d5_14 : decode jdk_52_method_16_code 14 = .ok (.iload 4, 2) := by decide +kernel
theorem d5_16 : decode jdk_52_method_16_code 16 = .ok (.iload_n 2, 1) := by decide +kernel
theorem d5_17 : decode jdk_52_method_16_code 17 = .ok (.if_icmp .eq 40, 3) := by decide +kernel
theorem d5_20 : decode jdk_52_method_16_code 20 = .ok (.aload_n 0, 1) := by decide +kernel
theorem d5_21 : decode jdk_52_method_16_code 21 = .ok (.iload_n 1, 1) := by decide +kernel
theorem d5_22 : decode jdk_52_method_16_code 22 = .ok (.iload_n 2, 1) := by decide +kernel
theorem d5_23 : decode jdk_52_method_16_code 23 = .ok (.invokestatic 119, 3) := by decide +kernel
theorem d5_26 : decode jdk_52_method_16_code 26 = .ok (.astore 5, 2) := by decide +kernel
theorem d5_28 : decode jdk_52_method_16_code 28 = .ok (.aload 5, 2) := by decide +kernel
theorem d5_30 : decode jdk_52_method_16_code 30 = .ok (.iload 4, 2) := by decide +kernel
theorem d5_32 : decode jdk_52_method_16_code 32 = .ok (.invokestatic 71, 3) := by decide +kernel
theorem d5_35 : decode jdk_52_method_16_code 35 = .ok (.sipush 255, 3) := by decide +kernel
theorem d5_38 : decode jdk_52_method_16_code 38 = .ok (.if_icmp .gt 16, 3) := by decide +kernel
theorem d5_41 : decode jdk_52_method_16_code 41 = .ok (.aload 5, 2) := by decide +kernel
theorem d5_43 : decode jdk_52_method_16_code 43 = .ok (.iconst 0, 1) := by decide +kernel
theorem d5_44 : decode jdk_52_method_16_code 44 = .ok (.aload_n 3, 1) := by decide +kernel
theorem d5_45 : decode jdk_52_method_16_code 45 = .ok (.iconst 0, 1) := by decide +kernel
theorem d5_46 : decode jdk_52_method_16_code 46 = .ok (.iload_n 2, 1) := by decide +kernel
theorem d5_47 : decode jdk_52_method_16_code 47 = .ok (.invokestatic 123, 3) := by decide +kernel
theorem d5_50 : decode jdk_52_method_16_code 50 = .ok (.iload_n 2, 1) := by decide +kernel
theorem d5_51 : decode jdk_52_method_16_code 51 = .ok (.if_icmp .eq 6, 3) := by decide +kernel
theorem d5_54 : decode jdk_52_method_16_code 54 = .ok (.aload 5, 2) := by decide +kernel
theorem d5_56 : decode jdk_52_method_16_code 56 = .ok (.areturn, 1) := by decide +kernel
theorem d5_57 : decode jdk_52_method_16_code 57 = .ok (.aload_n 3, 1) := by decide +kernel
theorem d5_58 : decode jdk_52_method_16_code 58 = .ok (.areturn, 1) := by decide +kernel
theorem ef_ctCMP3 (m : MethodId) (x0 : Addr) (x1 : Int32) (x2 : Int32) : entryFrame m #[(.ref x0), (.int x1), (.int x2)] 6 = mkF m 0 #[.val (.ref x0), .val (.int x1), .val (.int x2), .unset, .unset, .unset] [] := by first | (simp [entryFrame, mkF, argsToLocals, Value.category]; done) | rfl
theorem pd___CI_BII_I : parseMethodDescriptor "([CI[BII)I" = some ⟨[(.array .char), .int, (.array .byte), .int, .int], some .int⟩ := by decide +kernel
set_option maxRecDepth 65536 in
set_option maxHeartbeats 40000000 in
theorem ctCMP3 (l : Launch) (Z : State) (a0 : Array Value) (hw : ∀ d ∈ tables_1, d.before a0 Z = true) (hE : EW Z a0 [("java/lang/String", 7), ("com/example/portwright/portwright/xml/XmlElementIsPinLaw", 32)]) (a : Addr) (ka : ClassId) (cs : List Int32) (h0 : Heap) (hO : Ext Z.heap h0) (hn : cs.length < 2147483647) (hcap : cs.length ≤ 2) (hl : ∀ c ∈ cs, ¬ (255 : Int32) < c) (V_a : Arv Z h0 a ka .char (Int32.ofNat cs.length) (cs.map Value.int) (.int 0)) :
    Ct true l Z [("java/lang/String", 7), ("com/example/portwright/portwright/xml/XmlElementIsPinLaw", 32)] [] (⟨"java/lang/StringUTF16", "compress", "([CII)[B"⟩ : MethodName) jdk_52_method_16_code 6 (some (.array .byte)) ({ frames := 1, cells := 1, slots := 2, locals := 18 } : Room) #[(.ref a), (.int (0 : Int32)), (.int (Int32.ofNat cs.length))] h0 [] [] (fun v h => ∃ d kd, v = some (.ref d) ∧ h0.size ≤ d ∧ Arv Z h d kd .byte (Int32.ofNat cs.length) (cs.map fun c => Value.int (lb c)) (.int 0)) := by
  refine Ct.of_wp (a0 := a0) (Ls := #[.val (.ref a), .val (.int (0 : Int32)), .val (.int (Int32.ofNat cs.length)), .unset, .unset, .unset]) (plainFor_of_name pn_java_lang_StringUTF16) hE hO nofun (fun m => ef_ctCMP3 m a (0 : Int32) (Int32.ofNat cs.length)) ?_
  refine Wp.iloadN d5_0 (pc' := 1) rfl rfl ?_
  refine Wp.newP (cap := 2) (hw _ (List.mem_of_getElem? (i := 19) rfl)) (on_nneg (by omega)) (by rw [on_clamp (by omega)]; exact hcap) (by decide) d5_1 (pc' := 3) rfl (k' := 1) (n' := 2) rfl rfl (by decide) (by decide) (fun h1 b1 k_b1 g_b1 sz_b1 Xh1 V_b1 => ?_)
  have ne_a_b1 : a ≠ b1 := Nat.ne_of_lt (Nat.lt_of_lt_of_eq V_a.lt g_b1.symm)
  replace V_a := V_a.ext Xh1
  replace V_b1 := V_b1.pad (pad_rep [] (.int (0 : Int32)) cs.length)
  refine Wp.astoreN (l' := #[.val (.ref a), .val (.int (0 : Int32)), .val (.int (Int32.ofNat cs.length)), .val (.ref b1), .unset, .unset]) d5_3 (pc' := 4) rfl rfl rfl ?_
  refine Wp.aloadN d5_4 (pc' := 5) rfl rfl rfl ?_
  refine Wp.iloadN d5_5 (pc' := 6) rfl rfl ?_
  refine Wp.aloadN d5_6 (pc' := 7) rfl rfl rfl ?_
  refine Wp.iconst (x := (0 : Int32)) d5_7 (pc' := 8) rfl rfl ?_
  refine Wp.iloadN d5_8 (pc' := 9) rfl rfl ?_
  refine Wp.old fun hOc => ?_
  refine Wp.callS (W := 0) (argsL := [(.ref a), (.int (0 : Int32)), (.ref b1), (.int (0 : Int32)), (.int (Int32.ofNat cs.length))]) (rest := []) rfl (ctCMP5 l Z a0 hw hE a b1 ka k_b1 cs h1 hOc hn V_a V_b1 ne_a_b1 (Nat.le_trans hO.1 sz_b1)) (hw _ (List.mem_of_getElem? (i := 31) rfl)) (hw _ (List.mem_of_getElem? (i := 32) rfl)) (hw _ (List.mem_of_getElem? (i := 33) rfl)) (hw _ (List.mem_of_getElem? (i := 29) rfl)) (by decide) (lenOf pd___CI_BII_I rfl) d5_9 rfl rfl rfl (Nat.le_of_eq rfl) (pc' := 12) rfl (by simp) (by intro x hx; simp only [List.mem_cons, List.not_mem_nil, or_false] at hx; rcases hx with rfl; exact (Or.inr sz_b1)) (by decide) (by decide) (k' := 1) (n' := 2) rfl rfl (by decide) (by decide) (fun vh2 h2 zh2 Kh2 qh2 => ?_)
  rcases qh2 with ⟨rfl, -, V_b1⟩ | ⟨t, c, -, hc, hc2, -⟩
  rotate_left
  · exact absurd hc2 (hl c (List.mem_of_getElem? hc))
  replace V_a := V_a.keep Kh2 (ninS ne_a_b1 nin0)
  refine Wp.eqS (S' := [(.int (Int32.ofNat cs.length))]) rfl ?_
  refine Wp.istore (l' := #[.val (.ref a), .val (.int (0 : Int32)), .val (.int (Int32.ofNat cs.length)), .val (.ref b1), .val (.int (Int32.ofNat cs.length)), .unset]) d5_12 (pc' := 14) rfl rfl ?_
  refine Wp.iload d5_14 (pc' := 16) rfl rfl ?_
  refine Wp.iloadN d5_16 (pc' := 17) rfl rfl ?_
  refine Wp.icmp_eq (pc1 := 57) (pc' := 20) d5_17 (by decide) (by decide) rfl (fun hc3 => ?_) (fun hc3 => by exact absurd rfl hc3)
  refine Wp.aloadN d5_57 (pc' := 58) rfl rfl rfl ?_
  refine Wp.retA rfl rfl rfl d5_58 (by decide) (by decide) ?_
  exact ⟨_, _, rfl, sz_b1, V_b1⟩
theorem d7_0 : decode jdk_52_method_15_code 0 = .ok (.iload_n 1, 1) := by decide +kernel
theorem d7_1 : decode jdk_52_method_15_code 1 = .ok (.aload_n 0, 1) := by decide +kernel
theorem d7_2 : decode jdk_52_method_15_code 2 = .ok (.arraylength, 1) := by decide +kernel
theorem d7_3 : decode jdk_52_method_15_code 3 = .ok (.isub, 1) := by decide +kernel
theorem d7_4 : decode jdk_52_method_15_code 4 = .ok (.bipush 31, 2) := by decide +kernel
theorem d7_6 : decode jdk_52_method_15_code 6 = .ok (.iushr, 1) := by decide +kernel
theorem d7_7 : decode jdk_52_method_15_code 7 = .ok (.i2b, 1) := by decide +kernel
theorem d7_8 : decode jdk_52_method_15_code 8 = .ok (.ireturn, 1) := by decide +kernel
theorem ef_ctCFA (m : MethodId) (x0 : Addr) (x1 : Int32) : entryFrame m #[(.ref x0), (.int x1)] 2 = mkF m 0 #[.val (.ref x0), .val (.int x1)] [] := by first | (simp [entryFrame, mkF, argsToLocals, Value.category]; done) | rfl
set_option maxRecDepth 65536 in
set_option maxHeartbeats 40000000 in
theorem ctCFA (l : Launch) (Z : State) (a0 : Array Value) (hw : ∀ d ∈ tables_1, d.before a0 Z = true) (hE : EW Z a0 [("java/lang/String", 7), ("com/example/portwright/portwright/xml/XmlElementIsPinLaw", 32)]) (d : Addr) (kd : ClassId) (z : Int32) (vs : List Value) (h0 : Heap) (hO : Ext Z.heap h0) (V_d : Arv Z h0 d kd .byte z vs (.int 0)) :
    Ct true l Z [("java/lang/String", 7), ("com/example/portwright/portwright/xml/XmlElementIsPinLaw", 32)] [] (⟨"java/lang/StringUTF16", "coderFromArrayLen", "([BI)B"⟩ : MethodName) jdk_52_method_15_code 2 (some .byte) ({ frames := 0, cells := 0, slots := 0, locals := 0 } : Room) #[(.ref d), (.int z)] h0 [] [] (fun v h => v = some (.int 0)) := by
  refine Ct.of_wp (a0 := a0) (Ls := #[.val (.ref d), .val (.int z)]) (plainFor_of_name pn_java_lang_StringUTF16) hE hO nofun (fun m => ef_ctCFA m d z) ?_
  refine Wp.iloadN d7_0 (pc' := 1) rfl rfl ?_
  refine Wp.aloadN d7_1 (pc' := 2) rfl rfl rfl ?_
  refine Wp.alen V_d d7_2 (pc' := 3) rfl ?_
  refine Wp.isub d7_3 (pc' := 4) rfl ?_
  refine Wp.bipush (x := (31 : Int32)) d7_4 (pc' := 6) rfl rfl ?_
  refine Wp.iushr d7_6 (pc' := 7) rfl ?_
  refine Wp.i2b d7_7 (pc' := 8) rfl ?_
  refine Wp.retN (t := .byte) rfl (by simp) rfl d7_8 (by decide) (by decide) ?_
  rw [Int32.sub_self]; rfl
theorem d3_0 : decode jdk_42_method_149_code 0 = .ok (.aload_n 0, 1) := by decide +kernel
theorem d3_1 : decode jdk_42_method_149_code 1 = .ok (.invokespecial 1, 3) := by decide +kernel
theorem d3_4 : decode jdk_42_method_149_code 4 = .ok (.iload_n 3, 1) := by decide +kernel
theorem d3_5 : decode jdk_42_method_149_code 5 = .ok (.ifCond .ne 22, 3) := by decide +kernel
theorem d3_8 : decode jdk_42_method_149_code 8 = .ok (.aload_n 0, 1) := by decide +kernel
theorem d3_9 : decode jdk_42_method_149_code 9 = .ok (.ldc 7, 2) := by decide +kernel
theorem d3_11 : decode jdk_42_method_149_code 11 = .ok (.getfield 9, 3) := by decide +kernel
theorem d3_14 : decode jdk_42_method_149_code 14 = .ok (.putfield 9, 3) := by decide +kernel
theorem d3_17 : decode jdk_42_method_149_code 17 = .ok (.aload_n 0, 1) := by decide +kernel
theorem d3_18 : decode jdk_42_method_149_code 18 = .ok (.ldc 7, 2) := by decide +kernel
theorem d3_20 : decode jdk_42_method_149_code 20 = .ok (.getfield 15, 3) := by decide +kernel
theorem d3_23 : decode jdk_42_method_149_code 23 = .ok (.putfield 15, 3) := by decide +kernel
theorem d3_26 : decode jdk_42_method_149_code 26 = .ok (.return_, 1) := by decide +kernel
theorem d3_27 : decode jdk_42_method_149_code 27 = .ok (.getstatic 38, 3) := by decide +kernel
theorem d3_30 : decode jdk_42_method_149_code 30 = .ok (.ifCond .eq 28, 3) := by decide +kernel
theorem d3_33 : decode jdk_42_method_149_code 33 = .ok (.aload_n 1, 1) := by decide +kernel
theorem d3_34 : decode jdk_42_method_149_code 34 = .ok (.iload_n 2, 1) := by decide +kernel
theorem d3_35 : decode jdk_42_method_149_code 35 = .ok (.iload_n 3, 1) := by decide +kernel
theorem d3_36 : decode jdk_42_method_149_code 36 = .ok (.invokestatic 177, 3) := by decide +kernel
theorem d3_39 : decode jdk_42_method_149_code 39 = .ok (.astore 5, 2) := by decide +kernel
theorem d3_41 : decode jdk_42_method_149_code 41 = .ok (.aload_n 0, 1) := by decide +kernel
theorem d3_42 : decode jdk_42_method_149_code 42 = .ok (.aload 5, 2) := by decide +kernel
theorem d3_44 : decode jdk_42_method_149_code 44 = .ok (.iload_n 3, 1) := by decide +kernel
theorem d3_45 : decode jdk_42_method_149_code 45 = .ok (.invokestatic 47, 3) := by decide +kernel
theorem d3_48 : decode jdk_42_method_149_code 48 = .ok (.putfield 15, 3) := by decide +kernel
theorem d3_51 : decode jdk_42_method_149_code 51 = .ok (.aload_n 0, 1) := by decide +kernel
theorem d3_52 : decode jdk_42_method_149_code 52 = .ok (.aload 5, 2) := by decide +kernel
theorem d3_54 : decode jdk_42_method_149_code 54 = .ok (.putfield 9, 3) := by decide +kernel
theorem d3_57 : decode jdk_42_method_149_code 57 = .ok (.return_, 1) := by decide +kernel
theorem d3_58 : decode jdk_42_method_149_code 58 = .ok (.aload_n 0, 1) := by decide +kernel
theorem d3_59 : decode jdk_42_method_149_code 59 = .ok (.iconst 1, 1) := by decide +kernel
theorem d3_60 : decode jdk_42_method_149_code 60 = .ok (.putfield 15, 3) := by decide +kernel
theorem d3_63 : decode jdk_42_method_149_code 63 = .ok (.aload_n 0, 1) := by decide +kernel
theorem d3_64 : decode jdk_42_method_149_code 64 = .ok (.aload_n 1, 1) := by decide +kernel
theorem d3_65 : decode jdk_42_method_149_code 65 = .ok (.iload_n 2, 1) := by decide +kernel
theorem d3_66 : decode jdk_42_method_149_code 66 = .ok (.iload_n 3, 1) := by decide +kernel
theorem d3_67 : decode jdk_42_method_149_code 67 = .ok (.invokestatic 180, 3) := by decide +kernel
theorem d3_70 : decode jdk_42_method_149_code 70 = .ok (.putfield 9, 3) := by decide +kernel
theorem d3_73 : decode jdk_42_method_149_code 73 = .ok (.return_, 1) := by decide +kernel
theorem pn_java_lang_String : plainName "java/lang/String" = true := by first | (simp [plainName, overriddenIn]; done) | decide +kernel
theorem ef_ctSI4 (m : MethodId) (x0 : Addr) (x1 : Addr) (x2 : Int32) (x3 : Int32) : entryFrame m #[(.ref x0), (.ref x1), (.int x2), (.int x3), .null] 6 = mkF m 0 #[.val (.ref x0), .val (.ref x1), .val (.int x2), .val (.int x3), .val .null, .unset] [] := by first | (simp [entryFrame, mkF, argsToLocals, Value.category]; done) | rfl
theorem pd___CII__B : parseMethodDescriptor "([CII)[B" = some ⟨[(.array .char), .int, .int], some (.array .byte)⟩ := by decide +kernel
theorem pd___BI_B : parseMethodDescriptor "([BI)B" = some ⟨[(.array .byte), .int], some .byte⟩ := by decide +kernel
set_option maxRecDepth 65536 in
set_option maxHeartbeats 40000000 in
theorem ctSI4 (l : Launch) (Z : State) (a0 : Array Value) (hw : ∀ d ∈ tables_1, d.before a0 Z = true) (hE : EW Z a0 [("java/lang/String", 7), ("com/example/portwright/portwright/xml/XmlElementIsPinLaw", 32)]) (s a : Addr) (ka : ClassId) (cs : List Int32) (cz : Int32) (h0 : Heap) (hO : Ext Z.heap h0) (hn : cs.length < 2147483647) (hcap : cs.length ≤ 2) (hl : ∀ c ∈ cs, ¬ (255 : Int32) < c) (V_a : Arv Z h0 a ka .char (Int32.ofNat cs.length) (cs.map Value.int) (.int 0)) (E_s : Exa Z h0 s "java/lang/String") (F_v : Fld Z h0 s "java/lang/String" "value" "[B" .null) (F_c : Fld Z h0 s "java/lang/String" "coder" "B" (.int 0)) (hs0 : Z.heap.size ≤ s) (ne_a_s : a ≠ s) (hco : Sta Z Z.heap "java/lang/String" "COMPACT_STRINGS" "Z" (.int cz)) (hcz : ¬ cz = 0) :
    Ct true l Z [("java/lang/String", 7), ("com/example/portwright/portwright/xml/XmlElementIsPinLaw", 32)] [] (⟨"java/lang/String", "<init>", "([CIILjava/lang/Void;)V"⟩ : MethodName) jdk_42_method_149_code 6 none ({ frames := 2, cells := 4, slots := 8, locals := 36 } : Room) #[(.ref s), (.ref a), (.int (0 : Int32)), (.int (Int32.ofNat cs.length)), .null] h0 [s] [s] (fun v h => v = none ∧ SL Z h s (cs.map lb)) := by
  refine Ct.of_wp (a0 := a0) (Ls := #[.val (.ref s), .val (.ref a), .val (.int (0 : Int32)), .val (.int (Int32.ofNat cs.length)), .val .null, .unset]) (plainFor_of_name pn_java_lang_String) hE hO (by intro x hx; cases List.mem_singleton.mp hx; exact hs0) (fun m => ef_ctSI4 m s a (0 : Int32) (Int32.ofNat cs.length)) ?_
  have ne_a_s := ne_a_s
  refine Wp.aloadN d3_0 (pc' := 1) rfl rfl rfl ?_
  refine Wp.initO (W := 0) rfl (hw _ (List.mem_of_getElem? (i := 15) rfl)) (hw _ (List.mem_of_getElem? (i := 16) rfl)) (hw _ (List.mem_of_getElem? (i := 17) rfl)) d3_1 (pc' := 4) rfl rfl (by decide) (Nat.le_of_eq rfl) (by decide) ?_
  refine Wp.iloadN d3_4 (pc' := 5) rfl rfl ?_
  refine Wp.if_ne (pc1 := 27) (pc' := 8) d3_5 (by decide) (by decide) rfl (fun hc1 => ?_) (fun hc1 => ?_)
  · have hc1 : ¬ ((Int32.ofNat cs.length) = (0 : Int32)) := hc1
    refine Wp.getS rfl (host := "") (Or.inl (hw _ (List.mem_of_getElem? (i := 26) rfl))) Via.refl hco d3_27 (pc' := 30) rfl ?_
    refine Wp.if_eq (pc1 := 58) (pc' := 33) d3_30 (by decide) (by decide) rfl (fun hc2 => by exact absurd hc2 hcz) (fun hc2 => ?_)
    refine Wp.aloadN d3_33 (pc' := 34) rfl rfl rfl ?_
    refine Wp.iloadN d3_34 (pc' := 35) rfl rfl ?_
    refine Wp.iloadN d3_35 (pc' := 36) rfl rfl ?_
    refine Wp.old fun hOc => ?_
    refine Wp.callS (W := 0) (argsL := [(.ref a), (.int (0 : Int32)), (.int (Int32.ofNat cs.length))]) (rest := []) rfl (ctCMP3 l Z a0 hw hE a ka cs h0 hOc hn hcap hl V_a) (hw _ (List.mem_of_getElem? (i := 27) rfl)) (hw _ (List.mem_of_getElem? (i := 28) rfl)) (hw _ (List.mem_of_getElem? (i := 30) rfl)) (hw _ (List.mem_of_getElem? (i := 29) rfl)) (by decide) (lenOf pd___CII__B rfl) d3_36 rfl rfl rfl (Nat.le_of_eq rfl) (pc' := 39) rfl nofun nofun (by decide) (by decide) (k' := 1) (n' := 2) rfl rfl (by decide) (by decide) (fun vh3 h3 zh3 Kh3 qh3 => ?_)
    obtain ⟨d, kd, rfl, sb_d, V_d⟩ := qh3
    have ne_a_d : a ≠ d := Nat.ne_of_lt (Nat.lt_of_lt_of_le V_a.lt sb_d)
    have ne_s_d : s ≠ d := Nat.ne_of_lt (Nat.lt_of_lt_of_le E_s.lt sb_d)
    replace V_a := V_a.keep Kh3 nin0
    replace E_s := E_s.keep Kh3
    replace F_v := F_v.keep Kh3 nin0
    replace F_c := F_c.keep Kh3 nin0
    refine Wp.eqS (S' := [(.ref d)]) rfl ?_
    have sz_d : h0.size ≤ d := Nat.le_trans zh3 sb_d
    refine Wp.astore (l' := #[.val (.ref s), .val (.ref a), .val (.int (0 : Int32)), .val (.int (Int32.ofNat cs.length)), .val .null, .val (.ref d)]) d3_39 (pc' := 41) rfl rfl rfl ?_
    refine Wp.aloadN d3_41 (pc' := 42) rfl rfl rfl ?_
    refine Wp.aload d3_42 (pc' := 44) rfl rfl rfl ?_
    refine Wp.iloadN d3_44 (pc' := 45) rfl rfl ?_
    refine Wp.old fun hOc => ?_
    refine Wp.callS (W := 1) (argsL := [(.ref d), (.int (Int32.ofNat cs.length))]) (rest := [(.ref s)]) rfl (ctCFA l Z a0 hw hE d kd _ _ h3 hOc V_d) (hw _ (List.mem_of_getElem? (i := 34) rfl)) (hw _ (List.mem_of_getElem? (i := 35) rfl)) (hw _ (List.mem_of_getElem? (i := 36) rfl)) (hw _ (List.mem_of_getElem? (i := 29) rfl)) (by decide) (lenOf pd___BI_B rfl) d3_45 rfl rfl rfl (Nat.le_of_eq rfl) (pc' := 48) rfl nofun nofun (by decide) (by decide) (k' := 1) (n' := 2) rfl rfl (by decide) (by decide) (fun vh4 h4 zh4 Kh4 qh4 => ?_)
    obtain rfl := qh4
    replace V_a := V_a.keep Kh4 nin0
    replace E_s := E_s.keep Kh4
    replace F_v := F_v.keep Kh4 nin0
    replace F_c := F_c.keep Kh4 nin0
    replace V_d := V_d.keep Kh4 nin0
    refine Wp.eqS (S' := [(.int (0 : Int32)), (.ref s)]) rfl ?_
    refine Wp.putFN rfl (hw _ (List.mem_of_getElem? (i := 25) rfl)) Via.refl F_c E_s (Or.inr ⟨(hw _ (List.mem_of_getElem? (i := 21) rfl)), rfl, rfl⟩) (hw _ (List.mem_of_getElem? (i := 5) rfl)) (ty := .byte) (v' := .int (0 : Int32)) (by decide) rfl rfl d3_48 (pc' := 51) rfl (Or.inl (by simp)) (Sfe.mem (by simp)) (fun h5 W5 Fh5 => ?_)
    replace V_a := V_a.other W5 (by omega : a ≠ s)
    replace E_s := E_s.wr W5
    replace F_v := F_v.other W5 (Or.inr (slot_ne (Or.inr (hw _ (List.mem_of_getElem? (i := 20) rfl))) (Or.inr (hw _ (List.mem_of_getElem? (i := 21) rfl))) (by decide) (t := (.array .byte)) (t' := .byte) (by decide) (by decide)))
    replace V_d := V_d.other W5 (Ne.symm ne_s_d)
    replace F_c := Fh5
    refine Wp.aloadN d3_51 (pc' := 52) rfl rfl rfl ?_
    refine Wp.aload d3_52 (pc' := 54) rfl rfl rfl ?_
    refine Wp.putF rfl (host := "") (Or.inl (hw _ (List.mem_of_getElem? (i := 24) rfl))) Via.refl F_v E_s (Or.inr ⟨(hw _ (List.mem_of_getElem? (i := 20) rfl)), rfl, rfl⟩) (hw _ (List.mem_of_getElem? (i := 5) rfl)) (ty := (.array .byte)) (by decide) rfl rfl d3_54 (pc' := 57) rfl (Or.inl (by simp)) (Sfe.mem (by simp)) (fun h6 W6 Fh6 => ?_)
    replace V_a := V_a.other W6 (by omega : a ≠ s)
    replace E_s := E_s.wr W6
    replace F_c := F_c.other W6 (Or.inr (slot_ne (Or.inr (hw _ (List.mem_of_getElem? (i := 21) rfl))) (Or.inr (hw _ (List.mem_of_getElem? (i := 20) rfl))) (by decide) (t := .byte) (t' := (.array .byte)) (by decide) (by decide)))
    replace V_d := V_d.other W6 (Ne.symm ne_s_d)
    replace F_v := Fh6
    refine Wp.retn rfl d3_57 (by decide) (by decide) ?_
    exact ⟨rfl, E_s, F_c, _, _, F_v, by simpa [Function.comp_def] using V_d⟩
  · have hc1 : (Int32.ofNat cs.length) = (0 : Int32) := hc1
    refine Wp.aloadN d3_8 (pc' := 9) rfl rfl rfl ?_
    refine Wp.ldcC (nn := 0) (vs := []) (z := (0 : Int32)) rfl rfl (hw _ (List.mem_of_getElem? (i := 18) rfl)) (own_wS hw) (by simp) ⟨by simp, rfl⟩ (by decide) rfl d3_9 (pc' := 11) rfl (by decide) (by decide) (k' := 2) (n' := 4) rfl rfl (by decide) (by decide) (fun h7 y7 z7 k_z7 Xh7 E_y7 C_y7 Fv_y7 V_z7 N_y7 => ?_)
    replace V_a := V_a.ext Xh7
    replace E_s := E_s.ext Xh7
    replace F_v := F_v.ext Xh7
    replace F_c := F_c.ext Xh7
    have ne_s_y7 : s ≠ y7 := (N_y7 s (by simp)).1
    have ne_s_z7 : s ≠ z7 := (N_y7 s (by simp)).2
    refine Wp.getF rfl (host := "") (Or.inl (hw _ (List.mem_of_getElem? (i := 24) rfl))) Via.refl Fv_y7 d3_11 (pc' := 14) rfl ?_
    refine Wp.putF rfl (host := "") (Or.inl (hw _ (List.mem_of_getElem? (i := 24) rfl))) Via.refl F_v E_s (Or.inr ⟨(hw _ (List.mem_of_getElem? (i := 20) rfl)), rfl, rfl⟩) (hw _ (List.mem_of_getElem? (i := 5) rfl)) (ty := (.array .byte)) (by decide) rfl rfl d3_14 (pc' := 17) rfl (Or.inl (by simp)) (Sfe.mem (by simp)) (fun h8 W8 Fh8 => ?_)
    replace V_a := V_a.other W8 (by omega : a ≠ s)
    replace E_s := E_s.wr W8
    replace F_c := F_c.other W8 (Or.inr (slot_ne (Or.inr (hw _ (List.mem_of_getElem? (i := 21) rfl))) (Or.inr (hw _ (List.mem_of_getElem? (i := 20) rfl))) (by decide) (t := .byte) (t' := (.array .byte)) (by decide) (by decide)))
    replace E_y7 := E_y7.wr W8
    replace C_y7 := C_y7.other W8 (Or.inl (Ne.symm ne_s_y7))
    replace Fv_y7 := Fv_y7.other W8 (Or.inl (Ne.symm ne_s_y7))
    replace V_z7 := V_z7.other W8 (Ne.symm ne_s_z7)
    replace F_v := Fh8
    refine Wp.aloadN d3_17 (pc' := 18) rfl rfl rfl ?_
    refine Wp.ldcC (nn := 0) (vs := []) (z := (0 : Int32)) rfl rfl (hw _ (List.mem_of_getElem? (i := 18) rfl)) (own_wS hw) (by simp) ⟨by simp, rfl⟩ (by decide) rfl d3_18 (pc' := 20) rfl (by decide) (by decide) (k' := 4) (n' := 8) rfl rfl (by decide) (by decide) (fun h9 y9 z9 k_z9 Xh9 E_y9 C_y9 Fv_y9 V_z9 N_y9 => ?_)
    replace V_a := V_a.ext Xh9
    replace E_s := E_s.ext Xh9
    replace F_v := F_v.ext Xh9
    replace F_c := F_c.ext Xh9
    replace E_y7 := E_y7.ext Xh9
    replace C_y7 := C_y7.ext Xh9
    replace Fv_y7 := Fv_y7.ext Xh9
    replace V_z7 := V_z7.ext Xh9
    have ne_s_y9 : s ≠ y9 := (N_y9 s (by simp)).1
    have ne_s_z9 : s ≠ z9 := (N_y9 s (by simp)).2
    refine Wp.getF rfl (host := "") (Or.inl (hw _ (List.mem_of_getElem? (i := 25) rfl))) Via.refl C_y9 d3_20 (pc' := 23) rfl ?_
    refine Wp.putFN rfl (hw _ (List.mem_of_getElem? (i := 25) rfl)) Via.refl F_c E_s (Or.inr ⟨(hw _ (List.mem_of_getElem? (i := 21) rfl)), rfl, rfl⟩) (hw _ (List.mem_of_getElem? (i := 5) rfl)) (ty := .byte) (v' := .int (0 : Int32)) (by decide) rfl rfl d3_23 (pc' := 26) rfl (Or.inl (by simp)) (Sfe.mem (by simp)) (fun h10 W10 Fh10 => ?_)
    replace V_a := V_a.other W10 (by omega : a ≠ s)
    replace E_s := E_s.wr W10
    replace F_v := F_v.other W10 (Or.inr (slot_ne (Or.inr (hw _ (List.mem_of_getElem? (i := 20) rfl))) (Or.inr (hw _ (List.mem_of_getElem? (i := 21) rfl))) (by decide) (t := (.array .byte)) (t' := .byte) (by decide) (by decide)))
    replace E_y7 := E_y7.wr W10
    replace C_y7 := C_y7.other W10 (Or.inl (Ne.symm ne_s_y7))
    replace Fv_y7 := Fv_y7.other W10 (Or.inl (Ne.symm ne_s_y7))
    replace V_z7 := V_z7.other W10 (Ne.symm ne_s_z7)
    replace E_y9 := E_y9.wr W10
    replace C_y9 := C_y9.other W10 (Or.inl (Ne.symm ne_s_y9))
    replace Fv_y9 := Fv_y9.other W10 (Or.inl (Ne.symm ne_s_y9))
    replace V_z9 := V_z9.other W10 (Ne.symm ne_s_z9)
    replace F_c := Fh10
    refine Wp.retn rfl d3_26 (by decide) (by decide) ?_
    have e0 : cs = [] := by
      have := (on_eq (by omega) (by decide)).mp (show Int32.ofNat cs.length = Int32.ofNat 0 from hc1)
      exact List.eq_nil_of_length_eq_zero this
    subst e0
    exact ⟨rfl, E_s, F_c, _, _, F_v, V_z7⟩
theorem d2_0 : decode jdk_42_method_3_code 0 = .ok (.aload_n 0, 1) := by decide +kernel
theorem d2_1 : decode jdk_42_method_3_code 1 = .ok (.aload_n 1, 1) := by decide +kernel
theorem d2_2 : decode jdk_42_method_3_code 2 = .ok (.iconst 0, 1) := by decide +kernel
theorem d2_3 : decode jdk_42_method_3_code 3 = .ok (.aload_n 1, 1) := by decide +kernel
theorem d2_4 : decode jdk_42_method_3_code 4 = .ok (.arraylength, 1) := by decide +kernel
theorem d2_5 : decode jdk_42_method_3_code 5 = .ok (.aconst_null, 1) := by decide +kernel
theorem d2_6 : decode jdk_42_method_3_code 6 = .ok (.invokespecial 27, 3) := by decide +kernel
theorem d2_9 : decode jdk_42_method_3_code 9 = .ok (.return_, 1) := by decide +kernel
theorem ef_ctSI (m : MethodId) (x0 : Addr) (x1 : Addr) : entryFrame m #[(.ref x0), (.ref x1)] 2 = mkF m 0 #[.val (.ref x0), .val (.ref x1)] [] := by first | (simp [entryFrame, mkF, argsToLocals, Value.category]; done) | rfl
theorem pd___CIILjava_lang_Void__V : parseMethodDescriptor "([CIILjava/lang/Void;)V" = some ⟨[(.array .char), .int, .int, (.object "java/lang/Void")], none⟩ := by decide +kernel
set_option maxRecDepth 65536 in
set_option maxHeartbeats 40000000 in
theorem ctSI (l : Launch) (Z : State) (a0 : Array Value) (hw : ∀ d ∈ tables_1, d.before a0 Z = true) (hE : EW Z a0 [("java/lang/String", 7), ("com/example/portwright/portwright/xml/XmlElementIsPinLaw", 32)]) (s a : Addr) (ka : ClassId) (cs : List Int32) (cz : Int32) (h0 : Heap) (hO : Ext Z.heap h0) (hn : cs.length < 2147483647) (hcap : cs.length ≤ 2) (hl : ∀ c ∈ cs, ¬ (255 : Int32) < c) (V_a : Arv Z h0 a ka .char (Int32.ofNat cs.length) (cs.map Value.int) (.int 0)) (E_s : Exa Z h0 s "java/lang/String") (F_v : Fld Z h0 s "java/lang/String" "value" "[B" .null) (F_c : Fld Z h0 s "java/lang/String" "coder" "B" (.int 0)) (hs0 : Z.heap.size ≤ s) (ne_a_s : a ≠ s) (hco : Sta Z Z.heap "java/lang/String" "COMPACT_STRINGS" "Z" (.int cz)) (hcz : ¬ cz = 0) :
    Ct true l Z [("java/lang/String", 7), ("com/example/portwright/portwright/xml/XmlElementIsPinLaw", 32)] [] (⟨"java/lang/String", "<init>", "([C)V"⟩ : MethodName) jdk_42_method_3_code 2 none ({ frames := 3, cells := 4, slots := 8, locals := 53 } : Room) #[(.ref s), (.ref a)] h0 [s] [s] (fun v h => v = none ∧ SL Z h s (cs.map lb)) := by
  refine Ct.of_wp (a0 := a0) (Ls := #[.val (.ref s), .val (.ref a)]) (plainFor_of_name pn_java_lang_String) hE hO (by intro x hx; cases List.mem_singleton.mp hx; exact hs0) (fun m => ef_ctSI m s a) ?_
  refine Wp.aloadN d2_0 (pc' := 1) rfl rfl rfl ?_
  refine Wp.aloadN d2_1 (pc' := 2) rfl rfl rfl ?_
  refine Wp.iconst (x := (0 : Int32)) d2_2 (pc' := 3) rfl rfl ?_
  refine Wp.aloadN d2_3 (pc' := 4) rfl rfl rfl ?_
  refine Wp.alen V_a d2_4 (pc' := 5) rfl ?_
  refine Wp.aconstNull d2_5 (pc' := 6) rfl ?_
  refine Wp.old fun hOc => ?_
  refine Wp.callI (a := s) (W := 0) (argsL := [(.ref a), (.int (0 : Int32)), (.int (Int32.ofNat cs.length)), .null]) (rest := []) rfl (ctSI4 l Z a0 hw hE s a ka cs cz h0 hOc hn hcap hl V_a E_s F_v F_c hs0 ne_a_s hco hcz) rfl rfl (hw _ (List.mem_of_getElem? (i := 11) rfl)) (hw _ (List.mem_of_getElem? (i := 12) rfl)) (hw _ (List.mem_of_getElem? (i := 14) rfl)) (hw _ (List.mem_of_getElem? (i := 6) rfl)) (by decide) (lenOf pd___CIILjava_lang_Void__V rfl) d2_6 rfl rfl rfl (Nat.le_of_eq rfl) (pc' := 9) rfl (by simp) (by intro x hx; simp only [List.mem_cons, List.not_mem_nil, or_false] at hx; rcases hx with rfl; exact (Or.inl (by simp))) (by decide) (by decide) (k' := 4) (n' := 8) rfl rfl (by decide) (by decide) (fun vh1 h1 zh1 Kh1 qh1 => ?_)
  obtain ⟨rfl, S_s⟩ := qh1
  replace V_a := V_a.keep Kh1 (ninS (by omega : a ≠ s) nin0)
  replace E_s := E_s.keep Kh1
  refine Wp.eqS (S' := []) rfl ?_
  refine Wp.retn rfl d2_9 (by decide) (by decide) ?_
  exact ⟨rfl, S_s⟩
theorem d23_0 : decode jdk_43_method_13_code 0 = .ok (.aload_n 0, 1) := by decide +kernel
theorem d23_1 : decode jdk_43_method_13_code 1 = .ok (.arraylength, 1) := by decide +kernel
theorem d23_2 : decode jdk_43_method_13_code 2 = .ok (.aload_n 1, 1) := by decide +kernel
theorem d23_3 : decode jdk_43_method_13_code 3 = .ok (.arraylength, 1) := by decide +kernel
theorem d23_4 : decode jdk_43_method_13_code 4 = .ok (.if_icmp .ne 30, 3) := by decide +kernel
theorem d23_7 : decode jdk_43_method_13_code 7 = .ok (.iconst 0, 1) := by decide +kernel
theorem d23_8 : decode jdk_43_method_13_code 8 = .ok (.istore_n 2, 1) := by decide +kernel
theorem d23_9 : decode jdk_43_method_13_code 9 = .ok (.iload_n 2, 1) := by decide +kernel
theorem d23_10 : decode jdk_43_method_13_code 10 = .ok (.aload_n 0, 1) := by decide +kernel
theorem d23_11 : decode jdk_43_method_13_code 11 = .ok (.arraylength, 1) := by decide +kernel
theorem d23_12 : decode jdk_43_method_13_code 12 = .ok (.if_icmp .ge 20, 3) := by decide +kernel
theorem d23_15 : decode jdk_43_method_13_code 15 = .ok (.aload_n 0, 1) := by decide +kernel
theorem d23_16 : decode jdk_43_method_13_code 16 = .ok (.iload_n 2, 1) := by decide +kernel
theorem d23_17 : decode jdk_43_method_13_code 17 = .ok (.baload, 1) := by decide +kernel
theorem d23_18 : decode jdk_43_method_13_code 18 = .ok (.aload_n 1, 1) := by decide +kernel
theorem d23_19 : decode jdk_43_method_13_code 19 = .ok (.iload_n 2, 1) := by decide +kernel
theorem d23_20 : decode jdk_43_method_13_code 20 = .ok (.baload, 1) := by decide +kernel
theorem d23_21 : decode jdk_43_method_13_code 21 = .ok (.if_icmp .eq 5, 3) := by decide +kernel
theorem d23_24 : decode jdk_43_method_13_code 24 = .ok (.iconst 0, 1) := by decide +kernel
theorem d23_25 : decode jdk_43_method_13_code 25 = .ok (.ireturn, 1) := by decide +kernel
theorem d23_26 : decode jdk_43_method_13_code 26 = .ok (.iinc 2 1, 3) := by decide +kernel
theorem d23_29 : decode jdk_43_method_13_code 29 = .ok (.goto (-20), 3) := by decide +kernel
theorem d23_32 : decode jdk_43_method_13_code 32 = .ok (.iconst 1, 1) := by decide +kernel
theorem d23_33 : decode jdk_43_method_13_code 33 = .ok (.ireturn, 1) := by decide +kernel
theorem d23_34 : decode jdk_43_method_13_code 34 = .ok (.iconst 0, 1) := by decide +kernel
theorem d23_35 : decode jdk_43_method_13_code 35 = .ok (.ireturn, 1) := by decide +kernel
set_option maxRecDepth 65536 in
set_option maxHeartbeats 40000000 in
theorem own_lpE (l : Launch) (Z : State) (a0 : Array Value) (hw : ∀ d ∈ tables_1, d.before a0 Z = true) (hE : EW Z a0 [("java/lang/String", 7), ("com/example/portwright/portwright/xml/XmlElementIsPinLaw", 32)]) (a b : Addr) (ka kb : ClassId) (xs ys : List Int32) (hn : xs.length < 2147483647) (hl : xs.length = ys.length) (hs h : Heap) (V_a : Arv Z h a ka .byte (Int32.ofNat xs.length) (xs.map Value.int) (.int 0)) (V_b : Arv Z h b kb .byte (Int32.ofNat ys.length) (ys.map Value.int) (.int 0)) :
    ∀ (j i : Nat), i + j = xs.length → xs.take i = ys.take i →
      Wp true l Z a0 [("java/lang/String", 7), ("com/example/portwright/portwright/xml/XmlElementIsPinLaw", 32)] ({ frames := 0, cells := 0, slots := 0, locals := 0 } : Room) (⟨"java/lang/StringLatin1", "equals", "([B[B)Z"⟩ : MethodName) jdk_43_method_13_code 3 (some .boolean) hs [] (fun v h => v = some (.int (if xs = ys then 1 else 0))) h [] 0 0 9 #[.val (.ref a), .val (.ref b), .val (.int (Int32.ofNat i))] [] := by
  intro j
  induction j with
  | zero =>
    intro i hi hall
    have ei : i = xs.length := by omega
    subst ei
    have exy := all_take hl hall
    refine Wp.iloadN d23_9 (pc' := 10) rfl rfl ?_
    refine Wp.aloadN d23_10 (pc' := 11) rfl rfl rfl ?_
    refine Wp.alen V_a d23_11 (pc' := 12) rfl ?_
    refine Wp.icmp_ge (pc1 := 32) (pc' := 15) d23_12 (by decide) (by decide) rfl (fun hc101 => ?_) (fun hc101 => by exact absurd hc101 Int32.lt_irrefl)
    refine Wp.iconst (x := (1 : Int32)) d23_32 (pc' := 33) rfl rfl ?_
    refine Wp.retN (x' := (1 : Int32)) (t := .boolean) rfl (by simp) rfl d23_33 (by decide) (by decide) ?_
    rw [if_pos exy]
  | succ j ih =>
    intro i hi hall
    have hin : i < xs.length := by omega
    obtain ⟨x, hx⟩ : ∃ x, xs[i]? = some x := ⟨_, List.getElem?_eq_getElem hin⟩
    obtain ⟨y, hy⟩ : ∃ y, ys[i]? = some y := ⟨_, List.getElem?_eq_getElem (hl ▸ hin)⟩
    refine Wp.iloadN d23_9 (pc' := 10) rfl rfl ?_
    refine Wp.aloadN d23_10 (pc' := 11) rfl rfl rfl ?_
    refine Wp.alen V_a d23_11 (pc' := 12) rfl ?_
    refine Wp.icmp_ge (pc1 := 32) (pc' := 15) d23_12 (by decide) (by decide) rfl (fun hc101 => by exact absurd (on_lt (by omega) hin) hc101) (fun hc101 => ?_)
    refine Wp.aloadN d23_15 (pc' := 16) rfl rfl rfl ?_
    refine Wp.iloadN d23_16 (pc' := 17) rfl rfl ?_
    refine Wp.baload V_a (on_nneg (by omega)) (on_lt (by omega) hin) (v := .int x) (by rw [on_clamp (by omega)]; simp [List.getD_eq_getElem?_getD, hx]) d23_17 (pc' := 18) rfl ?_
    refine Wp.aloadN d23_18 (pc' := 19) rfl rfl rfl ?_
    refine Wp.iloadN d23_19 (pc' := 20) rfl rfl ?_
    refine Wp.baload V_b (on_nneg (by omega)) (on_lt (by omega) (hl ▸ hin)) (v := .int y) (by rw [on_clamp (by omega)]; simp [List.getD_eq_getElem?_getD, hy]) d23_20 (pc' := 21) rfl ?_
    refine Wp.icmp_eq (pc1 := 26) (pc' := 24) d23_21 (by decide) (by decide) rfl (fun hc102 => ?_) (fun hc102 => ?_)
    · have hc102 : x = y := hc102
      refine Wp.iinc (l' := #[.val (.ref a), .val (.ref b), .val (.int ((Int32.ofNat i) + (1 : Int32)))]) d23_26 (pc' := 29) rfl rfl rfl ?_
      refine Wp.goto (pc' := 9) d23_29 (by decide) (by decide) ?_
      rw [on_succ]
      exact ih (i + 1) (by omega) ((take_step hx hy hall).mpr hc102)
    · have hc102 : ¬ (x = y) := hc102
      refine Wp.iconst (x := (0 : Int32)) d23_24 (pc' := 25) rfl rfl ?_
      refine Wp.retN (x' := (0 : Int32)) (t := .boolean) rfl (by simp) rfl d23_25 (by decide) (by decide) ?_
      rw [if_neg (ne_at hx hy hc102)]
theorem pn_java_lang_StringLatin1 : plainName "java/lang/StringLatin1" = true := by first | (simp [plainName, overriddenIn]; done) | decide +kernel
theorem ef_ctLEQ (m : MethodId) (x0 : Addr) (x1 : Addr) : entryFrame m #[(.ref x0), (.ref x1)] 3 = mkF m 0 #[.val (.ref x0), .val (.ref x1), .unset] [] := by first | (simp [entryFrame, mkF, argsToLocals, Value.category]; done) | rfl
set_option maxRecDepth 65536 in
set_option maxHeartbeats 40000000 in
theorem ctLEQ (l : Launch) (Z : State) (a0 : Array Value) (hw : ∀ d ∈ tables_1, d.before a0 Z = true) (hE : EW Z a0 [("java/lang/String", 7), ("com/example/portwright/portwright/xml/XmlElementIsPinLaw", 32)]) (a b : Addr) (ka kb : ClassId) (xs ys : List Int32) (h0 : Heap) (hO : Ext Z.heap h0) (hn : xs.length < 2147483647) (hm : ys.length < 2147483647) (V_a : Arv Z h0 a ka .byte (Int32.ofNat xs.length) (xs.map Value.int) (.int 0)) (V_b : Arv Z h0 b kb .byte (Int32.ofNat ys.length) (ys.map Value.int) (.int 0)) :
    Ct true l Z [("java/lang/String", 7), ("com/example/portwright/portwright/xml/XmlElementIsPinLaw", 32)] [] (⟨"java/lang/StringLatin1", "equals", "([B[B)Z"⟩ : MethodName) jdk_43_method_13_code 3 (some .boolean) ({ frames := 0, cells := 0, slots := 0, locals := 0 } : Room) #[(.ref a), (.ref b)] h0 [] [] (fun v h => v = some (.int (if xs = ys then 1 else 0))) := by
  refine Ct.of_wp (a0 := a0) (Ls := #[.val (.ref a), .val (.ref b), .unset]) (plainFor_of_name pn_java_lang_StringLatin1) hE hO nofun (fun m => ef_ctLEQ m a b) ?_
  refine Wp.aloadN d23_0 (pc' := 1) rfl rfl rfl ?_
  refine Wp.alen V_a d23_1 (pc' := 2) rfl ?_
  refine Wp.aloadN d23_2 (pc' := 3) rfl rfl rfl ?_
  refine Wp.alen V_b d23_3 (pc' := 4) rfl ?_
  refine Wp.icmp_ne (pc1 := 34) (pc' := 7) d23_4 (by decide) (by decide) rfl (fun hc1 => ?_) (fun hc1 => ?_)
  · have hc1 : ¬ ((Int32.ofNat xs.length) = (Int32.ofNat ys.length)) := hc1
    refine Wp.iconst (x := (0 : Int32)) d23_34 (pc' := 35) rfl rfl ?_
    refine Wp.retN (x' := (0 : Int32)) (t := .boolean) rfl (by simp) rfl d23_35 (by decide) (by decide) ?_
    rw [if_neg (ne_len hn hm hc1)]
  · have hc1 : (Int32.ofNat xs.length) = (Int32.ofNat ys.length) := hc1
    refine Wp.iconst (x := (0 : Int32)) d23_7 (pc' := 8) rfl rfl ?_
    refine Wp.istoreN (l' := #[.val (.ref a), .val (.ref b), .val (.int (0 : Int32))]) d23_8 (pc' := 9) rfl rfl ?_
    have el : xs.length = ys.length := (on_eq (by omega) (by omega)).mp hc1
    exact own_lpE l Z a0 hw hE a b ka kb xs ys hn el h0 h0 V_a V_b xs.length 0 (by omega) rfl
theorem d22_0 : decode jdk_42_method_66_code 0 = .ok (.aload_n 0, 1) := by decide +kernel
theorem d22_1 : decode jdk_42_method_66_code 1 = .ok (.aload_n 1, 1) := by decide +kernel
theorem d22_2 : decode jdk_42_method_66_code 2 = .ok (.if_acmp .ne 5, 3) := by decide +kernel
theorem d22_5 : decode jdk_42_method_66_code 5 = .ok (.iconst 1, 1) := by decide +kernel
theorem d22_6 : decode jdk_42_method_66_code 6 = .ok (.ireturn, 1) := by decide +kernel
theorem d22_7 : decode jdk_42_method_66_code 7 = .ok (.aload_n 1, 1) := by decide +kernel
theorem d22_8 : decode jdk_42_method_66_code 8 = .ok (.instanceof 10, 3) := by decide +kernel
theorem d22_11 : decode jdk_42_method_66_code 11 = .ok (.ifCond .eq 43, 3) := by decide +kernel
theorem d22_14 : decode jdk_42_method_66_code 14 = .ok (.aload_n 1, 1) := by decide +kernel
theorem d22_15 : decode jdk_42_method_66_code 15 = .ok (.checkcast 10, 3) := by decide +kernel
theorem d22_18 : decode jdk_42_method_66_code 18 = .ok (.astore_n 2, 1) := by decide +kernel
theorem d22_19 : decode jdk_42_method_66_code 19 = .ok (.getstatic 38, 3) := by decide +kernel
theorem d22_22 : decode jdk_42_method_66_code 22 = .ok (.ifCond .eq 14, 3) := by decide +kernel
theorem d22_25 : decode jdk_42_method_66_code 25 = .ok (.aload_n 0, 1) := by decide +kernel
theorem d22_26 : decode jdk_42_method_66_code 26 = .ok (.getfield 15, 3) := by decide +kernel
theorem d22_29 : decode jdk_42_method_66_code 29 = .ok (.aload_n 2, 1) := by decide +kernel
theorem d22_30 : decode jdk_42_method_66_code 30 = .ok (.getfield 15, 3) := by decide +kernel
theorem d22_33 : decode jdk_42_method_66_code 33 = .ok (.if_icmp .ne 21, 3) := by decide +kernel
theorem d22_36 : decode jdk_42_method_66_code 36 = .ok (.aload_n 0, 1) := by decide +kernel
theorem d22_37 : decode jdk_42_method_66_code 37 = .ok (.getfield 9, 3) := by decide +kernel
theorem d22_40 : decode jdk_42_method_66_code 40 = .ok (.aload_n 2, 1) := by decide +kernel
theorem d22_41 : decode jdk_42_method_66_code 41 = .ok (.getfield 9, 3) := by decide +kernel
theorem d22_44 : decode jdk_42_method_66_code 44 = .ok (.invokestatic 541, 3) := by decide +kernel
theorem d22_47 : decode jdk_42_method_66_code 47 = .ok (.ifCond .eq 7, 3) := by decide +kernel
theorem d22_50 : decode jdk_42_method_66_code 50 = .ok (.iconst 1, 1) := by decide +kernel
theorem d22_51 : decode jdk_42_method_66_code 51 = .ok (.goto 4, 3) := by decide +kernel
theorem d22_54 : decode jdk_42_method_66_code 54 = .ok (.iconst 0, 1) := by decide +kernel
theorem d22_55 : decode jdk_42_method_66_code 55 = .ok (.ireturn, 1) := by decide +kernel
theorem ef_ctEQ (m : MethodId) (x0 : Addr) (x1 : Addr) : entryFrame m #[(.ref x0), (.ref x1)] 3 = mkF m 0 #[.val (.ref x0), .val (.ref x1), .unset] [] := by first | (simp [entryFrame, mkF, argsToLocals, Value.category]; done) | rfl
theorem pd___B_B_Z : parseMethodDescriptor "([B[B)Z" = some ⟨[(.array .byte), (.array .byte)], some .boolean⟩ := by decide +kernel
set_option maxRecDepth 65536 in
set_option maxHeartbeats 40000000 in
theorem ctEQ (l : Launch) (Z : State) (a0 : Array Value) (hw : ∀ d ∈ tables_1, d.before a0 Z = true) (hE : EW Z a0 [("java/lang/String", 7), ("com/example/portwright/portwright/xml/XmlElementIsPinLaw", 32)]) (s t : Addr) (xs ys : List Int32) (cz : Int32) (h0 : Heap) (hO : Ext Z.heap h0) (hn : xs.length < 2147483647) (hm : ys.length < 2147483647) (S_s : SL Z h0 s xs) (S_t : SL Z h0 t ys) (hst : s ≠ t) (hco : Sta Z Z.heap "java/lang/String" "COMPACT_STRINGS" "Z" (.int cz)) (hcz : ¬ cz = 0) :
    Ct true l Z [("java/lang/String", 7), ("com/example/portwright/portwright/xml/XmlElementIsPinLaw", 32)] [] (⟨"java/lang/String", "equals", "(Ljava/lang/Object;)Z"⟩ : MethodName) jdk_42_method_66_code 3 (some .boolean) ({ frames := 1, cells := 0, slots := 0, locals := 14 } : Room) #[(.ref s), (.ref t)] h0 [] [] (fun v h => v = some (.int (if xs = ys then 1 else 0))) := by
  refine Ct.of_wp (a0 := a0) (Ls := #[.val (.ref s), .val (.ref t), .unset]) (plainFor_of_name pn_java_lang_String) hE hO nofun (fun m => ef_ctEQ m s t) ?_
  obtain ⟨E_s, C_s, ba, ka, D_s, V_a⟩ := S_s
  obtain ⟨E_t, C_t, bb, kb, D_t, V_b⟩ := S_t
  refine Wp.aloadN d22_0 (pc' := 1) rfl rfl rfl ?_
  refine Wp.aloadN d22_1 (pc' := 2) rfl rfl rfl ?_
  refine Wp.acmp_ne (pc1 := 7) (pc' := 5) rfl rfl d22_2 (by decide) (by decide) rfl (fun hc1 => ?_) (fun hc1 => by exact absurd (Value.ref.inj hc1) hst)
  refine Wp.aloadN d22_7 (pc' := 8) rfl rfl rfl ?_
  refine Wp.instY rfl (hw _ (List.mem_of_getElem? (i := 44) rfl)) (Ins.self E_t) d22_8 (pc' := 11) rfl ?_
  refine Wp.if_eq (pc1 := 54) (pc' := 14) d22_11 (by decide) (by decide) rfl (fun hc2 => by exact absurd hc2 (by decide)) (fun hc2 => ?_)
  refine Wp.aloadN d22_14 (pc' := 15) rfl rfl rfl ?_
  refine Wp.castY rfl (hw _ (List.mem_of_getElem? (i := 44) rfl)) (Ins.self E_t) d22_15 (pc' := 18) rfl ?_
  refine Wp.astoreN (l' := #[.val (.ref s), .val (.ref t), .val (.ref t)]) d22_18 (pc' := 19) rfl rfl rfl ?_
  refine Wp.getS rfl (host := "") (Or.inl (hw _ (List.mem_of_getElem? (i := 26) rfl))) Via.refl hco d22_19 (pc' := 22) rfl ?_
  refine Wp.if_eq (pc1 := 36) (pc' := 25) d22_22 (by decide) (by decide) rfl (fun hc3 => by exact absurd hc3 hcz) (fun hc3 => ?_)
  refine Wp.aloadN d22_25 (pc' := 26) rfl rfl rfl ?_
  refine Wp.getF rfl (host := "") (Or.inl (hw _ (List.mem_of_getElem? (i := 25) rfl))) Via.refl C_s d22_26 (pc' := 29) rfl ?_
  refine Wp.aloadN d22_29 (pc' := 30) rfl rfl rfl ?_
  refine Wp.getF rfl (host := "") (Or.inl (hw _ (List.mem_of_getElem? (i := 25) rfl))) Via.refl C_t d22_30 (pc' := 33) rfl ?_
  refine Wp.icmp_ne (pc1 := 54) (pc' := 36) d22_33 (by decide) (by decide) rfl (fun hc4 => by exact absurd hc4 (by decide)) (fun hc4 => ?_)
  refine Wp.aloadN d22_36 (pc' := 37) rfl rfl rfl ?_
  refine Wp.getF rfl (host := "") (Or.inl (hw _ (List.mem_of_getElem? (i := 24) rfl))) Via.refl D_s d22_37 (pc' := 40) rfl ?_
  refine Wp.aloadN d22_40 (pc' := 41) rfl rfl rfl ?_
  refine Wp.getF rfl (host := "") (Or.inl (hw _ (List.mem_of_getElem? (i := 24) rfl))) Via.refl D_t d22_41 (pc' := 44) rfl ?_
  refine Wp.old fun hOc => ?_
  refine Wp.callS (W := 0) (argsL := [(.ref ba), (.ref bb)]) (rest := []) rfl (ctLEQ l Z a0 hw hE ba bb ka kb xs ys h0 hOc hn hm V_a V_b) (hw _ (List.mem_of_getElem? (i := 136) rfl)) (hw _ (List.mem_of_getElem? (i := 137) rfl)) (hw _ (List.mem_of_getElem? (i := 138) rfl)) (hw _ (List.mem_of_getElem? (i := 42) rfl)) (by decide) (lenOf pd___B_B_Z rfl) d22_44 rfl rfl rfl (Nat.le_of_eq rfl) (pc' := 47) rfl nofun nofun (by decide) (by decide) (k' := 0) (n' := 0) rfl rfl (by decide) (by decide) (fun vh5 h5 zh5 Kh5 qh5 => ?_)
  obtain rfl := qh5
  refine Wp.eqS (S' := [(.int (if xs = ys then (1 : Int32) else 0))]) rfl ?_
  refine Wp.if_eq (pc1 := 54) (pc' := 50) d22_47 (by decide) (by decide) rfl (fun hc6 => ?_) (fun hc6 => ?_)
  · have hc6 : (if xs = ys then (1 : Int32) else 0) = (0 : Int32) := hc6
    refine Wp.iconst (x := (0 : Int32)) d22_54 (pc' := 55) rfl rfl ?_
    refine Wp.retN (x' := (0 : Int32)) (t := .boolean) rfl (by simp) rfl d22_55 (by decide) (by decide) ?_
    have q := hc6
    simp at q
    simp [q]
  · have hc6 : ¬ ((if xs = ys then (1 : Int32) else 0) = (0 : Int32)) := hc6
    refine Wp.iconst (x := (1 : Int32)) d22_50 (pc' := 51) rfl rfl ?_
    refine Wp.goto (pc' := 55) d22_51 (by decide) (by decide) ?_
    refine Wp.retN (x' := (1 : Int32)) (t := .boolean) rfl (by simp) rfl d22_55 (by decide) (by decide) ?_
    have q := hc6
    simp at q
    simp [q]
theorem ef_ctEQS (m : MethodId) (x0 : Addr) (x1 : Addr) : entryFrame m #[(.ref x0), (.ref x1)] 3 = mkF m 0 #[.val (.ref x0), .val (.ref x1), .unset] [] := by first | (simp [entryFrame, mkF, argsToLocals, Value.category]; done) | rfl
set_option maxRecDepth 65536 in
set_option maxHeartbeats 40000000 in
theorem ctEQS (l : Launch) (Z : State) (a0 : Array Value) (hw : ∀ d ∈ tables_1, d.before a0 Z = true) (hE : EW Z a0 [("java/lang/String", 7), ("com/example/portwright/portwright/xml/XmlElementIsPinLaw", 32)]) (s : Addr) (h0 : Heap) (hO : Ext Z.heap h0) :
    Ct true l Z [("java/lang/String", 7), ("com/example/portwright/portwright/xml/XmlElementIsPinLaw", 32)] [] (⟨"java/lang/String", "equals", "(Ljava/lang/Object;)Z"⟩ : MethodName) jdk_42_method_66_code 3 (some .boolean) ({ frames := 1, cells := 0, slots := 0, locals := 14 } : Room) #[(.ref s), (.ref s)] h0 [] [] (fun v h => v = some (.int 1)) := by
  refine Ct.of_wp (a0 := a0) (Ls := #[.val (.ref s), .val (.ref s), .unset]) (plainFor_of_name pn_java_lang_String) hE hO nofun (fun m => ef_ctEQS m s s) ?_
  refine Wp.aloadN d22_0 (pc' := 1) rfl rfl rfl ?_
  refine Wp.aloadN d22_1 (pc' := 2) rfl rfl rfl ?_
  refine Wp.acmp_ne (pc1 := 7) (pc' := 5) rfl rfl d22_2 (by decide) (by decide) rfl (fun hc1 => by exact absurd rfl hc1) (fun hc1 => ?_)
  refine Wp.iconst (x := (1 : Int32)) d22_5 (pc' := 6) rfl rfl ?_
  refine Wp.retN (x' := (1 : Int32)) (t := .boolean) rfl (by simp) rfl d22_6 (by decide) (by decide) ?_
  rfl
theorem d9_0 : decode jdk_43_method_3_code 0 = .ok (.iload_n 0, 1) := by decide +kernel
theorem d9_1 : decode jdk_43_method_3_code 1 = .ok (.sipush 255, 3) := by decide +kernel
theorem d9_4 : decode jdk_43_method_3_code 4 = .ok (.if_icmp .gt 7, 3) := by decide +kernel
theorem d9_7 : decode jdk_43_method_3_code 7 = .ok (.iconst 1, 1) := by decide +kernel
theorem d9_8 : decode jdk_43_method_3_code 8 = .ok (.goto 4, 3) := by decide +kernel
theorem d9_11 : decode jdk_43_method_3_code 11 = .ok (.iconst 0, 1) := by decide +kernel
theorem d9_12 : decode jdk_43_method_3_code 12 = .ok (.ireturn, 1) := by decide +kernel
theorem ef_ctCAN (m : MethodId) (x0 : Int32) : entryFrame m #[(.int x0)] 1 = mkF m 0 #[.val (.int x0)] [] := by first | (simp [entryFrame, mkF, argsToLocals, Value.category]; done) | rfl
set_option maxRecDepth 65536 in
set_option maxHeartbeats 40000000 in
theorem ctCAN (l : Launch) (Z : State) (a0 : Array Value) (hw : ∀ d ∈ tables_1, d.before a0 Z = true) (hE : EW Z a0 [("java/lang/String", 7), ("com/example/portwright/portwright/xml/XmlElementIsPinLaw", 32)]) (c : Int32) (h0 : Heap) (hO : Ext Z.heap h0) (hc0 : ¬ (255 : Int32) < c) :
    Ct true l Z [("java/lang/String", 7), ("com/example/portwright/portwright/xml/XmlElementIsPinLaw", 32)] [] (⟨"java/lang/StringLatin1", "canEncode", "(C)Z"⟩ : MethodName) jdk_43_method_3_code 1 (some .boolean) ({ frames := 0, cells := 0, slots := 0, locals := 0 } : Room) #[(.int c)] h0 [] [] (fun v h => v = some (.int 1)) := by
  refine Ct.of_wp (a0 := a0) (Ls := #[.val (.int c)]) (plainFor_of_name pn_java_lang_StringLatin1) hE hO nofun (fun m => ef_ctCAN m c) ?_
  refine Wp.iloadN d9_0 (pc' := 1) rfl rfl ?_
  refine Wp.sipush (x := (255 : Int32)) d9_1 (pc' := 4) rfl rfl ?_
  refine Wp.icmp_gt (pc1 := 11) (pc' := 7) d9_4 (by decide) (by decide) rfl (fun hc1 => by exact absurd hc1 hc0) (fun hc1 => ?_)
  refine Wp.iconst (x := (1 : Int32)) d9_7 (pc' := 8) rfl rfl ?_
  refine Wp.goto (pc' := 12) d9_8 (by decide) (by decide) ?_
  refine Wp.retN (x' := (1 : Int32)) (t := .boolean) rfl (by simp) rfl d9_12 (by decide) (by decide) ?_
  rfl
theorem d10_0 : decode jdk_43_method_46_code 0 = .ok (.iconst 1, 1) := by decide +kernel
theorem d10_1 : decode jdk_43_method_46_code 1 = .ok (.newarray .byte, 2) := by decide +kernel
theorem d10_3 : decode jdk_43_method_46_code 3 = .ok (.dup, 1) := by decide +kernel
theorem d10_4 : decode jdk_43_method_46_code 4 = .ok (.iconst 0, 1) := by decide +kernel
theorem d10_5 : decode jdk_43_method_46_code 5 = .ok (.iload_n 0, 1) := by decide +kernel
theorem d10_6 : decode jdk_43_method_46_code 6 = .ok (.i2b, 1) := by decide +kernel
theorem d10_7 : decode jdk_43_method_46_code 7 = .ok (.bastore, 1) := by decide +kernel
theorem d10_8 : decode jdk_43_method_46_code 8 = .ok (.areturn, 1) := by decide +kernel
theorem ef_ctTOB (m : MethodId) (x0 : Int32) : entryFrame m #[(.int x0)] 1 = mkF m 0 #[.val (.int x0)] [] := by first | (simp [entryFrame, mkF, argsToLocals, Value.category]; done) | rfl
set_option maxRecDepth 65536 in
set_option maxHeartbeats 40000000 in
theorem ctTOB (l : Launch) (Z : State) (a0 : Array Value) (hw : ∀ d ∈ tables_1, d.before a0 Z = true) (hE : EW Z a0 [("java/lang/String", 7), ("com/example/portwright/portwright/xml/XmlElementIsPinLaw", 32)]) (c : Int32) (h0 : Heap) (hO : Ext Z.heap h0) :
    Ct true l Z [("java/lang/String", 7), ("com/example/portwright/portwright/xml/XmlElementIsPinLaw", 32)] [] (⟨"java/lang/StringLatin1", "toBytes", "(C)[B"⟩ : MethodName) jdk_43_method_46_code 1 (some (.array .byte)) ({ frames := 0, cells := 1, slots := 1, locals := 0 } : Room) #[(.int c)] h0 [] [] (fun v h => ∃ d kd, v = some (.ref d) ∧ h0.size ≤ d ∧ Arv Z h d kd .byte (1 : Int32) [.int (lb c)] (.int 0)) := by
  refine Ct.of_wp (a0 := a0) (Ls := #[.val (.int c)]) (plainFor_of_name pn_java_lang_StringLatin1) hE hO nofun (fun m => ef_ctTOB m c) ?_
  refine Wp.iconst (x := (1 : Int32)) d10_0 (pc' := 1) rfl rfl ?_
  refine Wp.newP (cap := 1) (hw _ (List.mem_of_getElem? (i := 19) rfl)) (by decide) (by decide) (by decide) d10_1 (pc' := 3) rfl (k' := 1) (n' := 1) rfl rfl (by decide) (by decide) (fun h1 b1 k_b1 g_b1 sz_b1 Xh1 V_b1 => ?_)
  replace V_b1 : Arv Z h1 b1 k_b1 .byte (1 : Int32) [(.int (0 : Int32))] (.int (0 : Int32)) := V_b1.pad (pad_rep [] (.int (0 : Int32)) 1)
  refine Wp.dup d10_3 (pc' := 4) rfl rfl ?_
  refine Wp.iconst (x := (0 : Int32)) d10_4 (pc' := 5) rfl rfl ?_
  refine Wp.iloadN d10_5 (pc' := 6) rfl rfl ?_
  refine Wp.i2b d10_6 (pc' := 7) rfl ?_
  refine Wp.bastore V_b1 (by decide) (by decide) (i := 0) rfl (Nat.le_of_ble_eq_true rfl) d10_7 (pc' := 8) rfl (Or.inr sz_b1) (Sfe.mem (by simp)) (fun h2 W2 Vh2 => ?_)
  replace V_b1 : Arv Z h2 b1 k_b1 .byte (1 : Int32) [(.int (nar .byte (c.toInt8.toInt32)))] (.int (0 : Int32)) := Vh2
  refine Wp.retA rfl rfl rfl d10_8 (by decide) (by decide) ?_
  rw [nar_lb c] at V_b1
  exact ⟨_, k_b1, rfl, sz_b1, V_b1⟩
theorem d11_0 : decode jdk_42_method_151_code 0 = .ok (.aload_n 0, 1) := by decide +kernel
theorem d11_1 : decode jdk_42_method_151_code 1 = .ok (.invokespecial 1, 3) := by decide +kernel
theorem d11_4 : decode jdk_42_method_151_code 4 = .ok (.aload_n 0, 1) := by decide +kernel
theorem d11_5 : decode jdk_42_method_151_code 5 = .ok (.aload_n 1, 1) := by decide +kernel
theorem d11_6 : decode jdk_42_method_151_code 6 = .ok (.putfield 9, 3) := by decide +kernel
theorem d11_9 : decode jdk_42_method_151_code 9 = .ok (.aload_n 0, 1) := by decide +kernel
theorem d11_10 : decode jdk_42_method_151_code 10 = .ok (.iload_n 2, 1) := by decide +kernel
theorem d11_11 : decode jdk_42_method_151_code 11 = .ok (.putfield 15, 3) := by decide +kernel
theorem d11_14 : decode jdk_42_method_151_code 14 = .ok (.return_, 1) := by decide +kernel
theorem ef_ctSIB (m : MethodId) (x0 : Addr) (x1 : Addr) (x2 : Int32) : entryFrame m #[(.ref x0), (.ref x1), (.int x2)] 3 = mkF m 0 #[.val (.ref x0), .val (.ref x1), .val (.int x2)] [] := by first | (simp [entryFrame, mkF, argsToLocals, Value.category]; done) | rfl
set_option maxRecDepth 65536 in
set_option maxHeartbeats 40000000 in
theorem ctSIB (l : Launch) (Z : State) (a0 : Array Value) (hw : ∀ d ∈ tables_1, d.before a0 Z = true) (hE : EW Z a0 [("java/lang/String", 7), ("com/example/portwright/portwright/xml/XmlElementIsPinLaw", 32)]) (s d : Addr) (h0 : Heap) (hO : Ext Z.heap h0) (E_s : Exa Z h0 s "java/lang/String") (F_v : Fld Z h0 s "java/lang/String" "value" "[B" .null) (F_c : Fld Z h0 s "java/lang/String" "coder" "B" (.int 0)) (hs0 : Z.heap.size ≤ s) :
    Ct true l Z [("java/lang/String", 7), ("com/example/portwright/portwright/xml/XmlElementIsPinLaw", 32)] [] (⟨"java/lang/String", "<init>", "([BB)V"⟩ : MethodName) jdk_42_method_151_code 3 none ({ frames := 1, cells := 0, slots := 0, locals := 12 } : Room) #[(.ref s), (.ref d), (.int (0 : Int32))] h0 [s] [s] (fun v h => v = none ∧ Exa Z h s "java/lang/String" ∧ Fld Z h s "java/lang/String" "coder" "B" (.int 0) ∧ Fld Z h s "java/lang/String" "value" "[B" (.ref d)) := by
  refine Ct.of_wp (a0 := a0) (Ls := #[.val (.ref s), .val (.ref d), .val (.int (0 : Int32))]) (plainFor_of_name pn_java_lang_String) hE hO (by intro x hx; cases List.mem_singleton.mp hx; exact hs0) (fun m => ef_ctSIB m s d (0 : Int32)) ?_
  refine Wp.aloadN d11_0 (pc' := 1) rfl rfl rfl ?_
  refine Wp.initO (W := 0) rfl (hw _ (List.mem_of_getElem? (i := 15) rfl)) (hw _ (List.mem_of_getElem? (i := 16) rfl)) (hw _ (List.mem_of_getElem? (i := 17) rfl)) d11_1 (pc' := 4) rfl rfl (by decide) (Nat.le_of_eq rfl) (by decide) ?_
  refine Wp.aloadN d11_4 (pc' := 5) rfl rfl rfl ?_
  refine Wp.aloadN d11_5 (pc' := 6) rfl rfl rfl ?_
  refine Wp.putF rfl (host := "") (Or.inl (hw _ (List.mem_of_getElem? (i := 24) rfl))) Via.refl F_v E_s (Or.inr ⟨(hw _ (List.mem_of_getElem? (i := 20) rfl)), rfl, rfl⟩) (hw _ (List.mem_of_getElem? (i := 5) rfl)) (ty := (.array .byte)) (by decide) rfl rfl d11_6 (pc' := 9) rfl (Or.inl (by simp)) (Sfe.mem (by simp)) (fun h1 W1 Fh1 => ?_)
  replace E_s := E_s.wr W1
  replace F_c := F_c.other W1 (Or.inr (slot_ne (Or.inr (hw _ (List.mem_of_getElem? (i := 21) rfl))) (Or.inr (hw _ (List.mem_of_getElem? (i := 20) rfl))) (by decide) (t := .byte) (t' := (.array .byte)) (by decide) (by decide)))
  replace F_v := Fh1
  refine Wp.aloadN d11_9 (pc' := 10) rfl rfl rfl ?_
  refine Wp.iloadN d11_10 (pc' := 11) rfl rfl ?_
  refine Wp.putFN rfl (hw _ (List.mem_of_getElem? (i := 25) rfl)) Via.refl F_c E_s (Or.inr ⟨(hw _ (List.mem_of_getElem? (i := 21) rfl)), rfl, rfl⟩) (hw _ (List.mem_of_getElem? (i := 5) rfl)) (ty := .byte) (v' := .int (0 : Int32)) (by decide) rfl rfl d11_11 (pc' := 14) rfl (Or.inl (by simp)) (Sfe.mem (by simp)) (fun h2 W2 Fh2 => ?_)
  replace E_s := E_s.wr W2
  replace F_v := F_v.other W2 (Or.inr (slot_ne (Or.inr (hw _ (List.mem_of_getElem? (i := 20) rfl))) (Or.inr (hw _ (List.mem_of_getElem? (i := 21) rfl))) (by decide) (t := (.array .byte)) (t' := .byte) (by decide) (by decide)))
  replace F_c := Fh2
  refine Wp.retn rfl d11_14 (by decide) (by decide) ?_
  exact ⟨rfl, E_s, F_c, F_v⟩
theorem d8_0 : decode jdk_42_method_139_code 0 = .ok (.getstatic 38, 3) := by decide +kernel
theorem d8_3 : decode jdk_42_method_139_code 3 = .ok (.ifCond .eq 23, 3) := by decide +kernel
theorem d8_6 : decode jdk_42_method_139_code 6 = .ok (.iload_n 0, 1) := by decide +kernel
theorem d8_7 : decode jdk_42_method_139_code 7 = .ok (.invokestatic 1015, 3) := by decide +kernel
theorem d8_10 : decode jdk_42_method_139_code 10 = .ok (.ifCond .eq 16, 3) := by decide +kernel
theorem d8_13 : decode jdk_42_method_139_code 13 = .ok (.new 10, 3) := by decide +kernel
theorem d8_16 : decode jdk_42_method_139_code 16 = .ok (.dup, 1) := by decide +kernel
theorem d8_17 : decode jdk_42_method_139_code 17 = .ok (.iload_n 0, 1) := by decide +kernel
theorem d8_18 : decode jdk_42_method_139_code 18 = .ok (.invokestatic 1018, 3) := by decide +kernel
theorem d8_21 : decode jdk_42_method_139_code 21 = .ok (.iconst 0, 1) := by decide +kernel
theorem d8_22 : decode jdk_42_method_139_code 22 = .ok (.invokespecial 209, 3) := by decide +kernel
theorem d8_25 : decode jdk_42_method_139_code 25 = .ok (.areturn, 1) := by decide +kernel
theorem d8_26 : decode jdk_42_method_139_code 26 = .ok (.new 10, 3) := by decide +kernel
theorem d8_29 : decode jdk_42_method_139_code 29 = .ok (.dup, 1) := by decide +kernel
theorem d8_30 : decode jdk_42_method_139_code 30 = .ok (.iload_n 0, 1) := by decide +kernel
theorem d8_31 : decode jdk_42_method_139_code 31 = .ok (.invokestatic 1021, 3) := by decide +kernel
theorem d8_34 : decode jdk_42_method_139_code 34 = .ok (.iconst 1, 1) := by decide +kernel
theorem d8_35 : decode jdk_42_method_139_code 35 = .ok (.invokespecial 209, 3) := by decide +kernel
theorem d8_38 : decode jdk_42_method_139_code 38 = .ok (.areturn, 1) := by decide +kernel
theorem ef_ctVOF (m : MethodId) (x0 : Int32) : entryFrame m #[(.int x0)] 1 = mkF m 0 #[.val (.int x0)] [] := by first | (simp [entryFrame, mkF, argsToLocals, Value.category]; done) | rfl
theorem pd__C_Z : parseMethodDescriptor "(C)Z" = some ⟨[.char], some .boolean⟩ := by decide +kernel
theorem pd__C__B : parseMethodDescriptor "(C)[B" = some ⟨[.char], some (.array .byte)⟩ := by decide +kernel
theorem pd___BB_V : parseMethodDescriptor "([BB)V" = some ⟨[(.array .byte), .byte], none⟩ := by decide +kernel
set_option maxRecDepth 65536 in
set_option maxHeartbeats 40000000 in
theorem ctVOF (l : Launch) (Z : State) (a0 : Array Value) (hw : ∀ d ∈ tables_1, d.before a0 Z = true) (hE : EW Z a0 [("java/lang/String", 7), ("com/example/portwright/portwright/xml/XmlElementIsPinLaw", 32)]) (c cz : Int32) (h0 : Heap) (hO : Ext Z.heap h0) (hc0 : ¬ (255 : Int32) < c) (hco : Sta Z Z.heap "java/lang/String" "COMPACT_STRINGS" "Z" (.int cz)) (hcz : ¬ cz = 0) :
    Ct true l Z [("java/lang/String", 7), ("com/example/portwright/portwright/xml/XmlElementIsPinLaw", 32)] [] (⟨"java/lang/String", "valueOf", "(C)Ljava/lang/String;"⟩ : MethodName) jdk_42_method_139_code 1 (some (.object "java/lang/String")) ({ frames := 2, cells := 2, slots := 5, locals := 27 } : Room) #[(.int c)] h0 [] [] (fun v h => ∃ s, v = some (.ref s) ∧ h0.size ≤ s ∧ SL Z h s [lb c]) := by
  refine Ct.of_wp (a0 := a0) (Ls := #[.val (.int c)]) (plainFor_of_name pn_java_lang_String) hE hO nofun (fun m => ef_ctVOF m c) ?_
  refine Wp.getS rfl (host := "") (Or.inl (hw _ (List.mem_of_getElem? (i := 26) rfl))) Via.refl hco d8_0 (pc' := 3) rfl ?_
  refine Wp.if_eq (pc1 := 26) (pc' := 6) d8_3 (by decide) (by decide) rfl (fun hc1 => by exact absurd hc1 hcz) (fun hc1 => ?_)
  refine Wp.iloadN d8_6 (pc' := 7) rfl rfl ?_
  refine Wp.old fun hOc => ?_
  refine Wp.callS (W := 0) (argsL := [(.int c)]) (rest := []) rfl (ctCAN l Z a0 hw hE c h0 hOc hc0) (hw _ (List.mem_of_getElem? (i := 40) rfl)) (hw _ (List.mem_of_getElem? (i := 41) rfl)) (hw _ (List.mem_of_getElem? (i := 43) rfl)) (hw _ (List.mem_of_getElem? (i := 42) rfl)) (by decide) (lenOf pd__C_Z rfl) d8_7 rfl rfl rfl (Nat.le_of_eq rfl) (pc' := 10) rfl nofun nofun (by decide) (by decide) (k' := 0) (n' := 0) rfl rfl (by decide) (by decide) (fun vh2 h2 zh2 Kh2 qh2 => ?_)
  obtain rfl := qh2
  refine Wp.eqS (S' := [(.int (1 : Int32))]) rfl ?_
  refine Wp.if_eq (pc1 := 26) (pc' := 13) d8_10 (by decide) (by decide) rfl (fun hc3 => by exact absurd hc3 (by decide)) (fun hc3 => ?_)
  refine Wp.new rfl (hw _ (List.mem_of_getElem? (i := 44) rfl)) (hw _ (List.mem_of_getElem? (i := 5) rfl)) (hw _ (List.mem_of_getElem? (i := 6) rfl)) d8_13 (pc' := 16) rfl (k' := 1) (n' := 4) rfl rfl (by decide) (by decide) (fun h4 b4 g_b4 sz_b4 Xh4 E_b4 D_b4 => ?_)
  have F_value_b4 : Fld Z h4 b4 "java/lang/String" "value" "[B" .null := D_b4 (Or.inr (hw _ (List.mem_of_getElem? (i := 20) rfl))) (ty := (.array .byte)) (by decide)
  have F_coder_b4 : Fld Z h4 b4 "java/lang/String" "coder" "B" (.int (0 : Int32)) := D_b4 (Or.inr (hw _ (List.mem_of_getElem? (i := 21) rfl))) (ty := .byte) (by decide)
  clear D_b4
  refine Wp.dup d8_16 (pc' := 17) rfl rfl ?_
  refine Wp.iloadN d8_17 (pc' := 18) rfl rfl ?_
  refine Wp.old fun hOc => ?_
  refine Wp.callS (W := 2) (argsL := [(.int c)]) (rest := [(.ref b4), (.ref b4)]) rfl (ctTOB l Z a0 hw hE c h4 hOc) (hw _ (List.mem_of_getElem? (i := 45) rfl)) (hw _ (List.mem_of_getElem? (i := 46) rfl)) (hw _ (List.mem_of_getElem? (i := 47) rfl)) (hw _ (List.mem_of_getElem? (i := 42) rfl)) (by decide) (lenOf pd__C__B rfl) d8_18 rfl rfl rfl (Nat.le_of_eq rfl) (pc' := 21) rfl nofun nofun (by decide) (by decide) (k' := 2) (n' := 5) rfl rfl (by decide) (by decide) (fun vh5 h5 zh5 Kh5 qh5 => ?_)
  obtain ⟨d, kd, rfl, sb_d, V_d⟩ := qh5
  have ne_b4_d : b4 ≠ d := Nat.ne_of_lt (Nat.lt_of_lt_of_le E_b4.lt sb_d)
  replace E_b4 := E_b4.keep Kh5
  replace F_value_b4 := F_value_b4.keep Kh5 nin0
  replace F_coder_b4 := F_coder_b4.keep Kh5 nin0
  refine Wp.eqS (S' := [(.ref d), (.ref b4), (.ref b4)]) rfl ?_
  have sz_d : h0.size ≤ d := Nat.le_trans zh5 sb_d
  refine Wp.iconst (x := (0 : Int32)) d8_21 (pc' := 22) rfl rfl ?_
  refine Wp.old fun hOc => ?_
  refine Wp.callI (a := b4) (W := 1) (argsL := [(.ref d), (.int (0 : Int32))]) (rest := [(.ref b4)]) rfl (ctSIB l Z a0 hw hE b4 d h5 hOc E_b4 F_value_b4 F_coder_b4 (Nat.le_trans hO.1 sz_b4)) rfl rfl (hw _ (List.mem_of_getElem? (i := 48) rfl)) (hw _ (List.mem_of_getElem? (i := 49) rfl)) (hw _ (List.mem_of_getElem? (i := 50) rfl)) (hw _ (List.mem_of_getElem? (i := 6) rfl)) (by decide) (lenOf pd___BB_V rfl) d8_22 rfl rfl rfl (Nat.le_of_eq rfl) (pc' := 25) rfl (by simp) (by intro x hx; simp only [List.mem_cons, List.not_mem_nil, or_false] at hx; rcases hx with rfl; exact (Or.inr sz_b4)) (by decide) (by decide) (k' := 2) (n' := 5) rfl rfl (by decide) (by decide) (fun vh6 h6 zh6 Kh6 qh6 => ?_)
  obtain ⟨rfl, G_e, G_c, G_v⟩ := qh6
  replace E_b4 := E_b4.keep Kh6
  replace V_d := V_d.keep Kh6 (ninS (Ne.symm ne_b4_d) nin0)
  refine Wp.eqS (S' := [(.ref b4)]) rfl ?_
  refine Wp.retA rfl rfl rfl d8_25 (by decide) (by decide) ?_
  exact ⟨_, rfl, sz_b4, G_e, G_c, d, kd, G_v, V_d⟩
theorem d1_0 : decode method_2_code 0 = .ok (.iload_n 0, 1) := by decide +kernel
theorem d1_1 : decode method_2_code 1 = .ok (.ifCond .ne 14, 3) := by decide +kernel
theorem d1_4 : decode method_2_code 4 = .ok (.new 7, 3) := by decide +kernel
theorem d1_7 : decode method_2_code 7 = .ok (.dup, 1) := by decide +kernel
theorem d1_8 : decode method_2_code 8 = .ok (.iconst 0, 1) := by decide +kernel
theorem d1_9 : decode method_2_code 9 = .ok (.newarray .char, 2) := by decide +kernel
theorem d1_11 : decode method_2_code 11 = .ok (.invokespecial 9, 3) := by decide +kernel
theorem d1_14 : decode method_2_code 14 = .ok (.areturn, 1) := by decide +kernel
theorem d1_15 : decode method_2_code 15 = .ok (.iload_n 0, 1) := by decide +kernel
theorem d1_16 : decode method_2_code 16 = .ok (.iconst 1, 1) := by decide +kernel
theorem d1_17 : decode method_2_code 17 = .ok (.if_icmp .ne 8, 3) := by decide +kernel
theorem d1_20 : decode method_2_code 20 = .ok (.iload_n 1, 1) := by decide +kernel
theorem d1_21 : decode method_2_code 21 = .ok (.invokestatic 12, 3) := by decide +kernel
theorem d1_24 : decode method_2_code 24 = .ok (.areturn, 1) := by decide +kernel
theorem d1_25 : decode method_2_code 25 = .ok (.new 7, 3) := by decide +kernel
theorem d1_28 : decode method_2_code 28 = .ok (.dup, 1) := by decide +kernel
theorem d1_29 : decode method_2_code 29 = .ok (.iconst 2, 1) := by decide +kernel
theorem d1_30 : decode method_2_code 30 = .ok (.newarray .char, 2) := by decide +kernel
theorem d1_32 : decode method_2_code 32 = .ok (.dup, 1) := by decide +kernel
theorem d1_33 : decode method_2_code 33 = .ok (.iconst 0, 1) := by decide +kernel
theorem d1_34 : decode method_2_code 34 = .ok (.iload_n 1, 1) := by decide +kernel
theorem d1_35 : decode method_2_code 35 = .ok (.castore, 1) := by decide +kernel
theorem d1_36 : decode method_2_code 36 = .ok (.dup, 1) := by decide +kernel
theorem d1_37 : decode method_2_code 37 = .ok (.iconst 1, 1) := by decide +kernel
theorem d1_38 : decode method_2_code 38 = .ok (.iload_n 2, 1) := by decide +kernel
theorem d1_39 : decode method_2_code 39 = .ok (.castore, 1) := by decide +kernel
theorem d1_40 : decode method_2_code 40 = .ok (.invokespecial 9, 3) := by decide +kernel
theorem d1_43 : decode method_2_code 43 = .ok (.areturn, 1) := by decide +kernel
theorem pn_com_example_portwright_portwright_xml_XmlElementIsPinLaw : plainName "com/example/portwright/portwright/xml/XmlElementIsPinLaw" = true := by first | (simp [plainName, overriddenIn]; done) | decide +kernel
theorem ef_ctMK (m : MethodId) (x0 : Int32) (x1 : Int32) (x2 : Int32) : entryFrame m #[(.int x0), (.int x1), (.int x2)] 3 = mkF m 0 #[.val (.int x0), .val (.int x1), .val (.int x2)] [] := by first | (simp [entryFrame, mkF, argsToLocals, Value.category]; done) | rfl
theorem pd___C_V : parseMethodDescriptor "([C)V" = some ⟨[(.array .char)], none⟩ := by decide +kernel
theorem pd__C_Ljava_lang_String_ : parseMethodDescriptor "(C)Ljava/lang/String;" = some ⟨[.char], some (.object "java/lang/String")⟩ := by decide +kernel
set_option maxRecDepth 65536 in
set_option maxHeartbeats 40000000 in
theorem ctMK (l : Launch) (Z : State) (a0 : Array Value) (hw : ∀ d ∈ tables_1, d.before a0 Z = true) (hE : EW Z a0 [("java/lang/String", 7), ("com/example/portwright/portwright/xml/XmlElementIsPinLaw", 32)]) (n a b cz : Int32) (h0 : Heap) (hO : Ext Z.heap h0) (ha : own_b a) (hb : own_b b) (hco : Sta Z Z.heap "java/lang/String" "COMPACT_STRINGS" "Z" (.int cz)) (hcz : ¬ cz = 0) :
    Ct true l Z [("java/lang/String", 7), ("com/example/portwright/portwright/xml/XmlElementIsPinLaw", 32)] [] (⟨"com/example/portwright/portwright/xml/XmlElementIsPinLaw", "make", "(ICC)Ljava/lang/String;"⟩ : MethodName) method_2_code 3 (some (.object "java/lang/String")) ({ frames := 4, cells := 6, slots := 14, locals := 67 } : Room) #[(.int n), (.int a), (.int b)] h0 [] [] (fun v h => ∃ s, v = some (.ref s) ∧ h0.size ≤ s ∧ SL Z h s (own_st n a b)) := by
  refine Ct.of_wp (a0 := a0) (Ls := #[.val (.int n), .val (.int a), .val (.int b)]) (plainFor_of_name pn_com_example_portwright_portwright_xml_XmlElementIsPinLaw) hE hO nofun (fun m => ef_ctMK m n a b) ?_
  refine Wp.iloadN d1_0 (pc' := 1) rfl rfl ?_
  refine Wp.if_ne (pc1 := 15) (pc' := 4) d1_1 (by decide) (by decide) rfl (fun hc1 => ?_) (fun hc1 => ?_)
  · have hc1 : ¬ (n = (0 : Int32)) := hc1
    refine Wp.iloadN d1_15 (pc' := 16) rfl rfl ?_
    refine Wp.iconst (x := (1 : Int32)) d1_16 (pc' := 17) rfl rfl ?_
    refine Wp.icmp_ne (pc1 := 25) (pc' := 20) d1_17 (by decide) (by decide) rfl (fun hc2 => ?_) (fun hc2 => ?_)
    · have hc2 : ¬ (n = (1 : Int32)) := hc2
      refine Wp.new rfl (hw _ (List.mem_of_getElem? (i := 4) rfl)) (hw _ (List.mem_of_getElem? (i := 5) rfl)) (hw _ (List.mem_of_getElem? (i := 6) rfl)) d1_25 (pc' := 28) rfl (k' := 1) (n' := 4) rfl rfl (by decide) (by decide) (fun h3 b3 g_b3 sz_b3 Xh3 E_b3 D_b3 => ?_)
      have F_value_b3 : Fld Z h3 b3 "java/lang/String" "value" "[B" .null := D_b3 (Or.inr (hw _ (List.mem_of_getElem? (i := 20) rfl))) (ty := (.array .byte)) (by decide)
      have F_coder_b3 : Fld Z h3 b3 "java/lang/String" "coder" "B" (.int (0 : Int32)) := D_b3 (Or.inr (hw _ (List.mem_of_getElem? (i := 21) rfl))) (ty := .byte) (by decide)
      clear D_b3
      refine Wp.dup d1_28 (pc' := 29) rfl rfl ?_
      refine Wp.iconst (x := (2 : Int32)) d1_29 (pc' := 30) rfl rfl ?_
      refine Wp.newP (cap := 2) (hw _ (List.mem_of_getElem? (i := 7) rfl)) (by decide) (by decide) (by decide) d1_30 (pc' := 32) rfl (k' := 2) (n' := 6) rfl rfl (by decide) (by decide) (fun h4 b4 k_b4 g_b4 sz_b4 Xh4 V_b4 => ?_)
      have ne_b3_b4 : b3 ≠ b4 := Nat.ne_of_lt (Nat.lt_of_lt_of_eq E_b3.lt g_b4.symm)
      replace E_b3 := E_b3.ext Xh4
      replace F_value_b3 := F_value_b3.ext Xh4
      replace F_coder_b3 := F_coder_b3.ext Xh4
      replace V_b4 : Arv Z h4 b4 k_b4 .char (2 : Int32) [(.int (0 : Int32)), (.int (0 : Int32))] (.int (0 : Int32)) := V_b4.pad (pad_rep [] (.int (0 : Int32)) 2)
      refine Wp.dup d1_32 (pc' := 33) rfl rfl ?_
      refine Wp.iconst (x := (0 : Int32)) d1_33 (pc' := 34) rfl rfl ?_
      refine Wp.iloadN d1_34 (pc' := 35) rfl rfl ?_
      refine Wp.castore V_b4 (by decide) (by decide) (i := 0) rfl (Nat.le_of_ble_eq_true rfl) d1_35 (pc' := 36) rfl (Or.inr sz_b4) (fun h5 W5 Vh5 => ?_)
      replace E_b3 := E_b3.wr W5
      replace F_value_b3 := F_value_b3.other W5 (Or.inl ne_b3_b4)
      replace F_coder_b3 := F_coder_b3.other W5 (Or.inl ne_b3_b4)
      replace V_b4 : Arv Z h5 b4 k_b4 .char (2 : Int32) [(.int (nar .char a)), (.int (0 : Int32))] (.int (0 : Int32)) := Vh5
      refine Wp.dup d1_36 (pc' := 37) rfl rfl ?_
      refine Wp.iconst (x := (1 : Int32)) d1_37 (pc' := 38) rfl rfl ?_
      refine Wp.iloadN d1_38 (pc' := 39) rfl rfl ?_
      refine Wp.castore V_b4 (by decide) (by decide) (i := 1) rfl (Nat.le_of_ble_eq_true rfl) d1_39 (pc' := 40) rfl (Or.inr sz_b4) (fun h6 W6 Vh6 => ?_)
      replace E_b3 := E_b3.wr W6
      replace F_value_b3 := F_value_b3.other W6 (Or.inl ne_b3_b4)
      replace F_coder_b3 := F_coder_b3.other W6 (Or.inl ne_b3_b4)
      replace V_b4 : Arv Z h6 b4 k_b4 .char (2 : Int32) [(.int (nar .char a)), (.int (nar .char b))] (.int (0 : Int32)) := Vh6
      refine Wp.old fun hOc => ?_
      have V_cs : Arv Z h6 b4 k_b4 .char (Int32.ofNat (own_mk n a b).length) ((own_mk n a b).map Value.int) (.int 0) := by simpa [own_mk, hc1, hc2, own_bn ha, own_bn hb] using V_b4
      refine Wp.callI (a := b3) (W := 1) (argsL := [(.ref b4)]) (rest := [(.ref b3)]) rfl (ctSI l Z a0 hw hE b3 b4 k_b4 (own_mk n a b) cz h6 hOc (own_cn _ _ _) (own_cl _ _ _) (own_hl ha hb) V_cs E_b3 F_value_b3 F_coder_b3 (Nat.le_trans hO.1 sz_b3) (Ne.symm ne_b3_b4) hco hcz) rfl rfl (hw _ (List.mem_of_getElem? (i := 8) rfl)) (hw _ (List.mem_of_getElem? (i := 9) rfl)) (hw _ (List.mem_of_getElem? (i := 10) rfl)) (hw _ (List.mem_of_getElem? (i := 6) rfl)) (by decide) (lenOf pd___C_V rfl) d1_40 rfl rfl rfl (Nat.le_of_eq rfl) (pc' := 43) rfl (by simp) (by intro x hx; simp only [List.mem_cons, List.not_mem_nil, or_false] at hx; rcases hx with rfl; exact (Or.inr sz_b3)) (by decide) (by decide) (k' := 6) (n' := 14) rfl rfl (by decide) (by decide) (fun vh7 h7 zh7 Kh7 qh7 => ?_)
      obtain ⟨rfl, S_s⟩ := qh7
      replace E_b3 := E_b3.keep Kh7
      replace V_b4 := V_b4.keep Kh7 (ninS (Ne.symm ne_b3_b4) nin0)
      refine Wp.eqS (S' := [(.ref b3)]) rfl ?_
      refine Wp.retA rfl rfl rfl d1_43 (by decide) (by decide) ?_
      exact ⟨_, rfl, sz_b3, S_s⟩
    · have hc2 : n = (1 : Int32) := hc2
      refine Wp.iloadN d1_20 (pc' := 21) rfl rfl ?_
      refine Wp.old fun hOc => ?_
      refine Wp.callS (W := 0) (argsL := [(.int a)]) (rest := []) rfl (ctVOF l Z a0 hw hE a cz h0 hOc (own_br ha).1 hco hcz) (hw _ (List.mem_of_getElem? (i := 37) rfl)) (hw _ (List.mem_of_getElem? (i := 38) rfl)) (hw _ (List.mem_of_getElem? (i := 39) rfl)) (hw _ (List.mem_of_getElem? (i := 6) rfl)) (by decide) (lenOf pd__C_Ljava_lang_String_ rfl) d1_21 rfl rfl rfl (Nat.le_of_eq rfl) (pc' := 24) rfl nofun nofun (by decide) (by decide) (k' := 2) (n' := 5) rfl rfl (by decide) (by decide) (fun vh8 h8 zh8 Kh8 qh8 => ?_)
      obtain ⟨s, rfl, sb_s, S_s⟩ := qh8
      refine Wp.eqS (S' := [(.ref s)]) rfl ?_
      have sz_s : h0.size ≤ s := Nat.le_trans zh8 sb_s
      refine Wp.retA rfl rfl rfl d1_24 (by decide) (by decide) ?_
      exact ⟨_, rfl, sz_s, by simpa [own_st, own_mk, hc1, hc2] using S_s⟩
  · have hc1 : n = (0 : Int32) := hc1
    refine Wp.new rfl (hw _ (List.mem_of_getElem? (i := 4) rfl)) (hw _ (List.mem_of_getElem? (i := 5) rfl)) (hw _ (List.mem_of_getElem? (i := 6) rfl)) d1_4 (pc' := 7) rfl (k' := 1) (n' := 4) rfl rfl (by decide) (by decide) (fun h9 b9 g_b9 sz_b9 Xh9 E_b9 D_b9 => ?_)
    have F_value_b9 : Fld Z h9 b9 "java/lang/String" "value" "[B" .null := D_b9 (Or.inr (hw _ (List.mem_of_getElem? (i := 20) rfl))) (ty := (.array .byte)) (by decide)
    have F_coder_b9 : Fld Z h9 b9 "java/lang/String" "coder" "B" (.int (0 : Int32)) := D_b9 (Or.inr (hw _ (List.mem_of_getElem? (i := 21) rfl))) (ty := .byte) (by decide)
    clear D_b9
    refine Wp.dup d1_7 (pc' := 8) rfl rfl ?_
    refine Wp.iconst (x := (0 : Int32)) d1_8 (pc' := 9) rfl rfl ?_
    refine Wp.newP (cap := 0) (hw _ (List.mem_of_getElem? (i := 7) rfl)) (by decide) (by decide) (by decide) d1_9 (pc' := 11) rfl (k' := 2) (n' := 4) rfl rfl (by decide) (by decide) (fun h10 b10 k_b10 g_b10 sz_b10 Xh10 V_b10 => ?_)
    have ne_b9_b10 : b9 ≠ b10 := Nat.ne_of_lt (Nat.lt_of_lt_of_eq E_b9.lt g_b10.symm)
    replace E_b9 := E_b9.ext Xh10
    replace F_value_b9 := F_value_b9.ext Xh10
    replace F_coder_b9 := F_coder_b9.ext Xh10
    replace V_b10 : Arv Z h10 b10 k_b10 .char (0 : Int32) [] (.int (0 : Int32)) := V_b10.pad (pad_rep [] (.int (0 : Int32)) 0)
    refine Wp.old fun hOc => ?_
    have V_cs : Arv Z h10 b10 k_b10 .char (Int32.ofNat (own_mk n a b).length) ((own_mk n a b).map Value.int) (.int 0) := by simpa [own_mk, hc1, own_bn ha, own_bn hb] using V_b10
    refine Wp.callI (a := b9) (W := 1) (argsL := [(.ref b10)]) (rest := [(.ref b9)]) rfl (ctSI l Z a0 hw hE b9 b10 k_b10 (own_mk n a b) cz h10 hOc (own_cn _ _ _) (own_cl _ _ _) (own_hl ha hb) V_cs E_b9 F_value_b9 F_coder_b9 (Nat.le_trans hO.1 sz_b9) (Ne.symm ne_b9_b10) hco hcz) rfl rfl (hw _ (List.mem_of_getElem? (i := 8) rfl)) (hw _ (List.mem_of_getElem? (i := 9) rfl)) (hw _ (List.mem_of_getElem? (i := 10) rfl)) (hw _ (List.mem_of_getElem? (i := 6) rfl)) (by decide) (lenOf pd___C_V rfl) d1_11 rfl rfl rfl (Nat.le_of_eq rfl) (pc' := 14) rfl (by simp) (by intro x hx; simp only [List.mem_cons, List.not_mem_nil, or_false] at hx; rcases hx with rfl; exact (Or.inr sz_b9)) (by decide) (by decide) (k' := 6) (n' := 12) rfl rfl (by decide) (by decide) (fun vh11 h11 zh11 Kh11 qh11 => ?_)
    obtain ⟨rfl, S_s⟩ := qh11
    replace E_b9 := E_b9.keep Kh11
    replace V_b10 := V_b10.keep Kh11 (ninS (Ne.symm ne_b9_b10) nin0)
    refine Wp.eqS (S' := [(.ref b9)]) rfl ?_
    refine Wp.retA rfl rfl rfl d1_14 (by decide) (by decide) ?_
    exact ⟨_, rfl, sz_b9, S_s⟩
theorem d12_0 : decode jdk_72_method_26_code 0 = .ok (.getstatic 81, 3) := by decide +kernel
theorem d12_3 : decode jdk_72_method_26_code 3 = .ok (.areturn, 1) := by decide +kernel
theorem pn_java_util_Map : plainName "java/util/Map" = true := by first | (simp [plainName, overriddenIn]; done) | decide +kernel
theorem ef_ctOF (m : MethodId)  : entryFrame m #[] 0 = mkF m 0 #[] [] := by first | (simp [entryFrame, mkF, argsToLocals, Value.category]; done) | rfl
set_option maxRecDepth 65536 in
set_option maxHeartbeats 40000000 in
theorem ctOF (l : Launch) (Z : State) (a0 : Array Value) (hw : ∀ d ∈ tables_1, d.before a0 Z = true) (hE : EW Z a0 [("java/lang/String", 7), ("com/example/portwright/portwright/xml/XmlElementIsPinLaw", 32)]) (em : Addr) (h0 : Heap) (hO : Ext Z.heap h0) (hem : Sta Z Z.heap "java/util/ImmutableCollections" "EMPTY_MAP" "Ljava/util/ImmutableCollections$MapN;" (.ref em)) :
    Ct true l Z [("java/lang/String", 7), ("com/example/portwright/portwright/xml/XmlElementIsPinLaw", 32)] [] (⟨"java/util/Map", "of", "()Ljava/util/Map;"⟩ : MethodName) jdk_72_method_26_code 0 (some (.object "java/util/Map")) ({ frames := 0, cells := 0, slots := 0, locals := 0 } : Room) #[] h0 [] [] (fun v h => v = some (.ref em)) := by
  refine Ct.of_wp (a0 := a0) (Ls := #[]) (plainFor_of_name pn_java_util_Map) hE hO nofun (fun m => ef_ctOF m ) ?_
  refine Wp.getS rfl (host := "") (Or.inl (hw _ (List.mem_of_getElem? (i := 58) rfl))) Via.refl hem d12_0 (pc' := 3) rfl ?_
  refine Wp.retA rfl rfl rfl d12_3 (by decide) (by decide) ?_
  rfl
theorem d19_0 : decode jdk_72_method_39_code 0 = .ok (.aload_n 0, 1) := by decide +kernel
theorem d19_1 : decode jdk_72_method_39_code 1 = .ok (.instanceof 101, 3) := by decide +kernel
theorem d19_4 : decode jdk_72_method_39_code 4 = .ok (.ifCond .eq 5, 3) := by decide +kernel
theorem d19_7 : decode jdk_72_method_39_code 7 = .ok (.aload_n 0, 1) := by decide +kernel
theorem d19_8 : decode jdk_72_method_39_code 8 = .ok (.areturn, 1) := by decide +kernel
theorem d19_9 : decode jdk_72_method_39_code 9 = .ok (.aload_n 0, 1) := by decide +kernel
theorem d19_10 : decode jdk_72_method_39_code 10 = .ok (.invokeinterface 103 1, 5) := by decide +kernel
theorem d19_15 : decode jdk_72_method_39_code 15 = .ok (.ifCond .eq 7, 3) := by decide +kernel
theorem d19_18 : decode jdk_72_method_39_code 18 = .ok (.invokestatic 106, 3) := by decide +kernel
theorem d19_21 : decode jdk_72_method_39_code 21 = .ok (.areturn, 1) := by decide +kernel
theorem d19_22 : decode jdk_72_method_39_code 22 = .ok (.aload_n 0, 1) := by decide +kernel
theorem d19_23 : decode jdk_72_method_39_code 23 = .ok (.invokeinterface 16 1, 5) := by decide +kernel
theorem d19_28 : decode jdk_72_method_39_code 28 = .ok (.iconst 0, 1) := by decide +kernel
theorem d19_29 : decode jdk_72_method_39_code 29 = .ok (.anewarray 36, 3) := by decide +kernel
theorem d19_32 : decode jdk_72_method_39_code 32 = .ok (.invokeinterface 110 2, 5) := by decide +kernel
theorem d19_37 : decode jdk_72_method_39_code 37 = .ok (.checkcast 114, 3) := by decide +kernel
theorem d19_40 : decode jdk_72_method_39_code 40 = .ok (.invokestatic 116, 3) := by decide +kernel
theorem d19_43 : decode jdk_72_method_39_code 43 = .ok (.areturn, 1) := by decide +kernel
theorem ef_ctCPY (m : MethodId) (x0 : Addr) : entryFrame m #[(.ref x0)] 1 = mkF m 0 #[.val (.ref x0)] [] := by first | (simp [entryFrame, mkF, argsToLocals, Value.category]; done) | rfl
set_option maxRecDepth 65536 in
set_option maxHeartbeats 40000000 in
theorem ctCPY (l : Launch) (Z : State) (a0 : Array Value) (hw : ∀ d ∈ tables_1, d.before a0 Z = true) (hE : EW Z a0 [("java/lang/String", 7), ("com/example/portwright/portwright/xml/XmlElementIsPinLaw", 32)]) (em : Addr) (h0 : Heap) (hO : Ext Z.heap h0) (xem : Exa Z Z.heap em "java/util/ImmutableCollections$MapN") :
    Ct true l Z [("java/lang/String", 7), ("com/example/portwright/portwright/xml/XmlElementIsPinLaw", 32)] [] (⟨"java/util/Map", "copyOf", "(Ljava/util/Map;)Ljava/util/Map;"⟩ : MethodName) jdk_72_method_39_code 1 (some (.object "java/util/Map")) ({ frames := 0, cells := 0, slots := 0, locals := 0 } : Room) #[(.ref em)] h0 [] [] (fun v h => v = some (.ref em)) := by
  refine Ct.of_wp (a0 := a0) (Ls := #[.val (.ref em)]) (plainFor_of_name pn_java_util_Map) hE hO nofun (fun m => ef_ctCPY m em) ?_
  refine Wp.aloadN d19_0 (pc' := 1) rfl rfl rfl ?_
  refine Wp.old fun hOc => ?_
  refine Wp.instY rfl (hw _ (List.mem_of_getElem? (i := 115) rfl)) (Ins.of_exa (xem.ext hOc) (hw _ (List.mem_of_getElem? (i := 116) rfl))) d19_1 (pc' := 4) rfl ?_
  refine Wp.if_eq (pc1 := 9) (pc' := 7) d19_4 (by decide) (by decide) rfl (fun hc1 => by exact absurd hc1 (by decide)) (fun hc1 => ?_)
  refine Wp.aloadN d19_7 (pc' := 8) rfl rfl rfl ?_
  refine Wp.retA rfl rfl rfl d19_8 (by decide) (by decide) ?_
  rfl
theorem d14_0 : decode jdk_31_method_11_code 0 = .ok (.aload_n 0, 1) := by decide +kernel
theorem d14_1 : decode jdk_31_method_11_code 1 = .ok (.ifnonnull 12, 3) := by decide +kernel
theorem d14_4 : decode jdk_31_method_11_code 4 = .ok (.new 84, 3) := by decide +kernel
theorem d14_7 : decode jdk_31_method_11_code 7 = .ok (.dup, 1) := by decide +kernel
theorem d14_8 : decode jdk_31_method_11_code 8 = .ok (.aload_n 1, 1) := by decide +kernel
theorem d14_9 : decode jdk_31_method_11_code 9 = .ok (.invokespecial 87, 3) := by decide +kernel
theorem d14_12 : decode jdk_31_method_11_code 12 = .ok (.athrow, 1) := by decide +kernel
theorem d14_13 : decode jdk_31_method_11_code 13 = .ok (.aload_n 0, 1) := by decide +kernel
theorem d14_14 : decode jdk_31_method_11_code 14 = .ok (.areturn, 1) := by decide +kernel
theorem pn_java_util_Objects : plainName "java/util/Objects" = true := by first | (simp [plainName, overriddenIn]; done) | decide +kernel
theorem ef_ctRNN (m : MethodId) (x0 : Addr) (x1 : Addr) : entryFrame m #[(.ref x0), (.ref x1)] 2 = mkF m 0 #[.val (.ref x0), .val (.ref x1)] [] := by first | (simp [entryFrame, mkF, argsToLocals, Value.category]; done) | rfl
set_option maxRecDepth 65536 in
set_option maxHeartbeats 40000000 in
theorem ctRNN (l : Launch) (Z : State) (a0 : Array Value) (hw : ∀ d ∈ tables_1, d.before a0 Z = true) (hE : EW Z a0 [("java/lang/String", 7), ("com/example/portwright/portwright/xml/XmlElementIsPinLaw", 32)]) (a c : Addr) (h0 : Heap) (hO : Ext Z.heap h0) :
    Ct true l Z [("java/lang/String", 7), ("com/example/portwright/portwright/xml/XmlElementIsPinLaw", 32)] [] (⟨"java/util/Objects", "requireNonNull", "(Ljava/lang/Object;Ljava/lang/String;)Ljava/lang/Object;"⟩ : MethodName) jdk_31_method_11_code 2 (some (.object "java/lang/Object")) ({ frames := 0, cells := 0, slots := 0, locals := 0 } : Room) #[(.ref a), (.ref c)] h0 [] [] (fun v h => v = some (.ref a)) := by
  refine Ct.of_wp (a0 := a0) (Ls := #[.val (.ref a), .val (.ref c)]) (plainFor_of_name pn_java_util_Objects) hE hO nofun (fun m => ef_ctRNN m a c) ?_
  refine Wp.aloadN d14_0 (pc' := 1) rfl rfl rfl ?_
  refine Wp.ifnonnullYes (pc' := 13) d14_1 (by decide) (by decide) ?_
  refine Wp.aloadN d14_13 (pc' := 14) rfl rfl rfl ?_
  refine Wp.retA rfl rfl rfl d14_14 (by decide) (by decide) ?_
  rfl
theorem d13_0 : decode prog_61_method_1_code 0 = .ok (.aload_n 0, 1) := by decide +kernel
theorem d13_1 : decode prog_61_method_1_code 1 = .ok (.invokespecial 1, 3) := by decide +kernel
theorem d13_4 : decode prog_61_method_1_code 4 = .ok (.aload_n 0, 1) := by decide +kernel
theorem d13_5 : decode prog_61_method_1_code 5 = .ok (.aload_n 1, 1) := by decide +kernel
theorem d13_6 : decode prog_61_method_1_code 6 = .ok (.ldc 7, 2) := by decide +kernel
theorem d13_8 : decode prog_61_method_1_code 8 = .ok (.invokestatic 9, 3) := by decide +kernel
theorem d13_11 : decode prog_61_method_1_code 11 = .ok (.checkcast 15, 3) := by decide +kernel
theorem d13_14 : decode prog_61_method_1_code 14 = .ok (.putfield 17, 3) := by decide +kernel
theorem d13_17 : decode prog_61_method_1_code 17 = .ok (.aload_n 0, 1) := by decide +kernel
theorem d13_18 : decode prog_61_method_1_code 18 = .ok (.iload_n 2, 1) := by decide +kernel
theorem d13_19 : decode prog_61_method_1_code 19 = .ok (.putfield 22, 3) := by decide +kernel
theorem d13_22 : decode prog_61_method_1_code 22 = .ok (.return_, 1) := by decide +kernel
theorem pn_com_example_portwright_portwright_xml_SourceLocation : plainName "com/example/portwright/portwright/xml/SourceLocation" = true := by first | (simp [plainName, overriddenIn]; done) | decide +kernel
theorem ef_ctLOC (m : MethodId) (x0 : Addr) (x1 : Addr) (x2 : Int32) : entryFrame m #[(.ref x0), (.ref x1), (.int x2)] 3 = mkF m 0 #[.val (.ref x0), .val (.ref x1), .val (.int x2)] [] := by first | (simp [entryFrame, mkF, argsToLocals, Value.category]; done) | rfl
theorem pd__Ljava_lang_Object_Ljava_lang_String__Ljava_lang_Object_ : parseMethodDescriptor "(Ljava/lang/Object;Ljava/lang/String;)Ljava/lang/Object;" = some ⟨[(.object "java/lang/Object"), (.object "java/lang/String")], some (.object "java/lang/Object")⟩ := by decide +kernel
set_option maxRecDepth 65536 in
set_option maxHeartbeats 40000000 in
theorem ctLOC (l : Launch) (Z : State) (a0 : Array Value) (hw : ∀ d ∈ tables_1, d.before a0 Z = true) (hE : EW Z a0 [("java/lang/String", 7), ("com/example/portwright/portwright/xml/XmlElementIsPinLaw", 32)]) (b t : Addr) (n : Int32) (h0 : Heap) (hO : Ext Z.heap h0) (hb0 : Z.heap.size ≤ b) (E_b : Exa Z h0 b "com/example/portwright/portwright/xml/SourceLocation") (F0 : Fld Z h0 b "com/example/portwright/portwright/xml/SourceLocation" "file" "Ljava/lang/String;" .null) (F1 : Fld Z h0 b "com/example/portwright/portwright/xml/SourceLocation" "line" "I" (.int 0)) (E_t : Exa Z h0 t "java/lang/String") :
    Ct true l Z [("java/lang/String", 7), ("com/example/portwright/portwright/xml/XmlElementIsPinLaw", 32)] [] (⟨"com/example/portwright/portwright/xml/SourceLocation", "<init>", "(Ljava/lang/String;I)V"⟩ : MethodName) prog_61_method_1_code 3 none ({ frames := 1, cells := 2, slots := 20, locals := 15 } : Room) #[(.ref b), (.ref t), (.int n)] h0 [] [b] (fun v h => v = none) := by
  refine Ct.of_wp (a0 := a0) (Ls := #[.val (.ref b), .val (.ref t), .val (.int n)]) (plainFor_of_name pn_com_example_portwright_portwright_xml_SourceLocation) hE hO (by intro x hx; cases List.mem_singleton.mp hx; exact hb0) (fun m => ef_ctLOC m b t n) ?_
  refine Wp.aloadN d13_0 (pc' := 1) rfl rfl rfl ?_
  refine Wp.initO (W := 0) rfl (hw _ (List.mem_of_getElem? (i := 67) rfl)) (hw _ (List.mem_of_getElem? (i := 16) rfl)) (hw _ (List.mem_of_getElem? (i := 17) rfl)) d13_1 (pc' := 4) rfl rfl (by decide) (Nat.le_of_eq rfl) (by decide) ?_
  refine Wp.aloadN d13_4 (pc' := 5) rfl rfl rfl ?_
  refine Wp.aloadN d13_5 (pc' := 6) rfl rfl rfl ?_
  refine Wp.ldcO (nn := 16) rfl rfl (hw _ (List.mem_of_getElem? (i := 68) rfl)) (own_wS hw) d13_6 (pc' := 8) rfl (by decide) (by decide) (k' := 2) (n' := 20) rfl rfl (by decide) (by decide) (fun h1 c1 Xh1 => ?_)
  replace E_b := E_b.ext Xh1
  replace E_t := E_t.ext Xh1
  replace F0 := F0.ext Xh1
  replace F1 := F1.ext Xh1
  refine Wp.old fun hOc => ?_
  refine Wp.callS (W := 1) (argsL := [(.ref t), (.ref c1)]) (rest := [(.ref b)]) rfl (ctRNN l Z a0 hw hE t c1 h1 hOc) (hw _ (List.mem_of_getElem? (i := 69) rfl)) (hw _ (List.mem_of_getElem? (i := 70) rfl)) (hw _ (List.mem_of_getElem? (i := 72) rfl)) (hw _ (List.mem_of_getElem? (i := 71) rfl)) (by decide) (lenOf pd__Ljava_lang_Object_Ljava_lang_String__Ljava_lang_Object_ rfl) d13_8 rfl rfl rfl (Nat.le_of_eq rfl) (pc' := 11) rfl nofun nofun (by decide) (by decide) (k' := 2) (n' := 20) rfl rfl (by decide) (by decide) (fun vh2 h2 zh2 Kh2 qh2 => ?_)
  obtain rfl := qh2
  replace E_b := E_b.keep Kh2
  replace E_t := E_t.keep Kh2
  replace F0 := F0.keep Kh2 nin0
  replace F1 := F1.keep Kh2 nin0
  refine Wp.eqS (S' := [(.ref t), (.ref b)]) rfl ?_
  refine Wp.castY rfl (hw _ (List.mem_of_getElem? (i := 73) rfl)) (Ins.self E_t) d13_11 (pc' := 14) rfl ?_
  refine Wp.putF rfl (host := "") (Or.inl (hw _ (List.mem_of_getElem? (i := 74) rfl))) Via.refl F0 E_b (Or.inr ⟨(hw _ (List.mem_of_getElem? (i := 75) rfl)), rfl, rfl⟩) (hw _ (List.mem_of_getElem? (i := 61) rfl)) (ty := (.object "java/lang/String")) (by decide) rfl rfl d13_14 (pc' := 17) rfl (Or.inl (by simp)) (Sfe.exa E_b (by decide) (by decide)) (fun h3 W3 Fh3 => ?_)
  replace E_b := E_b.wr W3
  replace E_t := E_t.wr W3
  replace F1 := F1.other W3 (Or.inr (slot_ne (Or.inr (hw _ (List.mem_of_getElem? (i := 77) rfl))) (Or.inr (hw _ (List.mem_of_getElem? (i := 75) rfl))) (by decide) (t := .int) (t' := (.object "java/lang/String")) (by decide) (by decide)))
  replace F0 := Fh3
  refine Wp.aloadN d13_17 (pc' := 18) rfl rfl rfl ?_
  refine Wp.iloadN d13_18 (pc' := 19) rfl rfl ?_
  refine Wp.putF rfl (host := "") (Or.inl (hw _ (List.mem_of_getElem? (i := 76) rfl))) Via.refl F1 E_b (Or.inr ⟨(hw _ (List.mem_of_getElem? (i := 77) rfl)), rfl, rfl⟩) (hw _ (List.mem_of_getElem? (i := 61) rfl)) (ty := .int) (by decide) rfl rfl d13_19 (pc' := 22) rfl (Or.inl (by simp)) (Sfe.exa E_b (by decide) (by decide)) (fun h4 W4 Fh4 => ?_)
  replace E_b := E_b.wr W4
  replace E_t := E_t.wr W4
  replace F0 := F0.other W4 (Or.inr (slot_ne (Or.inr (hw _ (List.mem_of_getElem? (i := 75) rfl))) (Or.inr (hw _ (List.mem_of_getElem? (i := 77) rfl))) (by decide) (t := (.object "java/lang/String")) (t' := .int) (by decide) (by decide)))
  replace F1 := Fh4
  refine Wp.retn rfl d13_22 (by decide) (by decide) ?_
  rfl
theorem d18_0 : decode jdk_22_method_1_code 0 = .ok (.aload_n 0, 1) := by decide +kernel
theorem d18_1 : decode jdk_22_method_1_code 1 = .ok (.invokespecial 1, 3) := by decide +kernel
theorem d18_4 : decode jdk_22_method_1_code 4 = .ok (.return_, 1) := by decide +kernel
theorem pn_java_util_AbstractCollection : plainName "java/util/AbstractCollection" = true := by first | (simp [plainName, overriddenIn]; done) | decide +kernel
theorem ef_ctAC (m : MethodId) (x0 : Addr) : entryFrame m #[(.ref x0)] 1 = mkF m 0 #[.val (.ref x0)] [] := by first | (simp [entryFrame, mkF, argsToLocals, Value.category]; done) | rfl
set_option maxRecDepth 65536 in
set_option maxHeartbeats 40000000 in
theorem ctAC (l : Launch) (Z : State) (a0 : Array Value) (hw : ∀ d ∈ tables_1, d.before a0 Z = true) (hE : EW Z a0 [("java/lang/String", 7), ("com/example/portwright/portwright/xml/XmlElementIsPinLaw", 32)]) (b : Addr) (h0 : Heap) (hO : Ext Z.heap h0) :
    Ct true l Z [("java/lang/String", 7), ("com/example/portwright/portwright/xml/XmlElementIsPinLaw", 32)] [] (⟨"java/util/AbstractCollection", "<init>", "()V"⟩ : MethodName) jdk_22_method_1_code 1 none ({ frames := 1, cells := 0, slots := 0, locals := 12 } : Room) #[(.ref b)] h0 [] [] (fun v h => v = none) := by
  refine Ct.of_wp (a0 := a0) (Ls := #[.val (.ref b)]) (plainFor_of_name pn_java_util_AbstractCollection) hE hO nofun (fun m => ef_ctAC m b) ?_
  refine Wp.aloadN d18_0 (pc' := 1) rfl rfl rfl ?_
  refine Wp.initO (W := 0) rfl (hw _ (List.mem_of_getElem? (i := 100) rfl)) (hw _ (List.mem_of_getElem? (i := 16) rfl)) (hw _ (List.mem_of_getElem? (i := 17) rfl)) d18_1 (pc' := 4) rfl rfl (by decide) (Nat.le_of_eq rfl) (by decide) ?_
  refine Wp.retn rfl d18_4 (by decide) (by decide) ?_
  rfl
theorem d17_0 : decode jdk_39_method_1_code 0 = .ok (.aload_n 0, 1) := by decide +kernel
theorem d17_1 : decode jdk_39_method_1_code 1 = .ok (.invokespecial 1, 3) := by decide +kernel
theorem d17_4 : decode jdk_39_method_1_code 4 = .ok (.aload_n 0, 1) := by decide +kernel
theorem d17_5 : decode jdk_39_method_1_code 5 = .ok (.iconst 0, 1) := by decide +kernel
theorem d17_6 : decode jdk_39_method_1_code 6 = .ok (.putfield 7, 3) := by decide +kernel
theorem d17_9 : decode jdk_39_method_1_code 9 = .ok (.return_, 1) := by decide +kernel
theorem pn_java_util_AbstractList : plainName "java/util/AbstractList" = true := by first | (simp [plainName, overriddenIn]; done) | decide +kernel
theorem ef_ctABL (m : MethodId) (x0 : Addr) : entryFrame m #[(.ref x0)] 1 = mkF m 0 #[.val (.ref x0)] [] := by first | (simp [entryFrame, mkF, argsToLocals, Value.category]; done) | rfl
theorem pd___V : parseMethodDescriptor "()V" = some ⟨[], none⟩ := by decide +kernel
set_option maxRecDepth 65536 in
set_option maxHeartbeats 40000000 in
theorem ctABL (l : Launch) (Z : State) (a0 : Array Value) (hw : ∀ d ∈ tables_1, d.before a0 Z = true) (hE : EW Z a0 [("java/lang/String", 7), ("com/example/portwright/portwright/xml/XmlElementIsPinLaw", 32)]) (b : Addr) (ve : Value) (h0 : Heap) (hO : Ext Z.heap h0) (hb0 : Z.heap.size ≤ b) (E_b : Exa Z h0 b "java/util/ArrayList") (F_m : Fld Z h0 b "java/util/AbstractList" "modCount" "I" (.int 0)) (F_e : Fld Z h0 b "java/util/ArrayList" "elementData" "[Ljava/lang/Object;" ve) :
    Ct true l Z [("java/lang/String", 7), ("com/example/portwright/portwright/xml/XmlElementIsPinLaw", 32)] [] (⟨"java/util/AbstractList", "<init>", "()V"⟩ : MethodName) jdk_39_method_1_code 1 none ({ frames := 2, cells := 0, slots := 0, locals := 24 } : Room) #[(.ref b)] h0 [] [b] (fun v h => v = none ∧ Fld Z h b "java/util/AbstractList" "modCount" "I" (.int 0) ∧ Fld Z h b "java/util/ArrayList" "elementData" "[Ljava/lang/Object;" ve) := by
  refine Ct.of_wp (a0 := a0) (Ls := #[.val (.ref b)]) (plainFor_of_name pn_java_util_AbstractList) hE hO (by intro x hx; cases List.mem_singleton.mp hx; exact hb0) (fun m => ef_ctABL m b) ?_
  refine Wp.aloadN d17_0 (pc' := 1) rfl rfl rfl ?_
  refine Wp.old fun hOc => ?_
  refine Wp.callI (a := b) (W := 0) (argsL := []) (rest := []) rfl (ctAC l Z a0 hw hE b h0 hOc) rfl rfl (hw _ (List.mem_of_getElem? (i := 94) rfl)) (hw _ (List.mem_of_getElem? (i := 95) rfl)) (hw _ (List.mem_of_getElem? (i := 99) rfl)) (hw _ (List.mem_of_getElem? (i := 98) rfl)) (by decide) (lenOf pd___V rfl) d17_1 rfl rfl rfl (Nat.le_of_eq rfl) (pc' := 4) rfl nofun nofun (by decide) (by decide) (k' := 0) (n' := 0) rfl rfl (by decide) (by decide) (fun vh1 h1 zh1 Kh1 qh1 => ?_)
  obtain rfl := qh1
  replace E_b := E_b.keep Kh1
  replace F_m := F_m.keep Kh1 nin0
  replace F_e := F_e.keep Kh1 nin0
  refine Wp.eqS (S' := []) rfl ?_
  refine Wp.aloadN d17_4 (pc' := 5) rfl rfl rfl ?_
  refine Wp.iconst (x := (0 : Int32)) d17_5 (pc' := 6) rfl rfl ?_
  refine Wp.putF rfl (host := "") (Or.inl (hw _ (List.mem_of_getElem? (i := 101) rfl))) Via.refl F_m E_b (Or.inl (hw _ (List.mem_of_getElem? (i := 102) rfl))) (hw _ (List.mem_of_getElem? (i := 83) rfl)) (ty := .int) (by decide) rfl rfl d17_6 (pc' := 9) rfl (Or.inl (by simp)) (Sfe.exa E_b (by decide) (by decide)) (fun h2 W2 Fh2 => ?_)
  replace E_b := E_b.wr W2
  replace F_e := F_e.other W2 (Or.inr (slot_ne (Or.inl (hw _ (List.mem_of_getElem? (i := 105) rfl))) (Or.inl (hw _ (List.mem_of_getElem? (i := 102) rfl))) (by decide) (t := (.array (.object "java/lang/Object"))) (t' := .int) (by decide) (by decide)))
  replace F_m := Fh2
  refine Wp.retn rfl d17_9 (by decide) (by decide) ?_
  exact ⟨rfl, F_m, F_e⟩
theorem d16_0 : decode jdk_38_method_2_code 0 = .ok (.aload_n 0, 1) := by decide +kernel
theorem d16_1 : decode jdk_38_method_2_code 1 = .ok (.invokespecial 1, 3) := by decide +kernel
theorem d16_4 : decode jdk_38_method_2_code 4 = .ok (.aload_n 0, 1) := by decide +kernel
theorem d16_5 : decode jdk_38_method_2_code 5 = .ok (.getstatic 39, 3) := by decide +kernel
theorem d16_8 : decode jdk_38_method_2_code 8 = .ok (.putfield 9, 3) := by decide +kernel
theorem d16_11 : decode jdk_38_method_2_code 11 = .ok (.return_, 1) := by decide +kernel
theorem pn_java_util_ArrayList : plainName "java/util/ArrayList" = true := by first | (simp [plainName, overriddenIn]; done) | decide +kernel
theorem ef_ctAL (m : MethodId) (x0 : Addr) : entryFrame m #[(.ref x0)] 1 = mkF m 0 #[.val (.ref x0)] [] := by first | (simp [entryFrame, mkF, argsToLocals, Value.category]; done) | rfl
set_option maxRecDepth 65536 in
set_option maxHeartbeats 40000000 in
theorem ctAL (l : Launch) (Z : State) (a0 : Array Value) (hw : ∀ d ∈ tables_1, d.before a0 Z = true) (hE : EW Z a0 [("java/lang/String", 7), ("com/example/portwright/portwright/xml/XmlElementIsPinLaw", 32)]) (b de : Addr) (h0 : Heap) (hO : Ext Z.heap h0) (hb0 : Z.heap.size ≤ b) (E_b : Exa Z h0 b "java/util/ArrayList") (F_m : Fld Z h0 b "java/util/AbstractList" "modCount" "I" (.int 0)) (F_e : Fld Z h0 b "java/util/ArrayList" "elementData" "[Ljava/lang/Object;" .null) (hde : Sta Z Z.heap "java/util/ArrayList" "DEFAULTCAPACITY_EMPTY_ELEMENTDATA" "[Ljava/lang/Object;" (.ref de)) :
    Ct true l Z [("java/lang/String", 7), ("com/example/portwright/portwright/xml/XmlElementIsPinLaw", 32)] [] (⟨"java/util/ArrayList", "<init>", "()V"⟩ : MethodName) jdk_38_method_2_code 1 none ({ frames := 3, cells := 0, slots := 0, locals := 36 } : Room) #[(.ref b)] h0 [] [b] (fun v h => v = none ∧ Fld Z h b "java/util/AbstractList" "modCount" "I" (.int 0) ∧ Fld Z h b "java/util/ArrayList" "elementData" "[Ljava/lang/Object;" (.ref de)) := by
  refine Ct.of_wp (a0 := a0) (Ls := #[.val (.ref b)]) (plainFor_of_name pn_java_util_ArrayList) hE hO (by intro x hx; cases List.mem_singleton.mp hx; exact hb0) (fun m => ef_ctAL m b) ?_
  refine Wp.aloadN d16_0 (pc' := 1) rfl rfl rfl ?_
  refine Wp.old fun hOc => ?_
  refine Wp.callI (a := b) (W := 0) (argsL := []) (rest := []) rfl (ctABL l Z a0 hw hE b _ h0 hOc hb0 E_b F_m F_e) rfl rfl (hw _ (List.mem_of_getElem? (i := 88) rfl)) (hw _ (List.mem_of_getElem? (i := 89) rfl)) (hw _ (List.mem_of_getElem? (i := 93) rfl)) (hw _ (List.mem_of_getElem? (i := 92) rfl)) (by decide) (lenOf pd___V rfl) d16_1 rfl rfl rfl (Nat.le_of_eq rfl) (pc' := 4) rfl nofun (by intro x hx; simp only [List.mem_cons, List.not_mem_nil, or_false] at hx; rcases hx with rfl; exact (Or.inl (by simp))) (by decide) (by decide) (k' := 0) (n' := 0) rfl rfl (by decide) (by decide) (fun vh1 h1 zh1 Kh1 qh1 => ?_)
  obtain ⟨rfl, F_m, F_e⟩ := qh1
  replace E_b := E_b.keep Kh1
  refine Wp.eqS (S' := []) rfl ?_
  refine Wp.aloadN d16_4 (pc' := 5) rfl rfl rfl ?_
  refine Wp.getS rfl (host := "") (Or.inl (hw _ (List.mem_of_getElem? (i := 103) rfl))) Via.refl hde d16_5 (pc' := 8) rfl ?_
  refine Wp.putF rfl (host := "") (Or.inl (hw _ (List.mem_of_getElem? (i := 104) rfl))) Via.refl F_e E_b (Or.inl (hw _ (List.mem_of_getElem? (i := 105) rfl))) (hw _ (List.mem_of_getElem? (i := 83) rfl)) (ty := (.array (.object "java/lang/Object"))) (by decide) rfl rfl d16_8 (pc' := 11) rfl (Or.inl (by simp)) (Sfe.exa E_b (by decide) (by decide)) (fun h2 W2 Fh2 => ?_)
  replace E_b := E_b.wr W2
  replace F_m := F_m.other W2 (Or.inr (slot_ne (Or.inl (hw _ (List.mem_of_getElem? (i := 102) rfl))) (Or.inl (hw _ (List.mem_of_getElem? (i := 105) rfl))) (by decide) (t := .int) (t' := (.array (.object "java/lang/Object"))) (by decide) (by decide)))
  replace F_e := Fh2
  refine Wp.retn rfl d16_11 (by decide) (by decide) ?_
  exact ⟨rfl, F_m, F_e⟩
theorem d15_0 : decode prog_63_method_1_code 0 = .ok (.aload_n 0, 1) := by decide +kernel
theorem d15_1 : decode prog_63_method_1_code 1 = .ok (.invokespecial 1, 3) := by decide +kernel
theorem d15_4 : decode prog_63_method_1_code 4 = .ok (.aload_n 0, 1) := by decide +kernel
theorem d15_5 : decode prog_63_method_1_code 5 = .ok (.new 7, 3) := by decide +kernel
theorem d15_8 : decode prog_63_method_1_code 8 = .ok (.dup, 1) := by decide +kernel
theorem d15_9 : decode prog_63_method_1_code 9 = .ok (.invokespecial 9, 3) := by decide +kernel
theorem d15_12 : decode prog_63_method_1_code 12 = .ok (.putfield 10, 3) := by decide +kernel
theorem d15_15 : decode prog_63_method_1_code 15 = .ok (.aload_n 0, 1) := by decide +kernel
theorem d15_16 : decode prog_63_method_1_code 16 = .ok (.aload_n 1, 1) := by decide +kernel
theorem d15_17 : decode prog_63_method_1_code 17 = .ok (.putfield 16, 3) := by decide +kernel
theorem d15_20 : decode prog_63_method_1_code 20 = .ok (.aload_n 0, 1) := by decide +kernel
theorem d15_21 : decode prog_63_method_1_code 21 = .ok (.aload_n 2, 1) := by decide +kernel
theorem d15_22 : decode prog_63_method_1_code 22 = .ok (.putfield 20, 3) := by decide +kernel
theorem d15_25 : decode prog_63_method_1_code 25 = .ok (.aload_n 0, 1) := by decide +kernel
theorem d15_26 : decode prog_63_method_1_code 26 = .ok (.aload_n 3, 1) := by decide +kernel
theorem d15_27 : decode prog_63_method_1_code 27 = .ok (.invokestatic 23, 3) := by decide +kernel
theorem d15_30 : decode prog_63_method_1_code 30 = .ok (.putfield 29, 3) := by decide +kernel
theorem d15_33 : decode prog_63_method_1_code 33 = .ok (.aload_n 0, 1) := by decide +kernel
theorem d15_34 : decode prog_63_method_1_code 34 = .ok (.aload 4, 2) := by decide +kernel
theorem d15_36 : decode prog_63_method_1_code 36 = .ok (.invokestatic 23, 3) := by decide +kernel
theorem d15_39 : decode prog_63_method_1_code 39 = .ok (.putfield 33, 3) := by decide +kernel
theorem d15_42 : decode prog_63_method_1_code 42 = .ok (.aload_n 0, 1) := by decide +kernel
theorem d15_43 : decode prog_63_method_1_code 43 = .ok (.aload 5, 2) := by decide +kernel
theorem d15_45 : decode prog_63_method_1_code 45 = .ok (.putfield 36, 3) := by decide +kernel
theorem d15_48 : decode prog_63_method_1_code 48 = .ok (.return_, 1) := by decide +kernel
theorem pn_com_example_portwright_portwright_xml_XmlElement : plainName "com/example/portwright/portwright/xml/XmlElement" = true := by first | (simp [plainName, overriddenIn]; done) | decide +kernel
theorem ef_ctXE (m : MethodId) (x0 : Addr) (x1 : Addr) (x2 : Addr) (x3 : Addr) (x4 : Addr) (x5 : Addr) : entryFrame m #[(.ref x0), (.ref x1), (.ref x2), (.ref x3), (.ref x4), (.ref x5)] 6 = mkF m 0 #[.val (.ref x0), .val (.ref x1), .val (.ref x2), .val (.ref x3), .val (.ref x4), .val (.ref x5)] [] := by first | (simp [entryFrame, mkF, argsToLocals, Value.category]; done) | rfl
theorem pd__Ljava_util_Map__Ljava_util_Map_ : parseMethodDescriptor "(Ljava/util/Map;)Ljava/util/Map;" = some ⟨[(.object "java/util/Map")], some (.object "java/util/Map")⟩ := by decide +kernel
set_option maxRecDepth 65536 in
set_option maxHeartbeats 40000000 in
theorem ctXE (l : Launch) (Z : State) (a0 : Array Value) (hw : ∀ d ∈ tables_1, d.before a0 Z = true) (hE : EW Z a0 [("java/lang/String", 7), ("com/example/portwright/portwright/xml/XmlElementIsPinLaw", 32)]) (b s t em o de : Addr) (h0 : Heap) (hO : Ext Z.heap h0) (hb0 : Z.heap.size ≤ b) (E_b : Exa Z h0 b "com/example/portwright/portwright/xml/XmlElement") (F0 : Fld Z h0 b "com/example/portwright/portwright/xml/XmlElement" "children" "Ljava/util/List;" .null) (F1 : Fld Z h0 b "com/example/portwright/portwright/xml/XmlElement" "namespace" "Ljava/lang/String;" .null) (F2 : Fld Z h0 b "com/example/portwright/portwright/xml/XmlElement" "localName" "Ljava/lang/String;" .null) (F3 : Fld Z h0 b "com/example/portwright/portwright/xml/XmlElement" "attributes" "Ljava/util/Map;" .null) (F4 : Fld Z h0 b "com/example/portwright/portwright/xml/XmlElement" "declarations" "Ljava/util/Map;" .null) (F5 : Fld Z h0 b "com/example/portwright/portwright/xml/XmlElement" "location" "Lcom/example/portwright/portwright/xml/SourceLocation;" .null) (xem : Exa Z Z.heap em "java/util/ImmutableCollections$MapN") (hde : Sta Z Z.heap "java/util/ArrayList" "DEFAULTCAPACITY_EMPTY_ELEMENTDATA" "[Ljava/lang/Object;" (.ref de)) :
    Ct true l Z [("java/lang/String", 7), ("com/example/portwright/portwright/xml/XmlElementIsPinLaw", 32)] [] (⟨"com/example/portwright/portwright/xml/XmlElement", "<init>", "(Ljava/lang/String;Ljava/lang/String;Ljava/util/Map;Ljava/util/Map;Lcom/example/portwright/portwright/xml/SourceLocation;)V"⟩ : MethodName) prog_63_method_1_code 6 none ({ frames := 4, cells := 1, slots := 3, locals := 50 } : Room) #[(.ref b), (.ref s), (.ref t), (.ref em), (.ref em), (.ref o)] h0 [] [b] (fun v h => v = none ∧ Fld Z h b "com/example/portwright/portwright/xml/XmlElement" "namespace" "Ljava/lang/String;" (.ref s) ∧ Fld Z h b "com/example/portwright/portwright/xml/XmlElement" "localName" "Ljava/lang/String;" (.ref t)) := by
  refine Ct.of_wp (a0 := a0) (Ls := #[.val (.ref b), .val (.ref s), .val (.ref t), .val (.ref em), .val (.ref em), .val (.ref o)]) (plainFor_of_name pn_com_example_portwright_portwright_xml_XmlElement) hE hO (by intro x hx; cases List.mem_singleton.mp hx; exact hb0) (fun m => ef_ctXE m b s t em em o) ?_
  refine Wp.aloadN d15_0 (pc' := 1) rfl rfl rfl ?_
  refine Wp.initO (W := 0) rfl (hw _ (List.mem_of_getElem? (i := 81) rfl)) (hw _ (List.mem_of_getElem? (i := 16) rfl)) (hw _ (List.mem_of_getElem? (i := 17) rfl)) d15_1 (pc' := 4) rfl rfl (by decide) (Nat.le_of_eq rfl) (by decide) ?_
  refine Wp.aloadN d15_4 (pc' := 5) rfl rfl rfl ?_
  refine Wp.new rfl (hw _ (List.mem_of_getElem? (i := 82) rfl)) (hw _ (List.mem_of_getElem? (i := 83) rfl)) (hw _ (List.mem_of_getElem? (i := 84) rfl)) d15_5 (pc' := 8) rfl (k' := 1) (n' := 3) rfl rfl (by decide) (by decide) (fun h1 b1 g_b1 sz_b1 Xh1 E_b1 D_b1 => ?_)
  have ne_b_b1 : b ≠ b1 := Nat.ne_of_lt (Nat.lt_of_lt_of_eq E_b.lt g_b1.symm)
  replace E_b := E_b.ext Xh1
  replace F0 := F0.ext Xh1
  replace F1 := F1.ext Xh1
  replace F2 := F2.ext Xh1
  replace F3 := F3.ext Xh1
  replace F4 := F4.ext Xh1
  replace F5 := F5.ext Xh1
  have F_modCount_b1 : Fld Z h1 b1 "java/util/AbstractList" "modCount" "I" (.int (0 : Int32)) := D_b1 (Or.inl (hw _ (List.mem_of_getElem? (i := 102) rfl))) (ty := .int) (by decide)
  have F_elementData_b1 : Fld Z h1 b1 "java/util/ArrayList" "elementData" "[Ljava/lang/Object;" .null := D_b1 (Or.inl (hw _ (List.mem_of_getElem? (i := 105) rfl))) (ty := (.array (.object "java/lang/Object"))) (by decide)
  clear D_b1
  refine Wp.dup d15_8 (pc' := 9) rfl rfl ?_
  refine Wp.old fun hOc => ?_
  refine Wp.callI (a := b1) (W := 2) (argsL := []) (rest := [(.ref b1), (.ref b)]) rfl (ctAL l Z a0 hw hE b1 de h1 hOc (Nat.le_trans hO.1 sz_b1) E_b1 F_modCount_b1 F_elementData_b1 hde) rfl rfl (hw _ (List.mem_of_getElem? (i := 85) rfl)) (hw _ (List.mem_of_getElem? (i := 86) rfl)) (hw _ (List.mem_of_getElem? (i := 87) rfl)) (hw _ (List.mem_of_getElem? (i := 84) rfl)) (by decide) (lenOf pd___V rfl) d15_9 rfl rfl rfl (Nat.le_of_eq rfl) (pc' := 12) rfl nofun (by intro x hx; simp only [List.mem_cons, List.not_mem_nil, or_false] at hx; rcases hx with rfl; exact (Or.inr sz_b1)) (by decide) (by decide) (k' := 1) (n' := 3) rfl rfl (by decide) (by decide) (fun vh2 h2 zh2 Kh2 qh2 => ?_)
  obtain ⟨rfl, M_b1, L_b1⟩ := qh2
  replace E_b := E_b.keep Kh2
  replace F0 := F0.keep Kh2 (ninS ne_b_b1 nin0)
  replace F1 := F1.keep Kh2 (ninS ne_b_b1 nin0)
  replace F2 := F2.keep Kh2 (ninS ne_b_b1 nin0)
  replace F3 := F3.keep Kh2 (ninS ne_b_b1 nin0)
  replace F4 := F4.keep Kh2 (ninS ne_b_b1 nin0)
  replace F5 := F5.keep Kh2 (ninS ne_b_b1 nin0)
  replace E_b1 := E_b1.keep Kh2
  refine Wp.eqS (S' := [(.ref b1), (.ref b)]) rfl ?_
  refine Wp.putF rfl (host := "") (Or.inl (hw _ (List.mem_of_getElem? (i := 106) rfl))) Via.refl F0 E_b (Or.inr ⟨(hw _ (List.mem_of_getElem? (i := 107) rfl)), rfl, rfl⟩) (hw _ (List.mem_of_getElem? (i := 52) rfl)) (ty := (.object "java/util/List")) (by decide) rfl rfl d15_12 (pc' := 15) rfl (Or.inl (by simp)) (Sfe.exa E_b (by decide) (by decide)) (fun h3 W3 Fh3 => ?_)
  replace E_b := E_b.wr W3
  replace F1 := F1.other W3 (Or.inr (slot_ne (Or.inr (hw _ (List.mem_of_getElem? (i := 109) rfl))) (Or.inr (hw _ (List.mem_of_getElem? (i := 107) rfl))) (by decide) (t := (.object "java/lang/String")) (t' := (.object "java/util/List")) (by decide) (by decide)))
  replace F2 := F2.other W3 (Or.inr (slot_ne (Or.inr (hw _ (List.mem_of_getElem? (i := 111) rfl))) (Or.inr (hw _ (List.mem_of_getElem? (i := 107) rfl))) (by decide) (t := (.object "java/lang/String")) (t' := (.object "java/util/List")) (by decide) (by decide)))
  replace F3 := F3.other W3 (Or.inr (slot_ne (Or.inr (hw _ (List.mem_of_getElem? (i := 118) rfl))) (Or.inr (hw _ (List.mem_of_getElem? (i := 107) rfl))) (by decide) (t := (.object "java/util/Map")) (t' := (.object "java/util/List")) (by decide) (by decide)))
  replace F4 := F4.other W3 (Or.inr (slot_ne (Or.inr (hw _ (List.mem_of_getElem? (i := 120) rfl))) (Or.inr (hw _ (List.mem_of_getElem? (i := 107) rfl))) (by decide) (t := (.object "java/util/Map")) (t' := (.object "java/util/List")) (by decide) (by decide)))
  replace F5 := F5.other W3 (Or.inr (slot_ne (Or.inr (hw _ (List.mem_of_getElem? (i := 122) rfl))) (Or.inr (hw _ (List.mem_of_getElem? (i := 107) rfl))) (by decide) (t := (.object "com/example/portwright/portwright/xml/SourceLocation")) (t' := (.object "java/util/List")) (by decide) (by decide)))
  replace E_b1 := E_b1.wr W3
  replace M_b1 := M_b1.other W3 (Or.inl (Ne.symm ne_b_b1))
  replace L_b1 := L_b1.other W3 (Or.inl (Ne.symm ne_b_b1))
  replace F0 := Fh3
  refine Wp.aloadN d15_15 (pc' := 16) rfl rfl rfl ?_
  refine Wp.aloadN d15_16 (pc' := 17) rfl rfl rfl ?_
  refine Wp.putF rfl (host := "") (Or.inl (hw _ (List.mem_of_getElem? (i := 108) rfl))) Via.refl F1 E_b (Or.inr ⟨(hw _ (List.mem_of_getElem? (i := 109) rfl)), rfl, rfl⟩) (hw _ (List.mem_of_getElem? (i := 52) rfl)) (ty := (.object "java/lang/String")) (by decide) rfl rfl d15_17 (pc' := 20) rfl (Or.inl (by simp)) (Sfe.exa E_b (by decide) (by decide)) (fun h4 W4 Fh4 => ?_)
  replace E_b := E_b.wr W4
  replace F0 := F0.other W4 (Or.inr (slot_ne (Or.inr (hw _ (List.mem_of_getElem? (i := 107) rfl))) (Or.inr (hw _ (List.mem_of_getElem? (i := 109) rfl))) (by decide) (t := (.object "java/util/List")) (t' := (.object "java/lang/String")) (by decide) (by decide)))
  replace F2 := F2.other W4 (Or.inr (slot_ne (Or.inr (hw _ (List.mem_of_getElem? (i := 111) rfl))) (Or.inr (hw _ (List.mem_of_getElem? (i := 109) rfl))) (by decide) (t := (.object "java/lang/String")) (t' := (.object "java/lang/String")) (by decide) (by decide)))
  replace F3 := F3.other W4 (Or.inr (slot_ne (Or.inr (hw _ (List.mem_of_getElem? (i := 118) rfl))) (Or.inr (hw _ (List.mem_of_getElem? (i := 109) rfl))) (by decide) (t := (.object "java/util/Map")) (t' := (.object "java/lang/String")) (by decide) (by decide)))
  replace F4 := F4.other W4 (Or.inr (slot_ne (Or.inr (hw _ (List.mem_of_getElem? (i := 120) rfl))) (Or.inr (hw _ (List.mem_of_getElem? (i := 109) rfl))) (by decide) (t := (.object "java/util/Map")) (t' := (.object "java/lang/String")) (by decide) (by decide)))
  replace F5 := F5.other W4 (Or.inr (slot_ne (Or.inr (hw _ (List.mem_of_getElem? (i := 122) rfl))) (Or.inr (hw _ (List.mem_of_getElem? (i := 109) rfl))) (by decide) (t := (.object "com/example/portwright/portwright/xml/SourceLocation")) (t' := (.object "java/lang/String")) (by decide) (by decide)))
  replace E_b1 := E_b1.wr W4
  replace M_b1 := M_b1.other W4 (Or.inl (Ne.symm ne_b_b1))
  replace L_b1 := L_b1.other W4 (Or.inl (Ne.symm ne_b_b1))
  replace F1 := Fh4
  refine Wp.aloadN d15_20 (pc' := 21) rfl rfl rfl ?_
  refine Wp.aloadN d15_21 (pc' := 22) rfl rfl rfl ?_
  refine Wp.putF rfl (host := "") (Or.inl (hw _ (List.mem_of_getElem? (i := 110) rfl))) Via.refl F2 E_b (Or.inr ⟨(hw _ (List.mem_of_getElem? (i := 111) rfl)), rfl, rfl⟩) (hw _ (List.mem_of_getElem? (i := 52) rfl)) (ty := (.object "java/lang/String")) (by decide) rfl rfl d15_22 (pc' := 25) rfl (Or.inl (by simp)) (Sfe.exa E_b (by decide) (by decide)) (fun h5 W5 Fh5 => ?_)
  replace E_b := E_b.wr W5
  replace F0 := F0.other W5 (Or.inr (slot_ne (Or.inr (hw _ (List.mem_of_getElem? (i := 107) rfl))) (Or.inr (hw _ (List.mem_of_getElem? (i := 111) rfl))) (by decide) (t := (.object "java/util/List")) (t' := (.object "java/lang/String")) (by decide) (by decide)))
  replace F1 := F1.other W5 (Or.inr (slot_ne (Or.inr (hw _ (List.mem_of_getElem? (i := 109) rfl))) (Or.inr (hw _ (List.mem_of_getElem? (i := 111) rfl))) (by decide) (t := (.object "java/lang/String")) (t' := (.object "java/lang/String")) (by decide) (by decide)))
  replace F3 := F3.other W5 (Or.inr (slot_ne (Or.inr (hw _ (List.mem_of_getElem? (i := 118) rfl))) (Or.inr (hw _ (List.mem_of_getElem? (i := 111) rfl))) (by decide) (t := (.object "java/util/Map")) (t' := (.object "java/lang/String")) (by decide) (by decide)))
  replace F4 := F4.other W5 (Or.inr (slot_ne (Or.inr (hw _ (List.mem_of_getElem? (i := 120) rfl))) (Or.inr (hw _ (List.mem_of_getElem? (i := 111) rfl))) (by decide) (t := (.object "java/util/Map")) (t' := (.object "java/lang/String")) (by decide) (by decide)))
  replace F5 := F5.other W5 (Or.inr (slot_ne (Or.inr (hw _ (List.mem_of_getElem? (i := 122) rfl))) (Or.inr (hw _ (List.mem_of_getElem? (i := 111) rfl))) (by decide) (t := (.object "com/example/portwright/portwright/xml/SourceLocation")) (t' := (.object "java/lang/String")) (by decide) (by decide)))
  replace E_b1 := E_b1.wr W5
  replace M_b1 := M_b1.other W5 (Or.inl (Ne.symm ne_b_b1))
  replace L_b1 := L_b1.other W5 (Or.inl (Ne.symm ne_b_b1))
  replace F2 := Fh5
  refine Wp.aloadN d15_25 (pc' := 26) rfl rfl rfl ?_
  refine Wp.aloadN d15_26 (pc' := 27) rfl rfl rfl ?_
  refine Wp.old fun hOc => ?_
  refine Wp.callS (W := 1) (argsL := [(.ref em)]) (rest := [(.ref b)]) rfl (ctCPY l Z a0 hw hE em h5 hOc xem) (hw _ (List.mem_of_getElem? (i := 112) rfl)) (hw _ (List.mem_of_getElem? (i := 113) rfl)) (hw _ (List.mem_of_getElem? (i := 114) rfl)) (hw _ (List.mem_of_getElem? (i := 56) rfl)) (by decide) (lenOf pd__Ljava_util_Map__Ljava_util_Map_ rfl) d15_27 rfl rfl rfl (Nat.le_of_eq rfl) (pc' := 30) rfl nofun nofun (by decide) (by decide) (k' := 1) (n' := 3) rfl rfl (by decide) (by decide) (fun vh6 h6 zh6 Kh6 qh6 => ?_)
  obtain rfl := qh6
  replace E_b := E_b.keep Kh6
  replace F0 := F0.keep Kh6 nin0
  replace F1 := F1.keep Kh6 nin0
  replace F2 := F2.keep Kh6 nin0
  replace F3 := F3.keep Kh6 nin0
  replace F4 := F4.keep Kh6 nin0
  replace F5 := F5.keep Kh6 nin0
  replace E_b1 := E_b1.keep Kh6
  replace M_b1 := M_b1.keep Kh6 nin0
  replace L_b1 := L_b1.keep Kh6 nin0
  refine Wp.eqS (S' := [(.ref em), (.ref b)]) rfl ?_
  refine Wp.putF rfl (host := "") (Or.inl (hw _ (List.mem_of_getElem? (i := 117) rfl))) Via.refl F3 E_b (Or.inr ⟨(hw _ (List.mem_of_getElem? (i := 118) rfl)), rfl, rfl⟩) (hw _ (List.mem_of_getElem? (i := 52) rfl)) (ty := (.object "java/util/Map")) (by decide) rfl rfl d15_30 (pc' := 33) rfl (Or.inl (by simp)) (Sfe.exa E_b (by decide) (by decide)) (fun h7 W7 Fh7 => ?_)
  replace E_b := E_b.wr W7
  replace F0 := F0.other W7 (Or.inr (slot_ne (Or.inr (hw _ (List.mem_of_getElem? (i := 107) rfl))) (Or.inr (hw _ (List.mem_of_getElem? (i := 118) rfl))) (by decide) (t := (.object "java/util/List")) (t' := (.object "java/util/Map")) (by decide) (by decide)))
  replace F1 := F1.other W7 (Or.inr (slot_ne (Or.inr (hw _ (List.mem_of_getElem? (i := 109) rfl))) (Or.inr (hw _ (List.mem_of_getElem? (i := 118) rfl))) (by decide) (t := (.object "java/lang/String")) (t' := (.object "java/util/Map")) (by decide) (by decide)))
  replace F2 := F2.other W7 (Or.inr (slot_ne (Or.inr (hw _ (List.mem_of_getElem? (i := 111) rfl))) (Or.inr (hw _ (List.mem_of_getElem? (i := 118) rfl))) (by decide) (t := (.object "java/lang/String")) (t' := (.object "java/util/Map")) (by decide) (by decide)))
  replace F4 := F4.other W7 (Or.inr (slot_ne (Or.inr (hw _ (List.mem_of_getElem? (i := 120) rfl))) (Or.inr (hw _ (List.mem_of_getElem? (i := 118) rfl))) (by decide) (t := (.object "java/util/Map")) (t' := (.object "java/util/Map")) (by decide) (by decide)))
  replace F5 := F5.other W7 (Or.inr (slot_ne (Or.inr (hw _ (List.mem_of_getElem? (i := 122) rfl))) (Or.inr (hw _ (List.mem_of_getElem? (i := 118) rfl))) (by decide) (t := (.object "com/example/portwright/portwright/xml/SourceLocation")) (t' := (.object "java/util/Map")) (by decide) (by decide)))
  replace E_b1 := E_b1.wr W7
  replace M_b1 := M_b1.other W7 (Or.inl (Ne.symm ne_b_b1))
  replace L_b1 := L_b1.other W7 (Or.inl (Ne.symm ne_b_b1))
  replace F3 := Fh7
  refine Wp.aloadN d15_33 (pc' := 34) rfl rfl rfl ?_
  refine Wp.aload d15_34 (pc' := 36) rfl rfl rfl ?_
  refine Wp.old fun hOc => ?_
  refine Wp.callS (W := 1) (argsL := [(.ref em)]) (rest := [(.ref b)]) rfl (ctCPY l Z a0 hw hE em h7 hOc xem) (hw _ (List.mem_of_getElem? (i := 112) rfl)) (hw _ (List.mem_of_getElem? (i := 113) rfl)) (hw _ (List.mem_of_getElem? (i := 114) rfl)) (hw _ (List.mem_of_getElem? (i := 56) rfl)) (by decide) (lenOf pd__Ljava_util_Map__Ljava_util_Map_ rfl) d15_36 rfl rfl rfl (Nat.le_of_eq rfl) (pc' := 39) rfl nofun nofun (by decide) (by decide) (k' := 1) (n' := 3) rfl rfl (by decide) (by decide) (fun vh8 h8 zh8 Kh8 qh8 => ?_)
  obtain rfl := qh8
  replace E_b := E_b.keep Kh8
  replace F0 := F0.keep Kh8 nin0
  replace F1 := F1.keep Kh8 nin0
  replace F2 := F2.keep Kh8 nin0
  replace F3 := F3.keep Kh8 nin0
  replace F4 := F4.keep Kh8 nin0
  replace F5 := F5.keep Kh8 nin0
  replace E_b1 := E_b1.keep Kh8
  replace M_b1 := M_b1.keep Kh8 nin0
  replace L_b1 := L_b1.keep Kh8 nin0
  refine Wp.eqS (S' := [(.ref em), (.ref b)]) rfl ?_
  refine Wp.putF rfl (host := "") (Or.inl (hw _ (List.mem_of_getElem? (i := 119) rfl))) Via.refl F4 E_b (Or.inr ⟨(hw _ (List.mem_of_getElem? (i := 120) rfl)), rfl, rfl⟩) (hw _ (List.mem_of_getElem? (i := 52) rfl)) (ty := (.object "java/util/Map")) (by decide) rfl rfl d15_39 (pc' := 42) rfl (Or.inl (by simp)) (Sfe.exa E_b (by decide) (by decide)) (fun h9 W9 Fh9 => ?_)
  replace E_b := E_b.wr W9
  replace F0 := F0.other W9 (Or.inr (slot_ne (Or.inr (hw _ (List.mem_of_getElem? (i := 107) rfl))) (Or.inr (hw _ (List.mem_of_getElem? (i := 120) rfl))) (by decide) (t := (.object "java/util/List")) (t' := (.object "java/util/Map")) (by decide) (by decide)))
  replace F1 := F1.other W9 (Or.inr (slot_ne (Or.inr (hw _ (List.mem_of_getElem? (i := 109) rfl))) (Or.inr (hw _ (List.mem_of_getElem? (i := 120) rfl))) (by decide) (t := (.object "java/lang/String")) (t' := (.object "java/util/Map")) (by decide) (by decide)))
  replace F2 := F2.other W9 (Or.inr (slot_ne (Or.inr (hw _ (List.mem_of_getElem? (i := 111) rfl))) (Or.inr (hw _ (List.mem_of_getElem? (i := 120) rfl))) (by decide) (t := (.object "java/lang/String")) (t' := (.object "java/util/Map")) (by decide) (by decide)))
  replace F3 := F3.other W9 (Or.inr (slot_ne (Or.inr (hw _ (List.mem_of_getElem? (i := 118) rfl))) (Or.inr (hw _ (List.mem_of_getElem? (i := 120) rfl))) (by decide) (t := (.object "java/util/Map")) (t' := (.object "java/util/Map")) (by decide) (by decide)))
  replace F5 := F5.other W9 (Or.inr (slot_ne (Or.inr (hw _ (List.mem_of_getElem? (i := 122) rfl))) (Or.inr (hw _ (List.mem_of_getElem? (i := 120) rfl))) (by decide) (t := (.object "com/example/portwright/portwright/xml/SourceLocation")) (t' := (.object "java/util/Map")) (by decide) (by decide)))
  replace E_b1 := E_b1.wr W9
  replace M_b1 := M_b1.other W9 (Or.inl (Ne.symm ne_b_b1))
  replace L_b1 := L_b1.other W9 (Or.inl (Ne.symm ne_b_b1))
  replace F4 := Fh9
  refine Wp.aloadN d15_42 (pc' := 43) rfl rfl rfl ?_
  refine Wp.aload d15_43 (pc' := 45) rfl rfl rfl ?_
  refine Wp.putF rfl (host := "") (Or.inl (hw _ (List.mem_of_getElem? (i := 121) rfl))) Via.refl F5 E_b (Or.inr ⟨(hw _ (List.mem_of_getElem? (i := 122) rfl)), rfl, rfl⟩) (hw _ (List.mem_of_getElem? (i := 52) rfl)) (ty := (.object "com/example/portwright/portwright/xml/SourceLocation")) (by decide) rfl rfl d15_45 (pc' := 48) rfl (Or.inl (by simp)) (Sfe.exa E_b (by decide) (by decide)) (fun h10 W10 Fh10 => ?_)
  replace E_b := E_b.wr W10
  replace F0 := F0.other W10 (Or.inr (slot_ne (Or.inr (hw _ (List.mem_of_getElem? (i := 107) rfl))) (Or.inr (hw _ (List.mem_of_getElem? (i := 122) rfl))) (by decide) (t := (.object "java/util/List")) (t' := (.object "com/example/portwright/portwright/xml/SourceLocation")) (by decide) (by decide)))
  replace F1 := F1.other W10 (Or.inr (slot_ne (Or.inr (hw _ (List.mem_of_getElem? (i := 109) rfl))) (Or.inr (hw _ (List.mem_of_getElem? (i := 122) rfl))) (by decide) (t := (.object "java/lang/String")) (t' := (.object "com/example/portwright/portwright/xml/SourceLocation")) (by decide) (by decide)))
  replace F2 := F2.other W10 (Or.inr (slot_ne (Or.inr (hw _ (List.mem_of_getElem? (i := 111) rfl))) (Or.inr (hw _ (List.mem_of_getElem? (i := 122) rfl))) (by decide) (t := (.object "java/lang/String")) (t' := (.object "com/example/portwright/portwright/xml/SourceLocation")) (by decide) (by decide)))
  replace F3 := F3.other W10 (Or.inr (slot_ne (Or.inr (hw _ (List.mem_of_getElem? (i := 118) rfl))) (Or.inr (hw _ (List.mem_of_getElem? (i := 122) rfl))) (by decide) (t := (.object "java/util/Map")) (t' := (.object "com/example/portwright/portwright/xml/SourceLocation")) (by decide) (by decide)))
  replace F4 := F4.other W10 (Or.inr (slot_ne (Or.inr (hw _ (List.mem_of_getElem? (i := 120) rfl))) (Or.inr (hw _ (List.mem_of_getElem? (i := 122) rfl))) (by decide) (t := (.object "java/util/Map")) (t' := (.object "com/example/portwright/portwright/xml/SourceLocation")) (by decide) (by decide)))
  replace E_b1 := E_b1.wr W10
  replace M_b1 := M_b1.other W10 (Or.inl (Ne.symm ne_b_b1))
  replace L_b1 := L_b1.other W10 (Or.inl (Ne.symm ne_b_b1))
  replace F5 := Fh10
  refine Wp.retn rfl d15_48 (by decide) (by decide) ?_
  exact ⟨rfl, F1, F2⟩
theorem d20_0 : decode method_3_code 0 = .ok (.iload_n 0, 1) := by decide +kernel
theorem d20_1 : decode method_3_code 1 = .ok (.iload_n 3, 1) := by decide +kernel
theorem d20_2 : decode method_3_code 2 = .ok (.if_icmp .ne 29, 3) := by decide +kernel
theorem d20_5 : decode method_3_code 5 = .ok (.iload_n 0, 1) := by decide +kernel
theorem d20_6 : decode method_3_code 6 = .ok (.iconst 1, 1) := by decide +kernel
theorem d20_7 : decode method_3_code 7 = .ok (.if_icmp .lt 9, 3) := by decide +kernel
theorem d20_10 : decode method_3_code 10 = .ok (.iload_n 1, 1) := by decide +kernel
theorem d20_11 : decode method_3_code 11 = .ok (.iload 4, 2) := by decide +kernel
theorem d20_13 : decode method_3_code 13 = .ok (.if_icmp .ne 18, 3) := by decide +kernel
theorem d20_16 : decode method_3_code 16 = .ok (.iload_n 0, 1) := by decide +kernel
theorem d20_17 : decode method_3_code 17 = .ok (.iconst 2, 1) := by decide +kernel
theorem d20_18 : decode method_3_code 18 = .ok (.if_icmp .lt 9, 3) := by decide +kernel
theorem d20_21 : decode method_3_code 21 = .ok (.iload_n 2, 1) := by decide +kernel
theorem d20_22 : decode method_3_code 22 = .ok (.iload 5, 2) := by decide +kernel
theorem d20_24 : decode method_3_code 24 = .ok (.if_icmp .ne 7, 3) := by decide +kernel
theorem d20_27 : decode method_3_code 27 = .ok (.iconst 1, 1) := by decide +kernel
theorem d20_28 : decode method_3_code 28 = .ok (.goto 4, 3) := by decide +kernel
theorem d20_31 : decode method_3_code 31 = .ok (.iconst 0, 1) := by decide +kernel
theorem d20_32 : decode method_3_code 32 = .ok (.ireturn, 1) := by decide +kernel
theorem ef_ctSAME (m : MethodId) (x0 : Int32) (x1 : Int32) (x2 : Int32) (x3 : Int32) (x4 : Int32) (x5 : Int32) : entryFrame m #[(.int x0), (.int x1), (.int x2), (.int x3), (.int x4), (.int x5)] 6 = mkF m 0 #[.val (.int x0), .val (.int x1), .val (.int x2), .val (.int x3), .val (.int x4), .val (.int x5)] [] := by first | (simp [entryFrame, mkF, argsToLocals, Value.category]; done) | rfl
theorem own_n1 {x : Int32} (h : ¬ (1 : Int32) < x) : x < 2 := by
  have e1 : (1 : Int32).toInt = 1 := rfl
  have e2 : (2 : Int32).toInt = 2 := rfl
  rw [Int32.lt_iff_toInt_lt] at *; omega
theorem own_n0 {x : Int32} (h : ¬ (0 : Int32) < x) : x < 1 := by
  have e1 : (1 : Int32).toInt = 1 := rfl
  have e2 : (0 : Int32).toInt = 0 := rfl
  rw [Int32.lt_iff_toInt_lt] at *; omega
theorem own_lt2 {x : Int32} (h : x < 1) : x < 2 := by
  have e1 : (1 : Int32).toInt = 1 := rfl
  have e2 : (2 : Int32).toInt = 2 := rfl
  rw [Int32.lt_iff_toInt_lt] at *; omega
theorem own_m1 {x : Int32} (h : (1 : Int32) < x) : ¬ x < 2 := by
  have e1 : (1 : Int32).toInt = 1 := rfl
  have e2 : (2 : Int32).toInt = 2 := rfl
  rw [Int32.lt_iff_toInt_lt] at *; omega
theorem own_m0 {x : Int32} (h : (0 : Int32) < x) : ¬ x < 1 := by
  have e1 : (1 : Int32).toInt = 1 := rfl
  have e2 : (0 : Int32).toInt = 0 := rfl
  rw [Int32.lt_iff_toInt_lt] at *; omega
set_option maxRecDepth 65536 in
set_option maxHeartbeats 40000000 in
theorem ctSAME (l : Launch) (Z : State) (a0 : Array Value) (hw : ∀ d ∈ tables_1, d.before a0 Z = true) (hE : EW Z a0 [("java/lang/String", 7), ("com/example/portwright/portwright/xml/XmlElementIsPinLaw", 32)]) (n a b r c d : Int32) (h0 : Heap) (hO : Ext Z.heap h0) (hl : n = 0 ∨ n = 1 ∨ n = 2) (hm : r = 0 ∨ r = 1 ∨ r = 2) (ha : own_b a) (hb : own_b b) (hc : own_b c) (hd : own_b d) :
    Ct true l Z [("java/lang/String", 7), ("com/example/portwright/portwright/xml/XmlElementIsPinLaw", 32)] [] (⟨"com/example/portwright/portwright/xml/XmlElementIsPinLaw", "same", "(ICCICC)Z"⟩ : MethodName) method_3_code 6 (some .boolean) ({ frames := 0, cells := 0, slots := 0, locals := 0 } : Room) #[(.int n), (.int a), (.int b), (.int r), (.int c), (.int d)] h0 [] [] (fun v h => v = some (.int (if own_st n a b = own_st r c d then 1 else 0))) := by
  refine Ct.of_wp (a0 := a0) (Ls := #[.val (.int n), .val (.int a), .val (.int b), .val (.int r), .val (.int c), .val (.int d)]) (plainFor_of_name pn_com_example_portwright_portwright_xml_XmlElementIsPinLaw) hE hO nofun (fun m => ef_ctSAME m n a b r c d) ?_
  refine Wp.iloadN d20_0 (pc' := 1) rfl rfl ?_
  refine Wp.iloadN d20_1 (pc' := 2) rfl rfl ?_
  refine Wp.icmp_ne (pc1 := 31) (pc' := 5) d20_2 (by decide) (by decide) rfl (fun hc1 => ?_) (fun hc1 => ?_)
  · have hc1 : ¬ (n = r) := hc1
    refine Wp.iconst (x := (0 : Int32)) d20_31 (pc' := 32) rfl rfl ?_
    refine Wp.retN (x' := (0 : Int32)) (t := .boolean) rfl (by simp) rfl d20_32 (by decide) (by decide) ?_
    rw [if_neg (fun e => hc1 ((own_same hl hm ha hb hc hd).mp e).1)]
  · have hc1 : n = r := hc1
    refine Wp.iloadN d20_5 (pc' := 6) rfl rfl ?_
    refine Wp.iconst (x := (1 : Int32)) d20_6 (pc' := 7) rfl rfl ?_
    refine Wp.icmp_lt (pc1 := 16) (pc' := 10) d20_7 (by decide) (by decide) rfl (fun hc2 => ?_) (fun hc2 => ?_)
    · have hc2 : n < (1 : Int32) := hc2
      refine Wp.iloadN d20_16 (pc' := 17) rfl rfl ?_
      refine Wp.iconst (x := (2 : Int32)) d20_17 (pc' := 18) rfl rfl ?_
      refine Wp.icmp_lt (pc1 := 27) (pc' := 21) d20_18 (by decide) (by decide) rfl (fun hc3 => ?_) (fun hc3 => ?_)
      · have hc3 : n < (2 : Int32) := hc3
        refine Wp.iconst (x := (1 : Int32)) d20_27 (pc' := 28) rfl rfl ?_
        refine Wp.goto (pc' := 32) d20_28 (by decide) (by decide) ?_
        refine Wp.retN (x' := (1 : Int32)) (t := .boolean) rfl (by simp) rfl d20_32 (by decide) (by decide) ?_
        rw [if_pos ((own_same hl hm ha hb hc hd).mpr ⟨hc1, (Or.inl hc2), (Or.inl hc3)⟩)]
      · have hc3 : ¬ (n < (2 : Int32)) := hc3
        refine Wp.iloadN d20_21 (pc' := 22) rfl rfl ?_
        refine Wp.iload d20_22 (pc' := 24) rfl rfl ?_
        refine Wp.icmp_ne (pc1 := 31) (pc' := 27) d20_24 (by decide) (by decide) rfl (fun hc4 => ?_) (fun hc4 => ?_)
        · have hc4 : ¬ (b = d) := hc4
          refine Wp.iconst (x := (0 : Int32)) d20_31 (pc' := 32) rfl rfl ?_
          refine Wp.retN (x' := (0 : Int32)) (t := .boolean) rfl (by simp) rfl d20_32 (by decide) (by decide) ?_
          rw [if_neg (fun e => ((own_same hl hm ha hb hc hd).mp e).2.2.elim hc3 hc4)]
        · have hc4 : b = d := hc4
          refine Wp.iconst (x := (1 : Int32)) d20_27 (pc' := 28) rfl rfl ?_
          refine Wp.goto (pc' := 32) d20_28 (by decide) (by decide) ?_
          refine Wp.retN (x' := (1 : Int32)) (t := .boolean) rfl (by simp) rfl d20_32 (by decide) (by decide) ?_
          rw [if_pos ((own_same hl hm ha hb hc hd).mpr ⟨hc1, (Or.inl hc2), (Or.inr hc4)⟩)]
    · have hc2 : ¬ (n < (1 : Int32)) := hc2
      refine Wp.iloadN d20_10 (pc' := 11) rfl rfl ?_
      refine Wp.iload d20_11 (pc' := 13) rfl rfl ?_
      refine Wp.icmp_ne (pc1 := 31) (pc' := 16) d20_13 (by decide) (by decide) rfl (fun hc5 => ?_) (fun hc5 => ?_)
      · have hc5 : ¬ (a = c) := hc5
        refine Wp.iconst (x := (0 : Int32)) d20_31 (pc' := 32) rfl rfl ?_
        refine Wp.retN (x' := (0 : Int32)) (t := .boolean) rfl (by simp) rfl d20_32 (by decide) (by decide) ?_
        rw [if_neg (fun e => ((own_same hl hm ha hb hc hd).mp e).2.1.elim hc2 hc5)]
      · have hc5 : a = c := hc5
        refine Wp.iloadN d20_16 (pc' := 17) rfl rfl ?_
        refine Wp.iconst (x := (2 : Int32)) d20_17 (pc' := 18) rfl rfl ?_
        refine Wp.icmp_lt (pc1 := 27) (pc' := 21) d20_18 (by decide) (by decide) rfl (fun hc6 => ?_) (fun hc6 => ?_)
        · have hc6 : n < (2 : Int32) := hc6
          refine Wp.iconst (x := (1 : Int32)) d20_27 (pc' := 28) rfl rfl ?_
          refine Wp.goto (pc' := 32) d20_28 (by decide) (by decide) ?_
          refine Wp.retN (x' := (1 : Int32)) (t := .boolean) rfl (by simp) rfl d20_32 (by decide) (by decide) ?_
          rw [if_pos ((own_same hl hm ha hb hc hd).mpr ⟨hc1, (Or.inr hc5), (Or.inl hc6)⟩)]
        · have hc6 : ¬ (n < (2 : Int32)) := hc6
          refine Wp.iloadN d20_21 (pc' := 22) rfl rfl ?_
          refine Wp.iload d20_22 (pc' := 24) rfl rfl ?_
          refine Wp.icmp_ne (pc1 := 31) (pc' := 27) d20_24 (by decide) (by decide) rfl (fun hc7 => ?_) (fun hc7 => ?_)
          · have hc7 : ¬ (b = d) := hc7
            refine Wp.iconst (x := (0 : Int32)) d20_31 (pc' := 32) rfl rfl ?_
            refine Wp.retN (x' := (0 : Int32)) (t := .boolean) rfl (by simp) rfl d20_32 (by decide) (by decide) ?_
            rw [if_neg (fun e => ((own_same hl hm ha hb hc hd).mp e).2.2.elim hc6 hc7)]
          · have hc7 : b = d := hc7
            refine Wp.iconst (x := (1 : Int32)) d20_27 (pc' := 28) rfl rfl ?_
            refine Wp.goto (pc' := 32) d20_28 (by decide) (by decide) ?_
            refine Wp.retN (x' := (1 : Int32)) (t := .boolean) rfl (by simp) rfl d20_32 (by decide) (by decide) ?_
            rw [if_pos ((own_same hl hm ha hb hc hd).mpr ⟨hc1, (Or.inr hc5), (Or.inr hc7)⟩)]
theorem d21_0 : decode prog_63_method_7_code 0 = .ok (.aload_n 0, 1) := by decide +kernel
theorem d21_1 : decode prog_63_method_7_code 1 = .ok (.getfield 20, 3) := by decide +kernel
theorem d21_4 : decode prog_63_method_7_code 4 = .ok (.aload_n 2, 1) := by decide +kernel
theorem d21_5 : decode prog_63_method_7_code 5 = .ok (.invokevirtual 63, 3) := by decide +kernel
theorem d21_8 : decode prog_63_method_7_code 8 = .ok (.ifCond .eq 18, 3) := by decide +kernel
theorem d21_11 : decode prog_63_method_7_code 11 = .ok (.aload_n 0, 1) := by decide +kernel
theorem d21_12 : decode prog_63_method_7_code 12 = .ok (.getfield 16, 3) := by decide +kernel
theorem d21_15 : decode prog_63_method_7_code 15 = .ok (.aload_n 1, 1) := by decide +kernel
theorem d21_16 : decode prog_63_method_7_code 16 = .ok (.invokevirtual 63, 3) := by decide +kernel
theorem d21_19 : decode prog_63_method_7_code 19 = .ok (.ifCond .eq 7, 3) := by decide +kernel
theorem d21_22 : decode prog_63_method_7_code 22 = .ok (.iconst 1, 1) := by decide +kernel
theorem d21_23 : decode prog_63_method_7_code 23 = .ok (.goto 4, 3) := by decide +kernel
theorem d21_26 : decode prog_63_method_7_code 26 = .ok (.iconst 0, 1) := by decide +kernel
theorem d21_27 : decode prog_63_method_7_code 27 = .ok (.ireturn, 1) := by decide +kernel
theorem ef_ctIS (m : MethodId) (x0 : Addr) (x1 : Addr) (x2 : Addr) : entryFrame m #[(.ref x0), (.ref x1), (.ref x2)] 3 = mkF m 0 #[.val (.ref x0), .val (.ref x1), .val (.ref x2)] [] := by first | (simp [entryFrame, mkF, argsToLocals, Value.category]; done) | rfl
theorem pd__Ljava_lang_Object__Z : parseMethodDescriptor "(Ljava/lang/Object;)Z" = some ⟨[(.object "java/lang/Object")], some .boolean⟩ := by decide +kernel
set_option maxRecDepth 65536 in
set_option maxHeartbeats 40000000 in
theorem ctIS (l : Launch) (Z : State) (a0 : Array Value) (hw : ∀ d ∈ tables_1, d.before a0 Z = true) (hE : EW Z a0 [("java/lang/String", 7), ("com/example/portwright/portwright/xml/XmlElementIsPinLaw", 32)]) (b s t u w : Addr) (xs ys us ws : List Int32) (cz : Int32) (h0 : Heap) (hO : Ext Z.heap h0) (F1 : Fld Z h0 b "com/example/portwright/portwright/xml/XmlElement" "namespace" "Ljava/lang/String;" (.ref s)) (F2 : Fld Z h0 b "com/example/portwright/portwright/xml/XmlElement" "localName" "Ljava/lang/String;" (.ref t)) (S_s : SL Z h0 s xs) (S_t : SL Z h0 t ys) (S_u : SL Z h0 u us) (S_w : SL Z h0 w ws) (hn_s : xs.length < 2147483647) (hn_t : ys.length < 2147483647) (hn_u : us.length < 2147483647) (hn_w : ws.length < 2147483647) (hne_tw : t ≠ w) (hne_su : s ≠ u) (hco : Sta Z Z.heap "java/lang/String" "COMPACT_STRINGS" "Z" (.int cz)) (hcz : ¬ cz = 0) :
    Ct true l Z [("java/lang/String", 7), ("com/example/portwright/portwright/xml/XmlElementIsPinLaw", 32)] [] (⟨"com/example/portwright/portwright/xml/XmlElement", "is", "(Ljava/lang/String;Ljava/lang/String;)Z"⟩ : MethodName) prog_63_method_7_code 3 (some .boolean) ({ frames := 2, cells := 0, slots := 0, locals := 28 } : Room) #[(.ref b), (.ref u), (.ref w)] h0 [] [] (fun v h => v = some (.int (if ys = ws ∧ xs = us then 1 else 0))) := by
  refine Ct.of_wp (a0 := a0) (Ls := #[.val (.ref b), .val (.ref u), .val (.ref w)]) (plainFor_of_name pn_com_example_portwright_portwright_xml_XmlElement) hE hO nofun (fun m => ef_ctIS m b u w) ?_
  refine Wp.aloadN d21_0 (pc' := 1) rfl rfl rfl ?_
  refine Wp.getF rfl (host := "") (Or.inl (hw _ (List.mem_of_getElem? (i := 110) rfl))) Via.refl F2 d21_1 (pc' := 4) rfl ?_
  refine Wp.aloadN d21_4 (pc' := 5) rfl rfl rfl ?_
  refine Wp.old fun hOc => ?_
  have E_t := S_t.1
  refine Wp.callV (a := t) (x' := (⟨"java/lang/String", "equals", "(Ljava/lang/Object;)Z"⟩ : MethodName)) (W := 0) (argsL := [(.ref w)]) (rest := []) rfl (ctEQ l Z a0 hw hE t w _ _ cz h0 hOc hn_t hn_w S_t S_w hne_tw hco hcz) (hw _ (List.mem_of_getElem? (i := 131) rfl)) (hw _ (List.mem_of_getElem? (i := 132) rfl)) (hw _ (List.mem_of_getElem? (i := 134) rfl)) (hw _ (List.mem_of_getElem? (i := 133) rfl)) (hw _ (List.mem_of_getElem? (i := 135) rfl)) (hw _ (List.mem_of_getElem? (i := 6) rfl)) (fun s hZ => nf_sel rfl (hw _ (List.mem_of_getElem? (i := 134) rfl)) s hZ rfl) E_t (by decide) (lenOf pd__Ljava_lang_Object__Z rfl) d21_5 rfl rfl rfl (Nat.le_of_eq rfl) (pc' := 8) rfl nofun nofun (by decide) (by decide) (k' := 0) (n' := 0) rfl rfl (by decide) (by decide) (fun vh1 h1 zh1 Kh1 qh1 => ?_)
  obtain rfl := qh1
  replace S_s := S_s.keep0 Kh1
  replace S_t := S_t.keep0 Kh1
  replace S_u := S_u.keep0 Kh1
  replace S_w := S_w.keep0 Kh1
  replace F1 := F1.keep Kh1 nin0
  replace F2 := F2.keep Kh1 nin0
  refine Wp.eqS (S' := [(.int (if ys = ws then (1 : Int32) else 0))]) rfl ?_
  refine Wp.if_eq (pc1 := 26) (pc' := 11) d21_8 (by decide) (by decide) rfl (fun hc2 => ?_) (fun hc2 => ?_)
  · have hc2 : (if ys = ws then (1 : Int32) else 0) = (0 : Int32) := hc2
    refine Wp.iconst (x := (0 : Int32)) d21_26 (pc' := 27) rfl rfl ?_
    refine Wp.retN (x' := (0 : Int32)) (t := .boolean) rfl (by simp) rfl d21_27 (by decide) (by decide) ?_
    have z0 := hc2
    simp at z0
    simp [z0]
  · have hc2 : ¬ ((if ys = ws then (1 : Int32) else 0) = (0 : Int32)) := hc2
    refine Wp.aloadN d21_11 (pc' := 12) rfl rfl rfl ?_
    refine Wp.getF rfl (host := "") (Or.inl (hw _ (List.mem_of_getElem? (i := 108) rfl))) Via.refl F1 d21_12 (pc' := 15) rfl ?_
    refine Wp.aloadN d21_15 (pc' := 16) rfl rfl rfl ?_
    refine Wp.old fun hOc => ?_
    have E_s := S_s.1
    refine Wp.callV (a := s) (x' := (⟨"java/lang/String", "equals", "(Ljava/lang/Object;)Z"⟩ : MethodName)) (W := 0) (argsL := [(.ref u)]) (rest := []) rfl (ctEQ l Z a0 hw hE s u _ _ cz h1 hOc hn_s hn_u S_s S_u hne_su hco hcz) (hw _ (List.mem_of_getElem? (i := 131) rfl)) (hw _ (List.mem_of_getElem? (i := 132) rfl)) (hw _ (List.mem_of_getElem? (i := 134) rfl)) (hw _ (List.mem_of_getElem? (i := 133) rfl)) (hw _ (List.mem_of_getElem? (i := 135) rfl)) (hw _ (List.mem_of_getElem? (i := 6) rfl)) (fun s hZ => nf_sel rfl (hw _ (List.mem_of_getElem? (i := 134) rfl)) s hZ rfl) E_s (by decide) (lenOf pd__Ljava_lang_Object__Z rfl) d21_16 rfl rfl rfl (Nat.le_of_eq rfl) (pc' := 19) rfl nofun nofun (by decide) (by decide) (k' := 0) (n' := 0) rfl rfl (by decide) (by decide) (fun vh3 h3 zh3 Kh3 qh3 => ?_)
    obtain rfl := qh3
    replace S_s := S_s.keep0 Kh3
    replace S_t := S_t.keep0 Kh3
    replace S_u := S_u.keep0 Kh3
    replace S_w := S_w.keep0 Kh3
    replace F1 := F1.keep Kh3 nin0
    replace F2 := F2.keep Kh3 nin0
    refine Wp.eqS (S' := [(.int (if xs = us then (1 : Int32) else 0))]) rfl ?_
    refine Wp.if_eq (pc1 := 26) (pc' := 22) d21_19 (by decide) (by decide) rfl (fun hc4 => ?_) (fun hc4 => ?_)
    · have hc4 : (if xs = us then (1 : Int32) else 0) = (0 : Int32) := hc4
      refine Wp.iconst (x := (0 : Int32)) d21_26 (pc' := 27) rfl rfl ?_
      refine Wp.retN (x' := (0 : Int32)) (t := .boolean) rfl (by simp) rfl d21_27 (by decide) (by decide) ?_
      have z0 := hc2
      simp at z0
      have z1 := hc4
      simp at z1
      simp [z0, z1]
    · have hc4 : ¬ ((if xs = us then (1 : Int32) else 0) = (0 : Int32)) := hc4
      refine Wp.iconst (x := (1 : Int32)) d21_22 (pc' := 23) rfl rfl ?_
      refine Wp.goto (pc' := 27) d21_23 (by decide) (by decide) ?_
      refine Wp.retN (x' := (1 : Int32)) (t := .boolean) rfl (by simp) rfl d21_27 (by decide) (by decide) ?_
      have z0 := hc2
      simp at z0
      have z1 := hc4
      simp at z1
      simp [z0, z1]
theorem ef_ct0 (m : MethodId) (x0 : Int32) (x1 : Int32) (x2 : Int32) (x3 : Int32) : entryFrame m #[(.int x0), (.int x1), (.int x2), (.int x3)] maxLocals = mkF m 0 #[.val (.int x0), .val (.int x1), .val (.int x2), .val (.int x3), .unset, .unset, .unset, .unset, .unset, .unset, .unset, .unset, .unset, .unset, .unset, .unset, .unset, .unset, .unset, .unset, .unset, .unset, .unset, .unset] [] := by first | (simp [entryFrame, mkF, argsToLocals, Value.category, maxLocals]; done) | rfl
theorem pd__ICC_Ljava_lang_String_ : parseMethodDescriptor "(ICC)Ljava/lang/String;" = some ⟨[.int, .char, .char], some (.object "java/lang/String")⟩ := by decide +kernel
theorem pd___Ljava_util_Map_ : parseMethodDescriptor "()Ljava/util/Map;" = some ⟨[], some (.object "java/util/Map")⟩ := by decide +kernel
theorem pd__Ljava_lang_String_I_V : parseMethodDescriptor "(Ljava/lang/String;I)V" = some ⟨[(.object "java/lang/String"), .int], none⟩ := by decide +kernel
theorem pd__Ljava_lang_String_Ljava_lang_String_Ljava_util_Map_Ljava_util_Map_Lcom_example_portwright_portwright_xml_SourceLocation__V : parseMethodDescriptor "(Ljava/lang/String;Ljava/lang/String;Ljava/util/Map;Ljava/util/Map;Lcom/example/portwright/portwright/xml/SourceLocation;)V" = some ⟨[(.object "java/lang/String"), (.object "java/lang/String"), (.object "java/util/Map"), (.object "java/util/Map"), (.object "com/example/portwright/portwright/xml/SourceLocation")], none⟩ := by decide +kernel
theorem pd__ICCICC_Z : parseMethodDescriptor "(ICCICC)Z" = some ⟨[.int, .char, .char, .int, .char, .char], some .boolean⟩ := by decide +kernel
theorem pd__Ljava_lang_String_Ljava_lang_String__Z : parseMethodDescriptor "(Ljava/lang/String;Ljava/lang/String;)Z" = some ⟨[(.object "java/lang/String"), (.object "java/lang/String")], some .boolean⟩ := by decide +kernel
set_option maxRecDepth 65536 in
set_option maxHeartbeats 40000000 in
theorem ct0 (l : Launch) (Z : State) (a0 : Array Value) (hw : ∀ d ∈ tables_1, d.before a0 Z = true) (hE : EW Z a0 [("java/lang/String", 7), ("com/example/portwright/portwright/xml/XmlElementIsPinLaw", 32)]) (p1 p2 p3 p4 cz : Int32) (em de : Addr) (h0 : Heap) (hO : Ext Z.heap h0) (hco : Sta Z Z.heap "java/lang/String" "COMPACT_STRINGS" "Z" (.int cz)) (hcz : ¬ cz = 0) (hem : Sta Z Z.heap "java/util/ImmutableCollections" "EMPTY_MAP" "Ljava/util/ImmutableCollections$MapN;" (.ref em)) (xem : Exa Z Z.heap em "java/util/ImmutableCollections$MapN") (hde : Sta Z Z.heap "java/util/ArrayList" "DEFAULTCAPACITY_EMPTY_ELEMENTDATA" "[Ljava/lang/Object;" (.ref de)) :
    Ct true l Z [("java/lang/String", 7), ("com/example/portwright/portwright/xml/XmlElementIsPinLaw", 32)] tables_1 x code maxLocals ret room_1 #[(.int p1), (.int p2), (.int p3), (.int p4)] h0 [] [] (fun v h => v = some (.int 1)) := by
  refine Ct.of_wp (a0 := a0) (Ls := #[.val (.int p1), .val (.int p2), .val (.int p3), .val (.int p4), .unset, .unset, .unset, .unset, .unset, .unset, .unset, .unset, .unset, .unset, .unset, .unset, .unset, .unset, .unset, .unset, .unset, .unset, .unset, .unset]) (plainFor_of_name pn_com_example_portwright_portwright_xml_XmlElementIsPinLaw) hE hO nofun (fun m => ef_ct0 m p1 p2 p3 p4) ?_
  refine Wp.iloadN at_0 (pc' := 1) rfl rfl ?_
  refine Wp.iconst (x := (3 : Int32)) at_1 (pc' := 2) rfl rfl ?_
  refine Wp.iand at_2 (pc' := 3) rfl ?_
  refine Wp.iconst (x := (3 : Int32)) at_3 (pc' := 4) rfl rfl ?_
  refine Wp.irem at_4 (pc' := 5) rfl (by decide) ?_
  generalize g_n4 : ((p1 &&& (3 : Int32)) % (3 : Int32)) = n4
  have l_n4 := own_l3 p1
  rw [g_n4] at l_n4
  refine Wp.istore (l' := #[.val (.int p1), .val (.int p2), .val (.int p3), .val (.int p4), .val (.int n4), .unset, .unset, .unset, .unset, .unset, .unset, .unset, .unset, .unset, .unset, .unset, .unset, .unset, .unset, .unset, .unset, .unset, .unset, .unset]) at_5 (pc' := 7) rfl rfl ?_
  refine Wp.iloadN at_7 (pc' := 8) rfl rfl ?_
  refine Wp.iconst (x := (2 : Int32)) at_8 (pc' := 9) rfl rfl ?_
  refine Wp.iushr at_9 (pc' := 10) rfl ?_
  refine Wp.sipush (x := (255 : Int32)) at_10 (pc' := 13) rfl rfl ?_
  refine Wp.iand at_13 (pc' := 14) rfl ?_
  refine Wp.i2c at_14 (pc' := 15) rfl ?_
  have b0 : own_b (((p1.toUInt32 >>> ((2 : Int32) &&& 31).toUInt32).toInt32) &&& (255 : Int32)) := own_bm _
  rw [own_bc b0]
  generalize (((p1.toUInt32 >>> ((2 : Int32) &&& 31).toUInt32).toInt32) &&& (255 : Int32)) = c5 at b0 ⊢
  have b_c5 := b0
  refine Wp.istore (l' := #[.val (.int p1), .val (.int p2), .val (.int p3), .val (.int p4), .val (.int n4), .val (.int c5), .unset, .unset, .unset, .unset, .unset, .unset, .unset, .unset, .unset, .unset, .unset, .unset, .unset, .unset, .unset, .unset, .unset, .unset]) at_15 (pc' := 17) rfl rfl ?_
  refine Wp.iloadN at_17 (pc' := 18) rfl rfl ?_
  refine Wp.bipush (x := (10 : Int32)) at_18 (pc' := 20) rfl rfl ?_
  refine Wp.iushr at_20 (pc' := 21) rfl ?_
  refine Wp.sipush (x := (255 : Int32)) at_21 (pc' := 24) rfl rfl ?_
  refine Wp.iand at_24 (pc' := 25) rfl ?_
  refine Wp.i2c at_25 (pc' := 26) rfl ?_
  have b0 : own_b (((p1.toUInt32 >>> ((10 : Int32) &&& 31).toUInt32).toInt32) &&& (255 : Int32)) := own_bm _
  rw [own_bc b0]
  generalize (((p1.toUInt32 >>> ((10 : Int32) &&& 31).toUInt32).toInt32) &&& (255 : Int32)) = c6 at b0 ⊢
  have b_c6 := b0
  refine Wp.istore (l' := #[.val (.int p1), .val (.int p2), .val (.int p3), .val (.int p4), .val (.int n4), .val (.int c5), .val (.int c6), .unset, .unset, .unset, .unset, .unset, .unset, .unset, .unset, .unset, .unset, .unset, .unset, .unset, .unset, .unset, .unset, .unset]) at_26 (pc' := 28) rfl rfl ?_
  refine Wp.iloadN at_28 (pc' := 29) rfl rfl ?_
  refine Wp.iconst (x := (3 : Int32)) at_29 (pc' := 30) rfl rfl ?_
  refine Wp.iand at_30 (pc' := 31) rfl ?_
  refine Wp.iconst (x := (3 : Int32)) at_31 (pc' := 32) rfl rfl ?_
  refine Wp.irem at_32 (pc' := 33) rfl (by decide) ?_
  generalize g_n7 : ((p2 &&& (3 : Int32)) % (3 : Int32)) = n7
  have l_n7 := own_l3 p2
  rw [g_n7] at l_n7
  refine Wp.istore (l' := #[.val (.int p1), .val (.int p2), .val (.int p3), .val (.int p4), .val (.int n4), .val (.int c5), .val (.int c6), .val (.int n7), .unset, .unset, .unset, .unset, .unset, .unset, .unset, .unset, .unset, .unset, .unset, .unset, .unset, .unset, .unset, .unset]) at_33 (pc' := 35) rfl rfl ?_
  refine Wp.iloadN at_35 (pc' := 36) rfl rfl ?_
  refine Wp.iconst (x := (2 : Int32)) at_36 (pc' := 37) rfl rfl ?_
  refine Wp.iushr at_37 (pc' := 38) rfl ?_
  refine Wp.sipush (x := (255 : Int32)) at_38 (pc' := 41) rfl rfl ?_
  refine Wp.iand at_41 (pc' := 42) rfl ?_
  refine Wp.i2c at_42 (pc' := 43) rfl ?_
  have b0 : own_b (((p2.toUInt32 >>> ((2 : Int32) &&& 31).toUInt32).toInt32) &&& (255 : Int32)) := own_bm _
  rw [own_bc b0]
  generalize (((p2.toUInt32 >>> ((2 : Int32) &&& 31).toUInt32).toInt32) &&& (255 : Int32)) = c8 at b0 ⊢
  have b_c8 := b0
  refine Wp.istore (l' := #[.val (.int p1), .val (.int p2), .val (.int p3), .val (.int p4), .val (.int n4), .val (.int c5), .val (.int c6), .val (.int n7), .val (.int c8), .unset, .unset, .unset, .unset, .unset, .unset, .unset, .unset, .unset, .unset, .unset, .unset, .unset, .unset, .unset]) at_43 (pc' := 45) rfl rfl ?_
  refine Wp.iloadN at_45 (pc' := 46) rfl rfl ?_
  refine Wp.bipush (x := (10 : Int32)) at_46 (pc' := 48) rfl rfl ?_
  refine Wp.iushr at_48 (pc' := 49) rfl ?_
  refine Wp.sipush (x := (255 : Int32)) at_49 (pc' := 52) rfl rfl ?_
  refine Wp.iand at_52 (pc' := 53) rfl ?_
  refine Wp.i2c at_53 (pc' := 54) rfl ?_
  have b0 : own_b (((p2.toUInt32 >>> ((10 : Int32) &&& 31).toUInt32).toInt32) &&& (255 : Int32)) := own_bm _
  rw [own_bc b0]
  generalize (((p2.toUInt32 >>> ((10 : Int32) &&& 31).toUInt32).toInt32) &&& (255 : Int32)) = c9 at b0 ⊢
  have b_c9 := b0
  refine Wp.istore (l' := #[.val (.int p1), .val (.int p2), .val (.int p3), .val (.int p4), .val (.int n4), .val (.int c5), .val (.int c6), .val (.int n7), .val (.int c8), .val (.int c9), .unset, .unset, .unset, .unset, .unset, .unset, .unset, .unset, .unset, .unset, .unset, .unset, .unset, .unset]) at_54 (pc' := 56) rfl rfl ?_
  refine Wp.iloadN at_56 (pc' := 57) rfl rfl ?_
  refine Wp.iconst (x := (3 : Int32)) at_57 (pc' := 58) rfl rfl ?_
  refine Wp.iand at_58 (pc' := 59) rfl ?_
  refine Wp.iconst (x := (3 : Int32)) at_59 (pc' := 60) rfl rfl ?_
  refine Wp.irem at_60 (pc' := 61) rfl (by decide) ?_
  generalize g_n10 : ((p3 &&& (3 : Int32)) % (3 : Int32)) = n10
  have l_n10 := own_l3 p3
  rw [g_n10] at l_n10
  refine Wp.istore (l' := #[.val (.int p1), .val (.int p2), .val (.int p3), .val (.int p4), .val (.int n4), .val (.int c5), .val (.int c6), .val (.int n7), .val (.int c8), .val (.int c9), .val (.int n10), .unset, .unset, .unset, .unset, .unset, .unset, .unset, .unset, .unset, .unset, .unset, .unset, .unset]) at_61 (pc' := 63) rfl rfl ?_
  refine Wp.iloadN at_63 (pc' := 64) rfl rfl ?_
  refine Wp.bipush (x := (18 : Int32)) at_64 (pc' := 66) rfl rfl ?_
  refine Wp.iushr at_66 (pc' := 67) rfl ?_
  refine Wp.iconst (x := (1 : Int32)) at_67 (pc' := 68) rfl rfl ?_
  refine Wp.iand at_68 (pc' := 69) rfl ?_
  suffices hj77 : ∀ o11 : Int32, Wp true l Z a0 [("java/lang/String", 7), ("com/example/portwright/portwright/xml/XmlElementIsPinLaw", 32)] room_1 x code maxLocals ret h0 [] (fun v h => v = some (.int 1)) h0 [] 0 0 77 #[.val (.int p1), .val (.int p2), .val (.int p3), .val (.int p4), .val (.int n4), .val (.int c5), .val (.int c6), .val (.int n7), .val (.int c8), .val (.int c9), .val (.int n10), .unset, .unset, .unset, .unset, .unset, .unset, .unset, .unset, .unset, .unset, .unset, .unset, .unset] [(.int o11)] by
    refine Wp.if_eq (pc1 := 76) (pc' := 72) at_69 (by decide) (by decide) rfl (fun hc1 => ?_) (fun hc1 => ?_)
    · have hc1 : (((p3.toUInt32 >>> ((18 : Int32) &&& 31).toUInt32).toInt32) &&& (1 : Int32)) = (0 : Int32) := hc1
      refine Wp.iconst (x := (0 : Int32)) at_76 (pc' := 77) rfl rfl ?_
      exact hj77 _
    · have hc1 : ¬ ((((p3.toUInt32 >>> ((18 : Int32) &&& 31).toUInt32).toInt32) &&& (1 : Int32)) = (0 : Int32)) := hc1
      refine Wp.iconst (x := (1 : Int32)) at_72 (pc' := 73) rfl rfl ?_
      refine Wp.goto (pc' := 77) at_73 (by decide) (by decide) ?_
      exact hj77 _
  intro o11
  refine Wp.istore (l' := #[.val (.int p1), .val (.int p2), .val (.int p3), .val (.int p4), .val (.int n4), .val (.int c5), .val (.int c6), .val (.int n7), .val (.int c8), .val (.int c9), .val (.int n10), .val (.int o11), .unset, .unset, .unset, .unset, .unset, .unset, .unset, .unset, .unset, .unset, .unset, .unset]) at_77 (pc' := 79) rfl rfl ?_
  refine Wp.iload at_79 (pc' := 81) rfl rfl ?_
  refine Wp.iload at_81 (pc' := 83) rfl rfl ?_
  suffices hj97 : ∀ x1 : Int32, own_b x1 → Wp true l Z a0 [("java/lang/String", 7), ("com/example/portwright/portwright/xml/XmlElementIsPinLaw", 32)] room_1 x code maxLocals ret h0 [] (fun v h => v = some (.int 1)) h0 [] 0 0 97 #[.val (.int p1), .val (.int p2), .val (.int p3), .val (.int p4), .val (.int n4), .val (.int c5), .val (.int c6), .val (.int n7), .val (.int c8), .val (.int c9), .val (.int n10), .val (.int o11), .unset, .unset, .unset, .unset, .unset, .unset, .unset, .unset, .unset, .unset, .unset, .unset] [(.int x1), (.int c5)] by
    refine Wp.if_eq (pc1 := 96) (pc' := 86) at_83 (by decide) (by decide) rfl (fun hc2 => ?_) (fun hc2 => ?_)
    · have hc2 : o11 = (0 : Int32) := hc2
      refine Wp.iconst (x := (0 : Int32)) at_96 (pc' := 97) rfl rfl ?_
      exact hj97 _ own_b0
    · have hc2 : ¬ (o11 = (0 : Int32)) := hc2
      refine Wp.iloadN at_86 (pc' := 87) rfl rfl ?_
      refine Wp.iconst (x := (2 : Int32)) at_87 (pc' := 88) rfl rfl ?_
      refine Wp.iushr at_88 (pc' := 89) rfl ?_
      refine Wp.sipush (x := (255 : Int32)) at_89 (pc' := 92) rfl rfl ?_
      refine Wp.iand at_92 (pc' := 93) rfl ?_
      refine Wp.goto (pc' := 97) at_93 (by decide) (by decide) ?_
      exact hj97 _ (own_bm _)
  intro x1 hp_x1
  refine Wp.ixor at_97 (pc' := 98) rfl ?_
  refine Wp.i2c at_98 (pc' := 99) rfl ?_
  have b0 : own_b (c5 ^^^ x1) := own_bx b_c5 hp_x1
  rw [own_bc b0]
  generalize (c5 ^^^ x1) = c12 at b0 ⊢
  have b_c12 := b0
  refine Wp.istore (l' := #[.val (.int p1), .val (.int p2), .val (.int p3), .val (.int p4), .val (.int n4), .val (.int c5), .val (.int c6), .val (.int n7), .val (.int c8), .val (.int c9), .val (.int n10), .val (.int o11), .val (.int c12), .unset, .unset, .unset, .unset, .unset, .unset, .unset, .unset, .unset, .unset, .unset]) at_99 (pc' := 101) rfl rfl ?_
  refine Wp.iload at_101 (pc' := 103) rfl rfl ?_
  refine Wp.iload at_103 (pc' := 105) rfl rfl ?_
  suffices hj120 : ∀ x2 : Int32, own_b x2 → Wp true l Z a0 [("java/lang/String", 7), ("com/example/portwright/portwright/xml/XmlElementIsPinLaw", 32)] room_1 x code maxLocals ret h0 [] (fun v h => v = some (.int 1)) h0 [] 0 0 120 #[.val (.int p1), .val (.int p2), .val (.int p3), .val (.int p4), .val (.int n4), .val (.int c5), .val (.int c6), .val (.int n7), .val (.int c8), .val (.int c9), .val (.int n10), .val (.int o11), .val (.int c12), .unset, .unset, .unset, .unset, .unset, .unset, .unset, .unset, .unset, .unset, .unset] [(.int x2), (.int c6)] by
    refine Wp.if_eq (pc1 := 119) (pc' := 108) at_105 (by decide) (by decide) rfl (fun hc3 => ?_) (fun hc3 => ?_)
    · have hc3 : o11 = (0 : Int32) := hc3
      refine Wp.iconst (x := (0 : Int32)) at_119 (pc' := 120) rfl rfl ?_
      exact hj120 _ own_b0
    · have hc3 : ¬ (o11 = (0 : Int32)) := hc3
      refine Wp.iloadN at_108 (pc' := 109) rfl rfl ?_
      refine Wp.bipush (x := (10 : Int32)) at_109 (pc' := 111) rfl rfl ?_
      refine Wp.iushr at_111 (pc' := 112) rfl ?_
      refine Wp.sipush (x := (255 : Int32)) at_112 (pc' := 115) rfl rfl ?_
      refine Wp.iand at_115 (pc' := 116) rfl ?_
      refine Wp.goto (pc' := 120) at_116 (by decide) (by decide) ?_
      exact hj120 _ (own_bm _)
  intro x2 hp_x2
  refine Wp.ixor at_120 (pc' := 121) rfl ?_
  refine Wp.i2c at_121 (pc' := 122) rfl ?_
  have b0 : own_b (c6 ^^^ x2) := own_bx b_c6 hp_x2
  rw [own_bc b0]
  generalize (c6 ^^^ x2) = c13 at b0 ⊢
  have b_c13 := b0
  refine Wp.istore (l' := #[.val (.int p1), .val (.int p2), .val (.int p3), .val (.int p4), .val (.int n4), .val (.int c5), .val (.int c6), .val (.int n7), .val (.int c8), .val (.int c9), .val (.int n10), .val (.int o11), .val (.int c12), .val (.int c13), .unset, .unset, .unset, .unset, .unset, .unset, .unset, .unset, .unset, .unset]) at_122 (pc' := 124) rfl rfl ?_
  refine Wp.iloadN at_124 (pc' := 125) rfl rfl ?_
  refine Wp.iconst (x := (3 : Int32)) at_125 (pc' := 126) rfl rfl ?_
  refine Wp.iand at_126 (pc' := 127) rfl ?_
  refine Wp.iconst (x := (3 : Int32)) at_127 (pc' := 128) rfl rfl ?_
  refine Wp.irem at_128 (pc' := 129) rfl (by decide) ?_
  generalize g_n14 : ((p4 &&& (3 : Int32)) % (3 : Int32)) = n14
  have l_n14 := own_l3 p4
  rw [g_n14] at l_n14
  refine Wp.istore (l' := #[.val (.int p1), .val (.int p2), .val (.int p3), .val (.int p4), .val (.int n4), .val (.int c5), .val (.int c6), .val (.int n7), .val (.int c8), .val (.int c9), .val (.int n10), .val (.int o11), .val (.int c12), .val (.int c13), .val (.int n14), .unset, .unset, .unset, .unset, .unset, .unset, .unset, .unset, .unset]) at_129 (pc' := 131) rfl rfl ?_
  refine Wp.iloadN at_131 (pc' := 132) rfl rfl ?_
  refine Wp.bipush (x := (18 : Int32)) at_132 (pc' := 134) rfl rfl ?_
  refine Wp.iushr at_134 (pc' := 135) rfl ?_
  refine Wp.iconst (x := (1 : Int32)) at_135 (pc' := 136) rfl rfl ?_
  refine Wp.iand at_136 (pc' := 137) rfl ?_
  suffices hj145 : ∀ o15 : Int32, Wp true l Z a0 [("java/lang/String", 7), ("com/example/portwright/portwright/xml/XmlElementIsPinLaw", 32)] room_1 x code maxLocals ret h0 [] (fun v h => v = some (.int 1)) h0 [] 0 0 145 #[.val (.int p1), .val (.int p2), .val (.int p3), .val (.int p4), .val (.int n4), .val (.int c5), .val (.int c6), .val (.int n7), .val (.int c8), .val (.int c9), .val (.int n10), .val (.int o11), .val (.int c12), .val (.int c13), .val (.int n14), .unset, .unset, .unset, .unset, .unset, .unset, .unset, .unset, .unset] [(.int o15)] by
    refine Wp.if_eq (pc1 := 144) (pc' := 140) at_137 (by decide) (by decide) rfl (fun hc4 => ?_) (fun hc4 => ?_)
    · have hc4 : (((p4.toUInt32 >>> ((18 : Int32) &&& 31).toUInt32).toInt32) &&& (1 : Int32)) = (0 : Int32) := hc4
      refine Wp.iconst (x := (0 : Int32)) at_144 (pc' := 145) rfl rfl ?_
      exact hj145 _
    · have hc4 : ¬ ((((p4.toUInt32 >>> ((18 : Int32) &&& 31).toUInt32).toInt32) &&& (1 : Int32)) = (0 : Int32)) := hc4
      refine Wp.iconst (x := (1 : Int32)) at_140 (pc' := 141) rfl rfl ?_
      refine Wp.goto (pc' := 145) at_141 (by decide) (by decide) ?_
      exact hj145 _
  intro o15
  refine Wp.istore (l' := #[.val (.int p1), .val (.int p2), .val (.int p3), .val (.int p4), .val (.int n4), .val (.int c5), .val (.int c6), .val (.int n7), .val (.int c8), .val (.int c9), .val (.int n10), .val (.int o11), .val (.int c12), .val (.int c13), .val (.int n14), .val (.int o15), .unset, .unset, .unset, .unset, .unset, .unset, .unset, .unset]) at_145 (pc' := 147) rfl rfl ?_
  refine Wp.iload at_147 (pc' := 149) rfl rfl ?_
  refine Wp.iload at_149 (pc' := 151) rfl rfl ?_
  suffices hj165 : ∀ x3 : Int32, own_b x3 → Wp true l Z a0 [("java/lang/String", 7), ("com/example/portwright/portwright/xml/XmlElementIsPinLaw", 32)] room_1 x code maxLocals ret h0 [] (fun v h => v = some (.int 1)) h0 [] 0 0 165 #[.val (.int p1), .val (.int p2), .val (.int p3), .val (.int p4), .val (.int n4), .val (.int c5), .val (.int c6), .val (.int n7), .val (.int c8), .val (.int c9), .val (.int n10), .val (.int o11), .val (.int c12), .val (.int c13), .val (.int n14), .val (.int o15), .unset, .unset, .unset, .unset, .unset, .unset, .unset, .unset] [(.int x3), (.int c8)] by
    refine Wp.if_eq (pc1 := 164) (pc' := 154) at_151 (by decide) (by decide) rfl (fun hc5 => ?_) (fun hc5 => ?_)
    · have hc5 : o15 = (0 : Int32) := hc5
      refine Wp.iconst (x := (0 : Int32)) at_164 (pc' := 165) rfl rfl ?_
      exact hj165 _ own_b0
    · have hc5 : ¬ (o15 = (0 : Int32)) := hc5
      refine Wp.iloadN at_154 (pc' := 155) rfl rfl ?_
      refine Wp.iconst (x := (2 : Int32)) at_155 (pc' := 156) rfl rfl ?_
      refine Wp.iushr at_156 (pc' := 157) rfl ?_
      refine Wp.sipush (x := (255 : Int32)) at_157 (pc' := 160) rfl rfl ?_
      refine Wp.iand at_160 (pc' := 161) rfl ?_
      refine Wp.goto (pc' := 165) at_161 (by decide) (by decide) ?_
      exact hj165 _ (own_bm _)
  intro x3 hp_x3
  refine Wp.ixor at_165 (pc' := 166) rfl ?_
  refine Wp.i2c at_166 (pc' := 167) rfl ?_
  have b0 : own_b (c8 ^^^ x3) := own_bx b_c8 hp_x3
  rw [own_bc b0]
  generalize (c8 ^^^ x3) = c16 at b0 ⊢
  have b_c16 := b0
  refine Wp.istore (l' := #[.val (.int p1), .val (.int p2), .val (.int p3), .val (.int p4), .val (.int n4), .val (.int c5), .val (.int c6), .val (.int n7), .val (.int c8), .val (.int c9), .val (.int n10), .val (.int o11), .val (.int c12), .val (.int c13), .val (.int n14), .val (.int o15), .val (.int c16), .unset, .unset, .unset, .unset, .unset, .unset, .unset]) at_167 (pc' := 169) rfl rfl ?_
  refine Wp.iload at_169 (pc' := 171) rfl rfl ?_
  refine Wp.iload at_171 (pc' := 173) rfl rfl ?_
  suffices hj188 : ∀ x4 : Int32, own_b x4 → Wp true l Z a0 [("java/lang/String", 7), ("com/example/portwright/portwright/xml/XmlElementIsPinLaw", 32)] room_1 x code maxLocals ret h0 [] (fun v h => v = some (.int 1)) h0 [] 0 0 188 #[.val (.int p1), .val (.int p2), .val (.int p3), .val (.int p4), .val (.int n4), .val (.int c5), .val (.int c6), .val (.int n7), .val (.int c8), .val (.int c9), .val (.int n10), .val (.int o11), .val (.int c12), .val (.int c13), .val (.int n14), .val (.int o15), .val (.int c16), .unset, .unset, .unset, .unset, .unset, .unset, .unset] [(.int x4), (.int c9)] by
    refine Wp.if_eq (pc1 := 187) (pc' := 176) at_173 (by decide) (by decide) rfl (fun hc6 => ?_) (fun hc6 => ?_)
    · have hc6 : o15 = (0 : Int32) := hc6
      refine Wp.iconst (x := (0 : Int32)) at_187 (pc' := 188) rfl rfl ?_
      exact hj188 _ own_b0
    · have hc6 : ¬ (o15 = (0 : Int32)) := hc6
      refine Wp.iloadN at_176 (pc' := 177) rfl rfl ?_
      refine Wp.bipush (x := (10 : Int32)) at_177 (pc' := 179) rfl rfl ?_
      refine Wp.iushr at_179 (pc' := 180) rfl ?_
      refine Wp.sipush (x := (255 : Int32)) at_180 (pc' := 183) rfl rfl ?_
      refine Wp.iand at_183 (pc' := 184) rfl ?_
      refine Wp.goto (pc' := 188) at_184 (by decide) (by decide) ?_
      exact hj188 _ (own_bm _)
  intro x4 hp_x4
  refine Wp.ixor at_188 (pc' := 189) rfl ?_
  refine Wp.i2c at_189 (pc' := 190) rfl ?_
  have b0 : own_b (c9 ^^^ x4) := own_bx b_c9 hp_x4
  rw [own_bc b0]
  generalize (c9 ^^^ x4) = c17 at b0 ⊢
  have b_c17 := b0
  refine Wp.istore (l' := #[.val (.int p1), .val (.int p2), .val (.int p3), .val (.int p4), .val (.int n4), .val (.int c5), .val (.int c6), .val (.int n7), .val (.int c8), .val (.int c9), .val (.int n10), .val (.int o11), .val (.int c12), .val (.int c13), .val (.int n14), .val (.int o15), .val (.int c16), .val (.int c17), .unset, .unset, .unset, .unset, .unset, .unset]) at_190 (pc' := 192) rfl rfl ?_
  refine Wp.iload at_192 (pc' := 194) rfl rfl ?_
  refine Wp.iload at_194 (pc' := 196) rfl rfl ?_
  refine Wp.iload at_196 (pc' := 198) rfl rfl ?_
  refine Wp.old fun hOc => ?_
  refine Wp.callS (W := 0) (argsL := [(.int n4), (.int c5), (.int c6)]) (rest := []) rfl (ctMK l Z a0 hw hE n4 c5 c6 cz h0 hOc b_c5 b_c6 hco hcz) (hw _ (List.mem_of_getElem? (i := 0) rfl)) (hw _ (List.mem_of_getElem? (i := 1) rfl)) (hw _ (List.mem_of_getElem? (i := 3) rfl)) (hw _ (List.mem_of_getElem? (i := 2) rfl)) (by decide) (lenOf pd__ICC_Ljava_lang_String_ rfl) at_198 rfl rfl rfl (Nat.le_of_eq rfl) (pc' := 201) rfl nofun nofun (by decide) (by decide) (k' := 6) (n' := 14) rfl rfl (by decide) (by decide) (fun vh7 h7 zh7 Kh7 qh7 => ?_)
  obtain ⟨s198, rfl, sb_s198, S_s198⟩ := qh7
  refine Wp.eqS (S' := [(.ref s198)]) rfl ?_
  have sz_s198 : h0.size ≤ s198 := Nat.le_trans zh7 sb_s198
  refine Wp.astore (l' := #[.val (.int p1), .val (.int p2), .val (.int p3), .val (.int p4), .val (.int n4), .val (.int c5), .val (.int c6), .val (.int n7), .val (.int c8), .val (.int c9), .val (.int n10), .val (.int o11), .val (.int c12), .val (.int c13), .val (.int n14), .val (.int o15), .val (.int c16), .val (.int c17), .val (.ref s198), .unset, .unset, .unset, .unset, .unset]) at_201 (pc' := 203) rfl rfl rfl ?_
  refine Wp.iload at_203 (pc' := 205) rfl rfl ?_
  refine Wp.iload at_205 (pc' := 207) rfl rfl ?_
  refine Wp.iload at_207 (pc' := 209) rfl rfl ?_
  refine Wp.old fun hOc => ?_
  refine Wp.callS (W := 0) (argsL := [(.int n7), (.int c8), (.int c9)]) (rest := []) rfl (ctMK l Z a0 hw hE n7 c8 c9 cz h7 hOc b_c8 b_c9 hco hcz) (hw _ (List.mem_of_getElem? (i := 0) rfl)) (hw _ (List.mem_of_getElem? (i := 1) rfl)) (hw _ (List.mem_of_getElem? (i := 3) rfl)) (hw _ (List.mem_of_getElem? (i := 2) rfl)) (by decide) (lenOf pd__ICC_Ljava_lang_String_ rfl) at_209 rfl rfl rfl (Nat.le_of_eq rfl) (pc' := 212) rfl nofun nofun (by decide) (by decide) (k' := 12) (n' := 28) rfl rfl (by decide) (by decide) (fun vh8 h8 zh8 Kh8 qh8 => ?_)
  obtain ⟨s209, rfl, sb_s209, S_s209⟩ := qh8
  have ne_s198_s209 : s198 ≠ s209 := Nat.ne_of_lt (Nat.lt_of_lt_of_le S_s198.lt sb_s209)
  replace S_s198 := S_s198.keep0 Kh8
  refine Wp.eqS (S' := [(.ref s209)]) rfl ?_
  have sz_s209 : h0.size ≤ s209 := Nat.le_trans zh8 sb_s209
  refine Wp.astore (l' := #[.val (.int p1), .val (.int p2), .val (.int p3), .val (.int p4), .val (.int n4), .val (.int c5), .val (.int c6), .val (.int n7), .val (.int c8), .val (.int c9), .val (.int n10), .val (.int o11), .val (.int c12), .val (.int c13), .val (.int n14), .val (.int o15), .val (.int c16), .val (.int c17), .val (.ref s198), .val (.ref s209), .unset, .unset, .unset, .unset]) at_212 (pc' := 214) rfl rfl rfl ?_
  refine Wp.iload at_214 (pc' := 216) rfl rfl ?_
  refine Wp.iload at_216 (pc' := 218) rfl rfl ?_
  refine Wp.iload at_218 (pc' := 220) rfl rfl ?_
  refine Wp.old fun hOc => ?_
  refine Wp.callS (W := 0) (argsL := [(.int n10), (.int c12), (.int c13)]) (rest := []) rfl (ctMK l Z a0 hw hE n10 c12 c13 cz h8 hOc b_c12 b_c13 hco hcz) (hw _ (List.mem_of_getElem? (i := 0) rfl)) (hw _ (List.mem_of_getElem? (i := 1) rfl)) (hw _ (List.mem_of_getElem? (i := 3) rfl)) (hw _ (List.mem_of_getElem? (i := 2) rfl)) (by decide) (lenOf pd__ICC_Ljava_lang_String_ rfl) at_220 rfl rfl rfl (Nat.le_of_eq rfl) (pc' := 223) rfl nofun nofun (by decide) (by decide) (k' := 18) (n' := 42) rfl rfl (by decide) (by decide) (fun vh9 h9 zh9 Kh9 qh9 => ?_)
  obtain ⟨s220, rfl, sb_s220, S_s220⟩ := qh9
  have ne_s198_s220 : s198 ≠ s220 := Nat.ne_of_lt (Nat.lt_of_lt_of_le S_s198.lt sb_s220)
  have ne_s209_s220 : s209 ≠ s220 := Nat.ne_of_lt (Nat.lt_of_lt_of_le S_s209.lt sb_s220)
  replace S_s198 := S_s198.keep0 Kh9
  replace S_s209 := S_s209.keep0 Kh9
  refine Wp.eqS (S' := [(.ref s220)]) rfl ?_
  have sz_s220 : h0.size ≤ s220 := Nat.le_trans zh9 sb_s220
  refine Wp.astore (l' := #[.val (.int p1), .val (.int p2), .val (.int p3), .val (.int p4), .val (.int n4), .val (.int c5), .val (.int c6), .val (.int n7), .val (.int c8), .val (.int c9), .val (.int n10), .val (.int o11), .val (.int c12), .val (.int c13), .val (.int n14), .val (.int o15), .val (.int c16), .val (.int c17), .val (.ref s198), .val (.ref s209), .val (.ref s220), .unset, .unset, .unset]) at_223 (pc' := 225) rfl rfl rfl ?_
  refine Wp.iload at_225 (pc' := 227) rfl rfl ?_
  refine Wp.iload at_227 (pc' := 229) rfl rfl ?_
  refine Wp.iload at_229 (pc' := 231) rfl rfl ?_
  refine Wp.old fun hOc => ?_
  refine Wp.callS (W := 0) (argsL := [(.int n14), (.int c16), (.int c17)]) (rest := []) rfl (ctMK l Z a0 hw hE n14 c16 c17 cz h9 hOc b_c16 b_c17 hco hcz) (hw _ (List.mem_of_getElem? (i := 0) rfl)) (hw _ (List.mem_of_getElem? (i := 1) rfl)) (hw _ (List.mem_of_getElem? (i := 3) rfl)) (hw _ (List.mem_of_getElem? (i := 2) rfl)) (by decide) (lenOf pd__ICC_Ljava_lang_String_ rfl) at_231 rfl rfl rfl (Nat.le_of_eq rfl) (pc' := 234) rfl nofun nofun (by decide) (by decide) (k' := 24) (n' := 56) rfl rfl (by decide) (by decide) (fun vh10 h10 zh10 Kh10 qh10 => ?_)
  obtain ⟨s231, rfl, sb_s231, S_s231⟩ := qh10
  have ne_s198_s231 : s198 ≠ s231 := Nat.ne_of_lt (Nat.lt_of_lt_of_le S_s198.lt sb_s231)
  have ne_s209_s231 : s209 ≠ s231 := Nat.ne_of_lt (Nat.lt_of_lt_of_le S_s209.lt sb_s231)
  have ne_s220_s231 : s220 ≠ s231 := Nat.ne_of_lt (Nat.lt_of_lt_of_le S_s220.lt sb_s231)
  replace S_s198 := S_s198.keep0 Kh10
  replace S_s209 := S_s209.keep0 Kh10
  replace S_s220 := S_s220.keep0 Kh10
  refine Wp.eqS (S' := [(.ref s231)]) rfl ?_
  have sz_s231 : h0.size ≤ s231 := Nat.le_trans zh10 sb_s231
  refine Wp.astore (l' := #[.val (.int p1), .val (.int p2), .val (.int p3), .val (.int p4), .val (.int n4), .val (.int c5), .val (.int c6), .val (.int n7), .val (.int c8), .val (.int c9), .val (.int n10), .val (.int o11), .val (.int c12), .val (.int c13), .val (.int n14), .val (.int o15), .val (.int c16), .val (.int c17), .val (.ref s198), .val (.ref s209), .val (.ref s220), .val (.ref s231), .unset, .unset]) at_234 (pc' := 236) rfl rfl rfl ?_
  refine Wp.new rfl (hw _ (List.mem_of_getElem? (i := 51) rfl)) (hw _ (List.mem_of_getElem? (i := 52) rfl)) (hw _ (List.mem_of_getElem? (i := 53) rfl)) at_236 (pc' := 239) rfl (k' := 25) (n' := 63) rfl rfl (by decide) (by decide) (fun h11 b11 g_b11 sz_b11 Xh11 E_b11 D_b11 => ?_)
  have ne_s198_b11 : s198 ≠ b11 := Nat.ne_of_lt (Nat.lt_of_lt_of_eq S_s198.lt g_b11.symm)
  have ne_s209_b11 : s209 ≠ b11 := Nat.ne_of_lt (Nat.lt_of_lt_of_eq S_s209.lt g_b11.symm)
  have ne_s220_b11 : s220 ≠ b11 := Nat.ne_of_lt (Nat.lt_of_lt_of_eq S_s220.lt g_b11.symm)
  have ne_s231_b11 : s231 ≠ b11 := Nat.ne_of_lt (Nat.lt_of_lt_of_eq S_s231.lt g_b11.symm)
  replace S_s198 := S_s198.ext Xh11
  replace S_s209 := S_s209.ext Xh11
  replace S_s220 := S_s220.ext Xh11
  replace S_s231 := S_s231.ext Xh11
  have F_children_b11 : Fld Z h11 b11 "com/example/portwright/portwright/xml/XmlElement" "children" "Ljava/util/List;" .null := D_b11 (Or.inr (hw _ (List.mem_of_getElem? (i := 107) rfl))) (ty := (.object "java/util/List")) (by decide)
  have F_namespace_b11 : Fld Z h11 b11 "com/example/portwright/portwright/xml/XmlElement" "namespace" "Ljava/lang/String;" .null := D_b11 (Or.inr (hw _ (List.mem_of_getElem? (i := 109) rfl))) (ty := (.object "java/lang/String")) (by decide)
  have F_localName_b11 : Fld Z h11 b11 "com/example/portwright/portwright/xml/XmlElement" "localName" "Ljava/lang/String;" .null := D_b11 (Or.inr (hw _ (List.mem_of_getElem? (i := 111) rfl))) (ty := (.object "java/lang/String")) (by decide)
  have F_attributes_b11 : Fld Z h11 b11 "com/example/portwright/portwright/xml/XmlElement" "attributes" "Ljava/util/Map;" .null := D_b11 (Or.inr (hw _ (List.mem_of_getElem? (i := 118) rfl))) (ty := (.object "java/util/Map")) (by decide)
  have F_declarations_b11 : Fld Z h11 b11 "com/example/portwright/portwright/xml/XmlElement" "declarations" "Ljava/util/Map;" .null := D_b11 (Or.inr (hw _ (List.mem_of_getElem? (i := 120) rfl))) (ty := (.object "java/util/Map")) (by decide)
  have F_location_b11 : Fld Z h11 b11 "com/example/portwright/portwright/xml/XmlElement" "location" "Lcom/example/portwright/portwright/xml/SourceLocation;" .null := D_b11 (Or.inr (hw _ (List.mem_of_getElem? (i := 122) rfl))) (ty := (.object "com/example/portwright/portwright/xml/SourceLocation")) (by decide)
  clear D_b11
  refine Wp.dup at_239 (pc' := 240) rfl rfl ?_
  refine Wp.aload at_240 (pc' := 242) rfl rfl rfl ?_
  refine Wp.aload at_242 (pc' := 244) rfl rfl rfl ?_
  refine Wp.old fun hOc => ?_
  refine Wp.callS (W := 4) (argsL := []) (rest := [(.ref s209), (.ref s198), (.ref b11), (.ref b11)]) rfl (ctOF l Z a0 hw hE em h11 hOc hem) (hw _ (List.mem_of_getElem? (i := 54) rfl)) (hw _ (List.mem_of_getElem? (i := 55) rfl)) (hw _ (List.mem_of_getElem? (i := 57) rfl)) (hw _ (List.mem_of_getElem? (i := 56) rfl)) (by decide) (lenOf pd___Ljava_util_Map_ rfl) at_244 rfl rfl rfl (Nat.le_of_eq rfl) (pc' := 247) rfl nofun nofun (by decide) (by decide) (k' := 25) (n' := 63) rfl rfl (by decide) (by decide) (fun vh12 h12 zh12 Kh12 qh12 => ?_)
  obtain rfl := qh12
  replace S_s198 := S_s198.keep0 Kh12
  replace S_s209 := S_s209.keep0 Kh12
  replace S_s220 := S_s220.keep0 Kh12
  replace S_s231 := S_s231.keep0 Kh12
  replace E_b11 := E_b11.keep Kh12
  replace F_children_b11 := F_children_b11.keep Kh12 nin0
  replace F_namespace_b11 := F_namespace_b11.keep Kh12 nin0
  replace F_localName_b11 := F_localName_b11.keep Kh12 nin0
  replace F_attributes_b11 := F_attributes_b11.keep Kh12 nin0
  replace F_declarations_b11 := F_declarations_b11.keep Kh12 nin0
  replace F_location_b11 := F_location_b11.keep Kh12 nin0
  refine Wp.eqS (S' := [(.ref em), (.ref s209), (.ref s198), (.ref b11), (.ref b11)]) rfl ?_
  refine Wp.old fun hOc => ?_
  refine Wp.callS (W := 5) (argsL := []) (rest := [(.ref em), (.ref s209), (.ref s198), (.ref b11), (.ref b11)]) rfl (ctOF l Z a0 hw hE em h12 hOc hem) (hw _ (List.mem_of_getElem? (i := 54) rfl)) (hw _ (List.mem_of_getElem? (i := 55) rfl)) (hw _ (List.mem_of_getElem? (i := 57) rfl)) (hw _ (List.mem_of_getElem? (i := 56) rfl)) (by decide) (lenOf pd___Ljava_util_Map_ rfl) at_247 rfl rfl rfl (Nat.le_of_eq rfl) (pc' := 250) rfl nofun nofun (by decide) (by decide) (k' := 25) (n' := 63) rfl rfl (by decide) (by decide) (fun vh13 h13 zh13 Kh13 qh13 => ?_)
  obtain rfl := qh13
  replace S_s198 := S_s198.keep0 Kh13
  replace S_s209 := S_s209.keep0 Kh13
  replace S_s220 := S_s220.keep0 Kh13
  replace S_s231 := S_s231.keep0 Kh13
  replace E_b11 := E_b11.keep Kh13
  replace F_children_b11 := F_children_b11.keep Kh13 nin0
  replace F_namespace_b11 := F_namespace_b11.keep Kh13 nin0
  replace F_localName_b11 := F_localName_b11.keep Kh13 nin0
  replace F_attributes_b11 := F_attributes_b11.keep Kh13 nin0
  replace F_declarations_b11 := F_declarations_b11.keep Kh13 nin0
  replace F_location_b11 := F_location_b11.keep Kh13 nin0
  refine Wp.eqS (S' := [(.ref em), (.ref em), (.ref s209), (.ref s198), (.ref b11), (.ref b11)]) rfl ?_
  refine Wp.new rfl (hw _ (List.mem_of_getElem? (i := 60) rfl)) (hw _ (List.mem_of_getElem? (i := 61) rfl)) (hw _ (List.mem_of_getElem? (i := 62) rfl)) at_250 (pc' := 253) rfl (k' := 26) (n' := 65) rfl rfl (by decide) (by decide) (fun h14 b14 g_b14 sz_b14 Xh14 E_b14 D_b14 => ?_)
  have ne_s198_b14 : s198 ≠ b14 := Nat.ne_of_lt (Nat.lt_of_lt_of_eq S_s198.lt g_b14.symm)
  have ne_s209_b14 : s209 ≠ b14 := Nat.ne_of_lt (Nat.lt_of_lt_of_eq S_s209.lt g_b14.symm)
  have ne_s220_b14 : s220 ≠ b14 := Nat.ne_of_lt (Nat.lt_of_lt_of_eq S_s220.lt g_b14.symm)
  have ne_s231_b14 : s231 ≠ b14 := Nat.ne_of_lt (Nat.lt_of_lt_of_eq S_s231.lt g_b14.symm)
  have ne_b11_b14 : b11 ≠ b14 := Nat.ne_of_lt (Nat.lt_of_lt_of_eq E_b11.lt g_b14.symm)
  replace S_s198 := S_s198.ext Xh14
  replace S_s209 := S_s209.ext Xh14
  replace S_s220 := S_s220.ext Xh14
  replace S_s231 := S_s231.ext Xh14
  replace E_b11 := E_b11.ext Xh14
  replace F_children_b11 := F_children_b11.ext Xh14
  replace F_namespace_b11 := F_namespace_b11.ext Xh14
  replace F_localName_b11 := F_localName_b11.ext Xh14
  replace F_attributes_b11 := F_attributes_b11.ext Xh14
  replace F_declarations_b11 := F_declarations_b11.ext Xh14
  replace F_location_b11 := F_location_b11.ext Xh14
  have F_file_b14 : Fld Z h14 b14 "com/example/portwright/portwright/xml/SourceLocation" "file" "Ljava/lang/String;" .null := D_b14 (Or.inr (hw _ (List.mem_of_getElem? (i := 75) rfl))) (ty := (.object "java/lang/String")) (by decide)
  have F_line_b14 : Fld Z h14 b14 "com/example/portwright/portwright/xml/SourceLocation" "line" "I" (.int (0 : Int32)) := D_b14 (Or.inr (hw _ (List.mem_of_getElem? (i := 77) rfl))) (ty := .int) (by decide)
  clear D_b14
  refine Wp.dup at_253 (pc' := 254) rfl rfl ?_
  refine Wp.ldcC (own := "com/example/portwright/portwright/xml/XmlElementIsPinLaw") (nn := 4) (vs := [.int 102]) (z := (1 : Int32)) rfl rfl (hw _ (List.mem_of_getElem? (i := 63) rfl)) (own_wS hw) (by simp) ⟨by decide, rfl⟩ (by decide) rfl at_254 (pc' := 256) rfl (by decide) (by decide) (k' := 28) (n' := 73) rfl rfl (by decide) (by decide) (fun h15 y15 z15 k_z15 Xh15 E_y15 C_y15 Fv_y15 V_z15 N_y15 => ?_)
  replace S_s198 := S_s198.ext Xh15
  replace S_s209 := S_s209.ext Xh15
  replace S_s220 := S_s220.ext Xh15
  replace S_s231 := S_s231.ext Xh15
  replace E_b11 := E_b11.ext Xh15
  replace F_children_b11 := F_children_b11.ext Xh15
  replace F_namespace_b11 := F_namespace_b11.ext Xh15
  replace F_localName_b11 := F_localName_b11.ext Xh15
  replace F_attributes_b11 := F_attributes_b11.ext Xh15
  replace F_declarations_b11 := F_declarations_b11.ext Xh15
  replace F_location_b11 := F_location_b11.ext Xh15
  replace E_b14 := E_b14.ext Xh15
  replace F_file_b14 := F_file_b14.ext Xh15
  replace F_line_b14 := F_line_b14.ext Xh15
  refine Wp.iconst (x := (1 : Int32)) at_256 (pc' := 257) rfl rfl ?_
  refine Wp.old fun hOc => ?_
  refine Wp.callI (a := b14) (W := 7) (argsL := [(.ref y15), (.int (1 : Int32))]) (rest := [(.ref b14), (.ref em), (.ref em), (.ref s209), (.ref s198), (.ref b11), (.ref b11)]) rfl (ctLOC l Z a0 hw hE b14 y15 (1 : Int32) h15 hOc (Nat.le_trans hO.1 sz_b14) E_b14 F_file_b14 F_line_b14 E_y15) rfl rfl (hw _ (List.mem_of_getElem? (i := 64) rfl)) (hw _ (List.mem_of_getElem? (i := 65) rfl)) (hw _ (List.mem_of_getElem? (i := 66) rfl)) (hw _ (List.mem_of_getElem? (i := 62) rfl)) (by decide) (lenOf pd__Ljava_lang_String_I_V rfl) at_257 rfl rfl rfl (Nat.le_of_eq rfl) (pc' := 260) rfl nofun (by intro x hx; simp only [List.mem_cons, List.not_mem_nil, or_false] at hx; rcases hx with rfl; exact (Or.inr sz_b14)) (by decide) (by decide) (k' := 30) (n' := 93) rfl rfl (by decide) (by decide) (fun vh16 h16 zh16 Kh16 qh16 => ?_)
  obtain rfl := qh16
  replace S_s198 := S_s198.keep1 Kh16 ne_s198_b14 E_b14 (hw _ (List.mem_of_getElem? (i := 61) rfl))
  replace S_s209 := S_s209.keep1 Kh16 ne_s209_b14 E_b14 (hw _ (List.mem_of_getElem? (i := 61) rfl))
  replace S_s220 := S_s220.keep1 Kh16 ne_s220_b14 E_b14 (hw _ (List.mem_of_getElem? (i := 61) rfl))
  replace S_s231 := S_s231.keep1 Kh16 ne_s231_b14 E_b14 (hw _ (List.mem_of_getElem? (i := 61) rfl))
  replace E_b11 := E_b11.keep Kh16
  replace F_children_b11 := F_children_b11.keep Kh16 (ninS ne_b11_b14 nin0)
  replace F_namespace_b11 := F_namespace_b11.keep Kh16 (ninS ne_b11_b14 nin0)
  replace F_localName_b11 := F_localName_b11.keep Kh16 (ninS ne_b11_b14 nin0)
  replace F_attributes_b11 := F_attributes_b11.keep Kh16 (ninS ne_b11_b14 nin0)
  replace F_declarations_b11 := F_declarations_b11.keep Kh16 (ninS ne_b11_b14 nin0)
  replace F_location_b11 := F_location_b11.keep Kh16 (ninS ne_b11_b14 nin0)
  replace E_b14 := E_b14.keep Kh16
  replace E_y15 := E_y15.keep Kh16
  refine Wp.eqS (S' := [(.ref b14), (.ref em), (.ref em), (.ref s209), (.ref s198), (.ref b11), (.ref b11)]) rfl ?_
  refine Wp.old fun hOc => ?_
  refine Wp.callI (a := b11) (W := 1) (argsL := [(.ref s198), (.ref s209), (.ref em), (.ref em), (.ref b14)]) (rest := [(.ref b11)]) rfl (ctXE l Z a0 hw hE b11 s198 s209 em b14 de h16 hOc (Nat.le_trans hO.1 sz_b11) E_b11 F_children_b11 F_namespace_b11 F_localName_b11 F_attributes_b11 F_declarations_b11 F_location_b11 xem hde) rfl rfl (hw _ (List.mem_of_getElem? (i := 78) rfl)) (hw _ (List.mem_of_getElem? (i := 79) rfl)) (hw _ (List.mem_of_getElem? (i := 80) rfl)) (hw _ (List.mem_of_getElem? (i := 53) rfl)) (by decide) (lenOf pd__Ljava_lang_String_Ljava_lang_String_Ljava_util_Map_Ljava_util_Map_Lcom_example_portwright_portwright_xml_SourceLocation__V rfl) at_260 rfl rfl rfl (Nat.le_of_eq rfl) (pc' := 263) rfl nofun (by intro x hx; simp only [List.mem_cons, List.not_mem_nil, or_false] at hx; rcases hx with rfl; exact (Or.inr sz_b11)) (by decide) (by decide) (k' := 31) (n' := 96) rfl rfl (by decide) (by decide) (fun vh17 h17 zh17 Kh17 qh17 => ?_)
  obtain ⟨rfl, K_b11, I_b11⟩ := qh17
  replace S_s198 := S_s198.keep1 Kh17 ne_s198_b11 E_b11 (hw _ (List.mem_of_getElem? (i := 52) rfl))
  replace S_s209 := S_s209.keep1 Kh17 ne_s209_b11 E_b11 (hw _ (List.mem_of_getElem? (i := 52) rfl))
  replace S_s220 := S_s220.keep1 Kh17 ne_s220_b11 E_b11 (hw _ (List.mem_of_getElem? (i := 52) rfl))
  replace S_s231 := S_s231.keep1 Kh17 ne_s231_b11 E_b11 (hw _ (List.mem_of_getElem? (i := 52) rfl))
  replace E_b11 := E_b11.keep Kh17
  replace E_b14 := E_b14.keep Kh17
  replace E_y15 := E_y15.keep Kh17
  refine Wp.eqS (S' := [(.ref b11)]) rfl ?_
  refine Wp.astore (l' := #[.val (.int p1), .val (.int p2), .val (.int p3), .val (.int p4), .val (.int n4), .val (.int c5), .val (.int c6), .val (.int n7), .val (.int c8), .val (.int c9), .val (.int n10), .val (.int o11), .val (.int c12), .val (.int c13), .val (.int n14), .val (.int o15), .val (.int c16), .val (.int c17), .val (.ref s198), .val (.ref s209), .val (.ref s220), .val (.ref s231), .val (.ref b11), .unset]) at_263 (pc' := 265) rfl rfl rfl ?_
  refine Wp.iload at_265 (pc' := 267) rfl rfl ?_
  refine Wp.iload at_267 (pc' := 269) rfl rfl ?_
  refine Wp.iload at_269 (pc' := 271) rfl rfl ?_
  refine Wp.iload at_271 (pc' := 273) rfl rfl ?_
  refine Wp.iload at_273 (pc' := 275) rfl rfl ?_
  refine Wp.iload at_275 (pc' := 277) rfl rfl ?_
  refine Wp.old fun hOc => ?_
  refine Wp.callS (W := 0) (argsL := [(.int n7), (.int c8), (.int c9), (.int n14), (.int c16), (.int c17)]) (rest := []) rfl (ctSAME l Z a0 hw hE n7 c8 c9 n14 c16 c17 h17 hOc l_n7 l_n14 b_c8 b_c9 b_c16 b_c17) (hw _ (List.mem_of_getElem? (i := 123) rfl)) (hw _ (List.mem_of_getElem? (i := 124) rfl)) (hw _ (List.mem_of_getElem? (i := 125) rfl)) (hw _ (List.mem_of_getElem? (i := 2) rfl)) (by decide) (lenOf pd__ICCICC_Z rfl) at_277 rfl rfl rfl (Nat.le_of_eq rfl) (pc' := 280) rfl nofun nofun (by decide) (by decide) (k' := 31) (n' := 96) rfl rfl (by decide) (by decide) (fun vh18 h18 zh18 Kh18 qh18 => ?_)
  obtain rfl := qh18
  replace S_s198 := S_s198.keep0 Kh18
  replace S_s209 := S_s209.keep0 Kh18
  replace S_s220 := S_s220.keep0 Kh18
  replace S_s231 := S_s231.keep0 Kh18
  replace E_b11 := E_b11.keep Kh18
  replace E_b14 := E_b14.keep Kh18
  replace E_y15 := E_y15.keep Kh18
  replace K_b11 := K_b11.keep Kh18 nin0
  replace I_b11 := I_b11.keep Kh18 nin0
  refine Wp.eqS (S' := [(.int (if own_st n7 c8 c9 = own_st n14 c16 c17 then (1 : Int32) else 0))]) rfl ?_
  refine Wp.if_eq (pc1 := 305) (pc' := 283) at_280 (by decide) (by decide) rfl (fun hc19 => ?_) (fun hc19 => ?_)
  · have hc19 : (if own_st n7 c8 c9 = own_st n14 c16 c17 then (1 : Int32) else 0) = (0 : Int32) := hc19
    refine Wp.iconst (x := (0 : Int32)) at_305 (pc' := 306) rfl rfl ?_
    refine Wp.istore (l' := #[.val (.int p1), .val (.int p2), .val (.int p3), .val (.int p4), .val (.int n4), .val (.int c5), .val (.int c6), .val (.int n7), .val (.int c8), .val (.int c9), .val (.int n10), .val (.int o11), .val (.int c12), .val (.int c13), .val (.int n14), .val (.int o15), .val (.int c16), .val (.int c17), .val (.ref s198), .val (.ref s209), .val (.ref s220), .val (.ref s231), .val (.ref b11), .val (.int (0 : Int32))]) at_306 (pc' := 308) rfl rfl ?_
    refine Wp.aload at_308 (pc' := 310) rfl rfl rfl ?_
    refine Wp.aload at_310 (pc' := 312) rfl rfl rfl ?_
    refine Wp.aload at_312 (pc' := 314) rfl rfl rfl ?_
    refine Wp.old fun hOc => ?_
    refine Wp.callV (a := b11) (x' := (⟨"com/example/portwright/portwright/xml/XmlElement", "is", "(Ljava/lang/String;Ljava/lang/String;)Z"⟩ : MethodName)) (W := 0) (argsL := [(.ref s220), (.ref s231)]) (rest := []) rfl (ctIS l Z a0 hw hE b11 s198 s209 s220 s231 (own_st n4 c5 c6) (own_st n7 c8 c9) (own_st n10 c12 c13) (own_st n14 c16 c17) cz h18 hOc K_b11 I_b11 S_s198 S_s209 S_s220 S_s231 (own_sl _ _ _) (own_sl _ _ _) (own_sl _ _ _) (own_sl _ _ _) ne_s209_s231 ne_s198_s220 hco hcz) (hw _ (List.mem_of_getElem? (i := 126) rfl)) (hw _ (List.mem_of_getElem? (i := 127) rfl)) (hw _ (List.mem_of_getElem? (i := 129) rfl)) (hw _ (List.mem_of_getElem? (i := 128) rfl)) (hw _ (List.mem_of_getElem? (i := 130) rfl)) (hw _ (List.mem_of_getElem? (i := 53) rfl)) (fun s hZ => nf_sel rfl (hw _ (List.mem_of_getElem? (i := 129) rfl)) s hZ rfl) E_b11 (by decide) (lenOf pd__Ljava_lang_String_Ljava_lang_String__Z rfl) at_314 rfl rfl rfl (Nat.le_of_eq rfl) (pc' := 317) rfl nofun nofun (by decide) (by decide) (k' := 31) (n' := 96) rfl rfl (by decide) (by decide) (fun vh20 h20 zh20 Kh20 qh20 => ?_)
    obtain rfl := qh20
    replace S_s198 := S_s198.keep0 Kh20
    replace S_s209 := S_s209.keep0 Kh20
    replace S_s220 := S_s220.keep0 Kh20
    replace S_s231 := S_s231.keep0 Kh20
    replace E_b11 := E_b11.keep Kh20
    replace E_b14 := E_b14.keep Kh20
    replace E_y15 := E_y15.keep Kh20
    replace K_b11 := K_b11.keep Kh20 nin0
    replace I_b11 := I_b11.keep Kh20 nin0
    refine Wp.eqS (S' := [(.int (if (own_st n7 c8 c9) = (own_st n14 c16 c17) ∧ (own_st n4 c5 c6) = (own_st n10 c12 c13) then (1 : Int32) else 0))]) rfl ?_
    have hv : (if (own_st n7 c8 c9) = (own_st n14 c16 c17) ∧ (own_st n4 c5 c6) = (own_st n10 c12 c13) then (1 : Int32) else 0) = (0 : Int32) := by
      have z0 := hc19
      simp at z0
      refine if_neg (fun e => ?_)
      obtain ⟨e1, e2⟩ := e
      first | with_reducible exact absurd e1 z0 | with_reducible exact absurd z0 e1 | with_reducible exact absurd e2 z0 | with_reducible exact absurd z0 e2
    rw [hv]
    refine Wp.iload at_317 (pc' := 319) rfl rfl ?_
    refine Wp.icmp_ne (pc1 := 326) (pc' := 322) at_319 (by decide) (by decide) rfl (fun hc21 => by exact absurd hc21 (by decide)) (fun hc21 => ?_)
    refine Wp.iconst (x := (1 : Int32)) at_322 (pc' := 323) rfl rfl ?_
    refine Wp.goto (pc' := 327) at_323 (by decide) (by decide) ?_
    refine Wp.retN (x' := (1 : Int32)) (t := .boolean) rfl (by simp) rfl at_327 (by decide) (by decide) ?_
    rfl
  · have hc19 : ¬ ((if own_st n7 c8 c9 = own_st n14 c16 c17 then (1 : Int32) else 0) = (0 : Int32)) := hc19
    refine Wp.iload at_283 (pc' := 285) rfl rfl ?_
    refine Wp.iload at_285 (pc' := 287) rfl rfl ?_
    refine Wp.iload at_287 (pc' := 289) rfl rfl ?_
    refine Wp.iload at_289 (pc' := 291) rfl rfl ?_
    refine Wp.iload at_291 (pc' := 293) rfl rfl ?_
    refine Wp.iload at_293 (pc' := 295) rfl rfl ?_
    refine Wp.old fun hOc => ?_
    refine Wp.callS (W := 0) (argsL := [(.int n4), (.int c5), (.int c6), (.int n10), (.int c12), (.int c13)]) (rest := []) rfl (ctSAME l Z a0 hw hE n4 c5 c6 n10 c12 c13 h18 hOc l_n4 l_n10 b_c5 b_c6 b_c12 b_c13) (hw _ (List.mem_of_getElem? (i := 123) rfl)) (hw _ (List.mem_of_getElem? (i := 124) rfl)) (hw _ (List.mem_of_getElem? (i := 125) rfl)) (hw _ (List.mem_of_getElem? (i := 2) rfl)) (by decide) (lenOf pd__ICCICC_Z rfl) at_295 rfl rfl rfl (Nat.le_of_eq rfl) (pc' := 298) rfl nofun nofun (by decide) (by decide) (k' := 31) (n' := 96) rfl rfl (by decide) (by decide) (fun vh22 h22 zh22 Kh22 qh22 => ?_)
    obtain rfl := qh22
    replace S_s198 := S_s198.keep0 Kh22
    replace S_s209 := S_s209.keep0 Kh22
    replace S_s220 := S_s220.keep0 Kh22
    replace S_s231 := S_s231.keep0 Kh22
    replace E_b11 := E_b11.keep Kh22
    replace E_b14 := E_b14.keep Kh22
    replace E_y15 := E_y15.keep Kh22
    replace K_b11 := K_b11.keep Kh22 nin0
    replace I_b11 := I_b11.keep Kh22 nin0
    refine Wp.eqS (S' := [(.int (if own_st n4 c5 c6 = own_st n10 c12 c13 then (1 : Int32) else 0))]) rfl ?_
    refine Wp.if_eq (pc1 := 305) (pc' := 301) at_298 (by decide) (by decide) rfl (fun hc23 => ?_) (fun hc23 => ?_)
    · have hc23 : (if own_st n4 c5 c6 = own_st n10 c12 c13 then (1 : Int32) else 0) = (0 : Int32) := hc23
      refine Wp.iconst (x := (0 : Int32)) at_305 (pc' := 306) rfl rfl ?_
      refine Wp.istore (l' := #[.val (.int p1), .val (.int p2), .val (.int p3), .val (.int p4), .val (.int n4), .val (.int c5), .val (.int c6), .val (.int n7), .val (.int c8), .val (.int c9), .val (.int n10), .val (.int o11), .val (.int c12), .val (.int c13), .val (.int n14), .val (.int o15), .val (.int c16), .val (.int c17), .val (.ref s198), .val (.ref s209), .val (.ref s220), .val (.ref s231), .val (.ref b11), .val (.int (0 : Int32))]) at_306 (pc' := 308) rfl rfl ?_
      refine Wp.aload at_308 (pc' := 310) rfl rfl rfl ?_
      refine Wp.aload at_310 (pc' := 312) rfl rfl rfl ?_
      refine Wp.aload at_312 (pc' := 314) rfl rfl rfl ?_
      refine Wp.old fun hOc => ?_
      refine Wp.callV (a := b11) (x' := (⟨"com/example/portwright/portwright/xml/XmlElement", "is", "(Ljava/lang/String;Ljava/lang/String;)Z"⟩ : MethodName)) (W := 0) (argsL := [(.ref s220), (.ref s231)]) (rest := []) rfl (ctIS l Z a0 hw hE b11 s198 s209 s220 s231 (own_st n4 c5 c6) (own_st n7 c8 c9) (own_st n10 c12 c13) (own_st n14 c16 c17) cz h22 hOc K_b11 I_b11 S_s198 S_s209 S_s220 S_s231 (own_sl _ _ _) (own_sl _ _ _) (own_sl _ _ _) (own_sl _ _ _) ne_s209_s231 ne_s198_s220 hco hcz) (hw _ (List.mem_of_getElem? (i := 126) rfl)) (hw _ (List.mem_of_getElem? (i := 127) rfl)) (hw _ (List.mem_of_getElem? (i := 129) rfl)) (hw _ (List.mem_of_getElem? (i := 128) rfl)) (hw _ (List.mem_of_getElem? (i := 130) rfl)) (hw _ (List.mem_of_getElem? (i := 53) rfl)) (fun s hZ => nf_sel rfl (hw _ (List.mem_of_getElem? (i := 129) rfl)) s hZ rfl) E_b11 (by decide) (lenOf pd__Ljava_lang_String_Ljava_lang_String__Z rfl) at_314 rfl rfl rfl (Nat.le_of_eq rfl) (pc' := 317) rfl nofun nofun (by decide) (by decide) (k' := 31) (n' := 96) rfl rfl (by decide) (by decide) (fun vh24 h24 zh24 Kh24 qh24 => ?_)
      obtain rfl := qh24
      replace S_s198 := S_s198.keep0 Kh24
      replace S_s209 := S_s209.keep0 Kh24
      replace S_s220 := S_s220.keep0 Kh24
      replace S_s231 := S_s231.keep0 Kh24
      replace E_b11 := E_b11.keep Kh24
      replace E_b14 := E_b14.keep Kh24
      replace E_y15 := E_y15.keep Kh24
      replace K_b11 := K_b11.keep Kh24 nin0
      replace I_b11 := I_b11.keep Kh24 nin0
      refine Wp.eqS (S' := [(.int (if (own_st n7 c8 c9) = (own_st n14 c16 c17) ∧ (own_st n4 c5 c6) = (own_st n10 c12 c13) then (1 : Int32) else 0))]) rfl ?_
      have hv : (if (own_st n7 c8 c9) = (own_st n14 c16 c17) ∧ (own_st n4 c5 c6) = (own_st n10 c12 c13) then (1 : Int32) else 0) = (0 : Int32) := by
        have z0 := hc19
        simp at z0
        have z1 := hc23
        simp at z1
        refine if_neg (fun e => ?_)
        obtain ⟨e1, e2⟩ := e
        first | with_reducible exact absurd e1 z0 | with_reducible exact absurd z0 e1 | with_reducible exact absurd e2 z0 | with_reducible exact absurd z0 e2 | with_reducible exact absurd e1 z1 | with_reducible exact absurd z1 e1 | with_reducible exact absurd e2 z1 | with_reducible exact absurd z1 e2
      rw [hv]
      refine Wp.iload at_317 (pc' := 319) rfl rfl ?_
      refine Wp.icmp_ne (pc1 := 326) (pc' := 322) at_319 (by decide) (by decide) rfl (fun hc25 => by exact absurd hc25 (by decide)) (fun hc25 => ?_)
      refine Wp.iconst (x := (1 : Int32)) at_322 (pc' := 323) rfl rfl ?_
      refine Wp.goto (pc' := 327) at_323 (by decide) (by decide) ?_
      refine Wp.retN (x' := (1 : Int32)) (t := .boolean) rfl (by simp) rfl at_327 (by decide) (by decide) ?_
      rfl
    · have hc23 : ¬ ((if own_st n4 c5 c6 = own_st n10 c12 c13 then (1 : Int32) else 0) = (0 : Int32)) := hc23
      refine Wp.iconst (x := (1 : Int32)) at_301 (pc' := 302) rfl rfl ?_
      refine Wp.goto (pc' := 306) at_302 (by decide) (by decide) ?_
      refine Wp.istore (l' := #[.val (.int p1), .val (.int p2), .val (.int p3), .val (.int p4), .val (.int n4), .val (.int c5), .val (.int c6), .val (.int n7), .val (.int c8), .val (.int c9), .val (.int n10), .val (.int o11), .val (.int c12), .val (.int c13), .val (.int n14), .val (.int o15), .val (.int c16), .val (.int c17), .val (.ref s198), .val (.ref s209), .val (.ref s220), .val (.ref s231), .val (.ref b11), .val (.int (1 : Int32))]) at_306 (pc' := 308) rfl rfl ?_
      refine Wp.aload at_308 (pc' := 310) rfl rfl rfl ?_
      refine Wp.aload at_310 (pc' := 312) rfl rfl rfl ?_
      refine Wp.aload at_312 (pc' := 314) rfl rfl rfl ?_
      refine Wp.old fun hOc => ?_
      refine Wp.callV (a := b11) (x' := (⟨"com/example/portwright/portwright/xml/XmlElement", "is", "(Ljava/lang/String;Ljava/lang/String;)Z"⟩ : MethodName)) (W := 0) (argsL := [(.ref s220), (.ref s231)]) (rest := []) rfl (ctIS l Z a0 hw hE b11 s198 s209 s220 s231 (own_st n4 c5 c6) (own_st n7 c8 c9) (own_st n10 c12 c13) (own_st n14 c16 c17) cz h22 hOc K_b11 I_b11 S_s198 S_s209 S_s220 S_s231 (own_sl _ _ _) (own_sl _ _ _) (own_sl _ _ _) (own_sl _ _ _) ne_s209_s231 ne_s198_s220 hco hcz) (hw _ (List.mem_of_getElem? (i := 126) rfl)) (hw _ (List.mem_of_getElem? (i := 127) rfl)) (hw _ (List.mem_of_getElem? (i := 129) rfl)) (hw _ (List.mem_of_getElem? (i := 128) rfl)) (hw _ (List.mem_of_getElem? (i := 130) rfl)) (hw _ (List.mem_of_getElem? (i := 53) rfl)) (fun s hZ => nf_sel rfl (hw _ (List.mem_of_getElem? (i := 129) rfl)) s hZ rfl) E_b11 (by decide) (lenOf pd__Ljava_lang_String_Ljava_lang_String__Z rfl) at_314 rfl rfl rfl (Nat.le_of_eq rfl) (pc' := 317) rfl nofun nofun (by decide) (by decide) (k' := 31) (n' := 96) rfl rfl (by decide) (by decide) (fun vh26 h26 zh26 Kh26 qh26 => ?_)
      obtain rfl := qh26
      replace S_s198 := S_s198.keep0 Kh26
      replace S_s209 := S_s209.keep0 Kh26
      replace S_s220 := S_s220.keep0 Kh26
      replace S_s231 := S_s231.keep0 Kh26
      replace E_b11 := E_b11.keep Kh26
      replace E_b14 := E_b14.keep Kh26
      replace E_y15 := E_y15.keep Kh26
      replace K_b11 := K_b11.keep Kh26 nin0
      replace I_b11 := I_b11.keep Kh26 nin0
      refine Wp.eqS (S' := [(.int (if (own_st n7 c8 c9) = (own_st n14 c16 c17) ∧ (own_st n4 c5 c6) = (own_st n10 c12 c13) then (1 : Int32) else 0))]) rfl ?_
      have hv : (if (own_st n7 c8 c9) = (own_st n14 c16 c17) ∧ (own_st n4 c5 c6) = (own_st n10 c12 c13) then (1 : Int32) else 0) = (1 : Int32) := by
        have z0 := hc19
        simp at z0
        have z1 := hc23
        simp at z1
        exact if_pos (by first | with_reducible exact ⟨z0, z0⟩ | with_reducible exact ⟨z0, z1⟩ | with_reducible exact ⟨z1, z0⟩ | with_reducible exact ⟨z1, z1⟩)
      rw [hv]
      refine Wp.iload at_317 (pc' := 319) rfl rfl ?_
      refine Wp.icmp_ne (pc1 := 326) (pc' := 322) at_319 (by decide) (by decide) rfl (fun hc27 => by exact absurd hc27 (by decide)) (fun hc27 => ?_)
      refine Wp.iconst (x := (1 : Int32)) at_322 (pc' := 323) rfl rfl ?_
      refine Wp.goto (pc' := 327) at_323 (by decide) (by decide) ?_
      refine Wp.retN (x' := (1 : Int32)) (t := .boolean) rfl (by simp) rfl at_327 (by decide) (by decide) ?_
      rfl
set_option maxRecDepth 65536 in
set_option maxHeartbeats 40000000 in
theorem comes_1 {Post : Tables → Env → Array Value → State → Outcome → State → Prop} (hpost : ∀ tb e args s v u, (limb_1_1.after args s (.returned v) u = true ∧ limb_1_2.after args s (.returned v) u = true ∧ True) → ReturnedEndW s (.returned v) u (Jvm.fieldLocs frame_1_writes args s ++ Jvm.arrayLocs frame_1_arrays args s ++ Jvm.staticLocs frame_1_statics s) 48 3264 → Post tb e args s (.returned v) u) :
    ArmFor flags0 classFile x code maxLocals ret World_1 tables_1 room_1 Calls_1 rest_1 Pre_1 Post := by
  intro l hfl _ _ p e ha hc hk s m args below hf hA hF happ hP
  obtain ⟨hcalls, hrest, hpre⟩ := hP
  obtain ⟨-, -, -, hnamed, -, -, -, hat⟩ := (Spec.applies_iff hf).mp happ
  obtain ⟨hg, hn⟩ := and_e (Cond.before_iff.mp (show (Jvm.Cond.and given_1 narrow_1).before args s = true from hpre))
  obtain ⟨gc, ga0⟩ := and_e hg
  obtain ⟨ga0, ga1⟩ := and_e ga0
  obtain ⟨ga1, ga2⟩ := and_e ga1
  obtain ⟨ga2, ga3⟩ := and_e ga2
  obtain ⟨w0, w1, w2, w3, rfl⟩ : ∃ w0 w1 w2 w3 : Value, args = #[w0, w1, w2, w3] := by
    have hs : args.size = 4 := by simpa [Cond.value, given_1] using gc
    obtain ⟨L⟩ := args
    match L, hs with
    | [w0, w1, w2, w3], _ => exact ⟨w0, w1, w2, w3, rfl⟩
  have hw := fun d (hd : d ∈ tables_1) => atoms_spec (ws := Jvm.Cond.code x code maxLocals ret :: tables_1) hat d (List.mem_cons_of_mem _ hd)
  obtain ⟨hsets, hown0⟩ := atoms_of _ (rest_1_c_eq ▸ (show rest_1_c.before _ s = true from hrest))
  obtain ⟨i0, ei0⟩ := is_v ga0
  obtain rfl : w0 = (.int i0) := Option.some.inj ei0
  obtain ⟨i1, ei1⟩ := is_v ga1
  obtain rfl : w1 = (.int i1) := Option.some.inj ei1
  obtain ⟨i2, ei2⟩ := is_v ga2
  obtain rfl : w2 = (.int i2) := Option.some.inj ei2
  obtain ⟨i3, ei3⟩ := is_v ga3
  obtain rfl : w3 = (.int i3) := Option.some.inj ei3
  have hn3 := not_v (Cond.before_iff.mp (hsets _ (List.mem_of_getElem? (i := 2) rfl)))
  obtain ⟨cz, ecz⟩ := is_v (Cond.before_iff.mp (hsets _ (List.mem_of_getElem? (i := 1) rfl)))
  have hco := Sta.start ecz (Or.inl (hsets _ (List.mem_of_getElem? (i := 0) rfl)))
  have hcz : ¬ cz = 0 := gotF (Cond.eq_ints ecz (Term.int_eval (0))) hn3
  have hE : EW s _ [("java/lang/String", 7), ("com/example/portwright/portwright/xml/XmlElementIsPinLaw", 32)] := (EW.cons (hw _ (List.mem_of_getElem? (i := 18) rfl)) (by decide) (EW.cons (hw _ (List.mem_of_getElem? (i := 63) rfl)) (by decide) EW.nil))
  have hCH : CHv s [("java/lang/String", 7), ("com/example/portwright/portwright/xml/XmlElementIsPinLaw", 32)] s.vm s.heap := CHv.start hE (fun p hp => by simp only [List.mem_cons, List.not_mem_nil, or_false] at hp; rcases hp with rfl | rfl <;> exact hcalls.1 _ (by simp [consts_1])) (hsets _ (List.mem_of_getElem? (i := 2) rfl)) (hw _ (List.mem_of_getElem? (i := 19) rfl)) (hw _ (List.mem_of_getElem? (i := 5) rfl))
  obtain ⟨em, eem⟩ := exa_v (Cond.before_iff.mp (hsets _ (List.mem_of_getElem? (i := 11) rfl)))
  have hem := Sta.start eem (Or.inl (hsets _ (List.mem_of_getElem? (i := 10) rfl)))
  have xem := Exa.start eem (Cond.before_iff.mp (hsets _ (List.mem_of_getElem? (i := 11) rfl)))
  obtain ⟨de, ede⟩ := arr_v (Cond.before_iff.mp (hsets _ (List.mem_of_getElem? (i := 22) rfl)))
  have hde := Sta.start ede (Or.inr ⟨(hw _ (List.mem_of_getElem? (i := 84) rfl)), (hsets _ (List.mem_of_getElem? (i := 18) rfl))⟩)
  obtain ⟨n, o, h1, h2, h3, _, L, rfl, ⟨N, rfl⟩, -, hq⟩ := (ct0 l s _ hw hE i0 i1 i2 i3 cz em de s.heap ⟨Nat.le_refl _, fun _ _ q => q⟩ hco hcz hem xem hde) p e ha hc hk s m _ below hf ((Spec.applies_iff_loose hf).mp happ).1 ⟨rfl, State.Warmed39.refl s, rfl, hCH, fun x hx => nomatch hx⟩ trivial
  refine ⟨n, _, h1, h2, h3, hpost _ _ _ _ _ _ ⟨Cond.after_iff.mpr rfl, Cond.after_iff.mpr (eq_i res_at (Term.int_eval (1)) rfl), trivial⟩ ⟨hq.1.1, hq.1.2.1, hq.1.2.2.1, (hq.1.2.2.2.sift fun y hy => Or.inr ((N y hy).resolve_left (fun q => nomatch q))).mono (by decide) (by decide)⟩⟩
theorem main_1_1 : Claimed_1_1 := comes_1 fun _ _ _ _ _ _ h hF => ⟨h.1, hF⟩
theorem main_1_2 : Claimed_1_2 := comes_1 fun _ _ _ _ _ _ h hF => ⟨h.2.1, hF⟩
end Jvm.Pilot.@@N@@
namespace Jvm.Pilot.@@N@@
open Jvm Jvm.ClassFile Sem Op Lib Jvm.Free Jvm.Stand Jvm.Pilot.@@N@@.Jvm.D
/-! MADE BY PROGRAM (witnessworld.py) out of the Statement's table words and the real class files: 36 classes; the members and pool entries that the words name. The judged class is class 1, her method 3. -/
namespace start1
open Jvm.ClassFile
def u (s : String) : CpInfo := .utf8 (stringToUtf16 s)
/-- a pool by its gaps: so many unusable entries, then the entry; so many at the end -/
def gap : Nat → List CpInfo → List CpInfo
  | 0, r => r
  | n + 1, r => .unusable :: gap n r
def poolList (es : List (Nat × CpInfo)) (last : Nat) : List CpInfo := es.foldr (fun e r => gap e.1 (e.2 :: r)) (gap last [])
def pool (es : List (Nat × CpInfo)) (last : Nat) : Array CpInfo := ⟨poolList es last⟩
def fileOf (pool : Array CpInfo) (this : Nat) (attrs : Array Attribute := #[]) (ms : Array MethodInfo := #[]) (fl : Nat := 33) (sup : Nat := 0) (ifs : Array Nat := #[]) (fds : Array FieldInfo := #[]) : ClassFile where
  minorVersion := 0
  majorVersion := 65
  constantPool := pool
  accessFlags := fl
  thisClass := this
  superClass := sup
  interfaces := ifs
  fields := fds
  methods := ms
  attributes := attrs
def plain (name : String) (sup : Option ClassId) : Class where
  name := name
  kind := .ordinary
  loader := none
  accessFlags := 33
  super := sup
  interfaces := #[]
  cf := none
  fields := #[]
  methods := #[]
  instanceTypes := #[]
  staticTypes := #[]
  resolved := #[]
  callSites := []
  init := .initialized
  statics := none
  mirror := none

def pool0 : Array CpInfo := pool [(5, u "<init>"), (0, u "()V"), (1, .class_ 10), (1, u "java/lang/Object")] 113

def k0c0 : Code := { maxStack := 0, maxLocals := 1, code := object_method_1_code, exceptionTable := #[], attributes := #[] }
def k0m0 : Method := { name := "<init>", desc := "()V", sig := { parameters := [], returnType := none }, accessFlags := 1, code := some k0c0 }
/-- java/lang/Object -/
def k0 : Class := { plain "java/lang/Object" none with
  accessFlags := 33
  interfaces := #[]
  cf := some (fileOf pool0 8 #[] #[{ accessFlags := 1, nameIndex := 5, descriptorIndex := 6, attributes := #[] }] 33 0 #[] #[])
  fields := #[]
  methods := #[k0m0]
  instanceTypes := #[]
  staticTypes := #[]
  resolved := Array.replicate 124 none
  statics := none }

def pool1 : Array CpInfo := pool [(2, .class_ 4), (1, u "java/lang/Object"), (0, u "<init>"), (0, u "()V"), (0, .class_ 8), (0, u "java/lang/String"), (0, .methodref 7 10), (0, .nameAndType 5 11), (0, u "([C)V"), (0, .methodref 7 13), (0, .nameAndType 14 15), (0, u "valueOf"), (0, u "(C)Ljava/lang/String;"), (0, .methodref 17 18), (0, .class_ 19), (0, .nameAndType 20 21), (0, u "com/example/portwright/portwright/xml/XmlElementIsPinLaw"), (0, u "make"), (0, u "(ICC)Ljava/lang/String;"), (0, .class_ 23), (0, u "com/example/portwright/portwright/xml/XmlElement"), (0, .interfaceMethodref 25 26), (0, .class_ 27), (0, .nameAndType 28 29), (0, u "java/util/Map"), (0, u "of"), (0, u "()Ljava/util/Map;"), (0, .class_ 31), (0, u "com/example/portwright/portwright/xml/SourceLocation"), (0, .string 33), (0, u "f"), (0, .methodref 30 35), (0, .nameAndType 5 36), (0, u "(Ljava/lang/String;I)V"), (0, .methodref 22 38), (0, .nameAndType 5 39), (0, u "(Ljava/lang/String;Ljava/lang/String;Ljava/util/Map;Ljava/util/Map;Lcom/example/portwright/portwright/xml/SourceLocation;)V"), (0, .methodref 17 41), (0, .nameAndType 42 43), (0, u "same"), (0, u "(ICCICC)Z"), (0, .methodref 22 45), (0, .nameAndType 46 47), (0, u "is"), (0, u "(Ljava/lang/String;Ljava/lang/String;)Z"), (3, u "law"), (0, u "(IIII)Z")] 2

def k1m0 : Method := { name := "<init>", desc := "()V", sig := { parameters := [], returnType := none }, accessFlags := 1, code := none }
def k1c1 : Code := { maxStack := 6, maxLocals := 3, code := method_2_code, exceptionTable := #[], attributes := #[] }
def k1m1 : Method := { name := "make", desc := "(ICC)Ljava/lang/String;", sig := { parameters := [.int, .char, .char], returnType := some (.object "java/lang/String") }, accessFlags := 10, code := some k1c1 }
def k1c2 : Code := { maxStack := 2, maxLocals := 6, code := method_3_code, exceptionTable := #[], attributes := #[] }
def k1m2 : Method := { name := "same", desc := "(ICCICC)Z", sig := { parameters := [.int, .char, .char, .int, .char, .char], returnType := some .boolean }, accessFlags := 10, code := some k1c2 }
def k1c3 : Code := { maxStack := 10, maxLocals := 24, code := code, exceptionTable := #[], attributes := #[] }
def k1m3 : Method := { name := "law", desc := "(IIII)Z", sig := { parameters := [.int, .int, .int, .int], returnType := some .boolean }, accessFlags := 9, code := some k1c3 }
/-- com/example/portwright/portwright/xml/XmlElementIsPinLaw -/
def k1 : Class := { plain "com/example/portwright/portwright/xml/XmlElementIsPinLaw" (some 0) with
  accessFlags := 49
  interfaces := #[]
  cf := some (fileOf pool1 17 #[] #[{ accessFlags := 1, nameIndex := 5, descriptorIndex := 6, attributes := #[] }, { accessFlags := 10, nameIndex := 20, descriptorIndex := 21, attributes := #[] }, { accessFlags := 10, nameIndex := 42, descriptorIndex := 43, attributes := #[] }, { accessFlags := 9, nameIndex := 51, descriptorIndex := 52, attributes := #[] }] 49 2 #[] #[])
  fields := #[]
  methods := #[k1m0, k1m1, k1m2, k1m3]
  instanceTypes := #[]
  staticTypes := #[]
  resolved := Array.replicate 55 none
  statics := none }

def pool2 : Array CpInfo := pool [(1, .class_ 2), (0, u "java/io/Serializable"), (0, .class_ 4), (0, u "java/lang/Object")] 2

/-- java/io/Serializable -/
def k2 : Class := { plain "java/io/Serializable" (some 0) with
  accessFlags := 1537
  interfaces := #[]
  cf := some (fileOf pool2 1 #[] #[] 1537 3 #[] #[])
  fields := #[]
  methods := #[]
  instanceTypes := #[]
  staticTypes := #[]
  resolved := Array.replicate 7 none
  statics := none }

def pool3 : Array CpInfo := pool [(1, .class_ 2), (0, u "java/lang/Comparable"), (0, .class_ 4), (0, u "java/lang/Object")] 7

/-- java/lang/Comparable -/
def k3 : Class := { plain "java/lang/Comparable" (some 0) with
  accessFlags := 1537
  interfaces := #[]
  cf := some (fileOf pool3 1 #[] #[] 1537 3 #[] #[])
  fields := #[]
  methods := #[]
  instanceTypes := #[]
  staticTypes := #[]
  resolved := Array.replicate 12 none
  statics := none }

def pool4 : Array CpInfo := pool [(2, .class_ 4), (1, u "java/lang/CharSequence"), (42, .class_ 48), (0, u "java/lang/CharSequence$1CodePointIterator"), (10, .class_ 60), (0, u "java/lang/CharSequence$1CharIterator"), (5, .class_ 67), (0, u "java/lang/Object")] 63

/-- java/lang/CharSequence -/
def k4 : Class := { plain "java/lang/CharSequence" (some 0) with
  accessFlags := 1537
  interfaces := #[]
  cf := some (fileOf pool4 2 #[.nestMembers #[47, 59]] #[] 1537 66 #[] #[])
  fields := #[]
  methods := #[]
  instanceTypes := #[]
  staticTypes := #[]
  resolved := Array.replicate 131 none
  statics := none }

def pool5 : Array CpInfo := pool [(1, .class_ 2), (0, u "java/lang/constant/Constable"), (0, .class_ 4), (0, u "java/lang/Object")] 6

/-- java/lang/constant/Constable -/
def k5 : Class := { plain "java/lang/constant/Constable" (some 0) with
  accessFlags := 1537
  interfaces := #[]
  cf := some (fileOf pool5 1 #[] #[] 1537 3 #[] #[])
  fields := #[]
  methods := #[]
  instanceTypes := #[]
  staticTypes := #[]
  resolved := Array.replicate 11 none
  statics := none }

def pool6 : Array CpInfo := pool [(1, .class_ 2), (0, u "java/lang/constant/ConstantDesc"), (0, .class_ 4), (0, u "java/lang/Object")] 32

/-- java/lang/constant/ConstantDesc -/
def k6 : Class := { plain "java/lang/constant/ConstantDesc" (some 0) with
  accessFlags := 1537
  interfaces := #[]
  cf := some (fileOf pool6 1 #[] #[] 1537 3 #[] #[])
  fields := #[]
  methods := #[]
  instanceTypes := #[]
  staticTypes := #[]
  resolved := Array.replicate 37 none
  statics := none }

def pool7 : Array CpInfo := pool [(1, .methodref 2 3), (0, .class_ 4), (0, .nameAndType 5 6), (0, u "java/lang/Object"), (0, u "<init>"), (0, u "()V"), (0, .string 8), (0, u ""), (0, .fieldref 10 11), (0, .class_ 12), (0, .nameAndType 13 14), (0, u "java/lang/String"), (0, u "value"), (0, u "[B"), (0, .fieldref 10 16), (0, .nameAndType 17 18), (0, u "coder"), (0, u "B"), (2, u "hash"), (0, u "I"), (2, u "hashIsZero"), (0, u "Z"), (0, .methodref 10 28), (0, .nameAndType 5 29), (0, u "([CIILjava/lang/Void;)V"), (8, .fieldref 10 39), (0, .nameAndType 40 26), (0, u "COMPACT_STRINGS"), (1, .class_ 44), (1, u "java/lang/StringUTF16"), (0, u "compress"), (1, .methodref 42 48), (0, .nameAndType 49 50), (0, u "coderFromArrayLen"), (0, u "([BI)B"), (2, u "toBytes"), (53, .class_ 109), (1, u "java/lang/StringLatin1"), (67, .methodref 42 178), (0, .nameAndType 45 179), (0, u "([CII)[B"), (29, .methodref 10 210), (0, .nameAndType 5 211), (0, u "([BB)V"), (157, u "(C)Z"), (171, .methodref 107 542), (0, .nameAndType 543 544), (0, u "equals"), (0, u "([B[B)Z"), (28, u "(Ljava/lang/Object;)Z"), (1, .class_ 576), (0, u "java/lang/CharSequence"), (22, u "CASE_INSENSITIVE_ORDER"), (0, u "Ljava/util/Comparator;"), (181, u "valueOf"), (0, u "(C)Ljava/lang/String;"), (226, u "([C)V"), (4, .methodref 107 1016), (0, .nameAndType 1017 369), (0, u "canEncode"), (0, .methodref 107 1019), (0, .nameAndType 53 1020), (0, u "(C)[B"), (80, u "serialPersistentFields"), (0, u "[Ljava/io/ObjectStreamField;"), (0, .class_ 1104), (0, u "java/lang/String$CaseInsensitiveComparator"), (1, .class_ 1107), (0, u "java/io/Serializable"), (0, .class_ 1109), (0, u "java/lang/Comparable"), (0, .class_ 1111), (0, u "java/lang/constant/Constable"), (0, .class_ 1113), (0, u "java/lang/constant/ConstantDesc"), (2, u "serialVersionUID"), (0, u "J"), (3, u "REPL"), (0, u "C"), (2, u "LATIN1"), (1, u "UTF16")] 323

def k7m0 : Method := { name := "<init>", desc := "()V", sig := { parameters := [], returnType := none }, accessFlags := 1, code := none }
def k7c1 : Code := { maxStack := 5, maxLocals := 2, code := jdk_42_method_3_code, exceptionTable := #[], attributes := #[] }
def k7m1 : Method := { name := "<init>", desc := "([C)V", sig := { parameters := [(.array .char)], returnType := none }, accessFlags := 1, code := some k7c1 }
def k7c2 : Code := { maxStack := 2, maxLocals := 3, code := jdk_42_method_66_code, exceptionTable := #[], attributes := #[] }
def k7m2 : Method := { name := "equals", desc := "(Ljava/lang/Object;)Z", sig := { parameters := [(.object "java/lang/Object")], returnType := some .boolean }, accessFlags := 1, code := some k7c2 }
def k7c3 : Code := { maxStack := 4, maxLocals := 1, code := jdk_42_method_139_code, exceptionTable := #[], attributes := #[] }
def k7m3 : Method := { name := "valueOf", desc := "(C)Ljava/lang/String;", sig := { parameters := [.char], returnType := some (.object "java/lang/String") }, accessFlags := 9, code := some k7c3 }
def k7c4 : Code := { maxStack := 4, maxLocals := 6, code := jdk_42_method_149_code, exceptionTable := #[], attributes := #[] }
def k7m4 : Method := { name := "<init>", desc := "([CIILjava/lang/Void;)V", sig := { parameters := [(.array .char), .int, .int, (.object "java/lang/Void")], returnType := none }, accessFlags := 2, code := some k7c4 }
def k7c5 : Code := { maxStack := 2, maxLocals := 3, code := jdk_42_method_151_code, exceptionTable := #[], attributes := #[] }
def k7m5 : Method := { name := "<init>", desc := "([BB)V", sig := { parameters := [(.array .byte), .byte], returnType := none }, accessFlags := 0, code := some k7c5 }
/-- java/lang/String -/
def k7 : Class := { plain "java/lang/String" (some 0) with
  accessFlags := 49
  interfaces := #[2, 3, 4, 5, 6]
  cf := some (fileOf pool7 10 #[.nestMembers #[1103]] #[{ accessFlags := 1, nameIndex := 5, descriptorIndex := 6, attributes := #[] }, { accessFlags := 1, nameIndex := 5, descriptorIndex := 1010, attributes := #[] }, { accessFlags := 1, nameIndex := 543, descriptorIndex := 573, attributes := #[] }, { accessFlags := 9, nameIndex := 782, descriptorIndex := 783, attributes := #[] }, { accessFlags := 2, nameIndex := 5, descriptorIndex := 29, attributes := #[] }, { accessFlags := 0, nameIndex := 5, descriptorIndex := 211, attributes := #[] }] 49 2 #[1106, 1108, 575, 1110, 1112] #[{ accessFlags := 18, nameIndex := 13, descriptorIndex := 14, attributes := #[] }, { accessFlags := 18, nameIndex := 17, descriptorIndex := 18, attributes := #[] }, { accessFlags := 2, nameIndex := 21, descriptorIndex := 22, attributes := #[] }, { accessFlags := 2, nameIndex := 25, descriptorIndex := 26, attributes := #[] }, { accessFlags := 26, nameIndex := 1116, descriptorIndex := 1117, attributes := #[] }, { accessFlags := 24, nameIndex := 40, descriptorIndex := 26, attributes := #[] }, { accessFlags := 26, nameIndex := 1101, descriptorIndex := 1102, attributes := #[] }, { accessFlags := 26, nameIndex := 1121, descriptorIndex := 1122, attributes := #[] }, { accessFlags := 25, nameIndex := 599, descriptorIndex := 600, attributes := #[] }, { accessFlags := 24, nameIndex := 1125, descriptorIndex := 18, attributes := #[] }, { accessFlags := 24, nameIndex := 1127, descriptorIndex := 18, attributes := #[] }])
  fields := #[{ name := "value", type := (.array .byte), accessFlags := 18, slot := 0, constantValue := 0 }, { name := "coder", type := .byte, accessFlags := 18, slot := 1, constantValue := 0 }, { name := "hash", type := .int, accessFlags := 2, slot := 2, constantValue := 0 }, { name := "hashIsZero", type := .boolean, accessFlags := 2, slot := 3, constantValue := 0 }, { name := "serialVersionUID", type := .long, accessFlags := 26, slot := 0, constantValue := 0 }, { name := "COMPACT_STRINGS", type := .boolean, accessFlags := 24, slot := 1, constantValue := 0 }, { name := "serialPersistentFields", type := (.array (.object "java/io/ObjectStreamField")), accessFlags := 26, slot := 2, constantValue := 0 }, { name := "REPL", type := .char, accessFlags := 26, slot := 3, constantValue := 0 }, { name := "CASE_INSENSITIVE_ORDER", type := (.object "java/util/Comparator"), accessFlags := 25, slot := 4, constantValue := 0 }, { name := "LATIN1", type := .byte, accessFlags := 24, slot := 5, constantValue := 0 }, { name := "UTF16", type := .byte, accessFlags := 24, slot := 6, constantValue := 0 }]
  methods := #[k7m0, k7m1, k7m2, k7m3, k7m4, k7m5]
  instanceTypes := #[(.array .byte), .byte, .int, .boolean]
  staticTypes := #[.long, .boolean, (.array (.object "java/io/ObjectStreamField")), .char, (.object "java/util/Comparator"), .byte, .byte]
  resolved := Array.replicate 1451 none
  statics := some 0 }

def pool8 : Array CpInfo := pool [(6, .class_ 8), (1, u "java/lang/Object"), (0, u "<init>"), (0, u "()V"), (1, .class_ 14), (1, u "java/lang/StringUTF16"), (31, u "$assertionsDisabled"), (0, u "Z"), (13, u "HI_BYTE_SHIFT"), (0, u "I"), (2, u "LO_BYTE_SHIFT"), (49, .methodref 12 116), (0, .nameAndType 117 118), (0, u "compress"), (0, u "([CI[BII)I"), (3, u "([CII)[B"), (138, u "coderFromArrayLen"), (0, u "([BI)B"), (106, .class_ 371), (1, u "java/lang/StringUTF16$LinesSpliterator"), (58, u "MAX_LENGTH"), (196, .class_ 628), (0, u "java/lang/StringUTF16$CodePointsSpliterator"), (0, .class_ 630), (0, u "java/lang/StringUTF16$CharsSpliterator")] 4

def k8m0 : Method := { name := "<init>", desc := "()V", sig := { parameters := [], returnType := none }, accessFlags := 0, code := none }
def k8c1 : Code := { maxStack := 2, maxLocals := 2, code := jdk_52_method_15_code, exceptionTable := #[], attributes := #[] }
def k8m1 : Method := { name := "coderFromArrayLen", desc := "([BI)B", sig := { parameters := [(.array .byte), .int], returnType := some .byte }, accessFlags := 8, code := some k8c1 }
def k8c2 : Code := { maxStack := 5, maxLocals := 6, code := jdk_52_method_16_code, exceptionTable := #[], attributes := #[] }
def k8m2 : Method := { name := "compress", desc := "([CII)[B", sig := { parameters := [(.array .char), .int, .int], returnType := some (.array .byte) }, accessFlags := 9, code := some k8c2 }
def k8c3 : Code := { maxStack := 3, maxLocals := 7, code := jdk_52_method_21_code, exceptionTable := #[], attributes := #[] }
def k8m3 : Method := { name := "compress", desc := "([CI[BII)I", sig := { parameters := [(.array .char), .int, (.array .byte), .int, .int], returnType := some .int }, accessFlags := 9, code := some k8c3 }
/-- java/lang/StringUTF16 -/
def k8 : Class := { plain "java/lang/StringUTF16" (some 0) with
  accessFlags := 48
  interfaces := #[]
  cf := some (fileOf pool8 12 #[.nestMembers #[627, 629, 369]] #[{ accessFlags := 0, nameIndex := 9, descriptorIndex := 10, attributes := #[] }, { accessFlags := 8, nameIndex := 261, descriptorIndex := 262, attributes := #[] }, { accessFlags := 9, nameIndex := 117, descriptorIndex := 122, attributes := #[] }, { accessFlags := 9, nameIndex := 117, descriptorIndex := 118, attributes := #[] }] 48 6 #[] #[{ accessFlags := 26, nameIndex := 61, descriptorIndex := 62, attributes := #[] }, { accessFlags := 26, nameIndex := 65, descriptorIndex := 62, attributes := #[] }, { accessFlags := 24, nameIndex := 430, descriptorIndex := 62, attributes := #[] }, { accessFlags := 4120, nameIndex := 46, descriptorIndex := 47, attributes := #[] }])
  fields := #[{ name := "HI_BYTE_SHIFT", type := .int, accessFlags := 26, slot := 0, constantValue := 0 }, { name := "LO_BYTE_SHIFT", type := .int, accessFlags := 26, slot := 1, constantValue := 0 }, { name := "MAX_LENGTH", type := .int, accessFlags := 24, slot := 2, constantValue := 0 }, { name := "$assertionsDisabled", type := .boolean, accessFlags := 4120, slot := 3, constantValue := 0 }]
  methods := #[k8m0, k8m1, k8m2, k8m3]
  instanceTypes := #[]
  staticTypes := #[.int, .int, .int, .boolean]
  resolved := Array.replicate 635 none
  statics := none }

def pool9 : Array CpInfo := pool [(4, .class_ 6), (1, u "java/lang/Object"), (0, u "<init>"), (0, u "()V"), (5, .class_ 16), (1, u "java/lang/StringLatin1"), (73, u "canEncode"), (14, u "(C)Z"), (15, u "$assertionsDisabled"), (0, u "Z"), (98, .class_ 223), (1, u "java/lang/StringLatin1$LinesSpliterator"), (57, u "equals"), (0, u "([B[B)Z"), (97, u "toBytes"), (1, u "(C)[B"), (7, .class_ 391), (0, u "java/lang/StringLatin1$CharsSpliterator")] 3

def k9m0 : Method := { name := "<init>", desc := "()V", sig := { parameters := [], returnType := none }, accessFlags := 0, code := none }
def k9c1 : Code := { maxStack := 2, maxLocals := 1, code := jdk_43_method_3_code, exceptionTable := #[], attributes := #[] }
def k9m1 : Method := { name := "canEncode", desc := "(C)Z", sig := { parameters := [.char], returnType := some .boolean }, accessFlags := 9, code := some k9c1 }
def k9c2 : Code := { maxStack := 3, maxLocals := 3, code := jdk_43_method_13_code, exceptionTable := #[], attributes := #[] }
def k9m2 : Method := { name := "equals", desc := "([B[B)Z", sig := { parameters := [(.array .byte), (.array .byte)], returnType := some .boolean }, accessFlags := 9, code := some k9c2 }
def k9c3 : Code := { maxStack := 4, maxLocals := 1, code := jdk_43_method_46_code, exceptionTable := #[], attributes := #[] }
def k9m3 : Method := { name := "toBytes", desc := "(C)[B", sig := { parameters := [.char], returnType := some (.array .byte) }, accessFlags := 9, code := some k9c3 }
/-- java/lang/StringLatin1 -/
def k9 : Class := { plain "java/lang/StringLatin1" (some 0) with
  accessFlags := 48
  interfaces := #[]
  cf := some (fileOf pool9 14 #[.nestMembers #[390, 221]] #[{ accessFlags := 0, nameIndex := 7, descriptorIndex := 8, attributes := #[] }, { accessFlags := 9, nameIndex := 90, descriptorIndex := 105, attributes := #[] }, { accessFlags := 9, nameIndex := 281, descriptorIndex := 282, attributes := #[] }, { accessFlags := 9, nameIndex := 380, descriptorIndex := 382, attributes := #[] }] 48 4 #[] #[{ accessFlags := 4120, nameIndex := 121, descriptorIndex := 122, attributes := #[] }])
  fields := #[{ name := "$assertionsDisabled", type := .boolean, accessFlags := 4120, slot := 0, constantValue := 0 }]
  methods := #[k9m0, k9m1, k9m2, k9m3]
  instanceTypes := #[]
  staticTypes := #[.boolean]
  resolved := Array.replicate 395 none
  statics := none }

def pool10 : Array CpInfo := pool [(1, .methodref 2 3), (0, .class_ 4), (0, .nameAndType 5 6), (0, u "java/lang/Object"), (0, u "<init>"), (0, u "()V"), (0, .class_ 8), (0, u "java/util/ArrayList"), (0, .methodref 7 3), (0, .fieldref 11 12), (0, .class_ 13), (0, .nameAndType 14 15), (0, u "com/example/portwright/portwright/xml/XmlElement"), (0, u "children"), (0, u "Ljava/util/List;"), (0, .fieldref 11 17), (0, .nameAndType 18 19), (0, u "namespace"), (0, u "Ljava/lang/String;"), (0, .fieldref 11 21), (0, .nameAndType 22 19), (0, u "localName"), (0, .interfaceMethodref 24 25), (0, .class_ 26), (0, .nameAndType 27 28), (0, u "java/util/Map"), (0, u "copyOf"), (0, u "(Ljava/util/Map;)Ljava/util/Map;"), (0, .fieldref 11 30), (0, .nameAndType 31 32), (0, u "attributes"), (0, u "Ljava/util/Map;"), (0, .fieldref 11 34), (0, .nameAndType 35 32), (0, u "declarations"), (0, .fieldref 11 37), (0, .nameAndType 38 39), (0, u "location"), (0, u "Lcom/example/portwright/portwright/xml/SourceLocation;"), (2, u "parent"), (0, u "Lcom/example/portwright/portwright/xml/XmlElement;"), (5, u "(Ljava/lang/Object;)Z"), (5, .class_ 57), (1, u "java/lang/String"), (5, .methodref 55 64), (0, .nameAndType 65 49), (0, u "equals"), (77, u "is"), (0, u "(Ljava/lang/String;Ljava/lang/String;)Z"), (7, u "(Ljava/lang/String;Ljava/lang/String;Ljava/util/Map;Ljava/util/Map;Lcom/example/portwright/portwright/xml/SourceLocation;)V")] 34

def k10c0 : Code := { maxStack := 3, maxLocals := 6, code := prog_63_method_1_code, exceptionTable := #[], attributes := #[] }
def k10m0 : Method := { name := "<init>", desc := "(Ljava/lang/String;Ljava/lang/String;Ljava/util/Map;Ljava/util/Map;Lcom/example/portwright/portwright/xml/SourceLocation;)V", sig := { parameters := [(.object "java/lang/String"), (.object "java/lang/String"), (.object "java/util/Map"), (.object "java/util/Map"), (.object "com/example/portwright/portwright/xml/SourceLocation")], returnType := none }, accessFlags := 0, code := some k10c0 }
def k10c1 : Code := { maxStack := 2, maxLocals := 3, code := prog_63_method_7_code, exceptionTable := #[], attributes := #[] }
def k10m1 : Method := { name := "is", desc := "(Ljava/lang/String;Ljava/lang/String;)Z", sig := { parameters := [(.object "java/lang/String"), (.object "java/lang/String")], returnType := some .boolean }, accessFlags := 1, code := some k10c1 }
/-- com/example/portwright/portwright/xml/XmlElement -/
def k10 : Class := { plain "com/example/portwright/portwright/xml/XmlElement" (some 0) with
  accessFlags := 49
  interfaces := #[]
  cf := some (fileOf pool10 11 #[] #[{ accessFlags := 0, nameIndex := 5, descriptorIndex := 152, attributes := #[] }, { accessFlags := 1, nameIndex := 143, descriptorIndex := 144, attributes := #[] }] 49 2 #[] #[{ accessFlags := 18, nameIndex := 18, descriptorIndex := 19, attributes := #[] }, { accessFlags := 18, nameIndex := 22, descriptorIndex := 19, attributes := #[] }, { accessFlags := 18, nameIndex := 31, descriptorIndex := 32, attributes := #[] }, { accessFlags := 18, nameIndex := 35, descriptorIndex := 32, attributes := #[] }, { accessFlags := 18, nameIndex := 38, descriptorIndex := 39, attributes := #[] }, { accessFlags := 18, nameIndex := 14, descriptorIndex := 15, attributes := #[] }, { accessFlags := 2, nameIndex := 42, descriptorIndex := 43, attributes := #[] }])
  fields := #[{ name := "namespace", type := (.object "java/lang/String"), accessFlags := 18, slot := 0, constantValue := 0 }, { name := "localName", type := (.object "java/lang/String"), accessFlags := 18, slot := 1, constantValue := 0 }, { name := "attributes", type := (.object "java/util/Map"), accessFlags := 18, slot := 2, constantValue := 0 }, { name := "declarations", type := (.object "java/util/Map"), accessFlags := 18, slot := 3, constantValue := 0 }, { name := "location", type := (.object "com/example/portwright/portwright/xml/SourceLocation"), accessFlags := 18, slot := 4, constantValue := 0 }, { name := "children", type := (.object "java/util/List"), accessFlags := 18, slot := 5, constantValue := 0 }, { name := "parent", type := (.object "com/example/portwright/portwright/xml/XmlElement"), accessFlags := 2, slot := 6, constantValue := 0 }]
  methods := #[k10m0, k10m1]
  instanceTypes := #[(.object "java/lang/String"), (.object "java/lang/String"), (.object "java/util/Map"), (.object "java/util/Map"), (.object "com/example/portwright/portwright/xml/SourceLocation"), (.object "java/util/List"), (.object "com/example/portwright/portwright/xml/XmlElement")]
  staticTypes := #[]
  resolved := Array.replicate 187 none
  statics := none }

def pool11 : Array CpInfo := pool [(2, .class_ 4), (1, u "java/util/Map"), (31, .class_ 37), (0, u "java/util/Map$Entry"), (43, .fieldref 82 83), (0, .class_ 84), (0, .nameAndType 85 86), (0, u "java/util/ImmutableCollections"), (0, u "EMPTY_MAP"), (0, u "Ljava/util/ImmutableCollections$MapN;"), (6, .class_ 94), (0, u "java/lang/Object"), (6, .class_ 102), (0, u "java/util/ImmutableCollections$AbstractImmutableMap"), (5, u "of"), (0, u "()Ljava/util/Map;"), (140, u "copyOf"), (0, u "(Ljava/util/Map;)Ljava/util/Map;")] 11

def k11c0 : Code := { maxStack := 1, maxLocals := 0, code := jdk_72_method_26_code, exceptionTable := #[], attributes := #[] }
def k11m0 : Method := { name := "of", desc := "()Ljava/util/Map;", sig := { parameters := [], returnType := some (.object "java/util/Map") }, accessFlags := 9, code := some k11c0 }
def k11c1 : Code := { maxStack := 2, maxLocals := 1, code := jdk_72_method_39_code, exceptionTable := #[], attributes := #[] }
def k11m1 : Method := { name := "copyOf", desc := "(Ljava/util/Map;)Ljava/util/Map;", sig := { parameters := [(.object "java/util/Map")], returnType := some (.object "java/util/Map") }, accessFlags := 9, code := some k11c1 }
/-- java/util/Map -/
def k11 : Class := { plain "java/util/Map" (some 0) with
  accessFlags := 1537
  interfaces := #[]
  cf := some (fileOf pool11 2 #[.nestMembers #[36]] #[{ accessFlags := 9, nameIndex := 108, descriptorIndex := 109, attributes := #[] }, { accessFlags := 9, nameIndex := 250, descriptorIndex := 251, attributes := #[] }] 1537 93 #[] #[])
  fields := #[]
  methods := #[k11m0, k11m1]
  instanceTypes := #[]
  staticTypes := #[]
  resolved := Array.replicate 263 none
  statics := none }

def pool12 : Array CpInfo := pool [(2, .class_ 4), (1, u "java/lang/Object"), (0, u "<init>"), (0, u "()V"), (3, .class_ 11), (0, u "java/util/ImmutableCollections$List12"), (0, .class_ 13), (0, u "java/util/ImmutableCollections$ListN"), (3, u "Z"), (29, .class_ 49), (1, u "java/util/ImmutableCollections"), (0, u "$assertionsDisabled"), (5, u "[Ljava/lang/Object;"), (5, u "EMPTY_LIST"), (0, u "Ljava/util/ImmutableCollections$ListN;"), (8, u "EMPTY_LIST_NULLS"), (22, u "SALT32L"), (0, u "J"), (2, u "REVERSE"), (6, u "archivedObjects"), (2, u "EMPTY"), (0, u "Ljava/lang/Object;"), (0, .class_ 112), (0, u "java/util/ImmutableCollections$SetN"), (5, u "EMPTY_SET"), (0, u "Ljava/util/ImmutableCollections$SetN;"), (0, .class_ 121), (0, u "java/util/ImmutableCollections$MapN"), (3, u "EMPTY_MAP"), (0, u "Ljava/util/ImmutableCollections$MapN;"), (4, u "EXPAND_FACTOR"), (0, u "I"), (36, .class_ 170), (0, u "java/util/ImmutableCollections$MapN$MapNIterator"), (0, .class_ 172), (0, u "java/util/ImmutableCollections$MapN$1"), (0, .class_ 174), (0, u "java/util/ImmutableCollections$Map1"), (0, .class_ 176), (0, u "java/util/ImmutableCollections$AbstractImmutableMap"), (0, .class_ 178), (0, u "java/util/ImmutableCollections$SetN$SetNIterator"), (0, .class_ 180), (0, u "java/util/ImmutableCollections$Set12"), (0, .class_ 182), (0, u "java/util/ImmutableCollections$Set12$1"), (0, .class_ 184), (0, u "java/util/ImmutableCollections$AbstractImmutableSet"), (0, .class_ 186), (0, u "java/util/ImmutableCollections$SubList"), (0, .class_ 188), (0, u "java/util/ImmutableCollections$ListItr"), (0, .class_ 190), (0, u "java/util/ImmutableCollections$AbstractImmutableList"), (0, .class_ 192), (0, u "java/util/ImmutableCollections$AbstractImmutableCollection"), (0, .class_ 194), (0, u "java/util/ImmutableCollections$Access"), (0, .class_ 196), (0, u "java/util/ImmutableCollections$Access$1")] 16

def k12m0 : Method := { name := "<init>", desc := "()V", sig := { parameters := [], returnType := none }, accessFlags := 2, code := none }
/-- java/util/ImmutableCollections -/
def k12 : Class := { plain "java/util/ImmutableCollections" (some 0) with
  accessFlags := 32
  interfaces := #[]
  cf := some (fileOf pool12 47 #[.nestMembers #[120, 169, 171, 173, 175, 111, 177, 179, 181, 183, 12, 10, 185, 187, 189, 191, 193, 195]] #[{ accessFlags := 2, nameIndex := 5, descriptorIndex := 6, attributes := #[] }] 32 2 #[] #[{ accessFlags := 26, nameIndex := 95, descriptorIndex := 96, attributes := #[] }, { accessFlags := 26, nameIndex := 99, descriptorIndex := 17, attributes := #[] }, { accessFlags := 10, nameIndex := 106, descriptorIndex := 56, attributes := #[] }, { accessFlags := 26, nameIndex := 109, descriptorIndex := 110, attributes := #[] }, { accessFlags := 24, nameIndex := 62, descriptorIndex := 63, attributes := #[] }, { accessFlags := 24, nameIndex := 72, descriptorIndex := 63, attributes := #[] }, { accessFlags := 24, nameIndex := 118, descriptorIndex := 119, attributes := #[] }, { accessFlags := 24, nameIndex := 125, descriptorIndex := 126, attributes := #[] }, { accessFlags := 24, nameIndex := 131, descriptorIndex := 132, attributes := #[] }, { accessFlags := 4120, nameIndex := 50, descriptorIndex := 17, attributes := #[] }])
  fields := #[{ name := "SALT32L", type := .long, accessFlags := 26, slot := 0, constantValue := 0 }, { name := "REVERSE", type := .boolean, accessFlags := 26, slot := 1, constantValue := 0 }, { name := "archivedObjects", type := (.array (.object "java/lang/Object")), accessFlags := 10, slot := 2, constantValue := 0 }, { name := "EMPTY", type := (.object "java/lang/Object"), accessFlags := 26, slot := 3, constantValue := 0 }, { name := "EMPTY_LIST", type := (.object "java/util/ImmutableCollections$ListN"), accessFlags := 24, slot := 4, constantValue := 0 }, { name := "EMPTY_LIST_NULLS", type := (.object "java/util/ImmutableCollections$ListN"), accessFlags := 24, slot := 5, constantValue := 0 }, { name := "EMPTY_SET", type := (.object "java/util/ImmutableCollections$SetN"), accessFlags := 24, slot := 6, constantValue := 0 }, { name := "EMPTY_MAP", type := (.object "java/util/ImmutableCollections$MapN"), accessFlags := 24, slot := 7, constantValue := 0 }, { name := "EXPAND_FACTOR", type := .int, accessFlags := 24, slot := 8, constantValue := 0 }, { name := "$assertionsDisabled", type := .boolean, accessFlags := 4120, slot := 9, constantValue := 0 }]
  methods := #[k12m0]
  instanceTypes := #[]
  staticTypes := #[.long, .boolean, (.array (.object "java/lang/Object")), (.object "java/lang/Object"), (.object "java/util/ImmutableCollections$ListN"), (.object "java/util/ImmutableCollections$ListN"), (.object "java/util/ImmutableCollections$SetN"), (.object "java/util/ImmutableCollections$MapN"), .int, .boolean]
  resolved := Array.replicate 213 none
  statics := some 1 }

def pool13 : Array CpInfo := pool [(1, .methodref 2 3), (0, .class_ 4), (0, .nameAndType 5 6), (0, u "java/lang/Object"), (0, u "<init>"), (0, u "()V"), (0, .string 8), (0, u "file"), (0, .methodref 10 11), (0, .class_ 12), (0, .nameAndType 13 14), (0, u "java/util/Objects"), (0, u "requireNonNull"), (0, u "(Ljava/lang/Object;Ljava/lang/String;)Ljava/lang/Object;"), (0, .class_ 16), (0, u "java/lang/String"), (0, .fieldref 18 19), (0, .class_ 20), (0, .nameAndType 8 21), (0, u "com/example/portwright/portwright/xml/SourceLocation"), (0, u "Ljava/lang/String;"), (0, .fieldref 18 23), (0, .nameAndType 24 25), (0, u "line"), (0, u "I"), (18, u "(Ljava/lang/String;I)V")] 24

def k13c0 : Code := { maxStack := 3, maxLocals := 3, code := prog_61_method_1_code, exceptionTable := #[], attributes := #[] }
def k13m0 : Method := { name := "<init>", desc := "(Ljava/lang/String;I)V", sig := { parameters := [(.object "java/lang/String"), .int], returnType := none }, accessFlags := 1, code := some k13c0 }
/-- com/example/portwright/portwright/xml/SourceLocation -/
def k13 : Class := { plain "com/example/portwright/portwright/xml/SourceLocation" (some 0) with
  accessFlags := 49
  interfaces := #[]
  cf := some (fileOf pool13 18 #[] #[{ accessFlags := 1, nameIndex := 5, descriptorIndex := 44, attributes := #[] }] 49 2 #[] #[{ accessFlags := 18, nameIndex := 8, descriptorIndex := 21, attributes := #[] }, { accessFlags := 18, nameIndex := 24, descriptorIndex := 25, attributes := #[] }])
  fields := #[{ name := "file", type := (.object "java/lang/String"), accessFlags := 18, slot := 0, constantValue := 0 }, { name := "line", type := .int, accessFlags := 18, slot := 1, constantValue := 0 }]
  methods := #[k13m0]
  instanceTypes := #[(.object "java/lang/String"), .int]
  staticTypes := #[]
  resolved := Array.replicate 69 none
  statics := none }

def pool14 : Array CpInfo := pool [(2, .class_ 4), (1, u "java/lang/Object"), (0, u "<init>"), (0, u "()V"), (35, .class_ 44), (1, u "java/util/Objects"), (0, u "requireNonNull"), (48, u "(Ljava/lang/Object;Ljava/lang/String;)Ljava/lang/Object;")] 89

def k14m0 : Method := { name := "<init>", desc := "()V", sig := { parameters := [], returnType := none }, accessFlags := 2, code := none }
def k14c1 : Code := { maxStack := 3, maxLocals := 2, code := jdk_31_method_11_code, exceptionTable := #[], attributes := #[] }
def k14m1 : Method := { name := "requireNonNull", desc := "(Ljava/lang/Object;Ljava/lang/String;)Ljava/lang/Object;", sig := { parameters := [(.object "java/lang/Object"), (.object "java/lang/String")], returnType := some (.object "java/lang/Object") }, accessFlags := 9, code := some k14c1 }
/-- java/util/Objects -/
def k14 : Class := { plain "java/util/Objects" (some 0) with
  accessFlags := 49
  interfaces := #[]
  cf := some (fileOf pool14 42 #[] #[{ accessFlags := 2, nameIndex := 5, descriptorIndex := 6, attributes := #[] }, { accessFlags := 9, nameIndex := 45, descriptorIndex := 94, attributes := #[] }] 49 2 #[] #[])
  fields := #[]
  methods := #[k14m0, k14m1]
  instanceTypes := #[]
  staticTypes := #[]
  resolved := Array.replicate 184 none
  statics := none }

def pool15 : Array CpInfo := pool [(8, .class_ 10), (1, u "java/lang/Iterable"), (24, .class_ 36), (0, u "java/lang/Object")] 25

/-- java/lang/Iterable -/
def k15 : Class := { plain "java/lang/Iterable" (some 0) with
  accessFlags := 1537
  interfaces := #[]
  cf := some (fileOf pool15 8 #[] #[] 1537 35 #[] #[])
  fields := #[]
  methods := #[]
  instanceTypes := #[]
  staticTypes := #[]
  resolved := Array.replicate 62 none
  statics := none }

def pool16 : Array CpInfo := pool [(10, .class_ 12), (1, u "java/util/Collection"), (47, .class_ 61), (0, u "java/lang/Object"), (0, .class_ 63), (0, u "java/lang/Iterable")] 51

/-- java/util/Collection -/
def k16 : Class := { plain "java/util/Collection" (some 0) with
  accessFlags := 1537
  interfaces := #[15]
  cf := some (fileOf pool16 10 #[] #[] 1537 60 #[62] #[])
  fields := #[]
  methods := #[]
  instanceTypes := #[]
  staticTypes := #[]
  resolved := Array.replicate 115 none
  statics := none }

def pool17 : Array CpInfo := pool [(1, .methodref 2 3), (0, .class_ 4), (0, .nameAndType 5 6), (0, u "java/lang/Object"), (0, u "<init>"), (0, u "()V"), (1, .class_ 10), (1, u "java/util/AbstractCollection"), (66, .class_ 78), (0, u "java/util/Collection")] 81

def k17c0 : Code := { maxStack := 1, maxLocals := 1, code := jdk_22_method_1_code, exceptionTable := #[], attributes := #[] }
def k17m0 : Method := { name := "<init>", desc := "()V", sig := { parameters := [], returnType := none }, accessFlags := 4, code := some k17c0 }
/-- java/util/AbstractCollection -/
def k17 : Class := { plain "java/util/AbstractCollection" (some 0) with
  accessFlags := 1057
  interfaces := #[16]
  cf := some (fileOf pool17 8 #[] #[{ accessFlags := 4, nameIndex := 5, descriptorIndex := 6, attributes := #[] }] 1057 2 #[77] #[])
  fields := #[]
  methods := #[k17m0]
  instanceTypes := #[]
  staticTypes := #[]
  resolved := Array.replicate 160 none
  statics := none }

def pool18 : Array CpInfo := pool [(8, .class_ 10), (1, u "java/util/SequencedCollection"), (15, .class_ 27), (0, u "java/lang/Object"), (0, .class_ 29), (0, u "java/util/Collection")] 27

/-- java/util/SequencedCollection -/
def k18 : Class := { plain "java/util/SequencedCollection" (some 0) with
  accessFlags := 1537
  interfaces := #[16]
  cf := some (fileOf pool18 8 #[] #[] 1537 26 #[28] #[])
  fields := #[]
  methods := #[]
  instanceTypes := #[]
  staticTypes := #[]
  resolved := Array.replicate 57 none
  statics := none }

def pool19 : Array CpInfo := pool [(8, .class_ 10), (1, u "java/util/List"), (92, .class_ 104), (0, u "java/lang/Object"), (15, .class_ 121), (0, u "java/util/SequencedCollection")] 129

/-- java/util/List -/
def k19 : Class := { plain "java/util/List" (some 0) with
  accessFlags := 1537
  interfaces := #[18]
  cf := some (fileOf pool19 8 #[] #[] 1537 103 #[120] #[])
  fields := #[]
  methods := #[]
  instanceTypes := #[]
  staticTypes := #[]
  resolved := Array.replicate 251 none
  statics := none }

def pool20 : Array CpInfo := pool [(1, .methodref 2 3), (0, .class_ 4), (0, .nameAndType 5 6), (0, u "java/util/AbstractCollection"), (0, u "<init>"), (0, u "()V"), (0, .fieldref 8 9), (0, .class_ 10), (0, .nameAndType 11 12), (0, u "java/util/AbstractList"), (0, u "modCount"), (0, u "I"), (64, .class_ 78), (0, u "java/util/AbstractList$Itr"), (3, .class_ 83), (0, u "java/util/AbstractList$ListItr"), (9, .class_ 94), (0, u "java/util/AbstractList$RandomAccessSubList"), (3, .class_ 99), (0, u "java/util/AbstractList$SubList"), (33, .class_ 134), (0, u "java/util/List"), (73, .class_ 209), (0, u "java/util/AbstractList$SubList$1"), (0, .class_ 211), (0, u "java/util/AbstractList$RandomAccessSpliterator")] 6

def k20c0 : Code := { maxStack := 2, maxLocals := 1, code := jdk_39_method_1_code, exceptionTable := #[], attributes := #[] }
def k20m0 : Method := { name := "<init>", desc := "()V", sig := { parameters := [], returnType := none }, accessFlags := 4, code := some k20c0 }
/-- java/util/AbstractList -/
def k20 : Class := { plain "java/util/AbstractList" (some 17) with
  accessFlags := 1057
  interfaces := #[19]
  cf := some (fileOf pool20 8 #[.nestMembers #[93, 98, 208, 210, 82, 77]] #[{ accessFlags := 4, nameIndex := 5, descriptorIndex := 6, attributes := #[] }] 1057 2 #[133] #[{ accessFlags := 132, nameIndex := 11, descriptorIndex := 12, attributes := #[] }])
  fields := #[{ name := "modCount", type := .int, accessFlags := 132, slot := 0, constantValue := 0 }]
  methods := #[k20m0]
  instanceTypes := #[.int]
  staticTypes := #[]
  resolved := Array.replicate 218 none
  statics := none }

def pool21 : Array CpInfo := pool [(1, .class_ 2), (0, u "java/util/RandomAccess"), (0, .class_ 4), (0, u "java/lang/Object")] 2

/-- java/util/RandomAccess -/
def k21 : Class := { plain "java/util/RandomAccess" (some 0) with
  accessFlags := 1537
  interfaces := #[]
  cf := some (fileOf pool21 1 #[] #[] 1537 3 #[] #[])
  fields := #[]
  methods := #[]
  instanceTypes := #[]
  staticTypes := #[]
  resolved := Array.replicate 7 none
  statics := none }

def pool22 : Array CpInfo := pool [(1, .class_ 2), (0, u "java/lang/Cloneable"), (0, .class_ 4), (0, u "java/lang/Object")] 2

/-- java/lang/Cloneable -/
def k22 : Class := { plain "java/lang/Cloneable" (some 0) with
  accessFlags := 1537
  interfaces := #[]
  cf := some (fileOf pool22 1 #[] #[] 1537 3 #[] #[])
  fields := #[]
  methods := #[]
  instanceTypes := #[]
  staticTypes := #[]
  resolved := Array.replicate 7 none
  statics := none }

def pool23 : Array CpInfo := pool [(1, .methodref 2 3), (0, .class_ 4), (0, .nameAndType 5 6), (0, u "java/util/AbstractList"), (0, u "<init>"), (0, u "()V"), (2, .fieldref 10 11), (0, .class_ 12), (0, .nameAndType 13 14), (0, u "java/util/ArrayList"), (0, u "elementData"), (0, u "[Ljava/lang/Object;"), (2, u "EMPTY_ELEMENTDATA"), (21, .fieldref 10 40), (0, .nameAndType 41 14), (0, u "DEFAULTCAPACITY_EMPTY_ELEMENTDATA"), (8, u "size"), (0, u "I"), (96, .class_ 149), (0, u "java/util/List"), (112, .class_ 263), (0, u "java/util/ArrayList$ListItr"), (3, .class_ 268), (0, u "java/util/ArrayList$Itr"), (7, .class_ 277), (0, u "java/util/ArrayList$SubList"), (12, .class_ 291), (0, u "java/util/ArrayList$ArrayListSpliterator"), (37, .class_ 330), (0, u "java/util/RandomAccess"), (0, .class_ 332), (0, u "java/lang/Cloneable"), (0, .class_ 334), (0, u "java/io/Serializable"), (0, u "serialVersionUID"), (0, u "J"), (3, u "DEFAULT_CAPACITY"), (159, .class_ 501), (0, u "java/util/ArrayList$SubList$2"), (0, .class_ 503), (0, u "java/util/ArrayList$SubList$1")] 5

def k23c0 : Code := { maxStack := 2, maxLocals := 1, code := jdk_38_method_2_code, exceptionTable := #[], attributes := #[] }
def k23m0 : Method := { name := "<init>", desc := "()V", sig := { parameters := [], returnType := none }, accessFlags := 1, code := some k23c0 }
/-- java/util/ArrayList -/
def k23 : Class := { plain "java/util/ArrayList" (some 20) with
  accessFlags := 33
  interfaces := #[19, 21, 22, 2]
  cf := some (fileOf pool23 10 #[.nestMembers #[290, 276, 500, 502, 262, 267]] #[{ accessFlags := 1, nameIndex := 5, descriptorIndex := 6, attributes := #[] }] 33 2 #[148, 329, 331, 333] #[{ accessFlags := 26, nameIndex := 335, descriptorIndex := 336, attributes := #[] }, { accessFlags := 26, nameIndex := 340, descriptorIndex := 51, attributes := #[] }, { accessFlags := 26, nameIndex := 17, descriptorIndex := 14, attributes := #[] }, { accessFlags := 26, nameIndex := 41, descriptorIndex := 14, attributes := #[] }, { accessFlags := 128, nameIndex := 13, descriptorIndex := 14, attributes := #[] }, { accessFlags := 2, nameIndex := 50, descriptorIndex := 51, attributes := #[] }])
  fields := #[{ name := "serialVersionUID", type := .long, accessFlags := 26, slot := 0, constantValue := 0 }, { name := "DEFAULT_CAPACITY", type := .int, accessFlags := 26, slot := 1, constantValue := 0 }, { name := "EMPTY_ELEMENTDATA", type := (.array (.object "java/lang/Object")), accessFlags := 26, slot := 2, constantValue := 0 }, { name := "DEFAULTCAPACITY_EMPTY_ELEMENTDATA", type := (.array (.object "java/lang/Object")), accessFlags := 26, slot := 3, constantValue := 0 }, { name := "elementData", type := (.array (.object "java/lang/Object")), accessFlags := 128, slot := 1, constantValue := 0 }, { name := "size", type := .int, accessFlags := 2, slot := 2, constantValue := 0 }]
  methods := #[k23m0]
  instanceTypes := #[.int, (.array (.object "java/lang/Object")), .int]
  staticTypes := #[.long, .int, (.array (.object "java/lang/Object")), (.array (.object "java/lang/Object"))]
  resolved := Array.replicate 509 none
  statics := some 2 }

def pool24 : Array CpInfo := pool [(2, .class_ 4), (1, u "java/lang/Object"), (0, u "<init>"), (0, u "()V"), (1, .class_ 10), (1, u "java/util/AbstractMap"), (42, .class_ 54), (0, u "java/util/Map"), (9, u "keySet"), (0, u "Ljava/util/Set;"), (0, .class_ 67), (0, u "java/util/AbstractMap$1"), (5, u "values"), (0, u "Ljava/util/Collection;"), (0, .class_ 76), (0, u "java/util/AbstractMap$2"), (104, .class_ 182), (0, u "java/util/AbstractMap$ViewCollection"), (0, .class_ 184), (0, u "java/util/AbstractMap$SimpleImmutableEntry"), (0, .class_ 186), (0, u "java/util/AbstractMap$SimpleEntry"), (0, .class_ 188), (0, u "java/util/AbstractMap$2$1"), (0, .class_ 190), (0, u "java/util/AbstractMap$1$1")] 5

def k24m0 : Method := { name := "<init>", desc := "()V", sig := { parameters := [], returnType := none }, accessFlags := 4, code := none }
/-- java/util/AbstractMap -/
def k24 : Class := { plain "java/util/AbstractMap" (some 0) with
  accessFlags := 1057
  interfaces := #[11]
  cf := some (fileOf pool24 8 #[.nestMembers #[181, 183, 185, 75, 187, 66, 189]] #[{ accessFlags := 4, nameIndex := 5, descriptorIndex := 6, attributes := #[] }] 1057 2 #[53] #[{ accessFlags := 128, nameIndex := 64, descriptorIndex := 65, attributes := #[] }, { accessFlags := 128, nameIndex := 73, descriptorIndex := 74, attributes := #[] }])
  fields := #[{ name := "keySet", type := (.object "java/util/Set"), accessFlags := 128, slot := 0, constantValue := 0 }, { name := "values", type := (.object "java/util/Collection"), accessFlags := 128, slot := 1, constantValue := 0 }]
  methods := #[k24m0]
  instanceTypes := #[(.object "java/util/Set"), (.object "java/util/Collection")]
  staticTypes := #[]
  resolved := Array.replicate 196 none
  statics := none }

def pool25 : Array CpInfo := pool [(2, .class_ 4), (1, u "java/util/AbstractMap"), (0, u "<init>"), (0, u "()V"), (1, .class_ 10), (1, u "java/util/ImmutableCollections"), (3, .class_ 16), (1, u "java/util/ImmutableCollections$AbstractImmutableMap"), (2, .class_ 20), (0, u "java/io/Serializable")] 66

def k25m0 : Method := { name := "<init>", desc := "()V", sig := { parameters := [], returnType := none }, accessFlags := 0, code := none }
/-- java/util/ImmutableCollections$AbstractImmutableMap -/
def k25 : Class := { plain "java/util/ImmutableCollections$AbstractImmutableMap" (some 24) with
  accessFlags := 1056
  interfaces := #[2]
  cf := some (fileOf pool25 14 #[.nestHost 8] #[{ accessFlags := 0, nameIndex := 5, descriptorIndex := 6, attributes := #[] }] 1056 2 #[19] #[])
  fields := #[]
  methods := #[k25m0]
  instanceTypes := #[(.object "java/util/Set"), (.object "java/util/Collection")]
  staticTypes := #[]
  resolved := Array.replicate 87 none
  statics := none }

def pool26 : Array CpInfo := pool [(1, .class_ 2), (0, u "java/util/ImmutableCollections"), (1, .class_ 6), (1, u "java/util/ImmutableCollections$AbstractImmutableMap"), (10, .class_ 19), (1, u "java/util/ImmutableCollections$MapN"), (0, u "size"), (0, u "I"), (4, u "table"), (0, u "[Ljava/lang/Object;")] 121

/-- java/util/ImmutableCollections$MapN -/
def k26 : Class := { plain "java/util/ImmutableCollections$MapN" (some 25) with
  accessFlags := 48
  interfaces := #[]
  cf := some (fileOf pool26 17 #[.nestHost 1] #[] 48 4 #[] #[{ accessFlags := 16, nameIndex := 26, descriptorIndex := 27, attributes := #[] }, { accessFlags := 16, nameIndex := 20, descriptorIndex := 21, attributes := #[] }])
  fields := #[{ name := "table", type := (.array (.object "java/lang/Object")), accessFlags := 16, slot := 2, constantValue := 0 }, { name := "size", type := .int, accessFlags := 16, slot := 3, constantValue := 0 }]
  methods := #[]
  instanceTypes := #[(.object "java/util/Set"), (.object "java/util/Collection"), (.array (.object "java/lang/Object")), .int]
  staticTypes := #[]
  resolved := Array.replicate 149 none
  statics := none }

def pool27 : Array CpInfo := pool [(2, .class_ 4), (1, u "java/lang/Object"), (0, u "<init>"), (0, u "()V"), (17, .class_ 26), (1, u "jdk/internal/util/Preconditions"), (28, .class_ 56), (0, u "jdk/internal/util/Preconditions$4"), (57, .class_ 115), (0, u "jdk/internal/util/Preconditions$1"), (7, u "SIOOBE_FORMATTER"), (0, u "Ljava/util/function/BiFunction;"), (0, .class_ 126), (0, u "jdk/internal/util/Preconditions$2"), (3, u "AIOOBE_FORMATTER"), (0, .class_ 132), (0, u "jdk/internal/util/Preconditions$3"), (3, u "IOOBE_FORMATTER")] 57

def k27m0 : Method := { name := "<init>", desc := "()V", sig := { parameters := [], returnType := none }, accessFlags := 1, code := none }
/-- jdk/internal/util/Preconditions -/
def k27 : Class := { plain "jdk/internal/util/Preconditions" (some 0) with
  accessFlags := 33
  interfaces := #[]
  cf := some (fileOf pool27 24 #[.nestMembers #[55, 131, 125, 114]] #[{ accessFlags := 1, nameIndex := 5, descriptorIndex := 6, attributes := #[] }] 33 2 #[] #[{ accessFlags := 25, nameIndex := 123, descriptorIndex := 124, attributes := #[] }, { accessFlags := 25, nameIndex := 130, descriptorIndex := 124, attributes := #[] }, { accessFlags := 25, nameIndex := 136, descriptorIndex := 124, attributes := #[] }])
  fields := #[{ name := "SIOOBE_FORMATTER", type := (.object "java/util/function/BiFunction"), accessFlags := 25, slot := 0, constantValue := 0 }, { name := "AIOOBE_FORMATTER", type := (.object "java/util/function/BiFunction"), accessFlags := 25, slot := 1, constantValue := 0 }, { name := "IOOBE_FORMATTER", type := (.object "java/util/function/BiFunction"), accessFlags := 25, slot := 2, constantValue := 0 }]
  methods := #[k27m0]
  instanceTypes := #[]
  staticTypes := #[(.object "java/util/function/BiFunction"), (.object "java/util/function/BiFunction"), (.object "java/util/function/BiFunction")]
  resolved := Array.replicate 194 none
  statics := some 3 }

def pool28 : Array CpInfo := pool [(9, u "<init>"), (6, .class_ 18), (1, u "java/lang/Object"), (0, u "()V"), (1, .class_ 23), (1, u "jdk/internal/util/ArraysSupport"), (0, u "LOG2_ARRAY_LONG_INDEX_SCALE"), (0, u "I"), (2, u "U"), (0, u "Ljdk/internal/misc/Unsafe;"), (8, u "BIG_ENDIAN"), (0, u "Z"), (8, u "LOG2_BYTE_BIT_SIZE"), (4, u "LOG2_ARRAY_INT_INDEX_SCALE"), (54, u "JLA"), (0, u "Ljdk/internal/access/JavaLangAccess;"), (11, u "LOG2_ARRAY_BOOLEAN_INDEX_SCALE"), (9, u "LOG2_ARRAY_BYTE_INDEX_SCALE"), (5, u "LOG2_ARRAY_CHAR_INDEX_SCALE"), (5, u "LOG2_ARRAY_SHORT_INDEX_SCALE"), (18, u "LOG2_ARRAY_FLOAT_INDEX_SCALE"), (24, u "LOG2_ARRAY_DOUBLE_INDEX_SCALE"), (89, u "T_BOOLEAN"), (2, u "T_CHAR"), (1, u "T_FLOAT"), (1, u "T_DOUBLE"), (1, u "T_BYTE"), (1, u "T_SHORT"), (1, u "T_INT"), (1, u "T_LONG"), (1, u "SOFT_MAX_ARRAY_LENGTH")] 83

def k28m0 : Method := { name := "<init>", desc := "()V", sig := { parameters := [], returnType := none }, accessFlags := 2, code := none }
/-- jdk/internal/util/ArraysSupport -/
def k28 : Class := { plain "jdk/internal/util/ArraysSupport" (some 0) with
  accessFlags := 33
  interfaces := #[]
  cf := some (fileOf pool28 21 #[] #[{ accessFlags := 2, nameIndex := 9, descriptorIndex := 19, attributes := #[] }] 33 16 #[] #[{ accessFlags := 24, nameIndex := 28, descriptorIndex := 29, attributes := #[] }, { accessFlags := 26, nameIndex := 38, descriptorIndex := 39, attributes := #[] }, { accessFlags := 25, nameIndex := 121, descriptorIndex := 25, attributes := #[] }, { accessFlags := 25, nameIndex := 131, descriptorIndex := 25, attributes := #[] }, { accessFlags := 25, nameIndex := 137, descriptorIndex := 25, attributes := #[] }, { accessFlags := 25, nameIndex := 143, descriptorIndex := 25, attributes := #[] }, { accessFlags := 25, nameIndex := 53, descriptorIndex := 25, attributes := #[] }, { accessFlags := 25, nameIndex := 24, descriptorIndex := 25, attributes := #[] }, { accessFlags := 25, nameIndex := 162, descriptorIndex := 25, attributes := #[] }, { accessFlags := 25, nameIndex := 187, descriptorIndex := 25, attributes := #[] }, { accessFlags := 26, nameIndex := 48, descriptorIndex := 25, attributes := #[] }, { accessFlags := 25, nameIndex := 277, descriptorIndex := 25, attributes := #[] }, { accessFlags := 25, nameIndex := 280, descriptorIndex := 25, attributes := #[] }, { accessFlags := 25, nameIndex := 282, descriptorIndex := 25, attributes := #[] }, { accessFlags := 25, nameIndex := 284, descriptorIndex := 25, attributes := #[] }, { accessFlags := 25, nameIndex := 286, descriptorIndex := 25, attributes := #[] }, { accessFlags := 25, nameIndex := 288, descriptorIndex := 25, attributes := #[] }, { accessFlags := 25, nameIndex := 290, descriptorIndex := 25, attributes := #[] }, { accessFlags := 25, nameIndex := 292, descriptorIndex := 25, attributes := #[] }, { accessFlags := 26, nameIndex := 108, descriptorIndex := 109, attributes := #[] }, { accessFlags := 25, nameIndex := 294, descriptorIndex := 25, attributes := #[] }])
  fields := #[{ name := "U", type := (.object "jdk/internal/misc/Unsafe"), accessFlags := 24, slot := 0, constantValue := 0 }, { name := "BIG_ENDIAN", type := .boolean, accessFlags := 26, slot := 1, constantValue := 0 }, { name := "LOG2_ARRAY_BOOLEAN_INDEX_SCALE", type := .int, accessFlags := 25, slot := 2, constantValue := 0 }, { name := "LOG2_ARRAY_BYTE_INDEX_SCALE", type := .int, accessFlags := 25, slot := 3, constantValue := 0 }, { name := "LOG2_ARRAY_CHAR_INDEX_SCALE", type := .int, accessFlags := 25, slot := 4, constantValue := 0 }, { name := "LOG2_ARRAY_SHORT_INDEX_SCALE", type := .int, accessFlags := 25, slot := 5, constantValue := 0 }, { name := "LOG2_ARRAY_INT_INDEX_SCALE", type := .int, accessFlags := 25, slot := 6, constantValue := 0 }, { name := "LOG2_ARRAY_LONG_INDEX_SCALE", type := .int, accessFlags := 25, slot := 7, constantValue := 0 }, { name := "LOG2_ARRAY_FLOAT_INDEX_SCALE", type := .int, accessFlags := 25, slot := 8, constantValue := 0 }, { name := "LOG2_ARRAY_DOUBLE_INDEX_SCALE", type := .int, accessFlags := 25, slot := 9, constantValue := 0 }, { name := "LOG2_BYTE_BIT_SIZE", type := .int, accessFlags := 26, slot := 10, constantValue := 0 }, { name := "T_BOOLEAN", type := .int, accessFlags := 25, slot := 11, constantValue := 0 }, { name := "T_CHAR", type := .int, accessFlags := 25, slot := 12, constantValue := 0 }, { name := "T_FLOAT", type := .int, accessFlags := 25, slot := 13, constantValue := 0 }, { name := "T_DOUBLE", type := .int, accessFlags := 25, slot := 14, constantValue := 0 }, { name := "T_BYTE", type := .int, accessFlags := 25, slot := 15, constantValue := 0 }, { name := "T_SHORT", type := .int, accessFlags := 25, slot := 16, constantValue := 0 }, { name := "T_INT", type := .int, accessFlags := 25, slot := 17, constantValue := 0 }, { name := "T_LONG", type := .int, accessFlags := 25, slot := 18, constantValue := 0 }, { name := "JLA", type := (.object "jdk/internal/access/JavaLangAccess"), accessFlags := 26, slot := 19, constantValue := 0 }, { name := "SOFT_MAX_ARRAY_LENGTH", type := .int, accessFlags := 25, slot := 20, constantValue := 0 }]
  methods := #[k28m0]
  instanceTypes := #[]
  staticTypes := #[(.object "jdk/internal/misc/Unsafe"), .boolean, .int, .int, .int, .int, .int, .int, .int, .int, .int, .int, .int, .int, .int, .int, .int, .int, .int, (.object "jdk/internal/access/JavaLangAccess"), .int]
  resolved := Array.replicate 378 none
  statics := none }

/-- the primitive byte -/
def k29 : Class := { plain "byte" none with kind := .primitive 'B', accessFlags := 0x411 }
/-- [B -/
def k30 : Class := { plain "[B" (some 0) with kind := .array 29 .byte, interfaces := #[22, 2], accessFlags := 1041 }

/-- the primitive char -/
def k31 : Class := { plain "char" none with kind := .primitive 'C', accessFlags := 0x411 }
/-- [C -/
def k32 : Class := { plain "[C" (some 0) with kind := .array 31 .char, interfaces := #[22, 2], accessFlags := 1041 }

/-- the primitive int -/
def k33 : Class := { plain "int" none with kind := .primitive 'I', accessFlags := 0x411 }
/-- [I -/
def k34 : Class := { plain "[I" (some 0) with kind := .array 33 .int, interfaces := #[22, 2], accessFlags := 1041 }

/-- [Ljava/lang/Object; -/
def k35 : Class := { plain "[Ljava/lang/Object;" (some 0) with kind := .array 0 (.object "java/lang/Object"), interfaces := #[22, 2], accessFlags := 1041 }

def heap : Heap := #[{ cls := 7, slots := #[.long 0, .int 1, .null, .int 0, .null, .int 0, .int 0], vm := .statics 7 },
  { cls := 12, slots := #[.long 0, .int 0, .null, .null, .null, .null, .null, .ref 5, .int 0, .int 0], vm := .statics 12 },
  { cls := 23, slots := #[.long 0, .int 0, .ref 6, .ref 7], vm := .statics 23 },
  { cls := 27, slots := #[.null, .null, .null], vm := .statics 27 },
  { cls := 35, slots := #[], vm := .none },
  { cls := 26, slots := #[.null, .null, .ref 4, .int 0], vm := .none },
  { cls := 35, slots := #[], vm := .none },
  { cls := 35, slots := #[], vm := .none }]
def classes : Array Class := #[k0, k1, k2, k3, k4, k5, k6, k7, k8, k9, k10, k11, k12, k13, k14, k15, k16, k17, k18, k19, k20, k21, k22, k23, k24, k25, k26, k27, k28, k29, k30, k31, k32, k33, k34, k35]
def interned : List (Array UInt16 × Addr) := []
def slotsUsed : Nat := 28
def theMethod : MethodId := ⟨1, 3⟩
def args0 : Array Value := #[.int 5, .int 7, .int 3, .int 9]
def aboutOver (below : List Frame) : State where
  vm := { classes := classes, interned := interned.toArray }
  heap := heap
  slotsUsed := slotsUsed
  threads := #[{ frames := .invoking theMethod args0 :: below }]
def below0 : List Frame := [.native { method := ⟨0, 0⟩, args := #[] }]
def about1 : State := aboutOver below0
def p0 : Program := .bare "" "" ""
def e0 : Env := launch0.env 0 0 0
theorem w_frames : about1.frames = Frame.invoking theMethod args0 :: below0 := rfl
set_option maxRecDepth 65536 in
theorem w_args : argsFit about1.vm theMethod args0 = true := by decide +kernel
set_option maxRecDepth 65536 in
theorem w_heap : heapFits about1 = true := by decide +kernel
set_option maxRecDepth 65536 in
theorem w_runnable : about1.curStatus? = some .runnable := by decide +kernel
set_option maxRecDepth 65536 in
theorem w_alone : about1.alone = true := by decide +kernel
set_option maxRecDepth 65536 in
theorem w_named : about1.methodNamed? x = some theMethod := by decide +kernel
set_option maxRecDepth 65536 in
theorem w_hears : about1.hears theMethod below0 = true := by decide +kernel
set_option maxRecDepth 65536 in
theorem w_ripe : about1.ripe theMethod args0 below0 = true := by decide +kernel
theorem w_running : about1.status = .running := rfl
set_option maxRecDepth 65536 in
theorem w_room : about1.hasRoom e0.platform room_1 = true :=
  launch0.hasRoom_least _ room_1 (by decide +kernel) (by decide +kernel) (by decide +kernel) (by decide +kernel) (by decide +kernel) (by decide +kernel)
theorem allAtoms_all (ts : List Jvm.Cond) (a : Array Jvm.Value) (st : Jvm.State) : (allAtoms ts).before a st = ts.all (fun c => c.before a st) := by
  induction ts with
  | nil => rfl
  | cons c t ih =>
    show (Jvm.Cond.and c (allAtoms t)).before a st = _
    rw [Jvm.Cond.before_and, ih, List.all_cons]
def words1 : List Jvm.Cond := Jvm.Cond.code x code maxLocals ret :: tables_1
/-- a 'code' word, met by the world's own term for the bytes: nothing is compared byte by byte -/
theorem code_word {y : MethodName} {bytes : ByteArray} {mx : Nat} {rt : Option FieldType} {a : Array Value} {s : State} {m : MethodId} {meth : Method} {c : Code} (h1 : s.methodNamed? y = some m) (h2 : s.vm.method? m = some meth) (h3 : meth.code = some c) (h4 : c.code = bytes)
    (h5 : (c.maxLocals == mx && c.exceptionTable.isEmpty && decide (c.maxStack ≤ mostOperands) && decide (meth.sig.returnType = rt) && !meth.locks && decide (parseMethodDescriptor y.desc = some meth.sig)) = true) : (Jvm.Cond.code y bytes mx rt).before a s = true := by
  simp only [Bool.and_eq_true, beq_iff_eq, Bool.not_eq_true', decide_eq_true_eq] at h5
  obtain ⟨⟨⟨⟨⟨g1, g2⟩, g3⟩, g4⟩, g5⟩, g6⟩ := h5
  simp [Cond.before, Cond.holds, Cond.value, h1, h2, h3, h4, g1, g2, g3, g4, g5, g6]
def isCode : Jvm.Cond → Bool
  | .code _ _ _ _ => true
  | _ => false
theorem all_split {L : List Jvm.Cond} {P : Jvm.Cond → Bool} (h1 : L.all (fun c => isCode c || P c) = true) (h2 : ∀ c ∈ L.filter isCode, P c = true) : L.all P = true := by
  refine List.all_eq_true.mpr fun c hc => ?_
  have h := List.all_eq_true.mp h1 c hc
  rcases Bool.eq_false_or_eq_true (isCode c) with hi | hi
  · exact h2 c (List.mem_filter.mpr ⟨hc, hi⟩)
  · simpa [hi] using h
set_option maxRecDepth 65536 in
theorem w_c0 : (Jvm.Cond.code x code maxLocals ret).before args0 about1 = true := code_word (m := ⟨1, 3⟩) (meth := k1m3) (c := k1c3) (by decide +kernel) rfl rfl rfl (by decide +kernel)
set_option maxRecDepth 65536 in
theorem w_c1 : (Jvm.Cond.code ({ cls := "com/example/portwright/portwright/xml/XmlElementIsPinLaw", name := "make", desc := "(ICC)Ljava/lang/String;" } : Jvm.MethodName) method_2_code (3 : Nat) (Option.some (Jvm.ClassFile.FieldType.object "java/lang/String"))).before args0 about1 = true := code_word (m := ⟨1, 1⟩) (meth := k1m1) (c := k1c1) (by decide +kernel) rfl rfl rfl (by decide +kernel)
set_option maxRecDepth 65536 in
theorem w_c2 : (Jvm.Cond.code ({ cls := "java/lang/String", name := "<init>", desc := "([C)V" } : Jvm.MethodName) jdk_42_method_3_code (2 : Nat) (Option.none : Option Jvm.ClassFile.FieldType)).before args0 about1 = true := code_word (m := ⟨7, 1⟩) (meth := k7m1) (c := k7c1) (by decide +kernel) rfl rfl rfl (by decide +kernel)
set_option maxRecDepth 65536 in
theorem w_c3 : (Jvm.Cond.code ({ cls := "java/lang/String", name := "<init>", desc := "([CIILjava/lang/Void;)V" } : Jvm.MethodName) jdk_42_method_149_code (6 : Nat) (Option.none : Option Jvm.ClassFile.FieldType)).before args0 about1 = true := code_word (m := ⟨7, 4⟩) (meth := k7m4) (c := k7c4) (by decide +kernel) rfl rfl rfl (by decide +kernel)
set_option maxRecDepth 65536 in
theorem w_c4 : (Jvm.Cond.code ({ cls := "java/lang/Object", name := "<init>", desc := "()V" } : Jvm.MethodName) object_method_1_code (1 : Nat) (Option.none : Option Jvm.ClassFile.FieldType)).before args0 about1 = true := code_word (m := ⟨0, 0⟩) (meth := k0m0) (c := k0c0) (by decide +kernel) rfl rfl rfl (by decide +kernel)
set_option maxRecDepth 65536 in
theorem w_c5 : (Jvm.Cond.code ({ cls := "java/lang/StringUTF16", name := "compress", desc := "([CII)[B" } : Jvm.MethodName) jdk_52_method_16_code (6 : Nat) (Option.some (Jvm.ClassFile.FieldType.array Jvm.ClassFile.FieldType.byte))).before args0 about1 = true := code_word (m := ⟨8, 2⟩) (meth := k8m2) (c := k8c2) (by decide +kernel) rfl rfl rfl (by decide +kernel)
set_option maxRecDepth 65536 in
theorem w_c6 : (Jvm.Cond.code ({ cls := "java/lang/StringUTF16", name := "compress", desc := "([CI[BII)I" } : Jvm.MethodName) jdk_52_method_21_code (7 : Nat) (Option.some Jvm.ClassFile.FieldType.int)).before args0 about1 = true := code_word (m := ⟨8, 3⟩) (meth := k8m3) (c := k8c3) (by decide +kernel) rfl rfl rfl (by decide +kernel)
set_option maxRecDepth 65536 in
theorem w_c7 : (Jvm.Cond.code ({ cls := "java/lang/StringUTF16", name := "coderFromArrayLen", desc := "([BI)B" } : Jvm.MethodName) jdk_52_method_15_code (2 : Nat) (Option.some Jvm.ClassFile.FieldType.byte)).before args0 about1 = true := code_word (m := ⟨8, 1⟩) (meth := k8m1) (c := k8c1) (by decide +kernel) rfl rfl rfl (by decide +kernel)
set_option maxRecDepth 65536 in
theorem w_c8 : (Jvm.Cond.code ({ cls := "java/lang/String", name := "valueOf", desc := "(C)Ljava/lang/String;" } : Jvm.MethodName) jdk_42_method_139_code (1 : Nat) (Option.some (Jvm.ClassFile.FieldType.object "java/lang/String"))).before args0 about1 = true := code_word (m := ⟨7, 3⟩) (meth := k7m3) (c := k7c3) (by decide +kernel) rfl rfl rfl (by decide +kernel)
set_option maxRecDepth 65536 in
theorem w_c9 : (Jvm.Cond.code ({ cls := "java/lang/StringLatin1", name := "canEncode", desc := "(C)Z" } : Jvm.MethodName) jdk_43_method_3_code (1 : Nat) (Option.some Jvm.ClassFile.FieldType.boolean)).before args0 about1 = true := code_word (m := ⟨9, 1⟩) (meth := k9m1) (c := k9c1) (by decide +kernel) rfl rfl rfl (by decide +kernel)
set_option maxRecDepth 65536 in
theorem w_c10 : (Jvm.Cond.code ({ cls := "java/lang/StringLatin1", name := "toBytes", desc := "(C)[B" } : Jvm.MethodName) jdk_43_method_46_code (1 : Nat) (Option.some (Jvm.ClassFile.FieldType.array Jvm.ClassFile.FieldType.byte))).before args0 about1 = true := code_word (m := ⟨9, 3⟩) (meth := k9m3) (c := k9c3) (by decide +kernel) rfl rfl rfl (by decide +kernel)
set_option maxRecDepth 65536 in
theorem w_c11 : (Jvm.Cond.code ({ cls := "java/lang/String", name := "<init>", desc := "([BB)V" } : Jvm.MethodName) jdk_42_method_151_code (3 : Nat) (Option.none : Option Jvm.ClassFile.FieldType)).before args0 about1 = true := code_word (m := ⟨7, 5⟩) (meth := k7m5) (c := k7c5) (by decide +kernel) rfl rfl rfl (by decide +kernel)
set_option maxRecDepth 65536 in
theorem w_c12 : (Jvm.Cond.code ({ cls := "java/util/Map", name := "of", desc := "()Ljava/util/Map;" } : Jvm.MethodName) jdk_72_method_26_code (0 : Nat) (Option.some (Jvm.ClassFile.FieldType.object "java/util/Map"))).before args0 about1 = true := code_word (m := ⟨11, 0⟩) (meth := k11m0) (c := k11c0) (by decide +kernel) rfl rfl rfl (by decide +kernel)
set_option maxRecDepth 65536 in
theorem w_c13 : (Jvm.Cond.code ({ cls := "com/example/portwright/portwright/xml/SourceLocation", name := "<init>", desc := "(Ljava/lang/String;I)V" } : Jvm.MethodName) prog_61_method_1_code (3 : Nat) (Option.none : Option Jvm.ClassFile.FieldType)).before args0 about1 = true := code_word (m := ⟨13, 0⟩) (meth := k13m0) (c := k13c0) (by decide +kernel) rfl rfl rfl (by decide +kernel)
set_option maxRecDepth 65536 in
theorem w_c14 : (Jvm.Cond.code ({ cls := "java/util/Objects", name := "requireNonNull", desc := "(Ljava/lang/Object;Ljava/lang/String;)Ljava/lang/Object;" } : Jvm.MethodName) jdk_31_method_11_code (2 : Nat) (Option.some (Jvm.ClassFile.FieldType.object "java/lang/Object"))).before args0 about1 = true := code_word (m := ⟨14, 1⟩) (meth := k14m1) (c := k14c1) (by decide +kernel) rfl rfl rfl (by decide +kernel)
set_option maxRecDepth 65536 in
theorem w_c15 : (Jvm.Cond.code ({ cls := "com/example/portwright/portwright/xml/XmlElement", name := "<init>", desc := "(Ljava/lang/String;Ljava/lang/String;Ljava/util/Map;Ljava/util/Map;Lcom/example/portwright/portwright/xml/SourceLocation;)V" } : Jvm.MethodName) prog_63_method_1_code (6 : Nat) (Option.none : Option Jvm.ClassFile.FieldType)).before args0 about1 = true := code_word (m := ⟨10, 0⟩) (meth := k10m0) (c := k10c0) (by decide +kernel) rfl rfl rfl (by decide +kernel)
set_option maxRecDepth 65536 in
theorem w_c16 : (Jvm.Cond.code ({ cls := "java/util/ArrayList", name := "<init>", desc := "()V" } : Jvm.MethodName) jdk_38_method_2_code (1 : Nat) (Option.none : Option Jvm.ClassFile.FieldType)).before args0 about1 = true := code_word (m := ⟨23, 0⟩) (meth := k23m0) (c := k23c0) (by decide +kernel) rfl rfl rfl (by decide +kernel)
set_option maxRecDepth 65536 in
theorem w_c17 : (Jvm.Cond.code ({ cls := "java/util/AbstractList", name := "<init>", desc := "()V" } : Jvm.MethodName) jdk_39_method_1_code (1 : Nat) (Option.none : Option Jvm.ClassFile.FieldType)).before args0 about1 = true := code_word (m := ⟨20, 0⟩) (meth := k20m0) (c := k20c0) (by decide +kernel) rfl rfl rfl (by decide +kernel)
set_option maxRecDepth 65536 in
theorem w_c18 : (Jvm.Cond.code ({ cls := "java/util/AbstractCollection", name := "<init>", desc := "()V" } : Jvm.MethodName) jdk_22_method_1_code (1 : Nat) (Option.none : Option Jvm.ClassFile.FieldType)).before args0 about1 = true := code_word (m := ⟨17, 0⟩) (meth := k17m0) (c := k17c0) (by decide +kernel) rfl rfl rfl (by decide +kernel)
set_option maxRecDepth 65536 in
theorem w_c19 : (Jvm.Cond.code ({ cls := "java/util/Map", name := "copyOf", desc := "(Ljava/util/Map;)Ljava/util/Map;" } : Jvm.MethodName) jdk_72_method_39_code (1 : Nat) (Option.some (Jvm.ClassFile.FieldType.object "java/util/Map"))).before args0 about1 = true := code_word (m := ⟨11, 1⟩) (meth := k11m1) (c := k11c1) (by decide +kernel) rfl rfl rfl (by decide +kernel)
set_option maxRecDepth 65536 in
theorem w_c20 : (Jvm.Cond.code ({ cls := "com/example/portwright/portwright/xml/XmlElementIsPinLaw", name := "same", desc := "(ICCICC)Z" } : Jvm.MethodName) method_3_code (6 : Nat) (Option.some Jvm.ClassFile.FieldType.boolean)).before args0 about1 = true := code_word (m := ⟨1, 2⟩) (meth := k1m2) (c := k1c2) (by decide +kernel) rfl rfl rfl (by decide +kernel)
set_option maxRecDepth 65536 in
theorem w_c21 : (Jvm.Cond.code ({ cls := "com/example/portwright/portwright/xml/XmlElement", name := "is", desc := "(Ljava/lang/String;Ljava/lang/String;)Z" } : Jvm.MethodName) prog_63_method_7_code (3 : Nat) (Option.some Jvm.ClassFile.FieldType.boolean)).before args0 about1 = true := code_word (m := ⟨10, 1⟩) (meth := k10m1) (c := k10c1) (by decide +kernel) rfl rfl rfl (by decide +kernel)
set_option maxRecDepth 65536 in
theorem w_c22 : (Jvm.Cond.code ({ cls := "java/lang/String", name := "equals", desc := "(Ljava/lang/Object;)Z" } : Jvm.MethodName) jdk_42_method_66_code (3 : Nat) (Option.some Jvm.ClassFile.FieldType.boolean)).before args0 about1 = true := code_word (m := ⟨7, 2⟩) (meth := k7m2) (c := k7c2) (by decide +kernel) rfl rfl rfl (by decide +kernel)
set_option maxRecDepth 65536 in
theorem w_c23 : (Jvm.Cond.code ({ cls := "java/lang/StringLatin1", name := "equals", desc := "([B[B)Z" } : Jvm.MethodName) jdk_43_method_13_code (3 : Nat) (Option.some Jvm.ClassFile.FieldType.boolean)).before args0 about1 = true := code_word (m := ⟨9, 2⟩) (meth := k9m2) (c := k9c2) (by decide +kernel) rfl rfl rfl (by decide +kernel)
def codes1 : List Jvm.Cond := [Jvm.Cond.code x code maxLocals ret, Jvm.Cond.code ({ cls := "com/example/portwright/portwright/xml/XmlElementIsPinLaw", name := "make", desc := "(ICC)Ljava/lang/String;" } : Jvm.MethodName) method_2_code (3 : Nat) (Option.some (Jvm.ClassFile.FieldType.object "java/lang/String")), Jvm.Cond.code ({ cls := "java/lang/String", name := "<init>", desc := "([C)V" } : Jvm.MethodName) jdk_42_method_3_code (2 : Nat) (Option.none : Option Jvm.ClassFile.FieldType), Jvm.Cond.code ({ cls := "java/lang/String", name := "<init>", desc := "([CIILjava/lang/Void;)V" } : Jvm.MethodName) jdk_42_method_149_code (6 : Nat) (Option.none : Option Jvm.ClassFile.FieldType), Jvm.Cond.code ({ cls := "java/lang/Object", name := "<init>", desc := "()V" } : Jvm.MethodName) object_method_1_code (1 : Nat) (Option.none : Option Jvm.ClassFile.FieldType), Jvm.Cond.code ({ cls := "java/lang/StringUTF16", name := "compress", desc := "([CII)[B" } : Jvm.MethodName) jdk_52_method_16_code (6 : Nat) (Option.some (Jvm.ClassFile.FieldType.array Jvm.ClassFile.FieldType.byte)), Jvm.Cond.code ({ cls := "java/lang/StringUTF16", name := "compress", desc := "([CI[BII)I" } : Jvm.MethodName) jdk_52_method_21_code (7 : Nat) (Option.some Jvm.ClassFile.FieldType.int), Jvm.Cond.code ({ cls := "java/lang/StringUTF16", name := "coderFromArrayLen", desc := "([BI)B" } : Jvm.MethodName) jdk_52_method_15_code (2 : Nat) (Option.some Jvm.ClassFile.FieldType.byte), Jvm.Cond.code ({ cls := "java/lang/String", name := "valueOf", desc := "(C)Ljava/lang/String;" } : Jvm.MethodName) jdk_42_method_139_code (1 : Nat) (Option.some (Jvm.ClassFile.FieldType.object "java/lang/String")), Jvm.Cond.code ({ cls := "java/lang/StringLatin1", name := "canEncode", desc := "(C)Z" } : Jvm.MethodName) jdk_43_method_3_code (1 : Nat) (Option.some Jvm.ClassFile.FieldType.boolean), Jvm.Cond.code ({ cls := "java/lang/StringLatin1", name := "toBytes", desc := "(C)[B" } : Jvm.MethodName) jdk_43_method_46_code (1 : Nat) (Option.some (Jvm.ClassFile.FieldType.array Jvm.ClassFile.FieldType.byte)), Jvm.Cond.code ({ cls := "java/lang/String", name := "<init>", desc := "([BB)V" } : Jvm.MethodName) jdk_42_method_151_code (3 : Nat) (Option.none : Option Jvm.ClassFile.FieldType), Jvm.Cond.code ({ cls := "java/util/Map", name := "of", desc := "()Ljava/util/Map;" } : Jvm.MethodName) jdk_72_method_26_code (0 : Nat) (Option.some (Jvm.ClassFile.FieldType.object "java/util/Map")), Jvm.Cond.code ({ cls := "com/example/portwright/portwright/xml/SourceLocation", name := "<init>", desc := "(Ljava/lang/String;I)V" } : Jvm.MethodName) prog_61_method_1_code (3 : Nat) (Option.none : Option Jvm.ClassFile.FieldType), Jvm.Cond.code ({ cls := "java/util/Objects", name := "requireNonNull", desc := "(Ljava/lang/Object;Ljava/lang/String;)Ljava/lang/Object;" } : Jvm.MethodName) jdk_31_method_11_code (2 : Nat) (Option.some (Jvm.ClassFile.FieldType.object "java/lang/Object")), Jvm.Cond.code ({ cls := "com/example/portwright/portwright/xml/XmlElement", name := "<init>", desc := "(Ljava/lang/String;Ljava/lang/String;Ljava/util/Map;Ljava/util/Map;Lcom/example/portwright/portwright/xml/SourceLocation;)V" } : Jvm.MethodName) prog_63_method_1_code (6 : Nat) (Option.none : Option Jvm.ClassFile.FieldType), Jvm.Cond.code ({ cls := "java/util/ArrayList", name := "<init>", desc := "()V" } : Jvm.MethodName) jdk_38_method_2_code (1 : Nat) (Option.none : Option Jvm.ClassFile.FieldType), Jvm.Cond.code ({ cls := "java/util/AbstractList", name := "<init>", desc := "()V" } : Jvm.MethodName) jdk_39_method_1_code (1 : Nat) (Option.none : Option Jvm.ClassFile.FieldType), Jvm.Cond.code ({ cls := "java/util/AbstractCollection", name := "<init>", desc := "()V" } : Jvm.MethodName) jdk_22_method_1_code (1 : Nat) (Option.none : Option Jvm.ClassFile.FieldType), Jvm.Cond.code ({ cls := "java/util/Map", name := "copyOf", desc := "(Ljava/util/Map;)Ljava/util/Map;" } : Jvm.MethodName) jdk_72_method_39_code (1 : Nat) (Option.some (Jvm.ClassFile.FieldType.object "java/util/Map")), Jvm.Cond.code ({ cls := "com/example/portwright/portwright/xml/XmlElementIsPinLaw", name := "same", desc := "(ICCICC)Z" } : Jvm.MethodName) method_3_code (6 : Nat) (Option.some Jvm.ClassFile.FieldType.boolean), Jvm.Cond.code ({ cls := "com/example/portwright/portwright/xml/XmlElement", name := "is", desc := "(Ljava/lang/String;Ljava/lang/String;)Z" } : Jvm.MethodName) prog_63_method_7_code (3 : Nat) (Option.some Jvm.ClassFile.FieldType.boolean), Jvm.Cond.code ({ cls := "java/lang/String", name := "equals", desc := "(Ljava/lang/Object;)Z" } : Jvm.MethodName) jdk_42_method_66_code (3 : Nat) (Option.some Jvm.ClassFile.FieldType.boolean), Jvm.Cond.code ({ cls := "java/lang/StringLatin1", name := "equals", desc := "([B[B)Z" } : Jvm.MethodName) jdk_43_method_13_code (3 : Nat) (Option.some Jvm.ClassFile.FieldType.boolean)]
set_option maxRecDepth 65536 in
theorem codes_eq : words1.filter isCode = codes1 := rfl
theorem w_codes : ∀ c ∈ words1.filter isCode, c.before args0 about1 = true := by
  rw [codes_eq]
  intro c hc
  simp only [codes1, List.mem_cons, List.not_mem_nil, or_false] at hc
  rcases hc with rfl | rfl | rfl | rfl | rfl | rfl | rfl | rfl | rfl | rfl | rfl | rfl | rfl | rfl | rfl | rfl | rfl | rfl | rfl | rfl | rfl | rfl | rfl | rfl
  · exact w_c0
  · exact w_c1
  · exact w_c2
  · exact w_c3
  · exact w_c4
  · exact w_c5
  · exact w_c6
  · exact w_c7
  · exact w_c8
  · exact w_c9
  · exact w_c10
  · exact w_c11
  · exact w_c12
  · exact w_c13
  · exact w_c14
  · exact w_c15
  · exact w_c16
  · exact w_c17
  · exact w_c18
  · exact w_c19
  · exact w_c20
  · exact w_c21
  · exact w_c22
  · exact w_c23
set_option maxRecDepth 65536 in
theorem w_t1 : (words1.take 24).all (fun c => isCode c || c.before args0 about1) = true := by decide +kernel
set_option maxRecDepth 65536 in
theorem w_t2 : ((words1.drop 24).take 24).all (fun c => isCode c || c.before args0 about1) = true := by decide +kernel
set_option maxRecDepth 65536 in
theorem w_t3 : (((words1.drop 24).drop 24).take 24).all (fun c => isCode c || c.before args0 about1) = true := by decide +kernel
set_option maxRecDepth 65536 in
theorem w_t4 : ((((words1.drop 24).drop 24).drop 24).take 24).all (fun c => isCode c || c.before args0 about1) = true := by decide +kernel
set_option maxRecDepth 65536 in
theorem w_t5 : (((((words1.drop 24).drop 24).drop 24).drop 24).take 24).all (fun c => isCode c || c.before args0 about1) = true := by decide +kernel
set_option maxRecDepth 65536 in
theorem w_t6 : (((((words1.drop 24).drop 24).drop 24).drop 24).drop 24).all (fun c => isCode c || c.before args0 about1) = true := by decide +kernel
theorem w_tables : (allAtoms (Jvm.Cond.code x code maxLocals ret :: tables_1)).before args0 about1 = true := by
  rw [allAtoms_all]
  show words1.all (fun c => c.before args0 about1) = true
  refine all_split ?_ w_codes
  rw [← List.take_append_drop 24 words1, List.all_append, w_t1, ← List.take_append_drop 24 (words1.drop 24), List.all_append, w_t2, ← List.take_append_drop 24 ((words1.drop 24).drop 24), List.all_append, w_t3, ← List.take_append_drop 24 (((words1.drop 24).drop 24).drop 24), List.all_append, w_t4, ← List.take_append_drop 24 ((((words1.drop 24).drop 24).drop 24).drop 24), List.all_append, w_t5, w_t6]
  rfl
set_option maxRecDepth 65536 in
theorem w_rest : rest_1_c.before args0 about1 = true := by decide +kernel
set_option maxRecDepth 65536 in
theorem w_case : (Jvm.Cond.and given_1 narrow_1).before args0 about1 = true := by decide +kernel
set_option maxRecDepth 65536 in
theorem w_consts : constsHeld consts_1 about1 := Jvm.Lit.constsHeldB_iff.mp (by decide +kernel)
theorem w_applies : (headSpec (Jvm.Cond.code x code maxLocals ret :: tables_1) room_1).applies x e0.platform about1 = true :=
  (Spec.applies_iff w_frames).mpr ⟨w_running, w_runnable, w_alone, w_named, w_hears, w_ripe, w_room, w_tables⟩
theorem atStart : AtStart classFile x code maxLocals ret World_1 tables_1 room_1 Calls_1 rest_1 Pre_1 launch0 p0 e0 about1 theMethod args0 below0 :=
  ⟨lists_1, trivial, launch0.admits_env _ _ _, launch0.least_env, fairChoices_fair.cas, fairChoices_fair.clock, w_frames, w_args, w_heap, w_applies, ⟨w_consts, trivial⟩, w_rest, w_case⟩
end start1
theorem witness_1 : WitnessClaimed_1 := ⟨start1.p0, start1.e0, start1.about1, start1.theMethod, start1.args0, start1.below0, start1.atStart⟩
end Jvm.Pilot.@@N@@
