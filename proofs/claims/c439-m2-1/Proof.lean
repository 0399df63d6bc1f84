import JvmDerived
import JvmDerived.Pilot.@@N@@Statement
import JvmDerived.Pilot.@@N@@Code
set_option linter.unusedVariables false
set_option linter.unusedSimpArgs false
namespace Jvm.Own
open Sem ClassFile Op Lib Jvm.Stand Jvm.Free Jvm.LawKit Jvm.RoadKit
/-! A small logic of walks: 'Wp' says of a point of a body (pc, locals, stack, heap) that from every state that stands there the run ends with Q; one rule an instruction. 'Ct' is a body's contract. -/
def Fen (wd : Bool) (U : State) (o : Outcome) (U' : State) (L : List Loc) (k n : Nat) : Prop := ReturnedEndW U o U' L k n ∧ (wd = false → U.WarmedH U'.vm)
def Wh (hs : Heap) (ws : List Addr) (L : List Loc) : Prop := ∀ y ∈ L, y.base ∈ ws ∨ hs.size ≤ y.base
def Sf (Z : State) (EL : List (String × Nat)) (vm : Vm) (h : Heap) (F : List Addr) : Prop := ∀ x ∈ F, x < h.size ∧ Safe Z EL vm h x
def Sfe (Z : State) (EL : List (String × Nat)) (h : Heap) (F : List Addr) (a : Addr) : Prop := ∀ vm, Z.vm.Alike vm → Sf Z EL vm h F → Safe Z EL vm h a
def Ct (wd : Bool) (l : Launch) (Z : State) (EL : List (String × Nat)) (cw : List Cond) (y : MethodName) (bytes : ByteArray) (maxL : Nat) (ret : Option FieldType) (rm : Room) (as : Array Value) (h : Heap) (F ws : List Addr) (Q : Option Value → Heap → Prop) : Prop :=
  MetFree l y (head1 (Cond.code y bytes maxL ret :: cw) rm)
    (fun a U => a = as ∧ Z.Warmed39 U.vm ∧ U.heap = h ∧ CHv Z EL U.vm h ∧ Sf Z EL U.vm h F) (fun _ _ _ _ _ => True)
    (fun _ U o U' => ∃ v L, o = .returned v ∧ (Wh U.heap ws L ∧ Q v U'.heap) ∧ CHr Z EL U.vm U.heap U'.vm U'.heap ∧ Fen wd U o U' L rm.cells rm.slots)
def Inv (wd : Bool) (l : Launch) (Z : State) (a0 : Array Value) (EL : List (String × Nat)) (R : Room) (y : MethodName) (bytes : ByteArray) (maxL : Nat) (ret : Option FieldType) (hs : Heap) (ws : List Addr) (h : Heap) (F : List Addr) (k n : Nat)
    (p : Program) (e : Env) (s : State) (m : MethodId) (args : Array Value) (below : List Frame) (meth : Method) (c : Code) (vm0 : Vm) (k0 : Nat) (T : State) (locs : List Loc) : Prop :=
  (EW Z a0 EL ∧ p.tables.exec = Jvm.exec ∧ c.code = bytes ∧ c.maxLocals = maxL ∧ meth.sig.returnType = ret ∧ meth.name = y.name ∧ meth.locks = false) ∧
  (s.heap = hs ∧ (∀ x ∈ ws, Z.heap.size ≤ x) ∧ Z.heap.size ≤ hs.size ∧ Wh hs ws locs ∧ Ext Z.heap h) ∧
  (vm0.findClass y.cls = some m.cls ∧ s.Since vm0 k0 ∧ k0 ≤ h.size ∧ (wd = false → s.WarmedH vm0) ∧ Z.Warmed39 vm0 ∧ CHr Z EL s.vm hs vm0 h ∧ Sf Z EL vm0 h F) ∧
  Stand p l e R (s.setVm vm0) m args below meth c T locs k n ∧ T.heap = h
def Out (wd : Bool) (Z : State) (EL : List (String × Nat)) (R : Room) (hs : Heap) (ws : List Addr) (Q : Option Value → Heap → Prop) (p : Program) (e : Env) (s : State) (below : List Frame) (st : State) : Prop :=
  ∃ (v : Option Value) (t : State), Steps p.tables e below st t ∧ t.status = .running ∧ Ended t below (.returned v) ∧ ∃ L, Wh hs ws L ∧ Q v t.heap ∧ CHr Z EL s.vm hs t.vm t.heap ∧ Fen wd s (.returned v) t L R.cells R.slots
def Wp (wd : Bool) (l : Launch) (Z : State) (a0 : Array Value) (EL : List (String × Nat)) (R : Room) (y : MethodName) (bytes : ByteArray) (maxL : Nat) (ret : Option FieldType) (hs : Heap) (ws : List Addr) (Q : Option Value → Heap → Prop) (h : Heap) (F : List Addr) (k n pc : Nat) (Ls : Array Slot) (S : List Value) : Prop :=
  ∀ (p : Program) (e : Env) (s : State) (m : MethodId) (args : Array Value) (below : List Frame) (meth : Method) (c : Code) (vm0 : Vm) (k0 : Nat) (T : State) (locs : List Loc),
    Inv wd l Z a0 EL R y bytes maxL ret hs ws h F k n p e s m args below meth c vm0 k0 T locs → Out wd Z EL R hs ws Q p e s below (T.setTop (mkF m pc Ls S))
section Kit
variable {wd : Bool} {l : Launch} {Z : State} {EL : List (String × Nat)} {R : Room} {y : MethodName} {bytes : ByteArray} {maxL : Nat} {ret : Option FieldType} {hs : Heap} {ws : List Addr} {Q : Option Value → Heap → Prop} {h h' : Heap} {F F' : List Addr} {k n k' n' pc pc' pc1 : Nat} {Ls Ls' : Array Slot} {S S' : List Value}
variable {a0 : Array Value} {a b : Addr} {C O nm d : String} {v w : Value} {sl : Nat} {cl : Cell} {ty : FieldType}
theorem Sfe.mem (q : a ∈ F) : Sfe Z EL h F a := fun _ _ S => (S a q).2
theorem Sfe.exa (E : Exa Z h a C) (h1 : C ≠ "java/lang/String") (h2 : C ≠ "[B") : Sfe Z EL h F a := fun _ hal _ => Safe.exa hal E h1 h2
theorem Sfe.arr (A : Arr Z h a cl ty) (ht : ty ≠ .byte) : Sfe Z EL h F a := fun _ hal _ => Safe.arr hal A ht
theorem Out.back {p : Program} {e : Env} {s : State} {below : List Frame} {st st' : State} (o : Out wd Z EL R hs ws Q p e s below st') (f : ∀ t, Steps p.tables e below st' t → Steps p.tables e below st t) : Out wd Z EL R hs ws Q p e s below st := by
  obtain ⟨v, t, h1, r⟩ := o; exact ⟨v, t, f t h1, r⟩
theorem Wp.lift (f : ∀ (p : Program) (e : Env) (m : MethodId) (below : List Frame) (c : Code) (T t : State), At T m c below → p.tables.exec = Jvm.exec → c.code = bytes → Steps p.tables e below (T.setTop (mkF m pc' Ls' S')) t → Steps p.tables e below (T.setTop (mkF m pc Ls S)) t)
    (K : Wp wd l Z a0 EL R y bytes maxL ret hs ws Q h F k n pc' Ls' S') : Wp wd l Z a0 EL R y bytes maxL ret hs ws Q h F k n pc Ls S :=
  fun p e s m args below meth c vm0 k0 T locs I => (K p e s m args below meth c vm0 k0 T locs I).back fun t st => f p e m below c T t I.2.2.2.1.here I.1.2.1 I.1.2.2.1 st
theorem Wp.old (K : Ext Z.heap h → Wp wd l Z a0 EL R y bytes maxL ret hs ws Q h F k n pc Ls S) : Wp wd l Z a0 EL R y bytes maxL ret hs ws Q h F k n pc Ls S :=
  fun p e s m args below meth c vm0 k0 T locs I => K I.2.1.2.2.2.2 p e s m args below meth c vm0 k0 T locs I
theorem Wp.eqS (q : S = S') (K : Wp wd l Z a0 EL R y bytes maxL ret hs ws Q h F k n pc Ls S') : Wp wd l Z a0 EL R y bytes maxL ret hs ws Q h F k n pc Ls S := q ▸ K
theorem Wp.more (hk : k ≤ k') (hn : n ≤ n') (K : Wp wd l Z a0 EL R y bytes maxL ret hs ws Q h F k' n' pc Ls S) : Wp wd l Z a0 EL R y bytes maxL ret hs ws Q h F k n pc Ls S :=
  fun p e s m args below meth c vm0 k0 T locs I => K p e s m args below meth c vm0 k0 T locs ⟨I.1, I.2.1, I.2.2.1, I.2.2.2.1.mono hk hn, I.2.2.2.2⟩
theorem Wp.less (hF : ∀ x ∈ F', x ∈ F) (K : Wp wd l Z a0 EL R y bytes maxL ret hs ws Q h F' k n pc Ls S) : Wp wd l Z a0 EL R y bytes maxL ret hs ws Q h F k n pc Ls S :=
  fun p e s m args below meth c vm0 k0 T locs I => K p e s m args below meth c vm0 k0 T locs ⟨I.1, I.2.1, ⟨I.2.2.1.1, I.2.2.1.2.1, I.2.2.1.2.2.1, I.2.2.1.2.2.2.1, I.2.2.1.2.2.2.2.1, I.2.2.1.2.2.2.2.2.1, fun x hx => I.2.2.1.2.2.2.2.2.2 x (hF x hx)⟩, I.2.2.2⟩
/-- the cells of the start stand, but for the listed -/
theorem keep_of {s T : State} {locs : List Loc} {kk nn : Nat} (hsm : s.sameButNew T locs kk nn) (hL : Wh s.heap ws locs) : Keep s.heap T.heap ws := by
  refine ⟨hsm.2.1, fun x c hx hn => ?_, fun x c hx => ?_⟩
  · obtain ⟨c', h1, h2, -, h4⟩ := hsm.2.2.2.2.2 x c hx
    have hb := (Array.getElem?_eq_some_iff.mp hx).1
    have hsl : c'.slots = c.slots := Array.ext_getElem? fun i => h4 i fun hm => (hL _ hm).elim hn fun q => absurd q (Nat.not_le.mpr hb)
    have hcc : c' = c := by rw [h2, hsl]
    rw [← hcc]; exact h1
  · obtain ⟨c', h1, h2, h3, -⟩ := hsm.2.2.2.2.2 x c hx
    exact ⟨c', h1, by rw [h2], by rw [h2], h3⟩
theorem Ext.trans {h1 h2 h3 : Heap} (A : Ext h1 h2) (B : Ext h2 h3) : Ext h1 h3 := ⟨Nat.le_trans A.1 B.1, fun x c q => B.2 x c (A.2 x c q)⟩
theorem ext_wr (O : Ext Z.heap h) (W : Wr h h' a sl v) (q : Z.heap.size ≤ a) : Ext Z.heap h' := ⟨by rw [W.size]; exact O.1, fun x c hx => by
  obtain ⟨c', h1, -, -, -, h5, -⟩ := wr_at W (O.2 x c hx)
  rw [← h5 (Nat.ne_of_lt (Nat.lt_of_lt_of_le (Array.getElem?_eq_some_iff.mp hx).1 q))]; exact h1⟩
theorem ext_keep {wc : List Addr} (O : Ext Z.heap h) (K : Keep h h' wc) (q : ∀ x ∈ wc, Z.heap.size ≤ x) : Ext Z.heap h' := ⟨Nat.le_trans O.1 K.1, fun x c hx => K.2.1 x c (O.2 x c hx) fun hm => absurd (Array.getElem?_eq_some_iff.mp hx).1 (Nat.not_lt.mpr (q x hm))⟩
/-- a step that reads the tables or the heap and moves neither but by resolving -/
theorem Wp.tab (law : ∀ (p : Program) (e : Env) (s : State) (m : MethodId) (args : Array Value) (below : List Frame) (meth : Method) (c : Code) (T : State) (locs : List Loc), Stand p l e R s m args below meth c T locs k n → p.tables.exec = Jvm.exec → Z.Warmed39 s.vm → s.vm.findClass y.cls = some m.cls → c.code = bytes → c.maxLocals = maxL → s.heap = hs → T.heap = h → Ext Z.heap h →
      ∃ T', Stand p l e R s m args below meth c T' locs k n ∧ T'.heap = h ∧ ∀ t, Steps p.tables e below (T'.setTop (mkF m pc' Ls' S')) t → Steps p.tables e below (T.setTop (mkF m pc Ls S)) t)
    (K : Wp wd l Z a0 EL R y bytes maxL ret hs ws Q h F k n pc' Ls' S') : Wp wd l Z a0 EL R y bytes maxL ret hs ws Q h F k n pc Ls S := fun p e s m args below meth c vm0 k0 T locs I => by
  obtain ⟨⟨i1, i2, i3, i4, i5⟩, J, ⟨j1, j2, j3, j4, j5, j6⟩, X, eT⟩ := I
  obtain ⟨T', X', eT', st⟩ := law p e (s.setVm vm0) m args below meth c T locs X i2 j5 j1 i3 i4 J.1 eT J.2.2.2.2
  exact (K p e s m args below meth c vm0 k0 T' locs ⟨⟨i1, i2, i3, i4, i5⟩, J, ⟨j1, j2, j3, j4, j5, j6⟩, X', eT'⟩).back st
/-- a step that writes one place -/
theorem Wp.put (hw : a ∈ ws ∨ hs.size ≤ a) (sf : Sfe Z EL h F a) (law : ∀ (p : Program) (e : Env) (s : State) (m : MethodId) (args : Array Value) (below : List Frame) (meth : Method) (c : Code) (T : State) (locs : List Loc), Stand p l e R s m args below meth c T locs k n → p.tables.exec = Jvm.exec → Z.Warmed39 s.vm → s.vm.findClass y.cls = some m.cls → c.code = bytes → meth.name = y.name → T.heap = h →
      ∃ T' h', Stand p l e R s m args below meth c T' (locs ++ [⟨a, sl⟩]) k n ∧ T'.heap = h' ∧ Wr h h' a sl v ∧ ∀ t, Steps p.tables e below (T'.setTop (mkF m pc' Ls' S')) t → Steps p.tables e below (T.setTop (mkF m pc Ls S)) t)
    (K : ∀ h', Wr h h' a sl v → Wp wd l Z a0 EL R y bytes maxL ret hs ws Q h' F k n pc' Ls' S') : Wp wd l Z a0 EL R y bytes maxL ret hs ws Q h F k n pc Ls S := fun p e s m args below meth c vm0 k0 T locs I => by
  obtain ⟨⟨i1, i2, i3, i4, i5, i6, i7⟩, ⟨q1, q2, q3, q4, q5⟩, ⟨j1, j2, j3, j4, j5, j6, j7⟩, X, eT⟩ := I
  obtain ⟨T', h', X', eT', W, st⟩ := law p e (s.setVm vm0) m args below meth c T locs X i2 j5 j1 i3 i6 eT
  have S := sf vm0 j5.alike j7
  refine (K h' W p e s m args below meth c vm0 k0 T' _ ⟨⟨i1, i2, i3, i4, i5, i6, i7⟩, ⟨q1, q2, q3, fun z hz => ?_, ext_wr q5 W (hw.elim (q2 a) (Nat.le_trans q3))⟩, ⟨j1, j2, by rw [W.size]; exact j3, j4, j5, j6.trans (CHr.wr W S j6.1), fun x hx => ⟨by rw [W.size]; exact (j7 x hx).1, Safe.wr W S j6.1 (j7 x hx).2⟩⟩, X', eT'⟩).back st
  rcases List.mem_append.mp hz with hz | hz
  · exact q4 z hz
  · cases List.mem_singleton.mp hz; exact hw
/-- a step that makes one cell -/
theorem Wp.mk (P : Heap → Prop) (hlt : ∀ h', P h' → h.size < h'.size) (law : ∀ (p : Program) (e : Env) (s : State) (m : MethodId) (args : Array Value) (below : List Frame) (meth : Method) (c : Code) (T : State) (locs : List Loc), Stand p l e R s m args below meth c T locs k n → p.tables.exec = Jvm.exec → Z.Warmed39 s.vm → s.vm.findClass y.cls = some m.cls → c.code = bytes → T.heap = h →
      ∃ T' h', Stand p l e R s m args below meth c T' locs k' n' ∧ T'.heap = h' ∧ Ext h h' ∧ P h' ∧ ∀ t, Steps p.tables e below (T'.setTop (mkF m pc' Ls' S')) t → Steps p.tables e below (T.setTop (mkF m pc Ls S)) t)
    (K : ∀ h', hs.size ≤ h.size → Ext h h' → P h' → Wp wd l Z a0 EL R y bytes maxL ret hs ws Q h' (h.size :: F) k' n' pc' Ls' S') : Wp wd l Z a0 EL R y bytes maxL ret hs ws Q h F k n pc Ls S := fun p e s m args below meth c vm0 k0 T locs I => by
  obtain ⟨⟨i1, i2, i3, i4, i5⟩, ⟨q1, q2, q3, q4, q5⟩, ⟨j1, j2, j3, j4, j5, j6, j7⟩, X, eT⟩ := I
  obtain ⟨T', h', X', eT', E, hP, st⟩ := law p e (s.setVm vm0) m args below meth c T locs X i2 j5 j1 i3 eT
  refine (K h' j6.2.1 E hP p e s m args below meth c vm0 k0 T' _ ⟨⟨i1, i2, i3, i4, i5⟩, ⟨q1, q2, q3, q4, Ext.trans q5 E⟩, ⟨j1, j2, Nat.le_trans j3 E.1, j4, j5, j6.trans (CHr.ext E j6.1), fun x hx => ?_⟩, X', eT'⟩).back st
  rcases List.mem_cons.mp hx with rfl | hx
  · exact ⟨hlt h' hP, Safe.ext E j6.1 (Safe.new (Nat.le_refl _))⟩
  · exact ⟨Nat.lt_of_lt_of_le (j7 x hx).1 E.1, Safe.ext E j6.1 (j7 x hx).2⟩
/-- the return -/
theorem Wp.leave (hk : k ≤ R.cells) (hn : n ≤ R.slots) {v' : Option Value} (hv : ret = none → v' = none) (hQ : Q v' h) (law : ∀ (p : Program) (e : Env) (s : State) (m : MethodId) (args : Array Value) (below : List Frame) (meth : Method) (c : Code) (T : State) (locs : List Loc) (fs : List Frame), Stand p l e R s m args below meth c T locs k n → p.tables.exec = Jvm.exec → c.code = bytes → meth.sig.returnType = ret →
      (∀ (f : JFrame) (acts : List Action), f.method = m → f.locked = none → f.entered = [] → (doReturn e (T.setTop f) acts v').1 = T.setFrames fs) → Steps p.tables e below (T.setTop (mkF m pc Ls S)) (T.setFrames fs)) :
    Wp wd l Z a0 EL R y bytes maxL ret hs ws Q h F k n pc Ls S := fun p e s m args below meth c vm0 k0 T locs I => by
  obtain ⟨⟨i1, i2, i3, i4, i5, i6, i7⟩, ⟨q1, q2, q3, q4, q5⟩, ⟨j1, j2, j3, j4, j5, j6, j7⟩, X, eT⟩ := I
  subst eT
  obtain ⟨fs, hr, hrun, hended, hE⟩ := X.leaveW j2 j3 (v := v') (by rw [i5]; exact hv) i7
  refine ⟨v', _, law p e (s.setVm vm0) m args below meth c T locs fs X i2 i3 i5 hr, hrun, hended, locs, q4, hQ, j6.trans (show CHr Z EL vm0 T.heap T.vm T.heap from CHv.at X j5 i1 j6.1), ⟨hE.1, hE.2.1, hE.2.2.1, hE.2.2.2.mono hk hn⟩, fun z => ?_⟩
  exact State.WarmedH.trans (t := s.setVm vm0) (j4 z) X.warmed
end Kit
end Jvm.Own
namespace Jvm.Own
open Sem ClassFile Op Lib Jvm.Stand Jvm.Free Jvm.LawKit Jvm.RoadKit
section Rules
variable {wd : Bool} {l : Launch} {Z : State} {EL : List (String × Nat)} {R : Room} {y : MethodName} {bytes : ByteArray} {maxL : Nat} {ret : Option FieldType} {hs : Heap} {ws : List Addr} {Q : Option Value → Heap → Prop} {h h' : Heap} {F F' : List Addr} {k n k' n' pc pc' pc1 : Nat} {Ls Ls' : Array Slot} {S S' : List Value}
variable {a0 : Array Value} {a b : Addr} {C O nm d : String} {v w : Value} {sl : Nat} {cl : Cell} {ty : FieldType}
theorem Wp.iloadN {i : Fin 4} {x : Int32} (hd : decode bytes pc = .ok (.iload_n i, 1)) (hp : pc + 1 = pc') (hl : Ls[i.val]? = some (.val (.int x))) (K : Wp wd l Z a0 EL R y bytes maxL ret hs ws Q h F k n pc' Ls (.int x :: S)) : Wp wd l Z a0 EL R y bytes maxL ret hs ws Q h F k n pc Ls S := by
  subst hp; exact Wp.lift (fun p e m below c T t A hx hby st => XS.iloadN A hx rfl (hb hby hd) hl st) K
theorem Wp.iload {i : Nat} {x : Int32} (hd : decode bytes pc = .ok (.iload i, 2)) (hp : pc + 2 = pc') (hl : Ls[i]? = some (.val (.int x))) (K : Wp wd l Z a0 EL R y bytes maxL ret hs ws Q h F k n pc' Ls (.int x :: S)) : Wp wd l Z a0 EL R y bytes maxL ret hs ws Q h F k n pc Ls S := by
  subst hp; exact Wp.lift (fun p e m below c T t A hx hby st => XS.iload A hx rfl (hb hby hd) hl st) K
theorem Wp.istoreN {i : Fin 4} {x : Int32} {l' : Array Slot} (hd : decode bytes pc = .ok (.istore_n i, 1)) (hp : pc + 1 = pc') (hl : storeLocals Ls i.val (.int x) = some l') (K : Wp wd l Z a0 EL R y bytes maxL ret hs ws Q h F k n pc' l' S) : Wp wd l Z a0 EL R y bytes maxL ret hs ws Q h F k n pc Ls (.int x :: S) := by
  subst hp; exact Wp.lift (fun p e m below c T t A hx hby st => XS.istoreN A hx rfl (hb hby hd) rfl hl st) K
theorem Wp.istore {i : Nat} {x : Int32} {l' : Array Slot} (hd : decode bytes pc = .ok (.istore i, 2)) (hp : pc + 2 = pc') (hl : storeLocals Ls i (.int x) = some l') (K : Wp wd l Z a0 EL R y bytes maxL ret hs ws Q h F k n pc' l' S) : Wp wd l Z a0 EL R y bytes maxL ret hs ws Q h F k n pc Ls (.int x :: S) := by
  subst hp; exact Wp.lift (fun p e m below c T t A hx hby st => XS.istore A hx rfl (hb hby hd) rfl hl st) K
theorem Wp.lloadN {i : Fin 4} {x : Int64} (hd : decode bytes pc = .ok (.lload_n i, 1)) (hp : pc + 1 = pc') (hl : Ls[i.val]? = some (.val (.long x))) (K : Wp wd l Z a0 EL R y bytes maxL ret hs ws Q h F k n pc' Ls (.long x :: S)) : Wp wd l Z a0 EL R y bytes maxL ret hs ws Q h F k n pc Ls S := by
  subst hp; exact Wp.lift (fun p e m below c T t A hx hby st => XS.lloadN A hx rfl (hb hby hd) hl st) K
theorem Wp.lload {i : Nat} {x : Int64} (hd : decode bytes pc = .ok (.lload i, 2)) (hp : pc + 2 = pc') (hl : Ls[i]? = some (.val (.long x))) (K : Wp wd l Z a0 EL R y bytes maxL ret hs ws Q h F k n pc' Ls (.long x :: S)) : Wp wd l Z a0 EL R y bytes maxL ret hs ws Q h F k n pc Ls S := by
  subst hp; exact Wp.lift (fun p e m below c T t A hx hby st => XS.lload A hx rfl (hb hby hd) hl st) K
theorem Wp.lstoreN {i : Fin 4} {x : Int64} {l' : Array Slot} (hd : decode bytes pc = .ok (.lstore_n i, 1)) (hp : pc + 1 = pc') (hl : storeLocals Ls i.val (.long x) = some l') (K : Wp wd l Z a0 EL R y bytes maxL ret hs ws Q h F k n pc' l' S) : Wp wd l Z a0 EL R y bytes maxL ret hs ws Q h F k n pc Ls (.long x :: S) := by
  subst hp; exact Wp.lift (fun p e m below c T t A hx hby st => XS.lstoreN A hx rfl (hb hby hd) rfl hl st) K
theorem Wp.lstore {i : Nat} {x : Int64} {l' : Array Slot} (hd : decode bytes pc = .ok (.lstore i, 2)) (hp : pc + 2 = pc') (hl : storeLocals Ls i (.long x) = some l') (K : Wp wd l Z a0 EL R y bytes maxL ret hs ws Q h F k n pc' l' S) : Wp wd l Z a0 EL R y bytes maxL ret hs ws Q h F k n pc Ls (.long x :: S) := by
  subst hp; exact Wp.lift (fun p e m below c T t A hx hby st => XS.lstore A hx rfl (hb hby hd) rfl hl st) K
theorem Wp.aloadN {i : Fin 4} {v : Value} (hd : decode bytes pc = .ok (.aload_n i, 1)) (hp : pc + 1 = pc') (hl : Ls[i.val]? = some (.val v)) (hv : v.isRef = true) (K : Wp wd l Z a0 EL R y bytes maxL ret hs ws Q h F k n pc' Ls (v :: S)) : Wp wd l Z a0 EL R y bytes maxL ret hs ws Q h F k n pc Ls S := by
  subst hp; exact Wp.lift (fun p e m below c T t A hx hby st => XS.aloadN A hx rfl (hb hby hd) hl hv st) K
theorem Wp.aload {i : Nat} {v : Value} (hd : decode bytes pc = .ok (.aload i, 2)) (hp : pc + 2 = pc') (hl : Ls[i]? = some (.val v)) (hv : v.isRef = true) (K : Wp wd l Z a0 EL R y bytes maxL ret hs ws Q h F k n pc' Ls (v :: S)) : Wp wd l Z a0 EL R y bytes maxL ret hs ws Q h F k n pc Ls S := by
  subst hp; exact Wp.lift (fun p e m below c T t A hx hby st => XS.aload A hx rfl (hb hby hd) hl hv st) K
theorem Wp.astoreN {i : Fin 4} {v : Value} {l' : Array Slot} (hd : decode bytes pc = .ok (.astore_n i, 1)) (hp : pc + 1 = pc') (hv : v.isRef = true) (hl : storeLocals Ls i.val v = some l') (K : Wp wd l Z a0 EL R y bytes maxL ret hs ws Q h F k n pc' l' S) : Wp wd l Z a0 EL R y bytes maxL ret hs ws Q h F k n pc Ls (v :: S) := by
  subst hp; exact Wp.lift (fun p e m below c T t A hx hby st => XS.astoreN A hx rfl (hb hby hd) rfl hv hl st) K
theorem Wp.astore {i : Nat} {v : Value} {l' : Array Slot} (hd : decode bytes pc = .ok (.astore i, 2)) (hp : pc + 2 = pc') (hv : v.isRef = true) (hl : storeLocals Ls i v = some l') (K : Wp wd l Z a0 EL R y bytes maxL ret hs ws Q h F k n pc' l' S) : Wp wd l Z a0 EL R y bytes maxL ret hs ws Q h F k n pc Ls (v :: S) := by
  subst hp; exact Wp.lift (fun p e m below c T t A hx hby st => XS.astore A hx rfl (hb hby hd) rfl hv hl st) K
theorem Wp.iconst {i : Int} {x : Int32} (hd : decode bytes pc = .ok (.iconst i, 1)) (hp : pc + 1 = pc') (hi : Int32.ofInt i = x) (K : Wp wd l Z a0 EL R y bytes maxL ret hs ws Q h F k n pc' Ls (.int x :: S)) : Wp wd l Z a0 EL R y bytes maxL ret hs ws Q h F k n pc Ls S := by
  subst hp; exact Wp.lift (fun p e m below c T t A hx hby st => XS.iconst A hx rfl (hb hby hd) (hi ▸ st)) K
theorem Wp.bipush {i : Int} {x : Int32} (hd : decode bytes pc = .ok (.bipush i, 2)) (hp : pc + 2 = pc') (hi : (Int8.ofInt i).toInt32 = x) (K : Wp wd l Z a0 EL R y bytes maxL ret hs ws Q h F k n pc' Ls (.int x :: S)) : Wp wd l Z a0 EL R y bytes maxL ret hs ws Q h F k n pc Ls S := by
  subst hp; exact Wp.lift (fun p e m below c T t A hx hby st => XS.bipush A hx rfl (hb hby hd) (hi ▸ st)) K
theorem Wp.sipush {i : Int} {x : Int32} (hd : decode bytes pc = .ok (.sipush i, 3)) (hp : pc + 3 = pc') (hi : (Int16.ofInt i).toInt32 = x) (K : Wp wd l Z a0 EL R y bytes maxL ret hs ws Q h F k n pc' Ls (.int x :: S)) : Wp wd l Z a0 EL R y bytes maxL ret hs ws Q h F k n pc Ls S := by
  subst hp; exact Wp.lift (fun p e m below c T t A hx hby st => XS.sipush A hx rfl (hb hby hd) (hi ▸ st)) K
theorem Wp.lconst {i : Fin 2} {x : Int64} (hd : decode bytes pc = .ok (.lconst i, 1)) (hp : pc + 1 = pc') (hi : Int64.ofNat i = x) (K : Wp wd l Z a0 EL R y bytes maxL ret hs ws Q h F k n pc' Ls (.long x :: S)) : Wp wd l Z a0 EL R y bytes maxL ret hs ws Q h F k n pc Ls S := by
  subst hp; exact Wp.lift (fun p e m below c T t A hx hby st => XS.lconst A hx rfl (hb hby hd) (hi ▸ st)) K
theorem Wp.aconstNull  (hd : decode bytes pc = .ok (.aconst_null, 1)) (hp : pc + 1 = pc') (K : Wp wd l Z a0 EL R y bytes maxL ret hs ws Q h F k n pc' Ls (.null :: S)) : Wp wd l Z a0 EL R y bytes maxL ret hs ws Q h F k n pc Ls S := by
  subst hp; exact Wp.lift (fun p e m below c T t A hx hby st => XS.aconstNull A hx rfl (hb hby hd) st) K
theorem Wp.iadd {x z : Int32} (hd : decode bytes pc = .ok (.iadd, 1)) (hp : pc + 1 = pc') (K : Wp wd l Z a0 EL R y bytes maxL ret hs ws Q h F k n pc' Ls (.int (x + z) :: S)) : Wp wd l Z a0 EL R y bytes maxL ret hs ws Q h F k n pc Ls (.int z :: .int x :: S) := by
  subst hp; exact Wp.lift (fun p e m below c T t A hx hby st => XS.iadd A hx rfl (hb hby hd) rfl st) K
theorem Wp.ladd {x z : Int64} (hd : decode bytes pc = .ok (.ladd, 1)) (hp : pc + 1 = pc') (K : Wp wd l Z a0 EL R y bytes maxL ret hs ws Q h F k n pc' Ls (.long (x + z) :: S)) : Wp wd l Z a0 EL R y bytes maxL ret hs ws Q h F k n pc Ls (.long z :: .long x :: S) := by
  subst hp; exact Wp.lift (fun p e m below c T t A hx hby st => XS.ladd A hx rfl (hb hby hd) rfl st) K
theorem Wp.isub {x z : Int32} (hd : decode bytes pc = .ok (.isub, 1)) (hp : pc + 1 = pc') (K : Wp wd l Z a0 EL R y bytes maxL ret hs ws Q h F k n pc' Ls (.int (x - z) :: S)) : Wp wd l Z a0 EL R y bytes maxL ret hs ws Q h F k n pc Ls (.int z :: .int x :: S) := by
  subst hp; exact Wp.lift (fun p e m below c T t A hx hby st => XS.isub A hx rfl (hb hby hd) rfl st) K
theorem Wp.lsub {x z : Int64} (hd : decode bytes pc = .ok (.lsub, 1)) (hp : pc + 1 = pc') (K : Wp wd l Z a0 EL R y bytes maxL ret hs ws Q h F k n pc' Ls (.long (x - z) :: S)) : Wp wd l Z a0 EL R y bytes maxL ret hs ws Q h F k n pc Ls (.long z :: .long x :: S) := by
  subst hp; exact Wp.lift (fun p e m below c T t A hx hby st => XS.lsub A hx rfl (hb hby hd) rfl st) K
theorem Wp.imul {x z : Int32} (hd : decode bytes pc = .ok (.imul, 1)) (hp : pc + 1 = pc') (K : Wp wd l Z a0 EL R y bytes maxL ret hs ws Q h F k n pc' Ls (.int (x * z) :: S)) : Wp wd l Z a0 EL R y bytes maxL ret hs ws Q h F k n pc Ls (.int z :: .int x :: S) := by
  subst hp; exact Wp.lift (fun p e m below c T t A hx hby st => XS.imul A hx rfl (hb hby hd) rfl st) K
theorem Wp.lmul {x z : Int64} (hd : decode bytes pc = .ok (.lmul, 1)) (hp : pc + 1 = pc') (K : Wp wd l Z a0 EL R y bytes maxL ret hs ws Q h F k n pc' Ls (.long (x * z) :: S)) : Wp wd l Z a0 EL R y bytes maxL ret hs ws Q h F k n pc Ls (.long z :: .long x :: S) := by
  subst hp; exact Wp.lift (fun p e m below c T t A hx hby st => XS.lmul A hx rfl (hb hby hd) rfl st) K
theorem Wp.iand {x z : Int32} (hd : decode bytes pc = .ok (.iand, 1)) (hp : pc + 1 = pc') (K : Wp wd l Z a0 EL R y bytes maxL ret hs ws Q h F k n pc' Ls (.int (x &&& z) :: S)) : Wp wd l Z a0 EL R y bytes maxL ret hs ws Q h F k n pc Ls (.int z :: .int x :: S) := by
  subst hp; exact Wp.lift (fun p e m below c T t A hx hby st => XS.iand A hx rfl (hb hby hd) rfl st) K
theorem Wp.land {x z : Int64} (hd : decode bytes pc = .ok (.land, 1)) (hp : pc + 1 = pc') (K : Wp wd l Z a0 EL R y bytes maxL ret hs ws Q h F k n pc' Ls (.long (x &&& z) :: S)) : Wp wd l Z a0 EL R y bytes maxL ret hs ws Q h F k n pc Ls (.long z :: .long x :: S) := by
  subst hp; exact Wp.lift (fun p e m below c T t A hx hby st => XS.land A hx rfl (hb hby hd) rfl st) K
theorem Wp.ior {x z : Int32} (hd : decode bytes pc = .ok (.ior, 1)) (hp : pc + 1 = pc') (K : Wp wd l Z a0 EL R y bytes maxL ret hs ws Q h F k n pc' Ls (.int (x ||| z) :: S)) : Wp wd l Z a0 EL R y bytes maxL ret hs ws Q h F k n pc Ls (.int z :: .int x :: S) := by
  subst hp; exact Wp.lift (fun p e m below c T t A hx hby st => XS.ior A hx rfl (hb hby hd) rfl st) K
theorem Wp.lor {x z : Int64} (hd : decode bytes pc = .ok (.lor, 1)) (hp : pc + 1 = pc') (K : Wp wd l Z a0 EL R y bytes maxL ret hs ws Q h F k n pc' Ls (.long (x ||| z) :: S)) : Wp wd l Z a0 EL R y bytes maxL ret hs ws Q h F k n pc Ls (.long z :: .long x :: S) := by
  subst hp; exact Wp.lift (fun p e m below c T t A hx hby st => XS.lor A hx rfl (hb hby hd) rfl st) K
theorem Wp.ixor {x z : Int32} (hd : decode bytes pc = .ok (.ixor, 1)) (hp : pc + 1 = pc') (K : Wp wd l Z a0 EL R y bytes maxL ret hs ws Q h F k n pc' Ls (.int (x ^^^ z) :: S)) : Wp wd l Z a0 EL R y bytes maxL ret hs ws Q h F k n pc Ls (.int z :: .int x :: S) := by
  subst hp; exact Wp.lift (fun p e m below c T t A hx hby st => XS.ixor A hx rfl (hb hby hd) rfl st) K
theorem Wp.lxor {x z : Int64} (hd : decode bytes pc = .ok (.lxor, 1)) (hp : pc + 1 = pc') (K : Wp wd l Z a0 EL R y bytes maxL ret hs ws Q h F k n pc' Ls (.long (x ^^^ z) :: S)) : Wp wd l Z a0 EL R y bytes maxL ret hs ws Q h F k n pc Ls (.long z :: .long x :: S) := by
  subst hp; exact Wp.lift (fun p e m below c T t A hx hby st => XS.lxor A hx rfl (hb hby hd) rfl st) K
theorem Wp.ineg {x : Int32} (hd : decode bytes pc = .ok (.ineg, 1)) (hp : pc + 1 = pc') (K : Wp wd l Z a0 EL R y bytes maxL ret hs ws Q h F k n pc' Ls (.int (-x) :: S)) : Wp wd l Z a0 EL R y bytes maxL ret hs ws Q h F k n pc Ls (.int x :: S) := by
  subst hp; exact Wp.lift (fun p e m below c T t A hx hby st => XS.ineg A hx rfl (hb hby hd) rfl st) K
theorem Wp.i2l {x : Int32} (hd : decode bytes pc = .ok (.i2l, 1)) (hp : pc + 1 = pc') (K : Wp wd l Z a0 EL R y bytes maxL ret hs ws Q h F k n pc' Ls (.long (x.toInt64) :: S)) : Wp wd l Z a0 EL R y bytes maxL ret hs ws Q h F k n pc Ls (.int x :: S) := by
  subst hp; exact Wp.lift (fun p e m below c T t A hx hby st => XS.i2l A hx rfl (hb hby hd) rfl st) K
theorem Wp.l2i {x : Int64} (hd : decode bytes pc = .ok (.l2i, 1)) (hp : pc + 1 = pc') (K : Wp wd l Z a0 EL R y bytes maxL ret hs ws Q h F k n pc' Ls (.int (x.toInt32) :: S)) : Wp wd l Z a0 EL R y bytes maxL ret hs ws Q h F k n pc Ls (.long x :: S) := by
  subst hp; exact Wp.lift (fun p e m below c T t A hx hby st => XS.l2i A hx rfl (hb hby hd) rfl st) K
theorem Wp.i2b {x : Int32} (hd : decode bytes pc = .ok (.i2b, 1)) (hp : pc + 1 = pc') (K : Wp wd l Z a0 EL R y bytes maxL ret hs ws Q h F k n pc' Ls (.int (x.toInt8.toInt32) :: S)) : Wp wd l Z a0 EL R y bytes maxL ret hs ws Q h F k n pc Ls (.int x :: S) := by
  subst hp; exact Wp.lift (fun p e m below c T t A hx hby st => XS.i2b A hx rfl (hb hby hd) rfl st) K
theorem Wp.i2s {x : Int32} (hd : decode bytes pc = .ok (.i2s, 1)) (hp : pc + 1 = pc') (K : Wp wd l Z a0 EL R y bytes maxL ret hs ws Q h F k n pc' Ls (.int (x.toInt16.toInt32) :: S)) : Wp wd l Z a0 EL R y bytes maxL ret hs ws Q h F k n pc Ls (.int x :: S) := by
  subst hp; exact Wp.lift (fun p e m below c T t A hx hby st => XS.i2s A hx rfl (hb hby hd) rfl st) K
theorem Wp.i2c {x : Int32} (hd : decode bytes pc = .ok (.i2c, 1)) (hp : pc + 1 = pc') (K : Wp wd l Z a0 EL R y bytes maxL ret hs ws Q h F k n pc' Ls (.int (x.toUInt32.toUInt16.toUInt32.toInt32) :: S)) : Wp wd l Z a0 EL R y bytes maxL ret hs ws Q h F k n pc Ls (.int x :: S) := by
  subst hp; exact Wp.lift (fun p e m below c T t A hx hby st => XS.i2c A hx rfl (hb hby hd) rfl st) K
theorem Wp.ishl {x : Int32} {z : Int32} (hd : decode bytes pc = .ok (.ishl, 1)) (hp : pc + 1 = pc') (K : Wp wd l Z a0 EL R y bytes maxL ret hs ws Q h F k n pc' Ls (.int (x <<< (z &&& 31)) :: S)) : Wp wd l Z a0 EL R y bytes maxL ret hs ws Q h F k n pc Ls (.int z :: .int x :: S) := by
  subst hp; exact Wp.lift (fun p e m below c T t A hx hby st => XS.ishl A hx rfl (hb hby hd) rfl st) K
theorem Wp.ishr {x : Int32} {z : Int32} (hd : decode bytes pc = .ok (.ishr, 1)) (hp : pc + 1 = pc') (K : Wp wd l Z a0 EL R y bytes maxL ret hs ws Q h F k n pc' Ls (.int (x >>> (z &&& 31)) :: S)) : Wp wd l Z a0 EL R y bytes maxL ret hs ws Q h F k n pc Ls (.int z :: .int x :: S) := by
  subst hp; exact Wp.lift (fun p e m below c T t A hx hby st => XS.ishr A hx rfl (hb hby hd) rfl st) K
theorem Wp.iushr {x : Int32} {z : Int32} (hd : decode bytes pc = .ok (.iushr, 1)) (hp : pc + 1 = pc') (K : Wp wd l Z a0 EL R y bytes maxL ret hs ws Q h F k n pc' Ls (.int ((x.toUInt32 >>> (z &&& 31).toUInt32).toInt32) :: S)) : Wp wd l Z a0 EL R y bytes maxL ret hs ws Q h F k n pc Ls (.int z :: .int x :: S) := by
  subst hp; exact Wp.lift (fun p e m below c T t A hx hby st => XS.iushr A hx rfl (hb hby hd) rfl st) K
theorem Wp.lshl {x : Int64} {z : Int32} (hd : decode bytes pc = .ok (.lshl, 1)) (hp : pc + 1 = pc') (K : Wp wd l Z a0 EL R y bytes maxL ret hs ws Q h F k n pc' Ls (.long (x <<< (z &&& 0x3f).toInt64) :: S)) : Wp wd l Z a0 EL R y bytes maxL ret hs ws Q h F k n pc Ls (.int z :: .long x :: S) := by
  subst hp; exact Wp.lift (fun p e m below c T t A hx hby st => XS.lshl A hx rfl (hb hby hd) rfl st) K
theorem Wp.lshr {x : Int64} {z : Int32} (hd : decode bytes pc = .ok (.lshr, 1)) (hp : pc + 1 = pc') (K : Wp wd l Z a0 EL R y bytes maxL ret hs ws Q h F k n pc' Ls (.long (x >>> (z &&& 0x3f).toInt64) :: S)) : Wp wd l Z a0 EL R y bytes maxL ret hs ws Q h F k n pc Ls (.int z :: .long x :: S) := by
  subst hp; exact Wp.lift (fun p e m below c T t A hx hby st => XS.lshr A hx rfl (hb hby hd) rfl st) K
theorem Wp.lushr {x : Int64} {z : Int32} (hd : decode bytes pc = .ok (.lushr, 1)) (hp : pc + 1 = pc') (K : Wp wd l Z a0 EL R y bytes maxL ret hs ws Q h F k n pc' Ls (.long ((x.toUInt64 >>> (z &&& 0x3f).toInt64.toUInt64).toInt64) :: S)) : Wp wd l Z a0 EL R y bytes maxL ret hs ws Q h F k n pc Ls (.int z :: .long x :: S) := by
  subst hp; exact Wp.lift (fun p e m below c T t A hx hby st => XS.lushr A hx rfl (hb hby hd) rfl st) K
theorem Wp.lcmp {x z : Int64} (hd : decode bytes pc = .ok (.lcmp, 1)) (hp : pc + 1 = pc') (K : Wp wd l Z a0 EL R y bytes maxL ret hs ws Q h F k n pc' Ls (.int (lcmpW x z) :: S)) : Wp wd l Z a0 EL R y bytes maxL ret hs ws Q h F k n pc Ls (.long z :: .long x :: S) := by
  subst hp; exact Wp.lift (fun p e m below c T t A hx hby st => XS.lcmp A hx rfl (hb hby hd) rfl st) K
theorem Wp.idiv {x z : Int32} (hd : decode bytes pc = .ok (.idiv, 1)) (hp : pc + 1 = pc') (hz : z ≠ 0) (K : Wp wd l Z a0 EL R y bytes maxL ret hs ws Q h F k n pc' Ls (.int (x / z) :: S)) : Wp wd l Z a0 EL R y bytes maxL ret hs ws Q h F k n pc Ls (.int z :: .int x :: S) := by
  subst hp; exact Wp.lift (fun p e m below c T t A hx hby st => XS.idiv A hx rfl (hb hby hd) rfl hz st) K
theorem Wp.irem {x z : Int32} (hd : decode bytes pc = .ok (.irem, 1)) (hp : pc + 1 = pc') (hz : z ≠ 0) (K : Wp wd l Z a0 EL R y bytes maxL ret hs ws Q h F k n pc' Ls (.int (x % z) :: S)) : Wp wd l Z a0 EL R y bytes maxL ret hs ws Q h F k n pc Ls (.int z :: .int x :: S) := by
  subst hp; exact Wp.lift (fun p e m below c T t A hx hby st => XS.irem A hx rfl (hb hby hd) rfl hz (by rw [irem_eq_mod]; exact st)) K
theorem Wp.ldiv {x z : Int64} (hd : decode bytes pc = .ok (.ldiv, 1)) (hp : pc + 1 = pc') (hz : z ≠ 0) (K : Wp wd l Z a0 EL R y bytes maxL ret hs ws Q h F k n pc' Ls (.long (x / z) :: S)) : Wp wd l Z a0 EL R y bytes maxL ret hs ws Q h F k n pc Ls (.long z :: .long x :: S) := by
  subst hp; exact Wp.lift (fun p e m below c T t A hx hby st => XS.ldiv A hx rfl (hb hby hd) rfl hz st) K
theorem Wp.lrem {x z : Int64} (hd : decode bytes pc = .ok (.lrem, 1)) (hp : pc + 1 = pc') (hz : z ≠ 0) (K : Wp wd l Z a0 EL R y bytes maxL ret hs ws Q h F k n pc' Ls (.long (x - (x / z) * z) :: S)) : Wp wd l Z a0 EL R y bytes maxL ret hs ws Q h F k n pc Ls (.long z :: .long x :: S) := by
  subst hp; exact Wp.lift (fun p e m below c T t A hx hby st => XS.lrem A hx rfl (hb hby hd) rfl hz st) K
theorem Wp.dup {v : Value} (hd : decode bytes pc = .ok (.dup, 1)) (hp : pc + 1 = pc') (hc : v.category = 1) (K : Wp wd l Z a0 EL R y bytes maxL ret hs ws Q h F k n pc' Ls (v :: v :: S)) : Wp wd l Z a0 EL R y bytes maxL ret hs ws Q h F k n pc Ls (v :: S) := by
  subst hp; exact Wp.lift (fun p e m below c T t A hx hby st => XS.dup A hx rfl (hb hby hd) rfl hc st) K
theorem Wp.pop {v : Value} (hd : decode bytes pc = .ok (.pop, 1)) (hp : pc + 1 = pc') (hc : v.category = 1) (K : Wp wd l Z a0 EL R y bytes maxL ret hs ws Q h F k n pc' Ls S) : Wp wd l Z a0 EL R y bytes maxL ret hs ws Q h F k n pc Ls (v :: S) := by
  subst hp; exact Wp.lift (fun p e m below c T t A hx hby st => XS.pop A hx rfl (hb hby hd) rfl hc st) K
theorem Wp.dupX1 {v w : Value} (hd : decode bytes pc = .ok (.dup_x1, 1)) (hp : pc + 1 = pc') (hc : v.category = 1) (hc' : w.category = 1) (K : Wp wd l Z a0 EL R y bytes maxL ret hs ws Q h F k n pc' Ls (v :: w :: v :: S)) : Wp wd l Z a0 EL R y bytes maxL ret hs ws Q h F k n pc Ls (v :: w :: S) := by
  subst hp; exact Wp.lift (fun p e m below c T t A hx hby st => XS.dupX1 A hx rfl (hb hby hd) rfl hc hc' st) K
theorem Wp.dup2 {v w : Value} (hd : decode bytes pc = .ok (.dup2, 1)) (hp : pc + 1 = pc') (hc : v.category = 1) (hc' : w.category = 1) (K : Wp wd l Z a0 EL R y bytes maxL ret hs ws Q h F k n pc' Ls (v :: w :: v :: w :: S)) : Wp wd l Z a0 EL R y bytes maxL ret hs ws Q h F k n pc Ls (v :: w :: S) := by
  subst hp; exact Wp.lift (fun p e m below c T t A hx hby st => XT.dup2 A hx rfl (hb hby hd) rfl hc hc' st) K
theorem Wp.iinc {i : Nat} {q : Int} {x : Int32} {l' : Array Slot} (hd : decode bytes pc = .ok (.iinc i q, 3)) (hp : pc + 3 = pc') (hl : Ls[i]? = some (.val (.int x))) (hs' : storeLocals Ls i (.int (x + Int32.ofInt q)) = some l') (K : Wp wd l Z a0 EL R y bytes maxL ret hs ws Q h F k n pc' l' S) : Wp wd l Z a0 EL R y bytes maxL ret hs ws Q h F k n pc Ls S := by
  subst hp; exact Wp.lift (fun p e m below c T t A hx hby st => XS.iinc A hx rfl (hb hby hd) hl hs' st) K
theorem Wp.goto {q : Int} (hd : decode bytes pc = .ok (.goto q, 3)) (h0 : 0 ≤ (pc : Int) + q) (hp : ((pc : Int) + q).toNat = pc') (K : Wp wd l Z a0 EL R y bytes maxL ret hs ws Q h F k n pc' Ls S) : Wp wd l Z a0 EL R y bytes maxL ret hs ws Q h F k n pc Ls S :=
  Wp.lift (fun p e m below c T t A hx hby st => XS.goto A hx rfl rfl (hb hby hd) h0 hp st) K
theorem Wp.tswOut {dflt low high : Int} {offs : Array Int} {len : Nat} {x : Int32} (hd : decode bytes pc = .ok (.tableswitch dflt low high offs, len)) (hout : x.toInt < low ∨ x.toInt > high) (h0 : 0 ≤ (pc : Int) + dflt) (hp : ((pc : Int) + dflt).toNat = pc') (K : Wp wd l Z a0 EL R y bytes maxL ret hs ws Q h F k n pc' Ls S) : Wp wd l Z a0 EL R y bytes maxL ret hs ws Q h F k n pc Ls (.int x :: S) :=
  Wp.lift (fun p e m below c T t A hx hby st => XS.tswOut A hx rfl rfl (hb hby hd) rfl hout h0 hp st) K
theorem Wp.tswIn {dflt low high q : Int} {offs : Array Int} {len : Nat} {x : Int32} (hd : decode bytes pc = .ok (.tableswitch dflt low high offs, len)) (hin : ¬ (x.toInt < low ∨ x.toInt > high)) (hoff : offs[(x.toInt - low).toNat]? = some q) (h0 : 0 ≤ (pc : Int) + q) (hp : ((pc : Int) + q).toNat = pc') (K : Wp wd l Z a0 EL R y bytes maxL ret hs ws Q h F k n pc' Ls S) : Wp wd l Z a0 EL R y bytes maxL ret hs ws Q h F k n pc Ls (.int x :: S) :=
  Wp.lift (fun p e m below c T t A hx hby st => XS.tswIn A hx rfl rfl (hb hby hd) rfl hin hoff h0 hp st) K
theorem Wp.icmp_lt {x z : Int32} {q : Int} (hd : decode bytes pc = .ok (.if_icmp .lt q, 3)) (h0 : 0 ≤ (pc : Int) + q) (h1 : ((pc : Int) + q).toNat = pc1) (hp : pc + 3 = pc') (K1 : x < z → Wp wd l Z a0 EL R y bytes maxL ret hs ws Q h F k n pc1 Ls S) (K2 : ¬ (x < z) → Wp wd l Z a0 EL R y bytes maxL ret hs ws Q h F k n pc' Ls S) : Wp wd l Z a0 EL R y bytes maxL ret hs ws Q h F k n pc Ls (.int z :: .int x :: S) := by
  subst hp
  exact (Classical.em (x < z)).elim (fun hc => Wp.lift (fun p e m below c T t A hx hby st => XS.icmpYes A hx rfl rfl (hb hby hd) rfl (tlt hc).1 h0 h1 st) (K1 hc)) (fun hc => Wp.lift (fun p e m below c T t A hx hby st => XS.icmpNo A hx rfl (hb hby hd) rfl (flt hc).1 st) (K2 hc))
theorem Wp.if_lt {x : Int32} {q : Int} (hd : decode bytes pc = .ok (.ifCond .lt q, 3)) (h0 : 0 ≤ (pc : Int) + q) (h1 : ((pc : Int) + q).toNat = pc1) (hp : pc + 3 = pc') (K1 : x < (0 : Int32) → Wp wd l Z a0 EL R y bytes maxL ret hs ws Q h F k n pc1 Ls S) (K2 : ¬ (x < (0 : Int32)) → Wp wd l Z a0 EL R y bytes maxL ret hs ws Q h F k n pc' Ls S) : Wp wd l Z a0 EL R y bytes maxL ret hs ws Q h F k n pc Ls (.int x :: S) := by
  subst hp
  exact (Classical.em (x < (0 : Int32))).elim (fun hc => Wp.lift (fun p e m below c T t A hx hby st => XS.ifYes A hx rfl rfl (hb hby hd) rfl ((if0 _ _).trans (tlt hc).1) h0 h1 st) (K1 hc)) (fun hc => Wp.lift (fun p e m below c T t A hx hby st => XS.ifNo A hx rfl (hb hby hd) rfl ((if0 _ _).trans (flt hc).1) st) (K2 hc))
theorem Wp.icmp_ge {x z : Int32} {q : Int} (hd : decode bytes pc = .ok (.if_icmp .ge q, 3)) (h0 : 0 ≤ (pc : Int) + q) (h1 : ((pc : Int) + q).toNat = pc1) (hp : pc + 3 = pc') (K1 : ¬ (x < z) → Wp wd l Z a0 EL R y bytes maxL ret hs ws Q h F k n pc1 Ls S) (K2 : x < z → Wp wd l Z a0 EL R y bytes maxL ret hs ws Q h F k n pc' Ls S) : Wp wd l Z a0 EL R y bytes maxL ret hs ws Q h F k n pc Ls (.int z :: .int x :: S) := by
  subst hp
  exact (Classical.em (x < z)).elim (fun hc => Wp.lift (fun p e m below c T t A hx hby st => XS.icmpNo A hx rfl (hb hby hd) rfl (tlt hc).2.1 st) (K2 hc)) (fun hc => Wp.lift (fun p e m below c T t A hx hby st => XS.icmpYes A hx rfl rfl (hb hby hd) rfl (flt hc).2.1 h0 h1 st) (K1 hc))
theorem Wp.if_ge {x : Int32} {q : Int} (hd : decode bytes pc = .ok (.ifCond .ge q, 3)) (h0 : 0 ≤ (pc : Int) + q) (h1 : ((pc : Int) + q).toNat = pc1) (hp : pc + 3 = pc') (K1 : ¬ (x < (0 : Int32)) → Wp wd l Z a0 EL R y bytes maxL ret hs ws Q h F k n pc1 Ls S) (K2 : x < (0 : Int32) → Wp wd l Z a0 EL R y bytes maxL ret hs ws Q h F k n pc' Ls S) : Wp wd l Z a0 EL R y bytes maxL ret hs ws Q h F k n pc Ls (.int x :: S) := by
  subst hp
  exact (Classical.em (x < (0 : Int32))).elim (fun hc => Wp.lift (fun p e m below c T t A hx hby st => XS.ifNo A hx rfl (hb hby hd) rfl ((if0 _ _).trans (tlt hc).2.1) st) (K2 hc)) (fun hc => Wp.lift (fun p e m below c T t A hx hby st => XS.ifYes A hx rfl rfl (hb hby hd) rfl ((if0 _ _).trans (flt hc).2.1) h0 h1 st) (K1 hc))
theorem Wp.icmp_gt {x z : Int32} {q : Int} (hd : decode bytes pc = .ok (.if_icmp .gt q, 3)) (h0 : 0 ≤ (pc : Int) + q) (h1 : ((pc : Int) + q).toNat = pc1) (hp : pc + 3 = pc') (K1 : z < x → Wp wd l Z a0 EL R y bytes maxL ret hs ws Q h F k n pc1 Ls S) (K2 : ¬ (z < x) → Wp wd l Z a0 EL R y bytes maxL ret hs ws Q h F k n pc' Ls S) : Wp wd l Z a0 EL R y bytes maxL ret hs ws Q h F k n pc Ls (.int z :: .int x :: S) := by
  subst hp
  exact (Classical.em (z < x)).elim (fun hc => Wp.lift (fun p e m below c T t A hx hby st => XS.icmpYes A hx rfl rfl (hb hby hd) rfl (tlt hc).2.2.1 h0 h1 st) (K1 hc)) (fun hc => Wp.lift (fun p e m below c T t A hx hby st => XS.icmpNo A hx rfl (hb hby hd) rfl (flt hc).2.2.1 st) (K2 hc))
theorem Wp.if_gt {x : Int32} {q : Int} (hd : decode bytes pc = .ok (.ifCond .gt q, 3)) (h0 : 0 ≤ (pc : Int) + q) (h1 : ((pc : Int) + q).toNat = pc1) (hp : pc + 3 = pc') (K1 : (0 : Int32) < x → Wp wd l Z a0 EL R y bytes maxL ret hs ws Q h F k n pc1 Ls S) (K2 : ¬ ((0 : Int32) < x) → Wp wd l Z a0 EL R y bytes maxL ret hs ws Q h F k n pc' Ls S) : Wp wd l Z a0 EL R y bytes maxL ret hs ws Q h F k n pc Ls (.int x :: S) := by
  subst hp
  exact (Classical.em ((0 : Int32) < x)).elim (fun hc => Wp.lift (fun p e m below c T t A hx hby st => XS.ifYes A hx rfl rfl (hb hby hd) rfl ((if0 _ _).trans (tlt hc).2.2.1) h0 h1 st) (K1 hc)) (fun hc => Wp.lift (fun p e m below c T t A hx hby st => XS.ifNo A hx rfl (hb hby hd) rfl ((if0 _ _).trans (flt hc).2.2.1) st) (K2 hc))
theorem Wp.icmp_le {x z : Int32} {q : Int} (hd : decode bytes pc = .ok (.if_icmp .le q, 3)) (h0 : 0 ≤ (pc : Int) + q) (h1 : ((pc : Int) + q).toNat = pc1) (hp : pc + 3 = pc') (K1 : ¬ (z < x) → Wp wd l Z a0 EL R y bytes maxL ret hs ws Q h F k n pc1 Ls S) (K2 : z < x → Wp wd l Z a0 EL R y bytes maxL ret hs ws Q h F k n pc' Ls S) : Wp wd l Z a0 EL R y bytes maxL ret hs ws Q h F k n pc Ls (.int z :: .int x :: S) := by
  subst hp
  exact (Classical.em (z < x)).elim (fun hc => Wp.lift (fun p e m below c T t A hx hby st => XS.icmpNo A hx rfl (hb hby hd) rfl (tlt hc).2.2.2 st) (K2 hc)) (fun hc => Wp.lift (fun p e m below c T t A hx hby st => XS.icmpYes A hx rfl rfl (hb hby hd) rfl (flt hc).2.2.2 h0 h1 st) (K1 hc))
theorem Wp.if_le {x : Int32} {q : Int} (hd : decode bytes pc = .ok (.ifCond .le q, 3)) (h0 : 0 ≤ (pc : Int) + q) (h1 : ((pc : Int) + q).toNat = pc1) (hp : pc + 3 = pc') (K1 : ¬ ((0 : Int32) < x) → Wp wd l Z a0 EL R y bytes maxL ret hs ws Q h F k n pc1 Ls S) (K2 : (0 : Int32) < x → Wp wd l Z a0 EL R y bytes maxL ret hs ws Q h F k n pc' Ls S) : Wp wd l Z a0 EL R y bytes maxL ret hs ws Q h F k n pc Ls (.int x :: S) := by
  subst hp
  exact (Classical.em ((0 : Int32) < x)).elim (fun hc => Wp.lift (fun p e m below c T t A hx hby st => XS.ifNo A hx rfl (hb hby hd) rfl ((if0 _ _).trans (tlt hc).2.2.2) st) (K2 hc)) (fun hc => Wp.lift (fun p e m below c T t A hx hby st => XS.ifYes A hx rfl rfl (hb hby hd) rfl ((if0 _ _).trans (flt hc).2.2.2) h0 h1 st) (K1 hc))
theorem Wp.icmp_eq {x z : Int32} {q : Int} (hd : decode bytes pc = .ok (.if_icmp .eq q, 3)) (h0 : 0 ≤ (pc : Int) + q) (h1 : ((pc : Int) + q).toNat = pc1) (hp : pc + 3 = pc') (K1 : x = z → Wp wd l Z a0 EL R y bytes maxL ret hs ws Q h F k n pc1 Ls S) (K2 : ¬ (x = z) → Wp wd l Z a0 EL R y bytes maxL ret hs ws Q h F k n pc' Ls S) : Wp wd l Z a0 EL R y bytes maxL ret hs ws Q h F k n pc Ls (.int z :: .int x :: S) := by
  subst hp
  exact (Classical.em (x = z)).elim (fun hc => Wp.lift (fun p e m below c T t A hx hby st => XS.icmpYes A hx rfl rfl (hb hby hd) rfl (teq hc).1 h0 h1 st) (K1 hc)) (fun hc => Wp.lift (fun p e m below c T t A hx hby st => XS.icmpNo A hx rfl (hb hby hd) rfl (feq hc).1 st) (K2 hc))
theorem Wp.if_eq {x : Int32} {q : Int} (hd : decode bytes pc = .ok (.ifCond .eq q, 3)) (h0 : 0 ≤ (pc : Int) + q) (h1 : ((pc : Int) + q).toNat = pc1) (hp : pc + 3 = pc') (K1 : x = (0 : Int32) → Wp wd l Z a0 EL R y bytes maxL ret hs ws Q h F k n pc1 Ls S) (K2 : ¬ (x = (0 : Int32)) → Wp wd l Z a0 EL R y bytes maxL ret hs ws Q h F k n pc' Ls S) : Wp wd l Z a0 EL R y bytes maxL ret hs ws Q h F k n pc Ls (.int x :: S) := by
  subst hp
  exact (Classical.em (x = (0 : Int32))).elim (fun hc => Wp.lift (fun p e m below c T t A hx hby st => XS.ifYes A hx rfl rfl (hb hby hd) rfl ((if0 _ _).trans (teq hc).1) h0 h1 st) (K1 hc)) (fun hc => Wp.lift (fun p e m below c T t A hx hby st => XS.ifNo A hx rfl (hb hby hd) rfl ((if0 _ _).trans (feq hc).1) st) (K2 hc))
theorem Wp.icmp_ne {x z : Int32} {q : Int} (hd : decode bytes pc = .ok (.if_icmp .ne q, 3)) (h0 : 0 ≤ (pc : Int) + q) (h1 : ((pc : Int) + q).toNat = pc1) (hp : pc + 3 = pc') (K1 : ¬ (x = z) → Wp wd l Z a0 EL R y bytes maxL ret hs ws Q h F k n pc1 Ls S) (K2 : x = z → Wp wd l Z a0 EL R y bytes maxL ret hs ws Q h F k n pc' Ls S) : Wp wd l Z a0 EL R y bytes maxL ret hs ws Q h F k n pc Ls (.int z :: .int x :: S) := by
  subst hp
  exact (Classical.em (x = z)).elim (fun hc => Wp.lift (fun p e m below c T t A hx hby st => XS.icmpNo A hx rfl (hb hby hd) rfl (teq hc).2 st) (K2 hc)) (fun hc => Wp.lift (fun p e m below c T t A hx hby st => XS.icmpYes A hx rfl rfl (hb hby hd) rfl (feq hc).2 h0 h1 st) (K1 hc))
theorem Wp.if_ne {x : Int32} {q : Int} (hd : decode bytes pc = .ok (.ifCond .ne q, 3)) (h0 : 0 ≤ (pc : Int) + q) (h1 : ((pc : Int) + q).toNat = pc1) (hp : pc + 3 = pc') (K1 : ¬ (x = (0 : Int32)) → Wp wd l Z a0 EL R y bytes maxL ret hs ws Q h F k n pc1 Ls S) (K2 : x = (0 : Int32) → Wp wd l Z a0 EL R y bytes maxL ret hs ws Q h F k n pc' Ls S) : Wp wd l Z a0 EL R y bytes maxL ret hs ws Q h F k n pc Ls (.int x :: S) := by
  subst hp
  exact (Classical.em (x = (0 : Int32))).elim (fun hc => Wp.lift (fun p e m below c T t A hx hby st => XS.ifNo A hx rfl (hb hby hd) rfl ((if0 _ _).trans (teq hc).2) st) (K2 hc)) (fun hc => Wp.lift (fun p e m below c T t A hx hby st => XS.ifYes A hx rfl rfl (hb hby hd) rfl ((if0 _ _).trans (feq hc).2) h0 h1 st) (K1 hc))
theorem Wp.ifnullYes {q : Int} (hd : decode bytes pc = .ok (.ifnull q, 3)) (h0 : 0 ≤ (pc : Int) + q) (h1 : ((pc : Int) + q).toNat = pc') (K : Wp wd l Z a0 EL R y bytes maxL ret hs ws Q h F k n pc' Ls S) : Wp wd l Z a0 EL R y bytes maxL ret hs ws Q h F k n pc Ls (.null :: S) :=
  Wp.lift (fun p e m below c T t A hx hby st => XS.ifnullYes A hx rfl rfl (hb hby hd) rfl h0 h1 st) K
theorem Wp.ifnullNo {q : Int} (hd : decode bytes pc = .ok (.ifnull q, 3)) (hp : pc + 3 = pc') (K : Wp wd l Z a0 EL R y bytes maxL ret hs ws Q h F k n pc' Ls S) : Wp wd l Z a0 EL R y bytes maxL ret hs ws Q h F k n pc Ls ((.ref a) :: S) := by
  subst hp; exact Wp.lift (fun p e m below c T t A hx hby st => XS.ifnullNo A hx rfl (hb hby hd) rfl st) K
theorem Wp.ifnonnullYes {q : Int} (hd : decode bytes pc = .ok (.ifnonnull q, 3)) (h0 : 0 ≤ (pc : Int) + q) (h1 : ((pc : Int) + q).toNat = pc') (K : Wp wd l Z a0 EL R y bytes maxL ret hs ws Q h F k n pc' Ls S) : Wp wd l Z a0 EL R y bytes maxL ret hs ws Q h F k n pc Ls ((.ref a) :: S) :=
  Wp.lift (fun p e m below c T t A hx hby st => XS.ifnonnullYes A hx rfl rfl (hb hby hd) rfl h0 h1 st) K
theorem Wp.ifnonnullNo {q : Int} (hd : decode bytes pc = .ok (.ifnonnull q, 3)) (hp : pc + 3 = pc') (K : Wp wd l Z a0 EL R y bytes maxL ret hs ws Q h F k n pc' Ls S) : Wp wd l Z a0 EL R y bytes maxL ret hs ws Q h F k n pc Ls (.null :: S) := by
  subst hp; exact Wp.lift (fun p e m below c T t A hx hby st => XS.ifnonnullNo A hx rfl (hb hby hd) rfl st) K
theorem Wp.acmp_eq {q : Int} (hv : v.isRef = true) (hw : w.isRef = true) (hd : decode bytes pc = .ok (.if_acmp .eq q, 3)) (h0 : 0 ≤ (pc : Int) + q) (h1 : ((pc : Int) + q).toNat = pc1) (hp : pc + 3 = pc') (K1 : v = w → Wp wd l Z a0 EL R y bytes maxL ret hs ws Q h F k n pc1 Ls S) (K2 : ¬ v = w → Wp wd l Z a0 EL R y bytes maxL ret hs ws Q h F k n pc' Ls S) : Wp wd l Z a0 EL R y bytes maxL ret hs ws Q h F k n pc Ls (w :: v :: S) := by
  by_cases hc : v = w
  · exact Wp.tab (fun p e s m args below meth c T locs X hx hZ hown hby hml hsh eT hO => ⟨T, X, eT, fun t st => Jvm.RoadKit.acmp (g := mkF m pc Ls (w :: v :: S)) X hx rfl hv hw (same := true) rfl (hb hby hd) rfl (decide_eq_true hc) h0 (by simp [acV]; omega) st⟩) (K1 hc)
  · exact Wp.tab (fun p e s m args below meth c T locs X hx hZ hown hby hml hsh eT hO => ⟨T, X, eT, fun t st => Jvm.RoadKit.acmp (g := mkF m pc Ls (w :: v :: S)) X hx rfl hv hw (same := false) rfl (hb hby hd) rfl (decide_eq_false hc) h0 (by simp [acV]; omega) st⟩) (K2 hc)
theorem Wp.acmp_ne {q : Int} (hv : v.isRef = true) (hw : w.isRef = true) (hd : decode bytes pc = .ok (.if_acmp .ne q, 3)) (h0 : 0 ≤ (pc : Int) + q) (h1 : ((pc : Int) + q).toNat = pc1) (hp : pc + 3 = pc') (K1 : ¬ v = w → Wp wd l Z a0 EL R y bytes maxL ret hs ws Q h F k n pc1 Ls S) (K2 : v = w → Wp wd l Z a0 EL R y bytes maxL ret hs ws Q h F k n pc' Ls S) : Wp wd l Z a0 EL R y bytes maxL ret hs ws Q h F k n pc Ls (w :: v :: S) := by
  by_cases hc : v = w
  · exact Wp.tab (fun p e s m args below meth c T locs X hx hZ hown hby hml hsh eT hO => ⟨T, X, eT, fun t st => Jvm.RoadKit.acmp (g := mkF m pc Ls (w :: v :: S)) X hx rfl hv hw (same := true) rfl (hb hby hd) rfl (decide_eq_true hc) h0 (by simp [acV]; omega) st⟩) (K2 hc)
  · exact Wp.tab (fun p e s m args below meth c T locs X hx hZ hown hby hml hsh eT hO => ⟨T, X, eT, fun t st => Jvm.RoadKit.acmp (g := mkF m pc Ls (w :: v :: S)) X hx rfl hv hw (same := false) rfl (hb hby hd) rfl (decide_eq_false hc) h0 (by simp [acV]; omega) st⟩) (K1 hc)
theorem Wp.getF {own host : String} {index : Nat} (hown0 : y.cls = own) (lk : (Cond.fieldLink own index C nm d).before a0 Z = true ∨ (Cond.fieldLinkNest own index C nm d host).before a0 Z = true) (via : Via Z C O nm d) (Fl : Fld Z h a O nm d v) (hd : decode bytes pc = .ok (.getfield index, 3)) (hp : pc + 3 = pc') (K : Wp wd l Z a0 EL R y bytes maxL ret hs ws Q h F k n pc' Ls (v :: S)) : Wp wd l Z a0 EL R y bytes maxL ret hs ws Q h F k n pc Ls (.ref a :: S) := by
  subst hp hown0
  exact Wp.tab (fun p e s m args below meth c T locs X hx hZ hown hby hml hsh eT hO => Jvm.RoadKit.getF X hx hZ hown lk via eT Fl (g := mkF m pc Ls (.ref a :: S)) rfl rfl (hb hby hd)) K
theorem Wp.getS {own host : String} {index : Nat} (hown0 : y.cls = own) (lk : (Cond.fieldLink own index C nm d).before a0 Z = true ∨ (Cond.fieldLinkNest own index C nm d host).before a0 Z = true) (via : Via Z C O nm d) (Sv : Sta Z Z.heap O nm d v) (hd : decode bytes pc = .ok (.getstatic index, 3)) (hp : pc + 3 = pc') (K : Wp wd l Z a0 EL R y bytes maxL ret hs ws Q h F k n pc' Ls (v :: S)) : Wp wd l Z a0 EL R y bytes maxL ret hs ws Q h F k n pc Ls S := by
  subst hp hown0
  exact Wp.tab (fun p e s m args below meth c T locs X hx hZ hown hby hml hsh eT hO => Jvm.RoadKit.getS2 X hx hZ hown lk via eT (Sv.ext hO) (g := mkF m pc Ls S) rfl (hb hby hd)) K
theorem Wp.castY {own : String} {index : Nat} (hown0 : y.cls = own) (lk : (Cond.classLink own index C).before a0 Z = true) (I : Ins Z h a C true) (hd : decode bytes pc = .ok (.checkcast index, 3)) (hp : pc + 3 = pc') (K : Wp wd l Z a0 EL R y bytes maxL ret hs ws Q h F k n pc' Ls (.ref a :: S)) : Wp wd l Z a0 EL R y bytes maxL ret hs ws Q h F k n pc Ls (.ref a :: S) := by
  subst hp hown0
  exact Wp.tab (fun p e s m args below meth c T locs X hx hZ hown hby hml hsh eT hO => Jvm.RoadKit.castY X hx hZ hown lk eT I (g := mkF m pc Ls (.ref a :: S)) rfl rfl (hb hby hd)) K
theorem Wp.instY {own : String} {index : Nat} (hown0 : y.cls = own) (lk : (Cond.classLink own index C).before a0 Z = true) (I : Ins Z h a C true) (hd : decode bytes pc = .ok (.instanceof index, 3)) (hp : pc + 3 = pc') (K : Wp wd l Z a0 EL R y bytes maxL ret hs ws Q h F k n pc' Ls (.int 1 :: S)) : Wp wd l Z a0 EL R y bytes maxL ret hs ws Q h F k n pc Ls (.ref a :: S) := by
  subst hp hown0
  exact Wp.tab (fun p e s m args below meth c T locs X hx hZ hown hby hml hsh eT hO => Jvm.RoadKit.instY X hx hZ hown lk eT I (g := mkF m pc Ls (.ref a :: S)) rfl rfl (hb hby hd)) K
theorem Wp.instN {own D : String} {index : Nat} (hown0 : y.cls = own) (lk : (Cond.classLink own index C).before a0 Z = true) (I : Ins Z hs a C false) (E : Exa Z hs a D) (hd : decode bytes pc = .ok (.instanceof index, 3)) (hp : pc + 3 = pc') (K : Wp wd l Z a0 EL R y bytes maxL ret hs ws Q h F k n pc' Ls (.int 0 :: S)) : Wp wd l Z a0 EL R y bytes maxL ret hs ws Q h F k n pc Ls (.ref a :: S) := by
  subst hp hown0
  exact Wp.tab (fun p e s m args below meth c T locs X hx hZ hown hby hml hsh eT hO => Jvm.RoadKit.instN X hx hZ hown lk eT (hsh ▸ I) (hsh ▸ E) (g := mkF m pc Ls (.ref a :: S)) rfl rfl (hb hby hd)) K
theorem Wp.instNo {own D : String} {index : Nat} (hown0 : y.cls = own) (lk : (Cond.classLink own index C).before a0 Z = true) (E : Exa Z h a D) (hno : ∃ c t, Z.vm.findClass D = some c ∧ Z.vm.findClass C = some t ∧ Z.vm.assignable c t = false) (hd : decode bytes pc = .ok (.instanceof index, 3)) (hp : pc + 3 = pc') (K : Wp wd l Z a0 EL R y bytes maxL ret hs ws Q h F k n pc' Ls (.int 0 :: S)) : Wp wd l Z a0 EL R y bytes maxL ret hs ws Q h F k n pc Ls (.ref a :: S) := by
  subst hp hown0
  exact Wp.tab (fun p e s m args below meth c T locs X hx hZ hown hby hml hsh eT hO => Jvm.RoadKit.instNo X hx hZ hown lk eT E hno (g := mkF m pc Ls (.ref a :: S)) rfl rfl (hb hby hd)) K
theorem Wp.instNull {index : Nat} (hd : decode bytes pc = .ok (.instanceof index, 3)) (hp : pc + 3 = pc') (K : Wp wd l Z a0 EL R y bytes maxL ret hs ws Q h F k n pc' Ls (.int 0 :: S)) : Wp wd l Z a0 EL R y bytes maxL ret hs ws Q h F k n pc Ls (.null :: S) := by
  subst hp
  exact Wp.tab (fun p e s m args below meth c T locs X hx hZ hown hby hml hsh eT hO => ⟨T, X, eT, fun t st => X.instanceofNull hx (g := mkF m pc Ls (.null :: S)) rfl rfl (hb hby hd) t st⟩) K
theorem Wp.castNull {index : Nat} (hd : decode bytes pc = .ok (.checkcast index, 3)) (hp : pc + 3 = pc') (K : Wp wd l Z a0 EL R y bytes maxL ret hs ws Q h F k n pc' Ls (.null :: S)) : Wp wd l Z a0 EL R y bytes maxL ret hs ws Q h F k n pc Ls (.null :: S) := by
  subst hp
  exact Wp.tab (fun p e s m args below meth c T locs X hx hZ hown hby hml hsh eT hO => ⟨T, X, eT, fun t st => X.checkcastNull hx (g := mkF m pc Ls (.null :: S)) rfl rfl (hb hby hd) t st⟩) K
theorem Wp.initO {own : String} {idx : Nat} {W : Nat} (hown0 : y.cls = own) (w1 : (Cond.methodLink own idx Lib.objectInit).before a0 Z = true) (w2 : (Cond.instanceMethod Lib.objectInit).before a0 Z = true) (w3 : (Cond.code Lib.objectInit ⟨#[0xb1]⟩ 1 none).before a0 Z = true) (hd : decode bytes pc = .ok (.invokespecial idx, 3)) (hp : pc + 3 = pc') (hsz : Ls.size = maxL)
    (hf : 1 ≤ R.frames) (hW : (S.map fun v => v.category).sum ≤ W) (hl : W + 12 ≤ R.locals) (K : Wp wd l Z a0 EL R y bytes maxL ret hs ws Q h F k n pc' Ls S) : Wp wd l Z a0 EL R y bytes maxL ret hs ws Q h F k n pc Ls (.ref a :: S) := by
  subst hp hown0
  exact Wp.tab (fun p e s m args below meth c T locs X hx hZ hown hby hml hsh eT hO => Jvm.RoadKit.initO X hx hZ hown w1 w2 w3 eT (g := mkF m pc Ls (.ref a :: S)) rfl (by rw [hml]; exact hsz) rfl (hb hby hd) hf (W := W) (by show 2 * 0 + _ ≤ _; omega) hl) K
theorem Wp.ldcI {own : String} {index : Nat} {x : Int32} (hown0 : y.cls = own) (wc : (Cond.constant own index x).before a0 Z = true) (hd : decode bytes pc = .ok (.ldc index, 2)) (hp : pc + 2 = pc') (K : Wp wd l Z a0 EL R y bytes maxL ret hs ws Q h F k n pc' Ls (.int x :: S)) : Wp wd l Z a0 EL R y bytes maxL ret hs ws Q h F k n pc Ls S := by
  subst hp hown0
  exact Wp.tab (fun p e s m args below meth c T locs X hx hZ hown hby hml hsh eT hO => ⟨T, X, eT, fun t st => X.ldcInt hx hown (mvT hZ wc) (g := mkF m pc Ls S) rfl (hb hby hd) t st⟩) K
theorem Wp.ldcL {own : String} {index : Nat} {x : Int64} (hown0 : y.cls = own) (wc : (Cond.constantLong own index x).before a0 Z = true) (hd : decode bytes pc = .ok (.ldc2_w index, 3)) (hp : pc + 3 = pc') (K : Wp wd l Z a0 EL R y bytes maxL ret hs ws Q h F k n pc' Ls (.long x :: S)) : Wp wd l Z a0 EL R y bytes maxL ret hs ws Q h F k n pc Ls S := by
  subst hp hown0
  exact Wp.tab (fun p e s m args below meth c T locs X hx hZ hown hby hml hsh eT hO => ⟨T, X, eT, fun t st => X.ldc2Long hx hown (mvT hZ wc) (g := mkF m pc Ls S) rfl (hb hby hd) t st⟩) K
theorem Wp.alen {kA : ClassId} {z : Int32} {vs : List Value} {dv : Value} (V : Arv Z h a kA ty z vs dv) (hd : decode bytes pc = .ok (.arraylength, 1)) (hp : pc + 1 = pc') (K : Wp wd l Z a0 EL R y bytes maxL ret hs ws Q h F k n pc' Ls (.int z :: S)) : Wp wd l Z a0 EL R y bytes maxL ret hs ws Q h F k n pc Ls (.ref a :: S) := by
  subst hp
  obtain ⟨cl, A, -, hz1, hz2, -⟩ := V
  have e1 := len_of hz1 hz2
  exact Wp.tab (fun p e s m args below meth c T locs X hx hZ hown hby hml hsh eT hO => ⟨T, X, eT, fun t st => X.arraylength hx (by rw [eT]; exact A.1) (State.isArrayOf_alike hZ.alike A.2.1) (g := mkF m pc Ls (.ref a :: S)) rfl rfl (hb hby hd) t (by rw [e1]; exact st)⟩) K
theorem Wp.caload {kA : ClassId} {z j : Int32} {vs : List Value} {dv : Value} (V : Arv Z h a kA .char z vs dv) (h1 : ¬ j < 0) (h2 : j < z) (hv : vs.getD j.toNatClampNeg dv = v) (hd : decode bytes pc = .ok (.caload, 1)) (hp : pc + 1 = pc') (K : Wp wd l Z a0 EL R y bytes maxL ret hs ws Q h F k n pc' Ls (v :: S)) : Wp wd l Z a0 EL R y bytes maxL ret hs ws Q h F k n pc Ls (.int j :: .ref a :: S) := by
  subst hp
  obtain ⟨cl, A, -, hz1, hz2, H, -⟩ := V
  have hin := inb_of hz1 ⟨h1, h2⟩
  have hat := H.at hin hv
  exact Wp.tab (fun p e s m args below meth c T locs X hx hZ hown hby hml hsh eT hO => ⟨T, X, eT, fun t st => X.caload hx (by rw [eT]; exact A.1) (State.isArrayOf_alike hZ.alike A.2.1) A.2.2 hin hat (g := mkF m pc Ls (.int j :: .ref a :: S)) rfl rfl (hb hby hd) t st⟩) K
theorem Wp.iaload {kA : ClassId} {z j : Int32} {vs : List Value} {dv : Value} (V : Arv Z h a kA .int z vs dv) (h1 : ¬ j < 0) (h2 : j < z) (hv : vs.getD j.toNatClampNeg dv = v) (hd : decode bytes pc = .ok (.iaload, 1)) (hp : pc + 1 = pc') (K : Wp wd l Z a0 EL R y bytes maxL ret hs ws Q h F k n pc' Ls (v :: S)) : Wp wd l Z a0 EL R y bytes maxL ret hs ws Q h F k n pc Ls (.int j :: .ref a :: S) := by
  subst hp
  obtain ⟨cl, A, -, hz1, hz2, H, -⟩ := V
  have hin := inb_of hz1 ⟨h1, h2⟩
  have hat := H.at hin hv
  exact Wp.tab (fun p e s m args below meth c T locs X hx hZ hown hby hml hsh eT hO => ⟨T, X, eT, fun t st => X.iaload hx (by rw [eT]; exact A.1) (State.isArrayOf_alike hZ.alike A.2.1) A.2.2 hin hat (g := mkF m pc Ls (.int j :: .ref a :: S)) rfl rfl (hb hby hd) t st⟩) K
theorem Wp.laload {kA : ClassId} {z j : Int32} {vs : List Value} {dv : Value} (V : Arv Z h a kA .long z vs dv) (h1 : ¬ j < 0) (h2 : j < z) (hv : vs.getD j.toNatClampNeg dv = v) (hd : decode bytes pc = .ok (.laload, 1)) (hp : pc + 1 = pc') (K : Wp wd l Z a0 EL R y bytes maxL ret hs ws Q h F k n pc' Ls (v :: S)) : Wp wd l Z a0 EL R y bytes maxL ret hs ws Q h F k n pc Ls (.int j :: .ref a :: S) := by
  subst hp
  obtain ⟨cl, A, -, hz1, hz2, H, -⟩ := V
  have hin := inb_of hz1 ⟨h1, h2⟩
  have hat := H.at hin hv
  exact Wp.tab (fun p e s m args below meth c T locs X hx hZ hown hby hml hsh eT hO => ⟨T, X, eT, fun t st => X.laload hx (by rw [eT]; exact A.1) (State.isArrayOf_alike hZ.alike A.2.1) A.2.2 hin hat (g := mkF m pc Ls (.int j :: .ref a :: S)) rfl rfl (hb hby hd) t st⟩) K
theorem Wp.baload {kA : ClassId} {z j : Int32} {vs : List Value} {dv : Value} (V : Arv Z h a kA .byte z vs dv) (h1 : ¬ j < 0) (h2 : j < z) (hv : vs.getD j.toNatClampNeg dv = v) (hd : decode bytes pc = .ok (.baload, 1)) (hp : pc + 1 = pc') (K : Wp wd l Z a0 EL R y bytes maxL ret hs ws Q h F k n pc' Ls (v :: S)) : Wp wd l Z a0 EL R y bytes maxL ret hs ws Q h F k n pc Ls (.int j :: .ref a :: S) := by
  subst hp
  obtain ⟨cl, A, -, hz1, hz2, H, -⟩ := V
  have hin := inb_of hz1 ⟨h1, h2⟩
  have hat := H.at hin hv
  exact Wp.tab (fun p e s m args below meth c T locs X hx hZ hown hby hml hsh eT hO => ⟨T, X, eT, fun t st => X.baloadBytes hx (by rw [eT]; exact A.1) (State.isArrayOf_alike hZ.alike A.2.1) A.2.2 hin hat (g := mkF m pc Ls (.int j :: .ref a :: S)) rfl rfl (hb hby hd) t st⟩) K
theorem Wp.aaload {kA : ClassId} {z j : Int32} {vs : List Value} {dv : Value} (V : Arv Z h a kA ty z vs dv) (hty : ty.isReference = true) (h1 : ¬ j < 0) (h2 : j < z) (hv : vs.getD j.toNatClampNeg dv = v) (hd : decode bytes pc = .ok (.aaload, 1)) (hp : pc + 1 = pc') (K : Wp wd l Z a0 EL R y bytes maxL ret hs ws Q h F k n pc' Ls (v :: S)) : Wp wd l Z a0 EL R y bytes maxL ret hs ws Q h F k n pc Ls (.int j :: .ref a :: S) := by
  subst hp
  obtain ⟨cl, A, -, hz1, hz2, H, -⟩ := V
  have hin := inb_of hz1 ⟨h1, h2⟩
  have hat := H.at hin hv
  exact Wp.tab (fun p e s m args below meth c T locs X hx hZ hown hby hml hsh eT hO => ⟨T, X, eT, fun t st => X.aaload hx (by rw [eT]; exact A.1) (State.isArrayOf_alike hZ.alike A.2.1) hty A.2.2 hin hat (g := mkF m pc Ls (.int j :: .ref a :: S)) rfl rfl (hb hby hd) t st⟩) K
theorem Wp.putF {own host : String} {index kk : Nat} {C0 : String} {old : Value} (hown0 : y.cls = own) (lk : (Cond.fieldLink own index C0 nm d).before a0 Z = true ∨ (Cond.fieldLinkNest own index C0 nm d host).before a0 Z = true) (via : Via Z C0 O nm d) (Fl : Fld Z h a O nm d old) (E : Exa Z h a C)
    (L : (Cond.lays C O nm d).before a0 Z = true ∨ ((Cond.laysFinal C O nm d).before a0 Z = true ∧ own = O ∧ y.name = "<init>")) (wi : (Cond.instantiable C kk).before a0 Z = true) (hty : parseFieldDescriptor d = some ty) (hn : narrow ty v = v) (hf : fits ty v = true) (hd : decode bytes pc = .ok (.putfield index, 3)) (hp : pc + 3 = pc')
    (hw : a ∈ ws ∨ hs.size ≤ a) (sf : Sfe Z EL h F a) (K : ∀ h', Wr h h' a (Jvm.RoadKit.slotOf Z O nm d) v → Fld Z h' a O nm d v → Wp wd l Z a0 EL R y bytes maxL ret hs ws Q h' F k n pc' Ls S) : Wp wd l Z a0 EL R y bytes maxL ret hs ws Q h F k n pc Ls (v :: .ref a :: S) := by
  subst hp hown0
  exact Wp.put hw sf (fun p e s m args below meth c T locs X hx hZ hown hby hnm eT => Jvm.RoadKit.putF X hx hZ hown lk via eT Fl E (L.imp id fun q => ⟨q.1, q.2.1, hnm.trans q.2.2⟩) wi hty hn hf (g := mkF m pc Ls (v :: .ref a :: S)) rfl rfl (hb hby hd)) (fun h' W => K h' W (Fl.same W))
theorem Wp.putFN {own : String} {index kk : Nat} {C0 : String} {old v' : Value} (hown0 : y.cls = own) (lk : (Cond.fieldLink own index C0 nm d).before a0 Z = true) (via : Via Z C0 O nm d) (Fl : Fld Z h a O nm d old) (E : Exa Z h a C)
    (L : (Cond.lays C O nm d).before a0 Z = true ∨ ((Cond.laysFinal C O nm d).before a0 Z = true ∧ own = O ∧ y.name = "<init>")) (wi : (Cond.instantiable C kk).before a0 Z = true) (hty : parseFieldDescriptor d = some ty) (hn : narrow ty v = v') (hf : fits ty v' = true) (hd : decode bytes pc = .ok (.putfield index, 3)) (hp : pc + 3 = pc')
    (hw : a ∈ ws ∨ hs.size ≤ a) (sf : Sfe Z EL h F a) (K : ∀ h', Wr h h' a (Jvm.RoadKit.slotOf Z O nm d) v' → Fld Z h' a O nm d v' → Wp wd l Z a0 EL R y bytes maxL ret hs ws Q h' F k n pc' Ls S) : Wp wd l Z a0 EL R y bytes maxL ret hs ws Q h F k n pc Ls (v :: .ref a :: S) := by
  subst hp hown0
  exact Wp.put hw sf (fun p e s m args below meth c T locs X hx hZ hown hby hnm eT => Jvm.RoadKit.putFN X hx hZ hown lk via eT Fl E (L.imp id fun q => ⟨q.1, q.2.1, hnm.trans q.2.2⟩) wi hty hn hf (g := mkF m pc Ls (v :: .ref a :: S)) rfl rfl (hb hby hd)) (fun h' W => K h' W (Fl.same W))
theorem Wp.castore {kA : ClassId} {z j x : Int32} {vs : List Value} {dv : Value} {i : Nat} (V : Arv Z h a kA .char z vs dv) (h1 : ¬ j < 0) (h2 : j < z) (hj : j.toNatClampNeg = i) (hi : i < vs.length) (hd : decode bytes pc = .ok (.castore, 1)) (hp : pc + 1 = pc')
    (hw : a ∈ ws ∨ hs.size ≤ a) (K : ∀ h', Wr h h' a j.toNatClampNeg (.int (nar .char x)) → Arv Z h' a kA .char z (vs.set i (.int (nar .char x))) dv → Wp wd l Z a0 EL R y bytes maxL ret hs ws Q h' F k n pc' Ls S) : Wp wd l Z a0 EL R y bytes maxL ret hs ws Q h F k n pc Ls (.int x :: .int j :: .ref a :: S) := by
  subst hp
  obtain ⟨cl, A, hz0, hz1, hz2, H, G⟩ := V
  have hin := inb_of hz1 ⟨h1, h2⟩
  exact Wp.put hw (Sfe.arr A (by decide)) (fun p e s m args below meth c T locs X hx hZ hown hby hnm eT => Jvm.RoadKit.stC X hx hZ eT A hin (g := mkF m pc Ls (.int x :: .int j :: .ref a :: S)) rfl rfl (hb hby hd)) (fun h' W => K h' W (Arv.set A hz0 hz1 hz2 H G (fits_nar_char _) W i hj hi))
theorem Wp.bastore {kA : ClassId} {z j x : Int32} {vs : List Value} {dv : Value} {i : Nat} (V : Arv Z h a kA .byte z vs dv) (h1 : ¬ j < 0) (h2 : j < z) (hj : j.toNatClampNeg = i) (hi : i < vs.length) (hd : decode bytes pc = .ok (.bastore, 1)) (hp : pc + 1 = pc')
    (hw : a ∈ ws ∨ hs.size ≤ a) (sf : Sfe Z EL h F a) (K : ∀ h', Wr h h' a j.toNatClampNeg (.int (nar .byte x)) → Arv Z h' a kA .byte z (vs.set i (.int (nar .byte x))) dv → Wp wd l Z a0 EL R y bytes maxL ret hs ws Q h' F k n pc' Ls S) : Wp wd l Z a0 EL R y bytes maxL ret hs ws Q h F k n pc Ls (.int x :: .int j :: .ref a :: S) := by
  subst hp
  obtain ⟨cl, A, hz0, hz1, hz2, H, G⟩ := V
  have hin := inb_of hz1 ⟨h1, h2⟩
  exact Wp.put hw sf (fun p e s m args below meth c T locs X hx hZ hown hby hnm eT => Jvm.RoadKit.stB X hx hZ eT A hin (g := mkF m pc Ls (.int x :: .int j :: .ref a :: S)) rfl rfl (hb hby hd)) (fun h' W => K h' W (Arv.set A hz0 hz1 hz2 H G (fits_nar_byte _) W i hj hi))
theorem Wp.iastore {kA : ClassId} {z j x : Int32} {vs : List Value} {dv : Value} {i : Nat} (V : Arv Z h a kA .int z vs dv) (h1 : ¬ j < 0) (h2 : j < z) (hj : j.toNatClampNeg = i) (hi : i < vs.length) (hd : decode bytes pc = .ok (.iastore, 1)) (hp : pc + 1 = pc')
    (hw : a ∈ ws ∨ hs.size ≤ a) (K : ∀ h', Wr h h' a j.toNatClampNeg (.int x) → Arv Z h' a kA .int z (vs.set i (.int x)) dv → Wp wd l Z a0 EL R y bytes maxL ret hs ws Q h' F k n pc' Ls S) : Wp wd l Z a0 EL R y bytes maxL ret hs ws Q h F k n pc Ls (.int x :: .int j :: .ref a :: S) := by
  subst hp
  obtain ⟨cl, A, hz0, hz1, hz2, H, G⟩ := V
  have hin := inb_of hz1 ⟨h1, h2⟩
  exact Wp.put hw (Sfe.arr A (by decide)) (fun p e s m args below meth c T locs X hx hZ hown hby hnm eT => Jvm.RoadKit.stI X hx hZ eT A hin (g := mkF m pc Ls (.int x :: .int j :: .ref a :: S)) rfl rfl (hb hby hd)) (fun h' W => K h' W (Arv.set A hz0 hz1 hz2 H G rfl W i hj hi))
theorem Wp.lastore {kA : ClassId} {z j : Int32} {x : Int64} {vs : List Value} {dv : Value} {i : Nat} (V : Arv Z h a kA .long z vs dv) (h1 : ¬ j < 0) (h2 : j < z) (hj : j.toNatClampNeg = i) (hi : i < vs.length) (hd : decode bytes pc = .ok (.lastore, 1)) (hp : pc + 1 = pc')
    (hw : a ∈ ws ∨ hs.size ≤ a) (K : ∀ h', Wr h h' a j.toNatClampNeg (.long x) → Arv Z h' a kA .long z (vs.set i (.long x)) dv → Wp wd l Z a0 EL R y bytes maxL ret hs ws Q h' F k n pc' Ls S) : Wp wd l Z a0 EL R y bytes maxL ret hs ws Q h F k n pc Ls (.long x :: .int j :: .ref a :: S) := by
  subst hp
  obtain ⟨cl, A, hz0, hz1, hz2, H, G⟩ := V
  have hin := inb_of hz1 ⟨h1, h2⟩
  exact Wp.put hw (Sfe.arr A (by decide)) (fun p e s m args below meth c T locs X hx hZ hown hby hnm eT => Jvm.RoadKit.stJ X hx hZ eT A hin (g := mkF m pc Ls (.long x :: .int j :: .ref a :: S)) rfl rfl (hb hby hd)) (fun h' W => K h' W (Arv.set A hz0 hz1 hz2 H G rfl W i hj hi))
theorem Wp.aastore {kA : ClassId} {z j : Int32} {vs : List Value} {dv : Value} {i : Nat} (V : Arv Z h a kA ty z vs dv) (hty : ty.isReference = true) (hby0 : ty ≠ .byte) (hfit : fits ty v = true) (St : v = .null ∨ ∃ D y', v = .ref y' ∧ Ovr Z kA D ∧ Ins Z h y' D true) (h1 : ¬ j < 0) (h2 : j < z) (hj : j.toNatClampNeg = i) (hi : i < vs.length) (hd : decode bytes pc = .ok (.aastore, 1)) (hp : pc + 1 = pc')
    (hw : a ∈ ws ∨ hs.size ≤ a) (K : ∀ h', Wr h h' a j.toNatClampNeg v → Arv Z h' a kA ty z (vs.set i v) dv → Wp wd l Z a0 EL R y bytes maxL ret hs ws Q h' F k n pc' Ls S) : Wp wd l Z a0 EL R y bytes maxL ret hs ws Q h F k n pc Ls (v :: .int j :: .ref a :: S) := by
  subst hp
  obtain ⟨cl, A, hz0, hz1, hz2, H, G⟩ := V
  have hin := inb_of hz1 ⟨h1, h2⟩
  have hSt : Sto Z h a v := by
    rcases St with rfl | ⟨D, y', rfl, Ov, I⟩
    · exact Or.inl rfl
    · exact Sto.ofV A hz0 Ov I
  exact Wp.put hw (Sfe.arr A hby0) (fun p e s m args below meth c T locs X hx hZ hown hby hnm eT => Jvm.RoadKit.stR X hx hZ eT A hin hty hSt (g := mkF m pc Ls (v :: .int j :: .ref a :: S)) rfl rfl (hb hby hd)) (fun h' W => K h' W (Arv.set A hz0 hz1 hz2 H G hfit W i hj hi))
theorem Wp.new {own : String} {index : Nat} (hown0 : y.cls = own) (lk : (Cond.classLink own index C).before a0 Z = true) (wi : (Cond.instantiable C sl).before a0 Z = true) (wz : (Cond.initialized C).before a0 Z = true) (hd : decode bytes pc = .ok (.new index, 3)) (hp : pc + 3 = pc') (hk : k + 1 = k') (hn : n + sl = n') (hk' : k' ≤ R.cells) (hn' : n' ≤ R.slots)
    (K : ∀ h' b, b = h.size → hs.size ≤ b → Ext h h' → Exa Z h' b C → (∀ {O nm d : String} {ty : FieldType}, Laid Z a0 C O nm d → parseFieldDescriptor d = some ty → Fld Z h' b O nm d (defaultValue ty)) → Wp wd l Z a0 EL R y bytes maxL ret hs ws Q h' (b :: F) k' n' pc' Ls (.ref b :: S)) : Wp wd l Z a0 EL R y bytes maxL ret hs ws Q h F k n pc Ls S := by
  subst hp hown0 hk hn
  exact Wp.mk (fun h' => Exa Z h' h.size C ∧ ∀ {O nm d : String} {ty : FieldType}, Laid Z a0 C O nm d → parseFieldDescriptor d = some ty → Fld Z h' h.size O nm d (defaultValue ty)) (fun h' q => q.1.lt)
    (fun p e s m args below meth c T locs X hx hZ hown hby eT => by obtain ⟨T', h', X', e', E, A, D, -, st⟩ := Jvm.RoadKit.newO X hx hZ hown lk wi wz eT (g := mkF m pc Ls S) rfl (hb hby hd) hk' hn'; exact ⟨T', h', X', e', E, ⟨A, D⟩, st⟩) (fun h' z E q => K h' _ rfl z E q.1 q.2)
theorem Wp.newP {aty : ArrayType} {z : Int32} {cap : Nat} (wa : (Cond.arrayClass (newarray.typeOf aty)).before a0 Z = true) (hz : ¬ z < 0) (hcap : z.toNatClampNeg ≤ cap) (hb8 : cap * 8 ≤ 536870912) (hd : decode bytes pc = .ok (.newarray aty, 2)) (hp : pc + 2 = pc') (hk : k + 1 = k') (hn : n + cap = n') (hk' : k' ≤ R.cells) (hn' : n' ≤ R.slots)
    (K : ∀ h' b kA, b = h.size → hs.size ≤ b → Ext h h' → Arv Z h' b kA (newarray.typeOf aty) z [] (defaultValue (newarray.typeOf aty)) → Wp wd l Z a0 EL R y bytes maxL ret hs ws Q h' (b :: F) k' n' pc' Ls (.ref b :: S)) : Wp wd l Z a0 EL R y bytes maxL ret hs ws Q h F k n pc Ls (.int z :: S) := by
  subst hp hk hn
  exact Wp.mk (fun h' => ∃ kA, Arv Z h' h.size kA (newarray.typeOf aty) z [] (defaultValue (newarray.typeOf aty))) (fun h' q => q.elim fun _ A => A.lt)
    (fun p e s m args below meth c T locs X hx hZ hown hby eT => by obtain ⟨T', h', kA, X', e', E, A, st⟩ := Jvm.RoadKit.newP X hx hZ wa eT (g := mkF m pc Ls (.int z :: S)) rfl (hb hby hd) rfl hz hcap hb8 hk' hn'; exact ⟨T', h', X', e', E, ⟨kA, Arv.new A hz⟩, st⟩) (fun h' z E q => q.elim fun kA A => K h' _ kA rfl z E A)
theorem Wp.newR {own : String} {index : Nat} {z : Int32} {cap : Nat} (hown0 : y.cls = own) (lk : (Cond.classLink own index C).before a0 Z = true) (wa : (Cond.arrayOver (.object C)).before a0 Z = true) (hz : ¬ z < 0) (hcap : z.toNatClampNeg ≤ cap) (hb8 : cap * 8 ≤ 536870912) (hd : decode bytes pc = .ok (.anewarray index, 3)) (hp : pc + 3 = pc') (hk : k + 1 = k') (hn : n + cap = n') (hk' : k' ≤ R.cells) (hn' : n' ≤ R.slots)
    (K : ∀ h' b kA, b = h.size → hs.size ≤ b → Ext h h' → Arv Z h' b kA (.object C) z [] .null → Ovr Z kA C → Wp wd l Z a0 EL R y bytes maxL ret hs ws Q h' (b :: F) k' n' pc' Ls (.ref b :: S)) : Wp wd l Z a0 EL R y bytes maxL ret hs ws Q h F k n pc Ls (.int z :: S) := by
  subst hp hk hn hown0
  exact Wp.mk (fun h' => ∃ kA, Arv Z h' h.size kA (.object C) z [] .null ∧ Ovr Z kA C) (fun h' q => q.elim fun _ A => A.1.lt)
    (fun p e s m args below meth c T locs X hx hZ hown hby eT => by obtain ⟨T', h', kA, X', e', E, A, Ov, st⟩ := Jvm.RoadKit.newR X hx hZ hown lk wa eT (g := mkF m pc Ls (.int z :: S)) rfl (hb hby hd) rfl hz hcap hb8 hk' hn'; exact ⟨T', h', X', e', E, ⟨kA, Arv.new A hz, Ov⟩, st⟩) (fun h' z E q => q.elim fun kA A => K h' _ kA rfl z E A.1 A.2)
theorem Wp.retn (hr : ret = none) (hd : decode bytes pc = .ok (.return_, 1)) (hk : k ≤ R.cells) (hn : n ≤ R.slots) (hQ : Q none h) : Wp wd l Z a0 EL R y bytes maxL ret hs ws Q h F k n pc Ls [] :=
  Wp.leave hk hn (fun _ => rfl) hQ (fun p e s m args below meth c T locs fs X hx hby hret hl => X.returnOut hx (hret.trans hr) (hb hby hd) hl)
theorem Wp.retN {t : FieldType} {x x' : Int32} (hr : ret = some t) (ht : t = .boolean ∨ t = .byte ∨ t = .char ∨ t = .short) (hx' : nar t x = x') (hd : decode bytes pc = .ok (.ireturn, 1)) (hk : k ≤ R.cells) (hn : n ≤ R.slots) (hQ : Q (some (.int x')) h) : Wp wd l Z a0 EL R y bytes maxL ret hs ws Q h F k n pc Ls (.int x :: S) := by
  subst hx'
  exact Wp.leave hk hn (fun q => by rw [hr] at q; cases q) hQ (fun p e s m args below meth c T locs fs X hx hby hret hl => Jvm.RoadKit.retN X hx (hret.trans hr) ht (hb hby hd) hl)
theorem Wp.retV {i : Instr} {t : FieldType} (hr : ret = some t) (hn' : narrow t v = v) (hi : (i = .ireturn ∧ (t = .int ∨ t = .boolean ∨ t = .byte ∨ t = .char ∨ t = .short) ∧ ∃ z, v = .int z) ∨ (i = .lreturn ∧ t = .long ∧ ∃ z, v = .long z) ∨ (i = .dreturn ∧ t = .double ∧ ∃ z, v = .double z) ∨ (i = .freturn ∧ t = .float ∧ ∃ z, v = .float z) ∨ (i = .areturn ∧ t.isReference = true ∧ v.isRef = true))
    (hd : decode bytes pc = .ok (i, 1)) (hk : k ≤ R.cells) (hn : n ≤ R.slots) (hQ : Q (some v) h) : Wp wd l Z a0 EL R y bytes maxL ret hs ws Q h F k n pc Ls (v :: S) :=
  Wp.leave hk hn (fun q => by rw [hr] at q; cases q) hQ (fun p e s m args below meth c T locs fs X hx hby hret hl => Jvm.RoadKit.retOut X hx (hret.trans hr) hn' hi (hb hby hd) hl)
theorem Wp.retI {x : Int32} (hr : ret = some .int) (hd : decode bytes pc = .ok (.ireturn, 1)) (hk : k ≤ R.cells) (hn : n ≤ R.slots) (hQ : Q (some (.int x)) h) : Wp wd l Z a0 EL R y bytes maxL ret hs ws Q h F k n pc Ls (.int x :: S) :=
  Wp.retV hr rfl (Or.inl ⟨rfl, Or.inl rfl, _, rfl⟩) hd hk hn hQ
theorem Wp.retL {x : Int64} (hr : ret = some .long) (hd : decode bytes pc = .ok (.lreturn, 1)) (hk : k ≤ R.cells) (hn : n ≤ R.slots) (hQ : Q (some (.long x)) h) : Wp wd l Z a0 EL R y bytes maxL ret hs ws Q h F k n pc Ls (.long x :: S) :=
  Wp.retV hr rfl (Or.inr (Or.inl ⟨rfl, rfl, _, rfl⟩)) hd hk hn hQ
theorem Wp.retA {t : FieldType} (hr : ret = some t) (ht : t.isReference = true) (hv : v.isRef = true) (hd : decode bytes pc = .ok (.areturn, 1)) (hk : k ≤ R.cells) (hn : n ≤ R.slots) (hQ : Q (some v) h) : Wp wd l Z a0 EL R y bytes maxL ret hs ws Q h F k n pc Ls (v :: S) :=
  Wp.retV hr (by cases t <;> first | rfl | cases ht) (Or.inr (Or.inr (Or.inr (Or.inr ⟨rfl, ht, hv⟩)))) hd hk hn hQ
end Rules
end Jvm.Own
namespace Jvm.Own
open Sem ClassFile Op Lib Jvm.Stand Jvm.Free Jvm.LawKit Jvm.RoadKit
section Calls
variable {wd : Bool} {l : Launch} {Z : State} {EL : List (String × Nat)} {R : Room} {y : MethodName} {bytes : ByteArray} {maxL : Nat} {ret : Option FieldType} {hs : Heap} {ws : List Addr} {Q : Option Value → Heap → Prop} {h h' : Heap} {F F' : List Addr} {k n k' n' pc pc' pc1 : Nat} {Ls Ls' : Array Slot} {S S' : List Value}
variable {a0 : Array Value} {a b : Addr} {C O nm d : String} {v w : Value} {sl : Nat} {cl : Cell} {ty : FieldType}
variable {y' : MethodName} {bytes' : ByteArray} {maxL' : Nat} {ret' : Option FieldType} {rm : Room} {as : Array Value} {Fc wc : List Addr} {Qc : Option Value → Heap → Prop}
theorem mvMN {s : State} {args : Array Value} {own host : String} {idx : Nat} (hZ : Z.Warmed39 s.vm) (w : (Cond.methodLinkNest own idx y' host).before a0 Z = true) : (Cond.methodLinkNest own idx y' host).before args s = true := (Cond.methodLinkNest_wide hZ w :)
/-- a body's contract, from its walk -/
theorem Ct.of_wp {cw : List Cond} (hpl : plainFor y = true) (hE : EW Z a0 EL) (hO : Ext Z.heap h) (hws : ∀ x ∈ ws, Z.heap.size ≤ x) (hef : ∀ m, entryFrame m as maxL = mkF m 0 Ls []) (K : Wp wd l Z a0 EL rm y bytes maxL ret h ws Q h F 0 0 0 Ls []) : Ct wd l Z EL cw y bytes maxL ret rm as h F ws Q := by
  refine MetFree.of_bodySF (code := bytes) (maxLocals := maxL) (ret := ret) hpl hisR ?_
  intro p e s m args below meth c s₁ Bd hml0 hP hK
  obtain ⟨rfl, hZ, rfl, hC, hF⟩ := hP
  have e0 : s₁.heap = s.heap := by rw [Bd.state]; rfl
  obtain ⟨v, t, h1, h2, h3, L, r1, r2, r3, r4⟩ := K p e s m args below meth c s.vm s.heap.size s₁ [] ⟨⟨hE, Bd.exec, Bd.bytes, hml0, Bd.returns, (name_of_methodNamed Bd.named Bd.method).1, Bd.notSynchronized⟩, ⟨rfl, hws, hO.1, (fun _ q => nomatch q), hO⟩, ⟨findClass_of_methodNamed Bd.named, (State.WarmedH.refl s).since _, Nat.le_refl _, fun _ => State.WarmedH.refl s, hZ, CHr.refl hC, hF⟩, Stand.of_body Bd, e0⟩
  exact ⟨t, _, castTop (hef m) h1, h2, h3, v, L, rfl, ⟨r1, r2⟩, r3, r4⟩
/-- a contract pays a call -/
theorem Ct.pays {p : Program} {e : Env} {below : List Frame} {s : State} {args : Array Value} {vm0 : Vm} {len W : Nat} (hM : Ct wd l Z EL [] y' bytes' maxL' ret' rm as h Fc wc Qc) (hE : EW Z a0 EL) (hZ : Z.Warmed39 vm0) (wcode : (Cond.code y' bytes' maxL' ret').before a0 Z = true) (wz : (Cond.initialized y'.cls).before a0 Z = true) (hf : rm.frames + 1 ≤ R.frames) (hl : W + (maxL' + 11) + rm.locals ≤ R.locals) (H : CHv Z EL vm0 h) (HF : Sf Z EL vm0 h Fc) :
    BackS l R p e below (s.setVm vm0) args y' len W (fun A a => a = as ∧ A.U.heap = h ∧ A.cells + rm.cells ≤ R.cells ∧ A.slots + rm.slots ≤ R.slots)
      (fun A _ v B => ∃ L, (Wh h wc L ∧ Qc v B.U.heap) ∧ B.locs = A.locs ++ L ∧ B.cells = A.cells + rm.cells ∧ B.slots = A.slots + rm.slots ∧ CHr Z EL vm0 h B.U.vm B.U.heap ∧ Keep h B.U.heap wc ∧ (wd = false → (s.setVm vm0).WarmedH B.U.vm)) :=
  BackS.of_freeW (bytes := bytes') (maxL := maxL') (ret := ret') (E := fun _ first o t L k n => k = rm.cells ∧ n = rm.slots ∧ (∃ v, o = .returned v ∧ Wh first.heap wc L ∧ Qc v t.heap) ∧ CHr Z EL first.vm first.heap t.vm t.heap ∧ Keep first.heap t.heap wc ∧ (wd = false → first.WarmedH t.vm)) hM hf hl
    (fun m meth c A a Y hp => have hU : Z.Warmed39 A.U.vm := wtrans (s := s.setVm vm0) hZ Y.warmed
      ⟨by show (Cond.and _ .tt).before a A.U = true; rw [Cond.before_and, mv hU wcode]; rfl, mv hU wcode, mv hU wz, hp.2.2.1, hp.2.2.2⟩)
    (fun m meth c A a g mk Y hp => ⟨hp.1, wtrans (s := s.setVm vm0) hZ Y.warmed, hp.2.1, (CHv.at Y hZ hE H).1, fun x hx => ⟨(HF x hx).1, CHr.safe (CHv.at Y hZ hE H) (HF x hx).1 (HF x hx).2⟩⟩) (fun _ _ _ _ _ _ _ _ _ => trivial)
    (fun _ first _ t ⟨v, L, h1, h2, h3, h4⟩ => ⟨L, _, _, h4.1, rfl, rfl, ⟨v, h1, h2⟩, h3, (show Keep first.heap t.heap wc from keep_of (T := ({ t with vm := first.vm } : State)) h4.1.2.2.2 h2.1), h4.2⟩)
    (fun m meth c A a g mk v t L k n Y hp _ _ ⟨e1, e2, ⟨v', e3, e4, e5⟩, e6, e7, e8⟩ => by
      cases e3; subst e1 e2
      have eh : (A.U.calling g mk a).heap = h := hp.2.1
      rw [eh] at e4 e6 e7
      exact ⟨L, ⟨e4, e5⟩, rfl, rfl, rfl, (CHv.at Y hZ hE H).trans e6, e7, fun z => State.WarmedH.trans (t := A.U) Y.warmed (e8 z)⟩)
/-- a call, whatever its kind -/
theorem Wp.call {len W : Nat} {rest : List Value} (Cc : Ct wd l Z EL [] y' bytes' maxL' ret' rm as h Fc wc Qc) (wcode : (Cond.code y' bytes' maxL' ret').before a0 Z = true) (wz : (Cond.initialized y'.cls).before a0 Z = true) (hFc : ∀ x ∈ Fc, x ∈ F) (hwc : ∀ x ∈ wc, x ∈ ws ∨ hs.size ≤ x) (hf : rm.frames + 1 ≤ R.frames) (hl : W + (maxL' + 11) + rm.locals ≤ R.locals) (hk : k + rm.cells = k') (hn : n + rm.slots = n') (hk' : k' ≤ R.cells) (hn' : n' ≤ R.slots)
    (law : ∀ (p : Program) (e : Env) (s : State) (m : MethodId) (args : Array Value) (below : List Frame) (meth : Method) (c : Code) (T : State) (locs : List Loc) (Pre : Pt → Array Value → Prop) (Post : Pt → Array Value → Option Value → Pt → Prop), Stand p l e R s m args below meth c T locs k n → p.tables.exec = Jvm.exec → Z.Warmed39 s.vm → s.vm.findClass y.cls = some m.cls → c.code = bytes → c.maxLocals = maxL → T.heap = h →
      BackS l R p e below s args y' len W Pre Post → (∀ vm₁, s.WarmedH vm₁ → Pre ⟨T.setVm vm₁, locs, k, n⟩ as) →
      ∃ (v : Option Value) (vm₁ : Vm) (B : Pt), s.WarmedH vm₁ ∧ Stand p l e R (s.setVm B.U.vm) m args below meth c B.U B.locs B.cells B.slots ∧ s.Since B.U.vm B.U.heap.size ∧ T.heap.size ≤ B.U.heap.size ∧ Post ⟨T.setVm vm₁, locs, k, n⟩ as v B ∧
        Steps p.tables e below (T.setTop (mkF m pc Ls S)) (B.U.setTop (mkF m pc' Ls (v.toList ++ rest))))
    (K : ∀ v h', hs.size ≤ h.size → Keep h h' wc → Qc v h' → Wp wd l Z a0 EL R y bytes maxL ret hs ws Q h' F k' n' pc' Ls (v.toList ++ rest)) : Wp wd l Z a0 EL R y bytes maxL ret hs ws Q h F k n pc Ls S := fun p e s m args below meth c vm0 k0 T locs I => by
  obtain ⟨⟨i1, i2, i3, i4, i5⟩, ⟨q1, q2, q3, q4, q5⟩, ⟨j1, j2, j3, j4, j5, j6, j7⟩, X, eT⟩ := I
  subst hk hn
  obtain ⟨v, vm₁, ⟨U, L', kk, nn⟩, hW₁, X', hS', hgr, ⟨L, ⟨c1, c2⟩, c3, c4, c5, c6, c7, c8⟩, st⟩ := law p e (s.setVm vm0) m args below meth c T locs _ _ X i2 j5 j1 i3 i4 eT (Ct.pays Cc i1 j5 wcode wz hf hl j6.1 fun x hx => j7 x (hFc x hx)) (fun _ _ => ⟨rfl, eT, hk', hn'⟩)
  dsimp only [Pt.U, Pt.locs, Pt.cells, Pt.slots] at X' hS' hgr c2 c3 c4 c5 c6 c7 c8 st
  subst c3 c4 c5
  have hhs : hs.size ≤ h.size := j6.2.1
  have hSin : s.Since U.vm U.heap.size := j2.trans hS' (Nat.le_trans j3 (by rw [← eT]; exact hgr))
  refine (K v U.heap hhs c7 c2 p e s m args below meth c U.vm U.heap.size U _ ⟨⟨i1, i2, i3, i4, i5⟩, ⟨q1, q2, q3, fun z hz => ?_, ext_keep q5 c7 fun x hx => (hwc x hx).elim (q2 x) (Nat.le_trans q3)⟩, ⟨(hS'.1.alike.findClass _ _).trans j1, hSin, Nat.le_refl _, fun z => State.WarmedH.trans (t := s.setVm vm0) (j4 z) (c8 z), State.Warmed39.trans (t := s.setVm vm0) j5 hS'.1, j6.trans c6, fun x hx => ⟨Nat.lt_of_lt_of_le (j7 x hx).1 c7.1, CHr.safe c6 (j7 x hx).1 (j7 x hx).2⟩⟩, X', rfl⟩).back fun t => st.trans
  rcases List.mem_append.mp hz with hz | hz
  · exact q4 z hz
  · rcases c1 z hz with q | q
    · exact hwc _ q
    · exact Or.inr (Nat.le_trans hhs q)

theorem Wp.callS {own : String} {idx W : Nat} {argsL rest : List Value} (hown0 : y.cls = own) (Cc : Ct wd l Z EL [] y' bytes' maxL' ret' rm as h Fc wc Qc) (wl : (Cond.methodLink own idx y').before a0 Z = true) (wst : (Cond.static y').before a0 Z = true) (wcode : (Cond.code y' bytes' maxL' ret').before a0 Z = true) (wz : (Cond.initialized y'.cls).before a0 Z = true) (hy : y'.cls ≠ "java/lang/invoke/MethodHandle" ∧ y'.cls ≠ "java/lang/invoke/VarHandle") (hlen : ∀ sig, parseMethodDescriptor y'.desc = some sig → argsL.length = sig.parameters.length) (hd : decode bytes pc = .ok (.invokestatic idx, 3))
    (hsz : Ls.size = maxL) (hst : S = argsL.reverse ++ rest) (has : argsL.toArray = as) (hW : (rest.map fun v => v.category).sum ≤ W) (hp : pc + 3 = pc') (hFc : ∀ x ∈ Fc, x ∈ F) (hwc : ∀ x ∈ wc, x ∈ ws ∨ hs.size ≤ x) (hf : rm.frames + 1 ≤ R.frames) (hl : W + (maxL' + 11) + rm.locals ≤ R.locals) (hk : k + rm.cells = k') (hn : n + rm.slots = n') (hk' : k' ≤ R.cells) (hn' : n' ≤ R.slots)
    (K : ∀ v h', hs.size ≤ h.size → Keep h h' wc → Qc v h' → Wp wd l Z a0 EL R y bytes maxL ret hs ws Q h' F k' n' pc' Ls (v.toList ++ rest)) : Wp wd l Z a0 EL R y bytes maxL ret hs ws Q h F k n pc Ls S := by
  subst hown0 hst has hp
  exact Wp.call Cc wcode wz hFc hwc hf hl hk hn hk' hn' (fun p e s m args below meth c T locs Pre Post X hx hZ hown hby hml eT hK hpre => callSS X hx hown (mvT hZ wl) (mvT hZ wst) (mvT hZ wz) (mvT hZ wcode) hy hK (g := mkF m pc Ls (argsL.reverse ++ rest)) rfl (by rw [hml]; exact hsz) hlen rfl (by show 2 * 0 + _ ≤ _; omega) (hb hby hd) hpre) K
theorem Wp.callI {own : String} {idx W : Nat} {argsL rest : List Value} (hown0 : y.cls = own) (Cc : Ct wd l Z EL [] y' bytes' maxL' ret' rm as h Fc wc Qc) (hy1 : y'.name = "<init>") (hr' : ret' = none) (wl : (Cond.methodLink own idx y').before a0 Z = true) (wi : (Cond.instanceMethod y').before a0 Z = true) (wcode : (Cond.code y' bytes' maxL' ret').before a0 Z = true) (wz : (Cond.initialized y'.cls).before a0 Z = true) (hy : y'.cls ≠ "java/lang/invoke/MethodHandle" ∧ y'.cls ≠ "java/lang/invoke/VarHandle") (hlen : ∀ sig, parseMethodDescriptor y'.desc = some sig → argsL.length = sig.parameters.length) (hd : decode bytes pc = .ok (.invokespecial idx, 3))
    (hsz : Ls.size = maxL) (hst : S = argsL.reverse ++ .ref a :: rest) (has : (Value.ref a :: argsL).toArray = as) (hW : (rest.map fun v => v.category).sum ≤ W) (hp : pc + 3 = pc') (hFc : ∀ x ∈ Fc, x ∈ F) (hwc : ∀ x ∈ wc, x ∈ ws ∨ hs.size ≤ x) (hf : rm.frames + 1 ≤ R.frames) (hl : W + (maxL' + 11) + rm.locals ≤ R.locals) (hk : k + rm.cells = k') (hn : n + rm.slots = n') (hk' : k' ≤ R.cells) (hn' : n' ≤ R.slots)
    (K : ∀ v h', hs.size ≤ h.size → Keep h h' wc → Qc v h' → Wp wd l Z a0 EL R y bytes maxL ret hs ws Q h' F k' n' pc' Ls (v.toList ++ rest)) : Wp wd l Z a0 EL R y bytes maxL ret hs ws Q h F k n pc Ls S := by
  subst hown0 hst has hp hr'
  exact Wp.call Cc wcode wz hFc hwc hf hl hk hn hk' hn' (fun p e s m args below meth c T locs Pre Post X hx hZ hown hby hml eT hK hpre => X.specialBackS hx hy1 hown (mvT hZ wl) (mvT hZ wi) (mvT hZ wcode) hy hK (g := mkF m pc Ls (argsL.reverse ++ .ref a :: rest)) rfl (by rw [hml]; exact hsz) (Steps.refl _) hlen rfl (by show 2 * 0 + _ ≤ _; omega) (hb hby hd) hpre) K
theorem Wp.callIN {host : String} {own : String} {idx W : Nat} {argsL rest : List Value} (hown0 : y.cls = own) (Cc : Ct wd l Z EL [] y' bytes' maxL' ret' rm as h Fc wc Qc) (hy1 : y'.name = "<init>") (hr' : ret' = none) (wl : (Cond.methodLinkNest own idx y' host).before a0 Z = true) (wi : (Cond.instanceMethod y').before a0 Z = true) (wcode : (Cond.code y' bytes' maxL' ret').before a0 Z = true) (wz : (Cond.initialized y'.cls).before a0 Z = true) (hy : y'.cls ≠ "java/lang/invoke/MethodHandle" ∧ y'.cls ≠ "java/lang/invoke/VarHandle") (hlen : ∀ sig, parseMethodDescriptor y'.desc = some sig → argsL.length = sig.parameters.length) (hd : decode bytes pc = .ok (.invokespecial idx, 3))
    (hsz : Ls.size = maxL) (hst : S = argsL.reverse ++ .ref a :: rest) (has : (Value.ref a :: argsL).toArray = as) (hW : (rest.map fun v => v.category).sum ≤ W) (hp : pc + 3 = pc') (hFc : ∀ x ∈ Fc, x ∈ F) (hwc : ∀ x ∈ wc, x ∈ ws ∨ hs.size ≤ x) (hf : rm.frames + 1 ≤ R.frames) (hl : W + (maxL' + 11) + rm.locals ≤ R.locals) (hk : k + rm.cells = k') (hn : n + rm.slots = n') (hk' : k' ≤ R.cells) (hn' : n' ≤ R.slots)
    (K : ∀ v h', hs.size ≤ h.size → Keep h h' wc → Qc v h' → Wp wd l Z a0 EL R y bytes maxL ret hs ws Q h' F k' n' pc' Ls (v.toList ++ rest)) : Wp wd l Z a0 EL R y bytes maxL ret hs ws Q h F k n pc Ls S := by
  subst hown0 hst has hp hr'
  exact Wp.call Cc wcode wz hFc hwc hf hl hk hn hk' hn' (fun p e s m args below meth c T locs Pre Post X hx hZ hown hby hml eT hK hpre => X.specialBackNestS hx hy1 hown (mvMN hZ wl) (mvT hZ wi) (mvT hZ wcode) hy hK (g := mkF m pc Ls (argsL.reverse ++ .ref a :: rest)) rfl (by rw [hml]; exact hsz) (Steps.refl _) hlen rfl (by show 2 * 0 + _ ≤ _; omega) (hb hby hd) hpre) K
theorem Wp.callV {x' : MethodName} {own : String} {idx W : Nat} {argsL rest : List Value} (hown0 : y.cls = own) (Cc : Ct wd l Z EL [] y' bytes' maxL' ret' rm as h Fc wc Qc) (wl : (Cond.methodLink own idx x').before a0 Z = true) (wd' : (Cond.declares x').before a0 Z = true) (wsel : (Cond.selects C x' y').before a0 Z = true) (wi : (Cond.instanceMethod y').before a0 Z = true) (wcode : (Cond.code y' bytes' maxL' ret').before a0 Z = true) (wz : (Cond.initialized y'.cls).before a0 Z = true) (nf : ∀ s : State, Z.Warmed39 s.vm → NotFace s x') (E : Exa Z h a C) (hy : x'.cls ≠ "java/lang/invoke/MethodHandle" ∧ x'.cls ≠ "java/lang/invoke/VarHandle") (hlen : ∀ sig, parseMethodDescriptor x'.desc = some sig → argsL.length = sig.parameters.length) (hd : decode bytes pc = .ok (.invokevirtual idx, 3))
    (hsz : Ls.size = maxL) (hst : S = argsL.reverse ++ .ref a :: rest) (has : (Value.ref a :: argsL).toArray = as) (hW : (rest.map fun v => v.category).sum ≤ W) (hp : pc + 3 = pc') (hFc : ∀ x ∈ Fc, x ∈ F) (hwc : ∀ x ∈ wc, x ∈ ws ∨ hs.size ≤ x) (hf : rm.frames + 1 ≤ R.frames) (hl : W + (maxL' + 11) + rm.locals ≤ R.locals) (hk : k + rm.cells = k') (hn : n + rm.slots = n') (hk' : k' ≤ R.cells) (hn' : n' ≤ R.slots)
    (K : ∀ v h', hs.size ≤ h.size → Keep h h' wc → Qc v h' → Wp wd l Z a0 EL R y bytes maxL ret hs ws Q h' F k' n' pc' Ls (v.toList ++ rest)) : Wp wd l Z a0 EL R y bytes maxL ret hs ws Q h F k n pc Ls S := by
  subst hown0 hst has hp
  exact Wp.call Cc wcode wz hFc hwc hf hl hk hn hk' hn' (fun p e s m args below meth c T locs Pre Post X hx hZ hown hby hml eT hK hpre => by
    obtain ⟨cq, kq, qa, qb, qc⟩ := isOf (T := T) hZ eT E
    exact X.virtualBackS hx hown (mvT hZ wl) (mvT hZ wd') (nf s hZ) (mvT hZ wsel) (mvT hZ wi) hy hK qa qc (g := mkF m pc Ls (argsL.reverse ++ .ref a :: rest)) rfl (by rw [hml]; exact hsz) (Steps.refl _) hlen rfl (by show 2 * 0 + _ ≤ _; omega) (hb hby hd) hpre) K
theorem nf_sel {x' y'' : MethodName} (hc : C = x'.cls) (wsel : (Cond.selects C x' y'').before a0 Z = true) (s : State) (hZ : Z.Warmed39 s.vm) (h1 : x' = y'') : NotFace s x' := by
  subst h1 hc; exact notFace_of_selects (args := #[]) (mvT hZ wsel)
theorem Wp.callF {x' : MethodName} {count : Nat} {own : String} {idx W : Nat} {argsL rest : List Value} (hown0 : y.cls = own) (Cc : Ct wd l Z EL [] y' bytes' maxL' ret' rm as h Fc wc Qc) (wl : (Cond.methodLink own idx x').before a0 Z = true) (wd' : (Cond.declares x').before a0 Z = true) (wf : (Cond.interfaceMethod x'.cls x'.cls x'.name x'.desc).before a0 Z = true) (wsel : (Cond.selects C x' y').before a0 Z = true) (wi : (Cond.instanceMethod y').before a0 Z = true) (wp : (Cond.publicMethod y').before a0 Z = true) (hfa : ((Cond.interfaceMethod x'.cls x'.cls x'.name x'.desc).onTables && (Cond.interfaceMethod x'.cls x'.cls x'.name x'.desc).keepsFace) = true) (wu : (Cond.unhidden C x'.name x'.desc).before a0 Z = true) (wca : (Cond.castable C x'.cls).before a0 Z = true) (wcode : (Cond.code y' bytes' maxL' ret').before a0 Z = true) (wz : (Cond.initialized y'.cls).before a0 Z = true) (E : Exa Z h a C) (hy : x'.cls ≠ "java/lang/invoke/MethodHandle" ∧ x'.cls ≠ "java/lang/invoke/VarHandle") (hlen : ∀ sig, parseMethodDescriptor x'.desc = some sig → argsL.length = sig.parameters.length) (hd : decode bytes pc = .ok (.invokeinterface idx count, 5))
    (hsz : Ls.size = maxL) (hst : S = argsL.reverse ++ .ref a :: rest) (has : (Value.ref a :: argsL).toArray = as) (hW : (rest.map fun v => v.category).sum ≤ W) (hp : pc + 5 = pc') (hFc : ∀ x ∈ Fc, x ∈ F) (hwc : ∀ x ∈ wc, x ∈ ws ∨ hs.size ≤ x) (hf : rm.frames + 1 ≤ R.frames) (hl : W + (maxL' + 11) + rm.locals ≤ R.locals) (hk : k + rm.cells = k') (hn : n + rm.slots = n') (hk' : k' ≤ R.cells) (hn' : n' ≤ R.slots)
    (K : ∀ v h', hs.size ≤ h.size → Keep h h' wc → Qc v h' → Wp wd l Z a0 EL R y bytes maxL ret hs ws Q h' F k' n' pc' Ls (v.toList ++ rest)) : Wp wd l Z a0 EL R y bytes maxL ret hs ws Q h F k n pc Ls S := by
  subst hown0 hst has hp
  exact Wp.call Cc wcode wz hFc hwc hf hl hk hn hk' hn' (fun p e s m args below meth c T locs Pre Post X hx hZ hown hby hml eT hK hpre => by
    obtain ⟨cq, kq, qa, qb, qc⟩ := isOf (T := T) hZ eT E
    exact X.interfaceBackS hx hown (mvT hZ wl) (mvT hZ wd') (mvT hZ wf hfa) (mvT hZ wsel) (mvT hZ wi) (mvT hZ wp) (mvT hZ wu) (mvT hZ wca) hy hK qa qb qc (g := mkF m pc Ls (argsL.reverse ++ .ref a :: rest)) rfl (by rw [hml]; exact hsz) (Steps.refl _) hlen rfl (by show 2 * 0 + _ ≤ _; omega) (hb hby hd) hpre) K
/-- ldc of a String constant, opaque -/
theorem Wp.ldcO {own text : String} {idx nn : Nat} (hwd : wd = true) (hown0 : y.cls = own) (lk : (Cond.stringLink own idx text).before a0 Z = true) (wS : ∀ d ∈ Bundle.stringAtoms, d.before a0 Z = true) (hd : decode bytes pc = .ok (.ldc idx, 2)) (hp : pc + 2 = pc') (hnn : 4 * text.toList.length ≤ nn) (hbig : nn ≤ 536870912) (hk : k + 2 = k') (hn : n + (nn + 4) = n') (hk' : k' ≤ R.cells) (hn' : n' ≤ R.slots)
    (K : ∀ h' b, Ext h h' → Wp wd l Z a0 EL R y bytes maxL ret hs ws Q h' F k' n' pc' Ls (.ref b :: S)) : Wp wd l Z a0 EL R y bytes maxL ret hs ws Q h F k n pc Ls S := fun p e s m args below meth c vm0 k0 T locs I => by
  obtain ⟨⟨i1, i2, i3, i4, i5⟩, ⟨q1, q2, q3, q4, q5⟩, ⟨j1, j2, j3, j4, j5, j6, j7⟩, X, eT⟩ := I
  subst hk hn hp hown0
  obtain ⟨b, T', h', k1, X', e', E, hS, hk1, hW, hf, hC, -, st⟩ := ldcOH X i2 j5 j1 lk wS eT j2 j3 i1 j6.1 (g := mkF m pc Ls S) rfl (hb i3 hd) hnn hbig hk' hn'
  exact (K h' b E p e s m args below meth c T'.vm k1 T' locs ⟨⟨i1, i2, i3, i4, i5⟩, ⟨q1, q2, q3, q4, Ext.trans q5 E⟩, ⟨hf, hS, hk1, (fun z => by rw [hwd] at z; cases z), hW, j6.trans hC, fun x hx => ⟨Nat.lt_of_lt_of_le (j7 x hx).1 E.1, CHr.safe hC (j7 x hx).1 (j7 x hx).2⟩⟩, X', e'⟩).back st
/-- ldc of a String constant whose text is read -/
theorem Wp.ldcC {own text : String} {idx nn : Nat} {vs : List Value} {z : Int32} (hwd : wd = true) (hown0 : y.cls = own) (lk : (Cond.stringLink own idx text).before a0 Z = true) (wS : ∀ d ∈ Bundle.stringAtoms, d.before a0 Z = true) (hmem : (own, idx) ∈ EL) (ht : (∀ c ∈ text.toList, c.toNat < 256) ∧ text.toList.map (fun c => Value.int (Jvm.Lit.byteI c.toNat.toUInt16)) = vs) (hz : ¬ z < 0) (hl : z.toNatClampNeg = vs.length)
    (hd : decode bytes pc = .ok (.ldc idx, 2)) (hp : pc + 2 = pc') (hnn : 4 * text.toList.length ≤ nn) (hbig : nn ≤ 536870912) (hk : k + 2 = k') (hn : n + (nn + 4) = n') (hk' : k' ≤ R.cells) (hn' : n' ≤ R.slots)
    (K : ∀ h' b c kA, Ext h h' → Exa Z h' b "java/lang/String" → Fld Z h' b "java/lang/String" "coder" "B" (.int 0) → Fld Z h' b "java/lang/String" "value" "[B" (.ref c) → Arv Z h' c kA .byte z vs (.int 0) → (∀ x ∈ F, x ≠ b ∧ x ≠ c) → Wp wd l Z a0 EL R y bytes maxL ret hs ws Q h' F k' n' pc' Ls (.ref b :: S)) : Wp wd l Z a0 EL R y bytes maxL ret hs ws Q h F k n pc Ls S := fun p e s m args below meth c vm0 k0 T locs I => by
  obtain ⟨⟨i1, i2, i3, i4, i5⟩, ⟨q1, q2, q3, q4, q5⟩, ⟨j1, j2, j3, j4, j5, j6, j7⟩, X, eT⟩ := I
  subst hk hn hp hown0
  obtain ⟨b, T', h', k1, cc, kA, X', e', E, hS, hk1, hW, hf, r1, r2, r3, r4, -, -, hC, -, hne, st⟩ := ldcCH X i2 j5 j1 lk wS eT j2 j3 i1 hmem j6.1 ht hz hl (g := mkF m pc Ls S) rfl (hb i3 hd) hnn hbig hk' hn'
  have hSf : Sf Z EL T'.vm h' F := fun x hx => ⟨Nat.lt_of_lt_of_le (j7 x hx).1 E.1, CHr.safe hC (j7 x hx).1 (j7 x hx).2⟩
  exact (K h' b cc kA E r1 r2 r3 r4 (fun x hx => hne x (hSf x hx).2) p e s m args below meth c T'.vm k1 T' locs ⟨⟨i1, i2, i3, i4, i5⟩, ⟨q1, q2, q3, q4, Ext.trans q5 E⟩, ⟨hf, hS, hk1, (fun z => by rw [hwd] at z; cases z), hW, j6.trans hC, hSf⟩, X', e'⟩).back st
end Calls
end Jvm.Own
namespace Jvm.Own
open Sem ClassFile Op Lib Jvm.Stand Jvm.Free Jvm.LawKit Jvm.RoadKit
/-! small naturals as ints -/
theorem on_toInt {i : Nat} (h : i < 2147483648) : (Int32.ofNat i).toInt = i := Int32.toInt_ofNat_of_lt h
theorem on_lt {i n : Nat} (hn : n < 2147483648) (h : i < n) : Int32.ofNat i < Int32.ofNat n := by rw [Int32.lt_iff_toInt_lt, on_toInt (by omega), on_toInt hn]; omega
theorem on_nlt {i n : Nat} (hi : i < 2147483648) (h : n ≤ i) : ¬ Int32.ofNat i < Int32.ofNat n := by rw [Int32.lt_iff_toInt_lt, on_toInt hi, on_toInt (i := n) (by omega)]; omega
theorem on_nneg {i : Nat} (hi : i < 2147483648) : ¬ Int32.ofNat i < 0 := by rw [Int32.lt_iff_toInt_lt, on_toInt hi]; show ¬ ((i : Int) < 0); omega
theorem on_clamp {i : Nat} (hi : i < 2147483648) : (Int32.ofNat i).toNatClampNeg = i := by simp only [Int32.toNatClampNeg, on_toInt hi]; omega
theorem on_succ (i : Nat) : Int32.ofNat i + (1 : Int32) = Int32.ofNat (i + 1) := (Int32.ofNat_add i 1).symm
theorem on_eq {i n : Nat} (hi : i < 2147483648) (hn : n < 2147483648) : Int32.ofNat i = Int32.ofNat n ↔ i = n := by
  rw [← Int32.toInt_inj, on_toInt hi, on_toInt hn]; omega
/-- what the low byte of a char is, as the JVM keeps it -/
def lb (c : Int32) : Int32 := c.toInt8.toInt32
theorem nar_lb (c : Int32) : nar .byte c.toInt8.toInt32 = lb c := by show (c.toInt8.toInt32).toInt8.toInt32 = _; rw [Int8.toInt8_toInt32]; rfl
theorem set_step {f : Int32 → Value} {cs : List Int32} {i j : Nat} {c : Int32} {z v : Value} (hc : cs[i]? = some c) (hv : v = f c) : ((cs.take i).map f ++ List.replicate (j + 1) z).set i v = (cs.take (i + 1)).map f ++ List.replicate j z := by
  obtain ⟨hi, rfl⟩ := List.getElem?_eq_some_iff.mp hc
  have hl : ((cs.take i).map f).length = i := by simp; omega
  rw [List.set_append_right _ _ (by omega), hl, Nat.sub_self, List.replicate_succ, List.set_cons_zero, List.take_add_one, List.map_append, hv, hc]
  simp
/-- an object of C is none of K: neither C nor its only superclass O is K -/
theorem ns_no {Z : State} {a0 : Array Value} {C O K : String} {n : Nat} (w : (Cond.superclass C O).before a0 Z = true) (wr : (Cond.noSuperclass O).before a0 Z = true) (wk : (Cond.instantiable K n).before a0 Z = true) (hn : C ≠ K) (hn2 : O ≠ K) : ∃ c t, Z.vm.findClass C = some c ∧ Z.vm.findClass K = some t ∧ Z.vm.assignable c t = false := by
  obtain ⟨t, kt, g1, g2, g3, g4, -⟩ := Cond.instantiable_spec wk
  have hN : NS Z O K := by
    obtain ⟨c, k, h1, h2, h3, -, -⟩ := Cond.noSuperclass_spec wr
    have ne := ids_ne h1 g1 hn2
    refine ⟨c, t, h1, g1, fun fuel => ?_⟩
    cases fuel with
    | zero => rfl
    | succ f => simp [Vm.isSubclassAux, ne, h2, h3]
  obtain ⟨c, t', h0, g0, n3⟩ := NS.step w hN hn
  cases g1.symm.trans g0
  obtain ⟨p, k, kp, h1, h2, h3, h4, h5, -, h7⟩ := Cond.superclass_spec h0 w
  have ne := ids_ne h0 g0 hn
  have g5 : kt.isInterface = false := (Bool.or_eq_false_iff.mp g4).1
  refine ⟨c, t, h0, g1, ?_⟩
  show Z.vm.assignableAux (255 + 1) c t = false
  simp [Vm.assignableAux, ne, h2, g2, h5, g3, g5, Vm.isSubclass, n3]
section Str
variable {Z : State} {a0 : Array Value} {h h' : Heap} {s w : Addr} {bs : List Int32} {C : String} {n sl : Nat} {v : Value} {k : ClassId} {ty : FieldType} {z : Int32} {vs : List Value} {d : Value}
/-- a Latin-1 String: its bytes, as ints -/
def SL (Z : State) (h : Heap) (s : Addr) (bs : List Int32) : Prop := Exa Z h s "java/lang/String" ∧ Fld Z h s "java/lang/String" "coder" "B" (.int 0) ∧ ∃ b k, Fld Z h s "java/lang/String" "value" "[B" (.ref b) ∧ Arv Z h b k .byte (Int32.ofNat bs.length) (bs.map Value.int) (.int 0)
theorem SL.lt (S : SL Z h s bs) : s < h.size := S.1.lt
theorem SL.ext (S : SL Z h s bs) (E : Ext h h') : SL Z h' s bs := by
  obtain ⟨A, B, b, k, D, G⟩ := S; exact ⟨A.ext E, B.ext E, b, k, D.ext E, G.ext E⟩
theorem SL.keep0 (S : SL Z h s bs) (K : Keep h h' []) : SL Z h' s bs := by
  obtain ⟨A, B, b, k, D, G⟩ := S; exact ⟨A.keep K, B.keep K nin0, b, k, D.keep K nin0, G.keep K nin0⟩
theorem SL.keep1 (S : SL Z h s bs) (K : Keep h h' [w]) (q : s ≠ w) (E : Exa Z h w C) (wi : (Cond.instantiable C n).before a0 Z = true) : SL Z h' s bs := by
  obtain ⟨A, B, b, k, D, G⟩ := S; exact ⟨A.keep K, B.keep K (ninS q nin0), b, k, D.keep K (ninS q nin0), G.keep K (ninS (Ne.symm (Exa.neArv E G wi)) nin0)⟩
theorem SL.wr (S : SL Z h s bs) (W : Wr h h' w sl v) (q : s ≠ w) (E : Exa Z h w C) (wi : (Cond.instantiable C n).before a0 Z = true) : SL Z h' s bs := S.keep1 (Keep.of_wr W) q E wi
theorem Arv.neTy {a b : Addr} {k' : ClassId} {ty' : FieldType} {z' : Int32} {vs' : List Value} {d' : Value} (A : Arv Z h a k ty z vs d) (B : Arv Z h b k' ty' z' vs' d') (q : ty ≠ ty') : a ≠ b := fun e => by
  subst e
  obtain ⟨c, ⟨h1, ⟨-, kk, h2, cm, h3⟩, -⟩, -⟩ := A
  obtain ⟨c', ⟨g1, ⟨-, kk', g2, cm', g3⟩, -⟩, -⟩ := B
  cases h1.symm.trans g1
  cases h2.symm.trans g2
  rw [h3] at g3; injection g3 with _ g3; exact q g3
theorem SL.keepA (S : SL Z h s bs) (K : Keep h h' [w]) (V : Arv Z h w k ty z vs d) (ht : ty ≠ .byte) (wi : (Cond.instantiable "java/lang/String" n).before a0 Z = true) : SL Z h' s bs := by
  obtain ⟨A, B, b, k, D, G⟩ := S
  have q : s ≠ w := Exa.neArv A V wi
  exact ⟨A.keep K, B.keep K (ninS q nin0), b, k, D.keep K (ninS q nin0), G.keep K (ninS (Arv.neTy G V (Ne.symm ht)) nin0)⟩
theorem SL.wrA (S : SL Z h s bs) (W : Wr h h' w sl v) (V : Arv Z h w k ty z vs d) (ht : ty ≠ .byte) (wi : (Cond.instantiable "java/lang/String" n).before a0 Z = true) : SL Z h' s bs := S.keepA (Keep.of_wr W) V ht wi
end Str
end Jvm.Own
namespace Jvm.Own
/-- two lists of one length that are alike up to i, and at i .. -/
theorem take_step {α : Type} {xs ys : List α} {i : Nat} {x y : α} (hx : xs[i]? = some x) (hy : ys[i]? = some y) (h : xs.take i = ys.take i) : (xs.take (i + 1) = ys.take (i + 1)) ↔ x = y := by
  rw [List.take_add_one, List.take_add_one, hx, hy, h]; simp
theorem ne_at {α : Type} {xs ys : List α} {i : Nat} {x y : α} (hx : xs[i]? = some x) (hy : ys[i]? = some y) (h : ¬ x = y) : ¬ xs = ys := fun e => by
  rw [e, hy] at hx; exact h (Option.some.inj hx).symm
theorem ne_len {α : Type} {xs ys : List α} (hx : xs.length < 2147483647) (hy : ys.length < 2147483647) (h : ¬ Int32.ofNat xs.length = Int32.ofNat ys.length) : ¬ xs = ys := fun e => h (by rw [e])
theorem all_take {α : Type} {xs ys : List α} (hl : xs.length = ys.length) (h : xs.take xs.length = ys.take xs.length) : xs = ys := by
  rw [List.take_length] at h; rw [hl, List.take_length] at h; exact h
end Jvm.Own
namespace Jvm.Own
open Sem ClassFile Op Lib Jvm.Stand Jvm.Free Jvm.LawKit Jvm.RoadKit
/-! chars of 16 bits, kept as two bytes; Strings of either coder -/
def hbt (c : Int32) : Int32 := lb (c >>> ((8 : Int32) &&& 31))
theorem i2c_bv (x : Int32) : x.toUInt32.toUInt16.toUInt32.toInt32.toBitVec = BitVec.setWidth 32 (BitVec.setWidth 16 x.toBitVec) := by
  show (x.toUInt32.toUInt16.toUInt32).toBitVec = _
  rw [UInt16.toBitVec_toUInt32, UInt32.toBitVec_toUInt16]; rfl
theorem join16 (c : Int32) : (((lb c &&& (255 : Int32)) <<< ((0:Int32) &&& 31)) ||| ((hbt c &&& (255 : Int32)) <<< ((8:Int32) &&& 31))).toUInt32.toUInt16.toUInt32.toInt32 = c.toUInt32.toUInt16.toUInt32.toInt32 := by
  apply Int32.toBitVec_inj.mp
  simp only [lb, hbt]
  rw [i2c_bv, i2c_bv]
  have e0 : ((0 : Int32) &&& 31) = 0 := rfl
  have e8 : ((8 : Int32) &&& 31) = 8 := rfl
  rw [e0, e8]
  simp only [Int32.toBitVec_or, Int32.toBitVec_shiftLeft, Int32.toBitVec_and, Int8.toBitVec_toInt32, Int32.toBitVec_toInt8, Int32.toBitVec_shiftRight]
  have s0 : BitVec.smod (Int32.toBitVec 0) 32 = 0#32 := by decide
  have s8 : BitVec.smod (Int32.toBitVec 8) 32 = 8#32 := by decide
  have s255 : Int32.toBitVec 255 = 255#32 := rfl
  rw [s0, s8, s255]
  generalize c.toBitVec = b
  ext i hi
  rcases (by omega : i = 0 ∨ i = 1 ∨ i = 2 ∨ i = 3 ∨ i = 4 ∨ i = 5 ∨ i = 6 ∨ i = 7 ∨ i = 8 ∨ i = 9 ∨ i = 10 ∨ i = 11 ∨ i = 12 ∨ i = 13 ∨ i = 14 ∨ i = 15 ∨ i = 16 ∨ i = 17 ∨ i = 18 ∨ i = 19 ∨ i = 20 ∨ i = 21 ∨ i = 22 ∨ i = 23 ∨ i = 24 ∨ i = 25 ∨ i = 26 ∨ i = 27 ∨ i = 28 ∨ i = 29 ∨ i = 30 ∨ i = 31) with rfl | rfl | rfl | rfl | rfl | rfl | rfl | rfl | rfl | rfl | rfl | rfl | rfl | rfl | rfl | rfl | rfl | rfl | rfl | rfl | rfl | rfl | rfl | rfl | rfl | rfl | rfl | rfl | rfl | rfl | rfl | rfl <;> simp [BitVec.getElem_sshiftRight, BitVec.getElem_signExtend, BitVec.getElem_setWidth, BitVec.sshiftRight']

theorem on_shr0 (x : Int32) : x >>> ((0 : Int32) &&& 31) = x := by
  apply Int32.toBitVec_inj.mp; simp
theorem on_shl0 (x : Int32) : x <<< ((0 : Int32) &&& 31) = x := by
  apply Int32.toBitVec_inj.mp; simp
theorem on_shl1 {k : Nat} (hk : k < 1073741824) : Int32.ofNat k <<< ((1 : Int32) &&& 31) = Int32.ofNat (2 * k) := by
  have e1 : ((1 : Int32) &&& 31) = 1 := rfl
  have s1 : BitVec.smod (Int32.toBitVec 1) 32 = 1#32 := by decide
  apply Int32.toBitVec_inj.mp
  rw [e1, Int32.toBitVec_shiftLeft, s1]
  apply BitVec.eq_of_toNat_eq
  simp [Nat.shiftLeft_eq, Nat.mul_comm]
theorem on_shr1 {k : Nat} (hk : k < 1073741824) : Int32.ofNat (2 * k) >>> ((1 : Int32) &&& 31) = Int32.ofNat k := by
  have e1 : ((1 : Int32) &&& 31) = 1 := rfl
  have s1 : BitVec.smod (Int32.toBitVec 1) 32 = 1#32 := by decide
  apply Int32.toBitVec_inj.mp
  rw [e1, Int32.toBitVec_shiftRight, s1]
  apply BitVec.eq_of_toInt_eq
  rw [BitVec.sshiftRight', BitVec.toInt_sshiftRight]
  show (Int32.ofNat (2 * k)).toInt >>> 1 = (Int32.ofNat k).toInt
  rw [on_toInt (by omega), on_toInt (by omega), Int.shiftRight_eq_div_pow]
  omega
theorem on_cfa {n : Nat} (h0 : 0 < n) (hn : n < 1073741824) : ((Int32.ofNat n - Int32.ofNat (2 * n)).toUInt32 >>> ((31 : Int32) &&& 31).toUInt32).toInt32.toInt8.toInt32 = 1 := by
  have e : ((Int32.ofNat n - Int32.ofNat (2 * n)).toUInt32 >>> ((31 : Int32) &&& 31).toUInt32) = 1 := by
    apply UInt32.toNat_inj.mp
    have e31 : ((31 : Int32) &&& 31).toUInt32.toNat % 32 = 31 := by decide
    rw [UInt32.toNat_shiftRight, e31, Nat.shiftRight_eq_div_pow]
    have hb : (Int32.ofNat n - Int32.ofNat (2 * n)).toUInt32.toNat = (2 ^ 32 - n) := by
      show (Int32.ofNat n - Int32.ofNat (2 * n)).toBitVec.toNat = _
      rw [Int32.toBitVec_sub, BitVec.toNat_sub]
      show (2 ^ 32 - (BitVec.ofNat 32 (2 * n)).toNat + (BitVec.ofNat 32 n).toNat) % 2 ^ 32 = _
      simp only [BitVec.toNat_ofNat]
      omega
    rw [hb]
    show _ = 1
    omega
  rw [e]; rfl

def utf : List Int32 → List Value
  | [] => []
  | c :: cs => .int (lb c) :: .int (hbt c) :: utf cs
theorem utf_len (cs : List Int32) : (utf cs).length = 2 * cs.length := by
  induction cs with
  | nil => rfl
  | cons c cs ih => simp [utf, ih]; omega
theorem utf_app (xs ys : List Int32) : utf (xs ++ ys) = utf xs ++ utf ys := by
  induction xs with
  | nil => rfl
  | cons c cs ih => simp [utf, ih]
theorem utf_at {cs : List Int32} {i : Nat} {c : Int32} (h : cs[i]? = some c) : (utf cs)[2 * i]? = some (Value.int (lb c)) ∧ (utf cs)[2 * i + 1]? = some (.int (hbt c)) := by
  induction cs generalizing i with
  | nil => cases h
  | cons d ds ih =>
    cases i with
    | zero => cases h; exact ⟨rfl, rfl⟩
    | succ j =>
      have h' : ds[j]? = some c := h
      have e : 2 * (j + 1) = 2 * j + 1 + 1 := by omega
      rw [e]; exact ih h'
theorem set_two {α : Type} (A R : List α) (x y u v : α) : ((A ++ x :: y :: R).set A.length u).set (A.length + 1) v = A ++ u :: v :: R := by
  induction A with
  | nil => rfl
  | cons a A ih => simp
theorem utf_step {cs : List Int32} {i j : Nat} {c : Int32} (h : cs[i]? = some c) : ((utf (cs.take i) ++ List.replicate (2 * (j + 1)) (Value.int 0)).set (2 * i) (Value.int (lb c))).set (2 * i + 1) (Value.int (hbt c)) = utf (cs.take (i + 1)) ++ List.replicate (2 * j) (Value.int 0) := by
  have hl : (utf (cs.take i)).length = 2 * i := by
    have hi := (List.getElem?_eq_some_iff.mp h).1
    rw [utf_len, List.length_take]; omega
  have e : List.replicate (2 * (j + 1)) (Value.int 0) = .int 0 :: .int 0 :: List.replicate (2 * j) (Value.int 0) := by
    rw [show 2 * (j + 1) = 2 * j + 1 + 1 by omega, List.replicate_succ, List.replicate_succ]
  rw [e, ← hl, set_two, List.take_add_one, h, utf_app, List.append_assoc]; rfl
/-- how a String's fields hold a text: its coder, its array's length, its bytes -/
def Enc (cs : List Int32) (w zz : Int32) (vs : List Value) : Prop := (w = 0 ∧ zz = Int32.ofNat cs.length ∧ vs = cs.map (fun c => Value.int (lb c)) ∧ ∀ c ∈ cs, ¬ (255 : Int32) < c) ∨ (w = 1 ∧ zz = Int32.ofNat (2 * cs.length) ∧ vs = utf cs ∧ ∃ c ∈ cs, (255 : Int32) < c)
theorem Enc.w01 {cs : List Int32} {w zz : Int32} {vs : List Value} (e : Enc cs w zz vs) : w = 0 ∨ w = 1 := e.elim (fun q => Or.inl q.1) fun q => Or.inr q.1
theorem nar_w {w : Int32} (h : w = 0 ∨ w = 1) : nar .byte w = w := by rcases h with rfl | rfl <;> rfl
theorem fit_w {w : Int32} (h : w = 0 ∨ w = 1) : fits .byte (.int w) = true := by rcases h with rfl | rfl <;> rfl
theorem Enc.len {cs : List Int32} {w zz : Int32} {vs : List Value} (e : Enc cs w zz vs) (hn : cs.length < 1073741824) : zz >>> (w &&& 31) = Int32.ofNat cs.length := by
  rcases e with ⟨rfl, rfl, -⟩ | ⟨rfl, rfl, -⟩
  · exact on_shr0 _
  · exact on_shr1 hn
theorem Enc.cfa {cs : List Int32} {w zz : Int32} {vs : List Value} (e : Enc cs w zz vs) (hn : cs.length < 1073741824) : nar .byte ((Int32.ofNat cs.length - zz).toUInt32 >>> ((31 : Int32) &&& 31).toUInt32).toInt32.toInt8.toInt32 = w := by
  rcases e with ⟨rfl, rfl, -⟩ | ⟨rfl, rfl, -, c, hc, -⟩
  · rw [Int32.sub_self]; rfl
  · rw [on_cfa (List.length_pos_of_mem hc) hn]; rfl
def ST (Z : State) (h : Heap) (s : Addr) (cs : List Int32) : Prop := ∃ b k w zz vs, Exa Z h s "java/lang/String" ∧ Fld Z h s "java/lang/String" "coder" "B" (.int w) ∧ Fld Z h s "java/lang/String" "value" "[B" (.ref b) ∧ Arv Z h b k .byte zz vs (.int 0) ∧ Enc cs w zz vs
theorem ST.exa {Z : State} {h : Heap} {s : Addr} {cs : List Int32} (S : ST Z h s cs) : Exa Z h s "java/lang/String" := by obtain ⟨b, k, w, zz, vs, A, -⟩ := S; exact A
theorem ST.lt {Z : State} {h : Heap} {s : Addr} {cs : List Int32} (S : ST Z h s cs) : s < h.size := S.exa.lt
theorem ST.ext {Z : State} {h h' : Heap} {s : Addr} {cs : List Int32} (S : ST Z h s cs) (E : Ext h h') : ST Z h' s cs := by
  obtain ⟨b, k, w, zz, vs, A, B, C, D, G⟩ := S; exact ⟨b, k, w, zz, vs, A.ext E, B.ext E, C.ext E, D.ext E, G⟩
theorem ST.keep0 {Z : State} {h h' : Heap} {s : Addr} {cs : List Int32} (S : ST Z h s cs) (K : Keep h h' []) : ST Z h' s cs := by
  obtain ⟨b, k, w, zz, vs, A, B, C, D, G⟩ := S; exact ⟨b, k, w, zz, vs, A.keep K, B.keep K nin0, C.keep K nin0, D.keep K nin0, G⟩
theorem ch_nar (x : Int32) : nar .char (nar .char x) = nar .char x := by
  show x.toUInt32.toUInt16.toUInt32.toInt32.toUInt32.toUInt16.toUInt32.toInt32 = x.toUInt32.toUInt16.toUInt32.toInt32
  apply Int32.toBitVec_inj.mp
  rw [i2c_bv, i2c_bv]
  apply BitVec.eq_of_toNat_eq
  simp
theorem ch_nn {c : Int32} (h : nar .char c = c) : ¬ c < 0 ∧ c.toInt < 65536 := by
  rw [← h]
  have h2 := (c.toUInt32.toUInt16).toNat_lt
  have e : (nar .char c).toInt = c.toUInt32.toUInt16.toNat := by
    show ((c.toUInt32.toUInt16.toUInt32).toBitVec).toInt = _
    have hm : (c.toUInt32.toUInt16.toUInt32).toBitVec.toNat = c.toUInt32.toUInt16.toNat := by
      show (c.toUInt32.toUInt16.toUInt32).toNat = _
      simp
    rw [BitVec.toInt_eq_toNat_cond, hm, if_pos (by omega)]
  have e2 : (0 : Int32).toInt = 0 := rfl
  rw [Int32.lt_iff_toInt_lt, e, e2]; omega
end Jvm.Own
namespace Jvm.Own
open Sem ClassFile Op Lib Jvm.Stand Jvm.Free Jvm.LawKit Jvm.RoadKit
section Calls
variable {wd : Bool} {l : Launch} {Z : State} {EL : List (String × Nat)} {R : Room} {y : MethodName} {bytes : ByteArray} {maxL : Nat} {ret : Option FieldType} {hs : Heap} {ws : List Addr} {Q : Option Value → Heap → Prop} {h h' : Heap} {F F' : List Addr} {k n k' n' pc pc' pc1 : Nat} {Ls Ls' : Array Slot} {S S' : List Value}
variable {a0 : Array Value} {a b : Addr} {C O nm d : String} {v w : Value} {sl : Nat} {cl : Cell} {ty : FieldType}
variable {y' : MethodName} {bytes' : ByteArray} {maxL' : Nat} {ret' : Option FieldType} {rm : Room} {as : Array Value} {Fc wc : List Addr} {Qc : Option Value → Heap → Prop}
/-- a call of a body that interns nothing and writes nothing old: what it made may be written -/
theorem Wp.callN {len W : Nat} {rest : List Value} (Cc : Ct false l Z EL [] y' bytes' maxL' ret' rm as h [] [] Qc) (wcode : (Cond.code y' bytes' maxL' ret').before a0 Z = true) (wz : (Cond.initialized y'.cls).before a0 Z = true) (hf : rm.frames + 1 ≤ R.frames) (hl : W + (maxL' + 11) + rm.locals ≤ R.locals) (hk : k + rm.cells = k') (hn : n + rm.slots = n') (hk' : k' ≤ R.cells) (hn' : n' ≤ R.slots)
    (law : ∀ (p : Program) (e : Env) (s : State) (m : MethodId) (args : Array Value) (below : List Frame) (meth : Method) (c : Code) (T : State) (locs : List Loc) (Pre : Pt → Array Value → Prop) (Post : Pt → Array Value → Option Value → Pt → Prop), Stand p l e R s m args below meth c T locs k n → p.tables.exec = Jvm.exec → Z.Warmed39 s.vm → s.vm.findClass y.cls = some m.cls → c.code = bytes → c.maxLocals = maxL → T.heap = h →
      BackS l R p e below s args y' len W Pre Post → (∀ vm₁, s.WarmedH vm₁ → Pre ⟨T.setVm vm₁, locs, k, n⟩ as) →
      ∃ (v : Option Value) (vm₁ : Vm) (B : Pt), s.WarmedH vm₁ ∧ Stand p l e R (s.setVm B.U.vm) m args below meth c B.U B.locs B.cells B.slots ∧ s.Since B.U.vm B.U.heap.size ∧ T.heap.size ≤ B.U.heap.size ∧ Post ⟨T.setVm vm₁, locs, k, n⟩ as v B ∧
        Steps p.tables e below (T.setTop (mkF m pc Ls S)) (B.U.setTop (mkF m pc' Ls (v.toList ++ rest))))
    (K : ∀ v h', hs.size ≤ h.size → Keep h h' [] → Qc v h' → ∃ d, h.size ≤ d ∧ d < h'.size ∧ Wp wd l Z a0 EL R y bytes maxL ret hs ws Q h' (d :: F) k' n' pc' Ls (v.toList ++ rest)) : Wp wd l Z a0 EL R y bytes maxL ret hs ws Q h F k n pc Ls S := fun p e s m args below meth c vm0 k0 T locs I => by
  obtain ⟨⟨i1, i2, i3, i4, i5⟩, ⟨q1, q2, q3, q4, q5⟩, ⟨j1, j2, j3, j4, j5, j6, j7⟩, X, eT⟩ := I
  subst hk hn
  obtain ⟨v, vm₁, ⟨U, L', kk, nn⟩, hW₁, X', hS', hgr, ⟨L, ⟨c1, c2⟩, c3, c4, c5, c6, c7, c8⟩, st⟩ := law p e (s.setVm vm0) m args below meth c T locs _ _ X i2 j5 j1 i3 i4 eT (Ct.pays Cc i1 j5 wcode wz hf hl j6.1 (fun x hx => nomatch hx)) (fun _ _ => ⟨rfl, eT, hk', hn'⟩)
  dsimp only [Pt.U, Pt.locs, Pt.cells, Pt.slots] at X' hS' hgr c2 c3 c4 c5 c6 c7 c8 st
  subst c3 c4 c5
  have hhs : hs.size ≤ h.size := j6.2.1
  have hSin : s.Since U.vm U.heap.size := j2.trans hS' (Nat.le_trans j3 (by rw [← eT]; exact hgr))
  obtain ⟨d, hd1, hd2, Kd⟩ := K v U.heap hhs c7 c2
  have hE0 : Ext h U.heap := ⟨c7.1, fun x c hx => c7.2.1 x c hx nin0⟩
  have hW := c8 rfl
  have q := CHv.later (h' := U.heap) j5 (hW := (show (Wst Z vm0 U.heap).Warmed39 U.vm from hW.wide)) i1 ⟨Nat.le_refl _, fun _ _ q => q⟩ (Or.inl hW.interned_eq) (CHv.ext hE0 j6.1)
  have hsd : Safe Z EL U.vm U.heap d := CHr.safe (show CHr Z EL vm0 U.heap U.vm U.heap from ⟨q.1, Nat.le_refl _, q.2⟩) hd2 (Safe.ext hE0 j6.1 (Safe.new hd1))
  refine (Kd p e s m args below meth c U.vm U.heap.size U _ ⟨⟨i1, i2, i3, i4, i5⟩, ⟨q1, q2, q3, fun z hz => ?_, Ext.trans q5 hE0⟩, ⟨(hS'.1.alike.findClass _ _).trans j1, hSin, Nat.le_refl _, fun z => State.WarmedH.trans (t := s.setVm vm0) (j4 z) hW, State.Warmed39.trans (t := s.setVm vm0) j5 hS'.1, j6.trans c6, fun x hx => ?_⟩, X', rfl⟩).back fun t => st.trans
  · rcases List.mem_append.mp hz with hz | hz
    · exact q4 z hz
    · rcases c1 z hz with q | q
      · cases q
      · exact Or.inr (Nat.le_trans hhs q)
  · rcases List.mem_cons.mp hx with rfl | hx
    · exact ⟨hd2, hsd⟩
    · exact ⟨Nat.lt_of_lt_of_le (j7 x hx).1 c7.1, CHr.safe c6 (j7 x hx).1 (j7 x hx).2⟩
theorem Wp.callSF {own : String} {idx W : Nat} {argsL rest : List Value} (hown0 : y.cls = own) (Cc : Ct false l Z EL [] y' bytes' maxL' ret' rm as h [] [] Qc) (wl : (Cond.methodLink own idx y').before a0 Z = true) (wst : (Cond.static y').before a0 Z = true) (wcode : (Cond.code y' bytes' maxL' ret').before a0 Z = true) (wz : (Cond.initialized y'.cls).before a0 Z = true) (hy : y'.cls ≠ "java/lang/invoke/MethodHandle" ∧ y'.cls ≠ "java/lang/invoke/VarHandle") (hlen : ∀ sig, parseMethodDescriptor y'.desc = some sig → argsL.length = sig.parameters.length) (hd : decode bytes pc = .ok (.invokestatic idx, 3))
    (hsz : Ls.size = maxL) (hst : S = argsL.reverse ++ rest) (has : argsL.toArray = as) (hW : (rest.map fun v => v.category).sum ≤ W) (hp : pc + 3 = pc') (hf : rm.frames + 1 ≤ R.frames) (hl : W + (maxL' + 11) + rm.locals ≤ R.locals) (hk : k + rm.cells = k') (hn : n + rm.slots = n') (hk' : k' ≤ R.cells) (hn' : n' ≤ R.slots)
    (K : ∀ v h', hs.size ≤ h.size → Keep h h' [] → Qc v h' → ∃ d, h.size ≤ d ∧ d < h'.size ∧ Wp wd l Z a0 EL R y bytes maxL ret hs ws Q h' (d :: F) k' n' pc' Ls (v.toList ++ rest)) : Wp wd l Z a0 EL R y bytes maxL ret hs ws Q h F k n pc Ls S := by
  subst hown0 hst has hp
  exact Wp.callN Cc wcode wz hf hl hk hn hk' hn' (fun p e s m args below meth c T locs Pre Post X hx hZ hown hby hml eT hK hpre => callSS X hx hown (mvT hZ wl) (mvT hZ wst) (mvT hZ wz) (mvT hZ wcode) hy hK (g := mkF m pc Ls (argsL.reverse ++ rest)) rfl (by rw [hml]; exact hsz) hlen rfl (by show 2 * 0 + _ ≤ _; omega) (hb hby hd) hpre) K
end Calls
end Jvm.Own
namespace Jvm.Own
open Sem ClassFile Op Lib Jvm.Stand Jvm.Free Jvm.LawKit Jvm.RoadKit
section Arrays
variable {wd : Bool} {l : Launch} {Z : State} {EL : List (String × Nat)} {R : Room} {y : MethodName} {bytes : ByteArray} {maxL : Nat} {ret : Option FieldType} {hs : Heap} {ws : List Addr} {Q : Option Value → Heap → Prop} {h h' : Heap} {F F' : List Addr} {k n k' n' pc pc' pc1 : Nat} {Ls Ls' : Array Slot} {S S' : List Value}
variable {a0 : Array Value} {a b : Addr} {C O nm d : String} {v w : Value} {sl : Nat} {cl : Cell} {ty : FieldType}
variable {y' : MethodName} {bytes' : ByteArray} {maxL' : Nat} {ret' : Option FieldType} {rm : Room} {as : Array Value} {Fc wc : List Addr} {Qc : Option Value → Heap → Prop}

theorem Wp.newRE {own ad : String} {index : Nat} {z : Int32} {cap : Nat} (hown0 : y.cls = own) (lk : (Cond.classLink own index C).before a0 Z = true) (wa : (Cond.arrayOver (.object C)).before a0 Z = true) (had : "[" ++ (FieldType.object C).toString = ad) (hz : ¬ z < 0) (hcap : z.toNatClampNeg ≤ cap) (hb8 : cap * 8 ≤ 536870912) (hd : decode bytes pc = .ok (.anewarray index, 3)) (hp : pc + 3 = pc') (hk : k + 1 = k') (hn : n + cap = n') (hk' : k' ≤ R.cells) (hn' : n' ≤ R.slots)
    (K : ∀ h' b kA, b = h.size → hs.size ≤ b → Ext h h' → Arv Z h' b kA (.object C) z [] .null → Ovr Z kA C → Exa Z h' b ad → Wp wd l Z a0 EL R y bytes maxL ret hs ws Q h' (b :: F) k' n' pc' Ls (.ref b :: S)) : Wp wd l Z a0 EL R y bytes maxL ret hs ws Q h F k n pc Ls (.int z :: S) := by
  subst hp hk hn hown0
  exact Wp.mk (fun h' => ∃ kA, Arv Z h' h.size kA (.object C) z [] .null ∧ Ovr Z kA C ∧ Exa Z h' h.size ad) (fun h' q => q.elim fun _ A => A.1.lt)
    (fun p e s m args below meth c T locs X hx hZ hown hby eT => by obtain ⟨T', h', kA, X', e', E, A, Ex, Ov, st⟩ := Jvm.RoadKit.newRE X hx hZ hown lk wa eT (g := mkF m pc Ls (.int z :: S)) rfl (hb hby hd) rfl hz hcap hb8 hk' hn' had; exact ⟨T', h', X', e', E, ⟨kA, Arv.new A hz, Ov, Ex⟩, st⟩) (fun h' z E q => q.elim fun kA A => K h' _ kA rfl z E A.1 A.2.1 A.2.2)
/-- Object.getClass() -/
theorem Wp.getCls {own : String} {index W : Nat} {mr : Addr} (hown0 : y.cls = own) (w1 : (Cond.methodLink own index ⟨"java/lang/Object", "getClass", "()Ljava/lang/Class;"⟩).before a0 Z = true) (w2 : (Cond.declares ⟨"java/lang/Object", "getClass", "()Ljava/lang/Class;"⟩).before a0 Z = true) (w3 : (Cond.noSuperclass "java/lang/Object").before a0 Z = true) (w4 : (Cond.selects C ⟨"java/lang/Object", "getClass", "()Ljava/lang/Class;"⟩ ⟨"java/lang/Object", "getClass", "()Ljava/lang/Class;"⟩).before a0 Z = true)
    (w5 : (Cond.instanceMethod ⟨"java/lang/Object", "getClass", "()Ljava/lang/Class;"⟩).before a0 Z = true) (w6 : (Cond.native ⟨"java/lang/Object", "getClass", "()Ljava/lang/Class;"⟩).before a0 Z = true) (E : Exa Z h a C) (M : Mir Z C mr) (hsz : Ls.size = maxL) (hd : decode bytes pc = .ok (.invokevirtual index, 3)) (hp : pc + 3 = pc') (hf : 1 ≤ R.frames) (hW : (S.map fun v => v.category).sum ≤ W) (hl : W + (nativeFrameWords "java/lang/Object" "getClass" 1 + 11) ≤ R.locals)
    (K : Wp wd l Z a0 EL R y bytes maxL ret hs ws Q h F k n pc' Ls (.ref mr :: S)) : Wp wd l Z a0 EL R y bytes maxL ret hs ws Q h F k n pc Ls (.ref a :: S) := by
  subst hp hown0
  exact Wp.tab (fun p e s m args below meth c T locs X hx hZ hown hby hml _ eT _ => gcls X hx hZ hown w1 w2 w3 w4 w5 w6 eT E M (g := mkF m pc Ls (.ref a :: S)) rfl (by rw [hml]; exact hsz) rfl (hb hby hd) hf (W := W) (by show 2 * 0 + _ ≤ _; omega) hl) K
/-- ldc of a class constant whose Class object is there -/
theorem Wp.ldcK {own : String} {index : Nat} {mr : Addr} (hown0 : y.cls = own) (lk : (Cond.classLink own index C).before a0 Z = true) (M : Mir Z C mr) (hd : decode bytes pc = .ok (.ldc index, 2)) (hp : pc + 2 = pc')
    (K : Wp wd l Z a0 EL R y bytes maxL ret hs ws Q h F k n pc' Ls (.ref mr :: S)) : Wp wd l Z a0 EL R y bytes maxL ret hs ws Q h F k n pc Ls S := by
  subst hp hown0
  refine Wp.tab (fun p e s m args below meth c T locs X hx hZ hown hby hml _ eT _ => ?_) K
  obtain ⟨cc, kc, m1, m2, m3, -⟩ := M
  obtain ⟨k', q, ek⟩ := hZ.alike.2.2 _ _ m2
  have hm : k'.mirror = some mr := by rw [ek]; exact m3
  have hfc : s.vm.findClass C = some cc := by rw [hZ.alike.findClass]; exact m1
  obtain ⟨vm', X', st⟩ := X.ldcMirror hx hown (mv hZ lk) (show (Term.mirror C).eval args s none [] s = some (.ref mr) by simp [Term.eval, hfc, q, hm]) (g := mkF m pc Ls S) rfl (hb hby hd)
  exact ⟨_, X', eT, st⟩
/-- System.arraycopy into an array that this body made -/
theorem Wp.copy {own : String} {index W : Nat} {kA kB : ClassId} {ty' : FieldType} {z z' sp dp nn : Int32} {vs vd us : List Value} {dv dd : Value} {rest : List Value} (hown0 : y.cls = own) (hws : ws = []) (w1 : (Cond.methodLink own index Jvm.Stand.acN).before a0 Z = true) (w2 : (Cond.native Jvm.Stand.acN).before a0 Z = true) (w3 : (Cond.static Jvm.Stand.acN).before a0 Z = true) (w4 : (Cond.initialized "java/lang/System").before a0 Z = true)
    (A : Arv Z h a kA ty z vs dv) (B : Arv Z h b kB ty' z' vd dd) (hty : (ty = ty' ∧ refKind ty = false) ∨ (refKind ty = true ∧ refKind ty' = true ∧ StoL Z h b us)) (h1 : ¬ sp < 0) (h2 : ¬ dp < 0) (h3 : ¬ nn < 0) (h4 : sp.toNatClampNeg + nn.toNatClampNeg ≤ z.toNatClampNeg) (h5 : dp.toNatClampNeg + nn.toNatClampNeg ≤ z'.toNatClampNeg)
    (hus : us = (List.range nn.toNatClampNeg).map fun i => vs.getD (sp.toNatClampNeg + i) dv) (hl : dp.toNatClampNeg + nn.toNatClampNeg ≤ vd.length) (ge : hs.size ≤ b) (sf : Sfe Z EL h F b) (hsz : Ls.size = maxL) (hd : decode bytes pc = .ok (.invokestatic index, 3)) (hp : pc + 3 = pc') (hf : 1 ≤ R.frames) (hW : (rest.map fun v => v.category).sum ≤ W) (hlo : W + (nativeFrameWords "java/lang/System" "arraycopy" 5 + 11) ≤ R.locals)
    (K : ∀ h', Keep h h' [b] → Arv Z h' b kB ty' z' (vd.take dp.toNatClampNeg ++ us ++ vd.drop (dp.toNatClampNeg + nn.toNatClampNeg)) dd → Wp wd l Z a0 EL R y bytes maxL ret hs ws Q h' F k n pc' Ls rest) : Wp wd l Z a0 EL R y bytes maxL ret hs ws Q h F k n pc Ls (.int nn :: .int dp :: .ref b :: .int sp :: .ref a :: rest) := fun p e s m args below meth c vm0 k0 T locs I => by
  obtain ⟨⟨i1, i2, i3, i4, i5⟩, ⟨q1, q2, q3, q4, q5⟩, ⟨j1, j2, j3, j4, j5, j6, j7⟩, X, eT⟩ := I
  subst hp hown0 hws
  obtain ⟨T', h', L', X', eT', N', Kp, V', st⟩ := cpA X i2 j5 j1 w1 w2 w3 w4 eT A B hty h1 h2 h3 h4 h5 hus hl (n0 := hs.size) (fun y hy => (q4 y hy).resolve_left (fun q => nomatch q)) ge (g := mkF m pc Ls (.int nn :: .int dp :: .ref b :: .int sp :: .ref a :: rest)) rfl (by rw [i4]; exact hsz) rfl (hb i3 hd) hf (W := W) (by show 2 * 0 + _ ≤ _; omega) hlo
  have S := sf vm0 j5.alike j7
  have hS : ∀ x ∈ [b], Safe Z EL vm0 h x := fun x hx => by cases List.mem_singleton.mp hx; exact S
  exact (K h' Kp V' p e s m args below meth c vm0 k0 T' L' ⟨⟨i1, i2, i3, i4, i5⟩, ⟨q1, q2, q3, fun y hy => Or.inr (N' y hy), ext_keep q5 Kp fun x hx => by cases List.mem_singleton.mp hx; exact Nat.le_trans q3 ge⟩, ⟨j1, j2, Nat.le_trans j3 Kp.1, j4, j5, j6.trans (CHr.keep Kp hS j6.1), fun x hx => ⟨Nat.lt_of_lt_of_le (j7 x hx).1 Kp.1, Safe.keep Kp hS j6.1 (j7 x hx).2⟩⟩, X', eT'⟩).back st
/-- an empty array of the start -/
theorem arv0 {de : Addr} {cl : Cell} (A : Arr Z h de cl ty) (q : cl.slots.size = 0) : Arv Z h de cl.cls ty (0 : Int32) [] .null := ⟨cl, A, rfl, by rw [q]; rfl, by decide, fun k hk => by omega, fun i hi => by omega⟩
theorem arv_len0 {args : Array Value} {t : Term} {de : Addr} (ev : t.eval args Z none [] Z = some (.ref de)) (hx : (Cond.arrayOf t ty).value args Z none Z [] = some true) (hl : (Cond.eq (.length t) (.int 0)).value args Z none Z [] = some true) : ∃ kA, Arv Z Z.heap de kA ty (0 : Int32) [] .null := by
  obtain ⟨cl, A⟩ := Arr.start ev hx
  have e := eqv_i (Term.int_eval (0)) hl
  obtain ⟨a', cell, e1, e2, e3⟩ := Term.length_spec e
  cases ev.symm.trans e1
  have e4 := Arr.fin (U := Z) (Vm.Alike.refl _) A
  cases e4.symm.trans e2
  have h31 := Jvm.Free.SBG.length_lt e1 e2 e
  refine ⟨_, arv0 A ?_⟩
  have e5 := congrArg Int32.toInt (Value.int.inj e3)
  rw [show cl.slots.size.toInt32 = Int32.ofNat cl.slots.size from rfl, Int32.toInt_ofNat_small h31] at e5
  have e6 : (0 : Int32).toInt = 0 := rfl
  omega
theorem Wp.callP {own : String} {idx W : Nat} {argsL rest : List Value} (hown0 : y.cls = own) (Cc : Ct wd l Z EL [] y' bytes' maxL' ret' rm as h Fc wc Qc) (wl : (Cond.methodLink own idx y').before a0 Z = true) (wpr : (Cond.privateMethod y').before a0 Z = true) (wsel : (Cond.selects y'.cls y' y').before a0 Z = true) (wi : (Cond.instanceMethod y').before a0 Z = true) (wcode : (Cond.code y' bytes' maxL' ret').before a0 Z = true) (wz : (Cond.initialized y'.cls).before a0 Z = true) (E : Exa Z h a C) (hy : y'.cls ≠ "java/lang/invoke/MethodHandle" ∧ y'.cls ≠ "java/lang/invoke/VarHandle") (hlen : ∀ sig, parseMethodDescriptor y'.desc = some sig → argsL.length = sig.parameters.length) (hd : decode bytes pc = .ok (.invokevirtual idx, 3))
    (hsz : Ls.size = maxL) (hst : S = argsL.reverse ++ .ref a :: rest) (has : (Value.ref a :: argsL).toArray = as) (hW : (rest.map fun v => v.category).sum ≤ W) (hp : pc + 3 = pc') (hFc : ∀ x ∈ Fc, x ∈ F) (hwc : ∀ x ∈ wc, x ∈ ws ∨ hs.size ≤ x) (hf : rm.frames + 1 ≤ R.frames) (hl : W + (maxL' + 11) + rm.locals ≤ R.locals) (hk : k + rm.cells = k') (hn : n + rm.slots = n') (hk' : k' ≤ R.cells) (hn' : n' ≤ R.slots)
    (K : ∀ v h', hs.size ≤ h.size → Keep h h' wc → Qc v h' → Wp wd l Z a0 EL R y bytes maxL ret hs ws Q h' F k' n' pc' Ls (v.toList ++ rest)) : Wp wd l Z a0 EL R y bytes maxL ret hs ws Q h F k n pc Ls S := by
  subst hown0 hst has hp
  obtain ⟨cell, kq, e1, e2, e3, e4, e5⟩ := E
  exact Wp.call Cc wcode wz hFc hwc hf hl hk hn hk' hn' (fun p e s m args below meth c T locs Pre Post X hx hZ hown hby hml eT hKK hpre => by
    exact X.privateBackS hx hown (mvT hZ wl) (mvT hZ wi) (mvT hZ wsel) (Cond.privateMethod_at (args := args) (mvT hZ wpr)) (mvT hZ wcode) hy hKK (g := mkF m pc Ls (argsL.reverse ++ .ref a :: rest)) rfl (by rw [hml]; exact hsz) (Steps.refl _) (by rw [eT]; exact e1) (fun q r => by rw [r] at e4; cases e4) hlen rfl (by show 2 * 0 + _ ≤ _; omega) (hb hby hd) hpre) K
theorem ns_root {O K : String} {n : Nat} (wr : (Cond.noSuperclass O).before a0 Z = true) (wk : (Cond.instantiable K n).before a0 Z = true) (hn2 : O ≠ K) : NS Z O K := by
  obtain ⟨t, kt, g1, -⟩ := Cond.instantiable_spec wk
  obtain ⟨c, k, h1, h2, h3, -, -⟩ := Cond.noSuperclass_spec wr
  have ne := ids_ne h1 g1 hn2
  refine ⟨c, t, h1, g1, fun fuel => ?_⟩
  cases fuel with
  | zero => rfl
  | succ f => simp [Vm.isSubclassAux, ne, h2, h3]
theorem ns_fin {C O K : String} {n : Nat} (w : (Cond.superclass C O).before a0 Z = true) (N : NS Z C K) (wk : (Cond.instantiable K n).before a0 Z = true) (hn : C ≠ K) : ∃ c t, Z.vm.findClass C = some c ∧ Z.vm.findClass K = some t ∧ Z.vm.assignable c t = false := by
  obtain ⟨t, kt, g1, g2, g3, g4, -⟩ := Cond.instantiable_spec wk
  obtain ⟨c, t', h0, g0, n3⟩ := N
  cases g1.symm.trans g0
  obtain ⟨p, k, kp, h1, h2, h3, h4, h5, -, h7⟩ := Cond.superclass_spec h0 w
  have ne := ids_ne h0 g0 hn
  have g5 : kt.isInterface = false := (Bool.or_eq_false_iff.mp g4).1
  refine ⟨c, t, h0, g1, ?_⟩
  show Z.vm.assignableAux (255 + 1) c t = false
  simp [Vm.assignableAux, ne, h2, g2, h5, g3, g5, Vm.isSubclass, n3]
end Arrays
end Jvm.Own
@@BLOCK:NumsL.lean.txt@@
namespace Jvm.Pilot.@@N@@
open Jvm Jvm.ClassFile Sem Op Lib Jvm.Free Jvm.Stand Jvm.LawKit Jvm.RoadKit Bundle Jvm.Own Jvm.Pilot.@@N@@.Jvm.D
theorem own_and3 (p : Int32) : (p &&& (3 : Int32)) = 0 ∨ (p &&& (3 : Int32)) = 1 ∨ (p &&& (3 : Int32)) = 2 ∨ (p &&& (3 : Int32)) = 3 := by
  have e := Jvm.Kit.i32_mask p 3 (k := 2) (by decide) (by decide)
  simp only [← Int32.toInt_inj]
  show _ = (0 : Int) ∨ _ = (1 : Int) ∨ _ = (2 : Int) ∨ _ = (3 : Int)
  rw [e]; omega
theorem own_255 (x : Int32) : ¬ (255 : Int32) < (x &&& (255 : Int32)) ∧ ¬ (x &&& (255 : Int32)) < 0 := by
  have e := Jvm.Kit.i32_mask x 255 (k := 8) (by decide) (by decide)
  have e1 : (255 : Int32).toInt = 255 := rfl
  have e2 : (0 : Int32).toInt = 0 := rfl
  rw [Int32.lt_iff_toInt_lt, Int32.lt_iff_toInt_lt, e]; omega
theorem own_nar (x : Int32) : nar .char (x &&& (255 : Int32)) = x &&& (255 : Int32) := i2c_mask x
theorem own_lb {x y : Int32} (hx : ¬ (255 : Int32) < x ∧ ¬ x < 0) (hy : ¬ (255 : Int32) < y ∧ ¬ y < 0) : lb x = lb y ↔ x = y := by
  constructor
  · intro h
    have e1 : (255 : Int32).toInt = 255 := rfl
    have e2 : (0 : Int32).toInt = 0 := rfl
    simp only [Int32.lt_iff_toInt_lt, e1, e2] at hx hy
    have h1 := congrArg Int32.toInt h
    simp only [lb, Int8.toInt_toInt32, Int32.toInt_toInt8, Int.bmod_def] at h1
    apply Int32.toInt_inj.mp
    omega
  · rintro rfl; rfl
theorem own_wS {Z : State} {a0 : Array Value} (hw : ∀ d ∈ tables_1, d.before a0 Z = true) : ∀ d ∈ Bundle.stringAtoms, d.before a0 Z = true := by
  intro d hd
  simp only [Bundle.stringAtoms, Bundle.sN, List.mem_cons, List.not_mem_nil, or_false] at hd
  rcases hd with rfl | rfl | rfl | rfl | rfl | rfl | rfl
  · exact (hw _ (List.mem_of_getElem? (i := 3) rfl))
  · exact (hw _ (List.mem_of_getElem? (i := 2) rfl))
  · exact (hw _ (List.mem_of_getElem? (i := 19) rfl))
  · exact (hw _ (List.mem_of_getElem? (i := 29) rfl))
  · exact (hw _ (List.mem_of_getElem? (i := 27) rfl))
  · exact (hw _ (List.mem_of_getElem? (i := 107) rfl))
  · exact (hw _ (List.mem_of_getElem? (i := 108) rfl))
theorem d5_0 : decode jdk_52_method_21_code 0 = .ok (.iconst 0, 1) := by decide +kernel
theorem d5_1 : decode jdk_52_method_21_code 1 = .ok (.istore 5, 2) := by decide +kernel
theorem d5_3 : decode jdk_52_method_21_code 3 = .ok (.iload 5, 2) := by decide +kernel
theorem d5_5 : decode jdk_52_method_21_code 5 = .ok (.iload 4, 2) := by decide +kernel
theorem d5_7 : decode jdk_52_method_21_code 7 = .ok (.if_icmp .ge 37, 3) := by decide +kernel
theorem d5_10 : decode jdk_52_method_21_code 10 = .ok (.aload_n 0, 1) := by decide +kernel
theorem d5_11 : decode jdk_52_method_21_code 11 = .ok (.iload_n 1, 1) := by decide +kernel
theorem d5_12 : decode jdk_52_method_21_code 12 = .ok (.caload, 1) := by decide +kernel
theorem d5_13 : decode jdk_52_method_21_code 13 = .ok (.istore 6, 2) := by decide +kernel
theorem d5_15 : decode jdk_52_method_21_code 15 = .ok (.iload 6, 2) := by decide +kernel
theorem d5_17 : decode jdk_52_method_21_code 17 = .ok (.sipush 255, 3) := by decide +kernel
theorem d5_20 : decode jdk_52_method_21_code 20 = .ok (.if_icmp .le 6, 3) := by decide +kernel
theorem d5_23 : decode jdk_52_method_21_code 23 = .ok (.iload 5, 2) := by decide +kernel
theorem d5_25 : decode jdk_52_method_21_code 25 = .ok (.ireturn, 1) := by decide +kernel
theorem d5_26 : decode jdk_52_method_21_code 26 = .ok (.aload_n 2, 1) := by decide +kernel
theorem d5_27 : decode jdk_52_method_21_code 27 = .ok (.iload_n 3, 1) := by decide +kernel
theorem d5_28 : decode jdk_52_method_21_code 28 = .ok (.iload 6, 2) := by decide +kernel
theorem d5_30 : decode jdk_52_method_21_code 30 = .ok (.i2b, 1) := by decide +kernel
theorem d5_31 : decode jdk_52_method_21_code 31 = .ok (.bastore, 1) := by decide +kernel
theorem d5_32 : decode jdk_52_method_21_code 32 = .ok (.iinc 1 1, 3) := by decide +kernel
theorem d5_35 : decode jdk_52_method_21_code 35 = .ok (.iinc 3 1, 3) := by decide +kernel
theorem d5_38 : decode jdk_52_method_21_code 38 = .ok (.iinc 5 1, 3) := by decide +kernel
theorem d5_41 : decode jdk_52_method_21_code 41 = .ok (.goto (-38), 3) := by decide +kernel
theorem d5_44 : decode jdk_52_method_21_code 44 = .ok (.iload 4, 2) := by decide +kernel
theorem d5_46 : decode jdk_52_method_21_code 46 = .ok (.ireturn, 1) := by decide +kernel
set_option maxRecDepth 65536 in
set_option maxHeartbeats 40000000 in
theorem own_lpC (l : Launch) (Z : State) (a0 : Array Value) (hw : ∀ d ∈ tables_1, d.before a0 Z = true) (hE : EW Z a0 []) (a d : Addr) (ka kd : ClassId) (cs : List Int32) (hn : cs.length < 2147483647) (hs : Heap) :
    ∀ (j i : Nat) (h : Heap) (s6 : Slot), i + j = cs.length → (s6 = .unset ∨ ∃ x : Int32, s6 = .val (.int x)) → (∀ c ∈ cs.take i, ¬ (255 : Int32) < c) → Arv Z h a ka .char (Int32.ofNat cs.length) (cs.map Value.int) (.int 0) → Arv Z h d kd .byte (Int32.ofNat cs.length) ((cs.take i).map (fun c => Value.int (lb c)) ++ List.replicate j (.int 0)) (.int 0) → a ≠ d →
      Wp true l Z a0 [] ({ frames := 0, cells := 0, slots := 0, locals := 0 } : Room) (⟨"java/lang/StringUTF16", "compress", "([CI[BII)I"⟩ : MethodName) jdk_52_method_21_code 7 (some .int) hs [d] (fun v h => (v = some (.int (Int32.ofNat cs.length)) ∧ (∀ c ∈ cs, ¬ (255 : Int32) < c) ∧ Arv Z h d kd .byte (Int32.ofNat cs.length) (cs.map fun c => Value.int (lb c)) (.int 0)) ∨ ∃ t c, t < cs.length ∧ cs[t]? = some c ∧ (255 : Int32) < c ∧ v = some (.int (Int32.ofNat t))) h [d] 0 0 3 #[.val (.ref a), .val (.int (Int32.ofNat i)), .val (.ref d), .val (.int (Int32.ofNat i)), .val (.int (Int32.ofNat cs.length)), .val (.int (Int32.ofNat i)), s6] [] := by
  intro j
  induction j with
  | zero =>
    intro i h s6 hi h6 hall V_a V_d ne_a_d
    have ei : i = cs.length := by omega
    subst ei
    rw [List.take_length] at hall V_d
    refine Wp.iload d5_3 (pc' := 5) rfl rfl ?_
    refine Wp.iload d5_5 (pc' := 7) rfl rfl ?_
    refine Wp.icmp_ge (pc1 := 44) (pc' := 10) d5_7 (by decide) (by decide) rfl (fun hc101 => ?_) (fun hc101 => by exact absurd hc101 Int32.lt_irrefl)
    refine Wp.iload d5_44 (pc' := 46) rfl rfl ?_
    refine Wp.retI rfl d5_46 (by decide) (by decide) ?_
    exact Or.inl ⟨rfl, hall, by simpa using V_d⟩
  | succ j ih =>
    intro i h s6 hi h6 hall V_a V_d ne_a_d
    have hin : i < cs.length := by omega
    obtain ⟨c, hc⟩ : ∃ c, cs[i]? = some c := ⟨_, List.getElem?_eq_getElem hin⟩
    refine Wp.iload d5_3 (pc' := 5) rfl rfl ?_
    refine Wp.iload d5_5 (pc' := 7) rfl rfl ?_
    refine Wp.icmp_ge (pc1 := 44) (pc' := 10) d5_7 (by decide) (by decide) rfl (fun hc101 => by exact absurd (on_lt (by omega) hin) hc101) (fun hc101 => ?_)
    refine Wp.aloadN d5_10 (pc' := 11) rfl rfl rfl ?_
    refine Wp.iloadN d5_11 (pc' := 12) rfl rfl ?_
    refine Wp.caload V_a (on_nneg (by omega)) (on_lt (by omega) hin) (v := .int c) (by rw [on_clamp (by omega)]; simp [List.getD_eq_getElem?_getD, hc]) d5_12 (pc' := 13) rfl ?_
    refine Wp.istore (l' := #[.val (.ref a), .val (.int (Int32.ofNat i)), .val (.ref d), .val (.int (Int32.ofNat i)), .val (.int (Int32.ofNat cs.length)), .val (.int (Int32.ofNat i)), .val (.int c)]) d5_13 (pc' := 15) rfl (by rcases h6 with rfl | ⟨_, rfl⟩ <;> rfl) ?_
    refine Wp.iload d5_15 (pc' := 17) rfl rfl ?_
    refine Wp.sipush (x := (255 : Int32)) d5_17 (pc' := 20) rfl rfl ?_
    refine Wp.icmp_le (pc1 := 26) (pc' := 23) d5_20 (by decide) (by decide) rfl (fun hc102 => ?_) (fun hc102 => ?_)
    · have hcc : ¬ ((255 : Int32) < c) := hc102
      refine Wp.aloadN d5_26 (pc' := 27) rfl rfl rfl ?_
      refine Wp.iloadN d5_27 (pc' := 28) rfl rfl ?_
      refine Wp.iload d5_28 (pc' := 30) rfl rfl ?_
      refine Wp.i2b d5_30 (pc' := 31) rfl ?_
      refine Wp.bastore V_d (on_nneg (by omega)) (on_lt (by omega) hin) (i := i) (on_clamp (by omega)) (by simp; omega) d5_31 (pc' := 32) rfl (Or.inl (by simp)) (Sfe.mem (by simp)) (fun h2 W2 V2 => ?_)
      replace V_a := V_a.other W2 ne_a_d
      rw [nar_lb, set_step (f := fun c => Value.int (lb c)) hc rfl] at V2
      refine Wp.iinc (l' := #[.val (.ref a), .val (.int ((Int32.ofNat i) + (1 : Int32))), .val (.ref d), .val (.int (Int32.ofNat i)), .val (.int (Int32.ofNat cs.length)), .val (.int (Int32.ofNat i)), .val (.int c)]) d5_32 (pc' := 35) rfl rfl rfl ?_
      refine Wp.iinc (l' := #[.val (.ref a), .val (.int ((Int32.ofNat i) + (1 : Int32))), .val (.ref d), .val (.int ((Int32.ofNat i) + (1 : Int32))), .val (.int (Int32.ofNat cs.length)), .val (.int (Int32.ofNat i)), .val (.int c)]) d5_35 (pc' := 38) rfl rfl rfl ?_
      refine Wp.iinc (l' := #[.val (.ref a), .val (.int ((Int32.ofNat i) + (1 : Int32))), .val (.ref d), .val (.int ((Int32.ofNat i) + (1 : Int32))), .val (.int (Int32.ofNat cs.length)), .val (.int ((Int32.ofNat i) + (1 : Int32))), .val (.int c)]) d5_38 (pc' := 41) rfl rfl rfl ?_
      refine Wp.goto (pc' := 3) d5_41 (by decide) (by decide) ?_
      rw [on_succ]
      refine ih (i + 1) h2 _ (by omega) (Or.inr ⟨c, rfl⟩) (fun x hx => ?_) V_a V2 ne_a_d
      rw [List.take_add_one, hc] at hx
      rcases List.mem_append.mp hx with hx | hx
      · exact hall x hx
      · simp at hx; subst hx; exact hcc
    · have hc102 : (255 : Int32) < c := hc102
      refine Wp.iload d5_23 (pc' := 25) rfl rfl ?_
      refine Wp.retI rfl d5_25 (by decide) (by decide) ?_
      exact Or.inr ⟨i, c, hin, hc, hc102, rfl⟩
theorem pn_java_lang_StringUTF16 : plainName "java/lang/StringUTF16" = true := by first | (simp [plainName, overriddenIn]; done) | decide +kernel
theorem ef_ctCMP5 (m : MethodId) (x0 : Addr) (x1 : Int32) (x2 : Addr) (x3 : Int32) (x4 : Int32) : entryFrame m #[(.ref x0), (.int x1), (.ref x2), (.int x3), (.int x4)] 7 = mkF m 0 #[.val (.ref x0), .val (.int x1), .val (.ref x2), .val (.int x3), .val (.int x4), .unset, .unset] [] := by first | (simp [entryFrame, mkF, argsToLocals, Value.category]; done) | rfl
set_option maxRecDepth 65536 in
set_option maxHeartbeats 40000000 in
theorem ctCMP5 (l : Launch) (Z : State) (a0 : Array Value) (hw : ∀ d ∈ tables_1, d.before a0 Z = true) (hE : EW Z a0 []) (a d : Addr) (ka kd : ClassId) (cs : List Int32) (h0 : Heap) (hO : Ext Z.heap h0) (hn : cs.length < 2147483647) (V_a : Arv Z h0 a ka .char (Int32.ofNat cs.length) (cs.map Value.int) (.int 0)) (V_d : Arv Z h0 d kd .byte (Int32.ofNat cs.length) (List.replicate cs.length (.int 0)) (.int 0)) (ne_a_d : a ≠ d) (hd0 : Z.heap.size ≤ d) :
    Ct true l Z [] [] (⟨"java/lang/StringUTF16", "compress", "([CI[BII)I"⟩ : MethodName) jdk_52_method_21_code 7 (some .int) ({ frames := 0, cells := 0, slots := 0, locals := 0 } : Room) #[(.ref a), (.int (0 : Int32)), (.ref d), (.int (0 : Int32)), (.int (Int32.ofNat cs.length))] h0 [d] [d] (fun v h => (v = some (.int (Int32.ofNat cs.length)) ∧ (∀ c ∈ cs, ¬ (255 : Int32) < c) ∧ Arv Z h d kd .byte (Int32.ofNat cs.length) (cs.map fun c => Value.int (lb c)) (.int 0)) ∨ ∃ t c, t < cs.length ∧ cs[t]? = some c ∧ (255 : Int32) < c ∧ v = some (.int (Int32.ofNat t))) := by
  refine Ct.of_wp (a0 := a0) (Ls := #[.val (.ref a), .val (.int (0 : Int32)), .val (.ref d), .val (.int (0 : Int32)), .val (.int (Int32.ofNat cs.length)), .unset, .unset]) (plainFor_of_name pn_java_lang_StringUTF16) hE hO (by intro x hx; cases List.mem_singleton.mp hx; exact hd0) (fun m => ef_ctCMP5 m a (0 : Int32) d (0 : Int32) (Int32.ofNat cs.length)) ?_
  refine Wp.iconst (x := (0 : Int32)) d5_0 (pc' := 1) rfl rfl ?_
  refine Wp.istore (l' := #[.val (.ref a), .val (.int (0 : Int32)), .val (.ref d), .val (.int (0 : Int32)), .val (.int (Int32.ofNat cs.length)), .val (.int (0 : Int32)), .unset]) d5_1 (pc' := 3) rfl rfl ?_
  exact own_lpC l Z a0 hw hE a d ka kd cs hn h0 cs.length 0 h0 _ (by omega) (Or.inl rfl) (by simp) V_a (by simpa using V_d) ne_a_d
theorem d4_0 : decode jdk_52_method_16_code 0 = .ok (.iload_n 2, 1) := by decide +kernel
theorem d4_1 : decode jdk_52_method_16_code 1 = .ok (.newarray .byte, 2) := by decide +kernel
theorem d4_3 : decode jdk_52_method_16_code 3 = .ok (.astore_n 3, 1) := by decide +kernel
theorem d4_4 : decode jdk_52_method_16_code 4 = .ok (.aload_n 0, 1) := by decide +kernel
theorem d4_5 : decode jdk_52_method_16_code 5 = .ok (.iload_n 1, 1) := by decide +kernel
theorem d4_6 : decode jdk_52_method_16_code 6 = .ok (.aload_n 3, 1) := by decide +kernel
theorem d4_7 : decode jdk_52_method_16_code 7 = .ok (.iconst 0, 1) := by decide +kernel
theorem d4_8 : decode jdk_52_method_16_code 8 = .ok (.iload_n 2, 1) := by decide +kernel
theorem d4_9 : decode jdk_52_method_16_code 9 = .ok (.invokestatic 115, 3) := by decide +kernel
theorem d4_12 : decode jdk_52_method_16_code 12 = .ok (.istore 4, 2) := by decide +kernel
theorem d4_14 : decode jdk_52_method_16_code 14 = .ok (.iload 4, 2) := by decide +kernel
theorem d4_16 : decode jdk_52_method_16_code 16 = .ok (.iload_n 2, 1) := by decide +kernel
theorem d4_17 : decode jdk_52_method_16_code 17 = .ok (.if_icmp .eq 40, 3) := by decide +kernel
theorem d4_20 : decode jdk_52_method_16_code 20 = .ok (.aload_n 0, 1) := by decide +kernel
theorem d4_21 : decode jdk_52_method_16_code 21 = .ok (.iload_n 1, 1) := by decide +kernel
theorem d4_22 : decode jdk_52_method_16_code 22 = .ok (.iload_n 2, 1) := by decide +kernel
theorem d4_23 : decode jdk_52_method_16_code 23 = .ok (.invokestatic 119, 3) := by decide +kernel
theorem d4_26 : decode jdk_52_method_16_code 26 = .ok (.astore 5, 2) := by decide +kernel
theorem d4_28 : decode jdk_52_method_16_code 28 = .ok (.aload 5, 2) := by decide +kernel
theorem d4_30 : decode jdk_52_method_16_code 30 = .ok (.iload 4, 2) := by decide +kernel
theorem d4_32 : decode jdk_52_method_16_code 32 = .ok (.invokestatic 71, 3) := by decide +kernel
theorem d4_35 : decode jdk_52_method_16_code 35 = .ok (.sipush 255, 3) := by decide +kernel
theorem d4_38 : decode jdk_52_method_16_code 38 = .ok (.if_icmp .gt 16, 3) := by decide +kernel
theorem d4_41 : decode jdk_52_method_16_code 41 = .ok (.aload 5, 2) := by decide +kernel
theorem d4_43 : decode jdk_52_method_16_code 43 = .ok (.iconst 0, 1) := by decide +kernel
theorem d4_44 : decode jdk_52_method_16_code 44 = .ok (.aload_n 3, 1) := by decide +kernel
theorem d4_45 : decode jdk_52_method_16_code 45 = .ok (.iconst 0, 1) := by decide +kernel
theorem d4_46 : decode jdk_52_method_16_code 46 = .ok (.iload_n 2, 1) := by decide +kernel
theorem d4_47 : decode jdk_52_method_16_code 47 = .ok (.invokestatic 123, 3) := by decide +kernel
theorem d4_50 : decode jdk_52_method_16_code 50 = .ok (.iload_n 2, 1) := by decide +kernel
theorem d4_51 : decode jdk_52_method_16_code 51 = .ok (.if_icmp .eq 6, 3) := by decide +kernel
theorem d4_54 : decode jdk_52_method_16_code 54 = .ok (.aload 5, 2) := by decide +kernel
theorem d4_56 : decode jdk_52_method_16_code 56 = .ok (.areturn, 1) := by decide +kernel
theorem d4_57 : decode jdk_52_method_16_code 57 = .ok (.aload_n 3, 1) := by decide +kernel
theorem d4_58 : decode jdk_52_method_16_code 58 = .ok (.areturn, 1) := by decide +kernel
theorem ef_ctCMP3 (m : MethodId) (x0 : Addr) (x1 : Int32) (x2 : Int32) : entryFrame m #[(.ref x0), (.int x1), (.int x2)] 6 = mkF m 0 #[.val (.ref x0), .val (.int x1), .val (.int x2), .unset, .unset, .unset] [] := by first | (simp [entryFrame, mkF, argsToLocals, Value.category]; done) | rfl
theorem pd___CI_BII_I : parseMethodDescriptor "([CI[BII)I" = some ⟨[(.array .char), .int, (.array .byte), .int, .int], some .int⟩ := by decide +kernel
set_option maxRecDepth 65536 in
set_option maxHeartbeats 40000000 in
theorem ctCMP3 (l : Launch) (Z : State) (a0 : Array Value) (hw : ∀ d ∈ tables_1, d.before a0 Z = true) (hE : EW Z a0 []) (a : Addr) (ka : ClassId) (cs : List Int32) (h0 : Heap) (hO : Ext Z.heap h0) (hn : cs.length < 2147483647) (hcap : cs.length ≤ 2) (hl : ∀ c ∈ cs, ¬ (255 : Int32) < c) (V_a : Arv Z h0 a ka .char (Int32.ofNat cs.length) (cs.map Value.int) (.int 0)) :
    Ct true l Z [] [] (⟨"java/lang/StringUTF16", "compress", "([CII)[B"⟩ : MethodName) jdk_52_method_16_code 6 (some (.array .byte)) ({ frames := 1, cells := 1, slots := 2, locals := 18 } : Room) #[(.ref a), (.int (0 : Int32)), (.int (Int32.ofNat cs.length))] h0 [] [] (fun v h => ∃ d kd, v = some (.ref d) ∧ h0.size ≤ d ∧ Arv Z h d kd .byte (Int32.ofNat cs.length) (cs.map fun c => Value.int (lb c)) (.int 0)) := by
  refine Ct.of_wp (a0 := a0) (Ls := #[.val (.ref a), .val (.int (0 : Int32)), .val (.int (Int32.ofNat cs.length)), .unset, .unset, .unset]) (plainFor_of_name pn_java_lang_StringUTF16) hE hO nofun (fun m => ef_ctCMP3 m a (0 : Int32) (Int32.ofNat cs.length)) ?_
  refine Wp.iloadN d4_0 (pc' := 1) rfl rfl ?_
  refine Wp.newP (cap := 2) (hw _ (List.mem_of_getElem? (i := 19) rfl)) (on_nneg (by omega)) (by rw [on_clamp (by omega)]; exact hcap) (by decide) d4_1 (pc' := 3) rfl (k' := 1) (n' := 2) rfl rfl (by decide) (by decide) (fun h1 b1 k_b1 g_b1 sz_b1 Xh1 V_b1 => ?_)
  have ne_a_b1 : a ≠ b1 := Nat.ne_of_lt (Nat.lt_of_lt_of_eq V_a.lt g_b1.symm)
  replace V_a := V_a.ext Xh1
  replace V_b1 := V_b1.pad (pad_rep [] (.int (0 : Int32)) cs.length)
  refine Wp.astoreN (l' := #[.val (.ref a), .val (.int (0 : Int32)), .val (.int (Int32.ofNat cs.length)), .val (.ref b1), .unset, .unset]) d4_3 (pc' := 4) rfl rfl rfl ?_
  refine Wp.aloadN d4_4 (pc' := 5) rfl rfl rfl ?_
  refine Wp.iloadN d4_5 (pc' := 6) rfl rfl ?_
  refine Wp.aloadN d4_6 (pc' := 7) rfl rfl rfl ?_
  refine Wp.iconst (x := (0 : Int32)) d4_7 (pc' := 8) rfl rfl ?_
  refine Wp.iloadN d4_8 (pc' := 9) rfl rfl ?_
  refine Wp.old fun hOc => ?_
  refine Wp.callS (W := 0) (argsL := [(.ref a), (.int (0 : Int32)), (.ref b1), (.int (0 : Int32)), (.int (Int32.ofNat cs.length))]) (rest := []) rfl (ctCMP5 l Z a0 hw hE a b1 ka k_b1 cs h1 hOc hn V_a V_b1 ne_a_b1 (Nat.le_trans hO.1 sz_b1)) (hw _ (List.mem_of_getElem? (i := 20) rfl)) (hw _ (List.mem_of_getElem? (i := 21) rfl)) (hw _ (List.mem_of_getElem? (i := 22) rfl)) (hw _ (List.mem_of_getElem? (i := 17) rfl)) (by decide) (lenOf pd___CI_BII_I rfl) d4_9 rfl rfl rfl (Nat.le_of_eq rfl) (pc' := 12) rfl (by simp) (by intro x hx; simp only [List.mem_cons, List.not_mem_nil, or_false] at hx; rcases hx with rfl; exact (Or.inr sz_b1)) (by decide) (by decide) (k' := 1) (n' := 2) rfl rfl (by decide) (by decide) (fun vh2 h2 zh2 Kh2 qh2 => ?_)
  rcases qh2 with ⟨rfl, -, V_b1⟩ | ⟨t, c, -, hc, hc2, -⟩
  rotate_left
  · exact absurd hc2 (hl c (List.mem_of_getElem? hc))
  replace V_a := V_a.keep Kh2 (ninS ne_a_b1 nin0)
  refine Wp.eqS (S' := [(.int (Int32.ofNat cs.length))]) rfl ?_
  refine Wp.istore (l' := #[.val (.ref a), .val (.int (0 : Int32)), .val (.int (Int32.ofNat cs.length)), .val (.ref b1), .val (.int (Int32.ofNat cs.length)), .unset]) d4_12 (pc' := 14) rfl rfl ?_
  refine Wp.iload d4_14 (pc' := 16) rfl rfl ?_
  refine Wp.iloadN d4_16 (pc' := 17) rfl rfl ?_
  refine Wp.icmp_eq (pc1 := 57) (pc' := 20) d4_17 (by decide) (by decide) rfl (fun hc3 => ?_) (fun hc3 => by exact absurd rfl hc3)
  refine Wp.aloadN d4_57 (pc' := 58) rfl rfl rfl ?_
  refine Wp.retA rfl rfl rfl d4_58 (by decide) (by decide) ?_
  exact ⟨_, _, rfl, sz_b1, V_b1⟩
theorem d6_0 : decode jdk_52_method_15_code 0 = .ok (.iload_n 1, 1) := by decide +kernel
theorem d6_1 : decode jdk_52_method_15_code 1 = .ok (.aload_n 0, 1) := by decide +kernel
theorem d6_2 : decode jdk_52_method_15_code 2 = .ok (.arraylength, 1) := by decide +kernel
theorem d6_3 : decode jdk_52_method_15_code 3 = .ok (.isub, 1) := by decide +kernel
theorem d6_4 : decode jdk_52_method_15_code 4 = .ok (.bipush 31, 2) := by decide +kernel
theorem d6_6 : decode jdk_52_method_15_code 6 = .ok (.iushr, 1) := by decide +kernel
theorem d6_7 : decode jdk_52_method_15_code 7 = .ok (.i2b, 1) := by decide +kernel
theorem d6_8 : decode jdk_52_method_15_code 8 = .ok (.ireturn, 1) := by decide +kernel
theorem ef_ctCFA (m : MethodId) (x0 : Addr) (x1 : Int32) : entryFrame m #[(.ref x0), (.int x1)] 2 = mkF m 0 #[.val (.ref x0), .val (.int x1)] [] := by first | (simp [entryFrame, mkF, argsToLocals, Value.category]; done) | rfl
set_option maxRecDepth 65536 in
set_option maxHeartbeats 40000000 in
theorem ctCFA (l : Launch) (Z : State) (a0 : Array Value) (hw : ∀ d ∈ tables_1, d.before a0 Z = true) (hE : EW Z a0 []) (d : Addr) (kd : ClassId) (z : Int32) (vs : List Value) (h0 : Heap) (hO : Ext Z.heap h0) (V_d : Arv Z h0 d kd .byte z vs (.int 0)) :
    Ct true l Z [] [] (⟨"java/lang/StringUTF16", "coderFromArrayLen", "([BI)B"⟩ : MethodName) jdk_52_method_15_code 2 (some .byte) ({ frames := 0, cells := 0, slots := 0, locals := 0 } : Room) #[(.ref d), (.int z)] h0 [] [] (fun v h => v = some (.int 0)) := by
  refine Ct.of_wp (a0 := a0) (Ls := #[.val (.ref d), .val (.int z)]) (plainFor_of_name pn_java_lang_StringUTF16) hE hO nofun (fun m => ef_ctCFA m d z) ?_
  refine Wp.iloadN d6_0 (pc' := 1) rfl rfl ?_
  refine Wp.aloadN d6_1 (pc' := 2) rfl rfl rfl ?_
  refine Wp.alen V_d d6_2 (pc' := 3) rfl ?_
  refine Wp.isub d6_3 (pc' := 4) rfl ?_
  refine Wp.bipush (x := (31 : Int32)) d6_4 (pc' := 6) rfl rfl ?_
  refine Wp.iushr d6_6 (pc' := 7) rfl ?_
  refine Wp.i2b d6_7 (pc' := 8) rfl ?_
  refine Wp.retN (t := .byte) rfl (by simp) rfl d6_8 (by decide) (by decide) ?_
  rw [Int32.sub_self]; rfl
theorem d2_0 : decode jdk_42_method_149_code 0 = .ok (.aload_n 0, 1) := by decide +kernel
theorem d2_1 : decode jdk_42_method_149_code 1 = .ok (.invokespecial 1, 3) := by decide +kernel
theorem d2_4 : decode jdk_42_method_149_code 4 = .ok (.iload_n 3, 1) := by decide +kernel
theorem d2_5 : decode jdk_42_method_149_code 5 = .ok (.ifCond .ne 22, 3) := by decide +kernel
theorem d2_8 : decode jdk_42_method_149_code 8 = .ok (.aload_n 0, 1) := by decide +kernel
theorem d2_9 : decode jdk_42_method_149_code 9 = .ok (.ldc 7, 2) := by decide +kernel
theorem d2_11 : decode jdk_42_method_149_code 11 = .ok (.getfield 9, 3) := by decide +kernel
theorem d2_14 : decode jdk_42_method_149_code 14 = .ok (.putfield 9, 3) := by decide +kernel
theorem d2_17 : decode jdk_42_method_149_code 17 = .ok (.aload_n 0, 1) := by decide +kernel
theorem d2_18 : decode jdk_42_method_149_code 18 = .ok (.ldc 7, 2) := by decide +kernel
theorem d2_20 : decode jdk_42_method_149_code 20 = .ok (.getfield 15, 3) := by decide +kernel
theorem d2_23 : decode jdk_42_method_149_code 23 = .ok (.putfield 15, 3) := by decide +kernel
theorem d2_26 : decode jdk_42_method_149_code 26 = .ok (.return_, 1) := by decide +kernel
theorem d2_27 : decode jdk_42_method_149_code 27 = .ok (.getstatic 38, 3) := by decide +kernel
theorem d2_30 : decode jdk_42_method_149_code 30 = .ok (.ifCond .eq 28, 3) := by decide +kernel
theorem d2_33 : decode jdk_42_method_149_code 33 = .ok (.aload_n 1, 1) := by decide +kernel
theorem d2_34 : decode jdk_42_method_149_code 34 = .ok (.iload_n 2, 1) := by decide +kernel
theorem d2_35 : decode jdk_42_method_149_code 35 = .ok (.iload_n 3, 1) := by decide +kernel
theorem d2_36 : decode jdk_42_method_149_code 36 = .ok (.invokestatic 177, 3) := by decide +kernel
theorem d2_39 : decode jdk_42_method_149_code 39 = .ok (.astore 5, 2) := by decide +kernel
theorem d2_41 : decode jdk_42_method_149_code 41 = .ok (.aload_n 0, 1) := by decide +kernel
theorem d2_42 : decode jdk_42_method_149_code 42 = .ok (.aload 5, 2) := by decide +kernel
theorem d2_44 : decode jdk_42_method_149_code 44 = .ok (.iload_n 3, 1) := by decide +kernel
theorem d2_45 : decode jdk_42_method_149_code 45 = .ok (.invokestatic 47, 3) := by decide +kernel
theorem d2_48 : decode jdk_42_method_149_code 48 = .ok (.putfield 15, 3) := by decide +kernel
theorem d2_51 : decode jdk_42_method_149_code 51 = .ok (.aload_n 0, 1) := by decide +kernel
theorem d2_52 : decode jdk_42_method_149_code 52 = .ok (.aload 5, 2) := by decide +kernel
theorem d2_54 : decode jdk_42_method_149_code 54 = .ok (.putfield 9, 3) := by decide +kernel
theorem d2_57 : decode jdk_42_method_149_code 57 = .ok (.return_, 1) := by decide +kernel
theorem d2_58 : decode jdk_42_method_149_code 58 = .ok (.aload_n 0, 1) := by decide +kernel
theorem d2_59 : decode jdk_42_method_149_code 59 = .ok (.iconst 1, 1) := by decide +kernel
theorem d2_60 : decode jdk_42_method_149_code 60 = .ok (.putfield 15, 3) := by decide +kernel
theorem d2_63 : decode jdk_42_method_149_code 63 = .ok (.aload_n 0, 1) := by decide +kernel
theorem d2_64 : decode jdk_42_method_149_code 64 = .ok (.aload_n 1, 1) := by decide +kernel
theorem d2_65 : decode jdk_42_method_149_code 65 = .ok (.iload_n 2, 1) := by decide +kernel
theorem d2_66 : decode jdk_42_method_149_code 66 = .ok (.iload_n 3, 1) := by decide +kernel
theorem d2_67 : decode jdk_42_method_149_code 67 = .ok (.invokestatic 180, 3) := by decide +kernel
theorem d2_70 : decode jdk_42_method_149_code 70 = .ok (.putfield 9, 3) := by decide +kernel
theorem d2_73 : decode jdk_42_method_149_code 73 = .ok (.return_, 1) := by decide +kernel
theorem pn_java_lang_String : plainName "java/lang/String" = true := by first | (simp [plainName, overriddenIn]; done) | decide +kernel
theorem ef_ctSI4 (m : MethodId) (x0 : Addr) (x1 : Addr) (x2 : Int32) (x3 : Int32) : entryFrame m #[(.ref x0), (.ref x1), (.int x2), (.int x3), .null] 6 = mkF m 0 #[.val (.ref x0), .val (.ref x1), .val (.int x2), .val (.int x3), .val .null, .unset] [] := by first | (simp [entryFrame, mkF, argsToLocals, Value.category]; done) | rfl
theorem pd___CII__B : parseMethodDescriptor "([CII)[B" = some ⟨[(.array .char), .int, .int], some (.array .byte)⟩ := by decide +kernel
theorem pd___BI_B : parseMethodDescriptor "([BI)B" = some ⟨[(.array .byte), .int], some .byte⟩ := by decide +kernel
set_option maxRecDepth 65536 in
set_option maxHeartbeats 40000000 in
theorem ctSI4 (l : Launch) (Z : State) (a0 : Array Value) (hw : ∀ d ∈ tables_1, d.before a0 Z = true) (hE : EW Z a0 []) (s a : Addr) (ka : ClassId) (cs : List Int32) (cz : Int32) (h0 : Heap) (hO : Ext Z.heap h0) (hn : cs.length < 2147483647) (hcap : cs.length ≤ 2) (hl : ∀ c ∈ cs, ¬ (255 : Int32) < c) (V_a : Arv Z h0 a ka .char (Int32.ofNat cs.length) (cs.map Value.int) (.int 0)) (E_s : Exa Z h0 s "java/lang/String") (F_v : Fld Z h0 s "java/lang/String" "value" "[B" .null) (F_c : Fld Z h0 s "java/lang/String" "coder" "B" (.int 0)) (hs0 : Z.heap.size ≤ s) (ne_a_s : a ≠ s) (hco : Sta Z Z.heap "java/lang/String" "COMPACT_STRINGS" "Z" (.int cz)) (hcz : ¬ cz = 0) (hpos : 0 < cs.length) :
    Ct true l Z [] [] (⟨"java/lang/String", "<init>", "([CIILjava/lang/Void;)V"⟩ : MethodName) jdk_42_method_149_code 6 none ({ frames := 2, cells := 4, slots := 8, locals := 36 } : Room) #[(.ref s), (.ref a), (.int (0 : Int32)), (.int (Int32.ofNat cs.length)), .null] h0 [s] [s] (fun v h => v = none ∧ SL Z h s (cs.map lb)) := by
  refine Ct.of_wp (a0 := a0) (Ls := #[.val (.ref s), .val (.ref a), .val (.int (0 : Int32)), .val (.int (Int32.ofNat cs.length)), .val .null, .unset]) (plainFor_of_name pn_java_lang_String) hE hO (by intro x hx; cases List.mem_singleton.mp hx; exact hs0) (fun m => ef_ctSI4 m s a (0 : Int32) (Int32.ofNat cs.length)) ?_
  have ne_a_s := ne_a_s
  refine Wp.aloadN d2_0 (pc' := 1) rfl rfl rfl ?_
  refine Wp.initO (W := 0) rfl (hw _ (List.mem_of_getElem? (i := 11) rfl)) (hw _ (List.mem_of_getElem? (i := 12) rfl)) (hw _ (List.mem_of_getElem? (i := 13) rfl)) d2_1 (pc' := 4) rfl rfl (by decide) (Nat.le_of_eq rfl) (by decide) ?_
  refine Wp.iloadN d2_4 (pc' := 5) rfl rfl ?_
  refine Wp.if_ne (pc1 := 27) (pc' := 8) d2_5 (by decide) (by decide) rfl (fun hc1 => ?_) (fun hc1 => by exact absurd ((on_eq (n := 0) (by omega) (by decide)).mp hc1) (by omega))
  refine Wp.getS rfl (host := "") (Or.inl (hw _ (List.mem_of_getElem? (i := 14) rfl))) Via.refl hco d2_27 (pc' := 30) rfl ?_
  refine Wp.if_eq (pc1 := 58) (pc' := 33) d2_30 (by decide) (by decide) rfl (fun hc2 => by exact absurd hc2 hcz) (fun hc2 => ?_)
  refine Wp.aloadN d2_33 (pc' := 34) rfl rfl rfl ?_
  refine Wp.iloadN d2_34 (pc' := 35) rfl rfl ?_
  refine Wp.iloadN d2_35 (pc' := 36) rfl rfl ?_
  refine Wp.old fun hOc => ?_
  refine Wp.callS (W := 0) (argsL := [(.ref a), (.int (0 : Int32)), (.int (Int32.ofNat cs.length))]) (rest := []) rfl (ctCMP3 l Z a0 hw hE a ka cs h0 hOc hn hcap hl V_a) (hw _ (List.mem_of_getElem? (i := 15) rfl)) (hw _ (List.mem_of_getElem? (i := 16) rfl)) (hw _ (List.mem_of_getElem? (i := 18) rfl)) (hw _ (List.mem_of_getElem? (i := 17) rfl)) (by decide) (lenOf pd___CII__B rfl) d2_36 rfl rfl rfl (Nat.le_of_eq rfl) (pc' := 39) rfl nofun nofun (by decide) (by decide) (k' := 1) (n' := 2) rfl rfl (by decide) (by decide) (fun vh3 h3 zh3 Kh3 qh3 => ?_)
  obtain ⟨d, kd, rfl, sb_d, V_d⟩ := qh3
  have ne_a_d : a ≠ d := Nat.ne_of_lt (Nat.lt_of_lt_of_le V_a.lt sb_d)
  have ne_s_d : s ≠ d := Nat.ne_of_lt (Nat.lt_of_lt_of_le E_s.lt sb_d)
  replace V_a := V_a.keep Kh3 nin0
  replace E_s := E_s.keep Kh3
  replace F_v := F_v.keep Kh3 nin0
  replace F_c := F_c.keep Kh3 nin0
  refine Wp.eqS (S' := [(.ref d)]) rfl ?_
  have sz_d : h0.size ≤ d := Nat.le_trans zh3 sb_d
  refine Wp.astore (l' := #[.val (.ref s), .val (.ref a), .val (.int (0 : Int32)), .val (.int (Int32.ofNat cs.length)), .val .null, .val (.ref d)]) d2_39 (pc' := 41) rfl rfl rfl ?_
  refine Wp.aloadN d2_41 (pc' := 42) rfl rfl rfl ?_
  refine Wp.aload d2_42 (pc' := 44) rfl rfl rfl ?_
  refine Wp.iloadN d2_44 (pc' := 45) rfl rfl ?_
  refine Wp.old fun hOc => ?_
  refine Wp.callS (W := 1) (argsL := [(.ref d), (.int (Int32.ofNat cs.length))]) (rest := [(.ref s)]) rfl (ctCFA l Z a0 hw hE d kd _ _ h3 hOc V_d) (hw _ (List.mem_of_getElem? (i := 23) rfl)) (hw _ (List.mem_of_getElem? (i := 24) rfl)) (hw _ (List.mem_of_getElem? (i := 25) rfl)) (hw _ (List.mem_of_getElem? (i := 17) rfl)) (by decide) (lenOf pd___BI_B rfl) d2_45 rfl rfl rfl (Nat.le_of_eq rfl) (pc' := 48) rfl nofun nofun (by decide) (by decide) (k' := 1) (n' := 2) rfl rfl (by decide) (by decide) (fun vh4 h4 zh4 Kh4 qh4 => ?_)
  obtain rfl := qh4
  replace V_a := V_a.keep Kh4 nin0
  replace E_s := E_s.keep Kh4
  replace F_v := F_v.keep Kh4 nin0
  replace F_c := F_c.keep Kh4 nin0
  replace V_d := V_d.keep Kh4 nin0
  refine Wp.eqS (S' := [(.int (0 : Int32)), (.ref s)]) rfl ?_
  refine Wp.putFN rfl (hw _ (List.mem_of_getElem? (i := 26) rfl)) Via.refl F_c E_s (Or.inr ⟨(hw _ (List.mem_of_getElem? (i := 27) rfl)), rfl, rfl⟩) (hw _ (List.mem_of_getElem? (i := 2) rfl)) (ty := .byte) (v' := .int (0 : Int32)) (by decide) rfl rfl d2_48 (pc' := 51) rfl (Or.inl (by simp)) (Sfe.mem (by simp)) (fun h5 W5 Fh5 => ?_)
  replace V_a := V_a.other W5 (by omega : a ≠ s)
  replace E_s := E_s.wr W5
  replace F_v := F_v.other W5 (Or.inr (slot_ne (Or.inr (hw _ (List.mem_of_getElem? (i := 29) rfl))) (Or.inr (hw _ (List.mem_of_getElem? (i := 27) rfl))) (by decide) (t := (.array .byte)) (t' := .byte) (by decide) (by decide)))
  replace V_d := V_d.other W5 (Ne.symm ne_s_d)
  replace F_c := Fh5
  refine Wp.aloadN d2_51 (pc' := 52) rfl rfl rfl ?_
  refine Wp.aload d2_52 (pc' := 54) rfl rfl rfl ?_
  refine Wp.putF rfl (host := "") (Or.inl (hw _ (List.mem_of_getElem? (i := 28) rfl))) Via.refl F_v E_s (Or.inr ⟨(hw _ (List.mem_of_getElem? (i := 29) rfl)), rfl, rfl⟩) (hw _ (List.mem_of_getElem? (i := 2) rfl)) (ty := (.array .byte)) (by decide) rfl rfl d2_54 (pc' := 57) rfl (Or.inl (by simp)) (Sfe.mem (by simp)) (fun h6 W6 Fh6 => ?_)
  replace V_a := V_a.other W6 (by omega : a ≠ s)
  replace E_s := E_s.wr W6
  replace F_c := F_c.other W6 (Or.inr (slot_ne (Or.inr (hw _ (List.mem_of_getElem? (i := 27) rfl))) (Or.inr (hw _ (List.mem_of_getElem? (i := 29) rfl))) (by decide) (t := .byte) (t' := (.array .byte)) (by decide) (by decide)))
  replace V_d := V_d.other W6 (Ne.symm ne_s_d)
  replace F_v := Fh6
  refine Wp.retn rfl d2_57 (by decide) (by decide) ?_
  exact ⟨rfl, E_s, F_c, _, _, F_v, by simpa [Function.comp_def] using V_d⟩
theorem d1_0 : decode jdk_42_method_3_code 0 = .ok (.aload_n 0, 1) := by decide +kernel
theorem d1_1 : decode jdk_42_method_3_code 1 = .ok (.aload_n 1, 1) := by decide +kernel
theorem d1_2 : decode jdk_42_method_3_code 2 = .ok (.iconst 0, 1) := by decide +kernel
theorem d1_3 : decode jdk_42_method_3_code 3 = .ok (.aload_n 1, 1) := by decide +kernel
theorem d1_4 : decode jdk_42_method_3_code 4 = .ok (.arraylength, 1) := by decide +kernel
theorem d1_5 : decode jdk_42_method_3_code 5 = .ok (.aconst_null, 1) := by decide +kernel
theorem d1_6 : decode jdk_42_method_3_code 6 = .ok (.invokespecial 27, 3) := by decide +kernel
theorem d1_9 : decode jdk_42_method_3_code 9 = .ok (.return_, 1) := by decide +kernel
theorem ef_ctSI (m : MethodId) (x0 : Addr) (x1 : Addr) : entryFrame m #[(.ref x0), (.ref x1)] 2 = mkF m 0 #[.val (.ref x0), .val (.ref x1)] [] := by first | (simp [entryFrame, mkF, argsToLocals, Value.category]; done) | rfl
theorem pd___CIILjava_lang_Void__V : parseMethodDescriptor "([CIILjava/lang/Void;)V" = some ⟨[(.array .char), .int, .int, (.object "java/lang/Void")], none⟩ := by decide +kernel
set_option maxRecDepth 65536 in
set_option maxHeartbeats 40000000 in
theorem ctSI (l : Launch) (Z : State) (a0 : Array Value) (hw : ∀ d ∈ tables_1, d.before a0 Z = true) (hE : EW Z a0 []) (s a : Addr) (ka : ClassId) (cs : List Int32) (cz : Int32) (h0 : Heap) (hO : Ext Z.heap h0) (hn : cs.length < 2147483647) (hcap : cs.length ≤ 2) (hl : ∀ c ∈ cs, ¬ (255 : Int32) < c) (V_a : Arv Z h0 a ka .char (Int32.ofNat cs.length) (cs.map Value.int) (.int 0)) (E_s : Exa Z h0 s "java/lang/String") (F_v : Fld Z h0 s "java/lang/String" "value" "[B" .null) (F_c : Fld Z h0 s "java/lang/String" "coder" "B" (.int 0)) (hs0 : Z.heap.size ≤ s) (ne_a_s : a ≠ s) (hco : Sta Z Z.heap "java/lang/String" "COMPACT_STRINGS" "Z" (.int cz)) (hcz : ¬ cz = 0) (hpos : 0 < cs.length) :
    Ct true l Z [] [] (⟨"java/lang/String", "<init>", "([C)V"⟩ : MethodName) jdk_42_method_3_code 2 none ({ frames := 3, cells := 4, slots := 8, locals := 53 } : Room) #[(.ref s), (.ref a)] h0 [s] [s] (fun v h => v = none ∧ SL Z h s (cs.map lb)) := by
  refine Ct.of_wp (a0 := a0) (Ls := #[.val (.ref s), .val (.ref a)]) (plainFor_of_name pn_java_lang_String) hE hO (by intro x hx; cases List.mem_singleton.mp hx; exact hs0) (fun m => ef_ctSI m s a) ?_
  refine Wp.aloadN d1_0 (pc' := 1) rfl rfl rfl ?_
  refine Wp.aloadN d1_1 (pc' := 2) rfl rfl rfl ?_
  refine Wp.iconst (x := (0 : Int32)) d1_2 (pc' := 3) rfl rfl ?_
  refine Wp.aloadN d1_3 (pc' := 4) rfl rfl rfl ?_
  refine Wp.alen V_a d1_4 (pc' := 5) rfl ?_
  refine Wp.aconstNull d1_5 (pc' := 6) rfl ?_
  refine Wp.old fun hOc => ?_
  refine Wp.callI (a := s) (W := 0) (argsL := [(.ref a), (.int (0 : Int32)), (.int (Int32.ofNat cs.length)), .null]) (rest := []) rfl (ctSI4 l Z a0 hw hE s a ka cs cz h0 hOc hn hcap hl V_a E_s F_v F_c hs0 ne_a_s hco hcz hpos) rfl rfl (hw _ (List.mem_of_getElem? (i := 7) rfl)) (hw _ (List.mem_of_getElem? (i := 8) rfl)) (hw _ (List.mem_of_getElem? (i := 10) rfl)) (hw _ (List.mem_of_getElem? (i := 3) rfl)) (by decide) (lenOf pd___CIILjava_lang_Void__V rfl) d1_6 rfl rfl rfl (Nat.le_of_eq rfl) (pc' := 9) rfl (by simp) (by intro x hx; simp only [List.mem_cons, List.not_mem_nil, or_false] at hx; rcases hx with rfl; exact (Or.inl (by simp))) (by decide) (by decide) (k' := 4) (n' := 8) rfl rfl (by decide) (by decide) (fun vh1 h1 zh1 Kh1 qh1 => ?_)
  obtain ⟨rfl, S_s⟩ := qh1
  replace V_a := V_a.keep Kh1 (ninS (by omega : a ≠ s) nin0)
  replace E_s := E_s.keep Kh1
  refine Wp.eqS (S' := []) rfl ?_
  refine Wp.retn rfl d1_9 (by decide) (by decide) ?_
  exact ⟨rfl, S_s⟩
theorem d11_0 : decode jdk_43_method_3_code 0 = .ok (.iload_n 0, 1) := by decide +kernel
theorem d11_1 : decode jdk_43_method_3_code 1 = .ok (.sipush 255, 3) := by decide +kernel
theorem d11_4 : decode jdk_43_method_3_code 4 = .ok (.if_icmp .gt 7, 3) := by decide +kernel
theorem d11_7 : decode jdk_43_method_3_code 7 = .ok (.iconst 1, 1) := by decide +kernel
theorem d11_8 : decode jdk_43_method_3_code 8 = .ok (.goto 4, 3) := by decide +kernel
theorem d11_11 : decode jdk_43_method_3_code 11 = .ok (.iconst 0, 1) := by decide +kernel
theorem d11_12 : decode jdk_43_method_3_code 12 = .ok (.ireturn, 1) := by decide +kernel
theorem pn_java_lang_StringLatin1 : plainName "java/lang/StringLatin1" = true := by first | (simp [plainName, overriddenIn]; done) | decide +kernel
theorem ef_ctCAN (m : MethodId) (x0 : Int32) : entryFrame m #[(.int x0)] 1 = mkF m 0 #[.val (.int x0)] [] := by first | (simp [entryFrame, mkF, argsToLocals, Value.category]; done) | rfl
set_option maxRecDepth 65536 in
set_option maxHeartbeats 40000000 in
theorem ctCAN (l : Launch) (Z : State) (a0 : Array Value) (hw : ∀ d ∈ tables_1, d.before a0 Z = true) (hE : EW Z a0 []) (c : Int32) (h0 : Heap) (hO : Ext Z.heap h0) (hc0 : ¬ (255 : Int32) < c) :
    Ct true l Z [] [] (⟨"java/lang/StringLatin1", "canEncode", "(C)Z"⟩ : MethodName) jdk_43_method_3_code 1 (some .boolean) ({ frames := 0, cells := 0, slots := 0, locals := 0 } : Room) #[(.int c)] h0 [] [] (fun v h => v = some (.int 1)) := by
  refine Ct.of_wp (a0 := a0) (Ls := #[.val (.int c)]) (plainFor_of_name pn_java_lang_StringLatin1) hE hO nofun (fun m => ef_ctCAN m c) ?_
  refine Wp.iloadN d11_0 (pc' := 1) rfl rfl ?_
  refine Wp.sipush (x := (255 : Int32)) d11_1 (pc' := 4) rfl rfl ?_
  refine Wp.icmp_gt (pc1 := 11) (pc' := 7) d11_4 (by decide) (by decide) rfl (fun hc1 => by exact absurd hc1 hc0) (fun hc1 => ?_)
  refine Wp.iconst (x := (1 : Int32)) d11_7 (pc' := 8) rfl rfl ?_
  refine Wp.goto (pc' := 12) d11_8 (by decide) (by decide) ?_
  refine Wp.retN (x' := (1 : Int32)) (t := .boolean) rfl (by simp) rfl d11_12 (by decide) (by decide) ?_
  rfl
theorem d12_0 : decode jdk_43_method_46_code 0 = .ok (.iconst 1, 1) := by decide +kernel
theorem d12_1 : decode jdk_43_method_46_code 1 = .ok (.newarray .byte, 2) := by decide +kernel
theorem d12_3 : decode jdk_43_method_46_code 3 = .ok (.dup, 1) := by decide +kernel
theorem d12_4 : decode jdk_43_method_46_code 4 = .ok (.iconst 0, 1) := by decide +kernel
theorem d12_5 : decode jdk_43_method_46_code 5 = .ok (.iload_n 0, 1) := by decide +kernel
theorem d12_6 : decode jdk_43_method_46_code 6 = .ok (.i2b, 1) := by decide +kernel
theorem d12_7 : decode jdk_43_method_46_code 7 = .ok (.bastore, 1) := by decide +kernel
theorem d12_8 : decode jdk_43_method_46_code 8 = .ok (.areturn, 1) := by decide +kernel
theorem ef_ctTOB (m : MethodId) (x0 : Int32) : entryFrame m #[(.int x0)] 1 = mkF m 0 #[.val (.int x0)] [] := by first | (simp [entryFrame, mkF, argsToLocals, Value.category]; done) | rfl
set_option maxRecDepth 65536 in
set_option maxHeartbeats 40000000 in
theorem ctTOB (l : Launch) (Z : State) (a0 : Array Value) (hw : ∀ d ∈ tables_1, d.before a0 Z = true) (hE : EW Z a0 []) (c : Int32) (h0 : Heap) (hO : Ext Z.heap h0) :
    Ct true l Z [] [] (⟨"java/lang/StringLatin1", "toBytes", "(C)[B"⟩ : MethodName) jdk_43_method_46_code 1 (some (.array .byte)) ({ frames := 0, cells := 1, slots := 1, locals := 0 } : Room) #[(.int c)] h0 [] [] (fun v h => ∃ d kd, v = some (.ref d) ∧ h0.size ≤ d ∧ Arv Z h d kd .byte (1 : Int32) [.int (lb c)] (.int 0)) := by
  refine Ct.of_wp (a0 := a0) (Ls := #[.val (.int c)]) (plainFor_of_name pn_java_lang_StringLatin1) hE hO nofun (fun m => ef_ctTOB m c) ?_
  refine Wp.iconst (x := (1 : Int32)) d12_0 (pc' := 1) rfl rfl ?_
  refine Wp.newP (cap := 1) (hw _ (List.mem_of_getElem? (i := 19) rfl)) (by decide) (by decide) (by decide) d12_1 (pc' := 3) rfl (k' := 1) (n' := 1) rfl rfl (by decide) (by decide) (fun h1 b1 k_b1 g_b1 sz_b1 Xh1 V_b1 => ?_)
  replace V_b1 : Arv Z h1 b1 k_b1 .byte (1 : Int32) [(.int (0 : Int32))] (.int (0 : Int32)) := V_b1.pad (pad_rep [] (.int (0 : Int32)) 1)
  refine Wp.dup d12_3 (pc' := 4) rfl rfl ?_
  refine Wp.iconst (x := (0 : Int32)) d12_4 (pc' := 5) rfl rfl ?_
  refine Wp.iloadN d12_5 (pc' := 6) rfl rfl ?_
  refine Wp.i2b d12_6 (pc' := 7) rfl ?_
  refine Wp.bastore V_b1 (by decide) (by decide) (i := 0) rfl (Nat.le_of_ble_eq_true rfl) d12_7 (pc' := 8) rfl (Or.inr sz_b1) (Sfe.mem (by simp)) (fun h2 W2 Vh2 => ?_)
  replace V_b1 : Arv Z h2 b1 k_b1 .byte (1 : Int32) [(.int (nar .byte (c.toInt8.toInt32)))] (.int (0 : Int32)) := Vh2
  refine Wp.retA rfl rfl rfl d12_8 (by decide) (by decide) ?_
  rw [nar_lb c] at V_b1
  exact ⟨_, k_b1, rfl, sz_b1, V_b1⟩
theorem d13_0 : decode jdk_42_method_151_code 0 = .ok (.aload_n 0, 1) := by decide +kernel
theorem d13_1 : decode jdk_42_method_151_code 1 = .ok (.invokespecial 1, 3) := by decide +kernel
theorem d13_4 : decode jdk_42_method_151_code 4 = .ok (.aload_n 0, 1) := by decide +kernel
theorem d13_5 : decode jdk_42_method_151_code 5 = .ok (.aload_n 1, 1) := by decide +kernel
theorem d13_6 : decode jdk_42_method_151_code 6 = .ok (.putfield 9, 3) := by decide +kernel
theorem d13_9 : decode jdk_42_method_151_code 9 = .ok (.aload_n 0, 1) := by decide +kernel
theorem d13_10 : decode jdk_42_method_151_code 10 = .ok (.iload_n 2, 1) := by decide +kernel
theorem d13_11 : decode jdk_42_method_151_code 11 = .ok (.putfield 15, 3) := by decide +kernel
theorem d13_14 : decode jdk_42_method_151_code 14 = .ok (.return_, 1) := by decide +kernel
theorem ef_ctSIB (m : MethodId) (x0 : Addr) (x1 : Addr) (x2 : Int32) : entryFrame m #[(.ref x0), (.ref x1), (.int x2)] 3 = mkF m 0 #[.val (.ref x0), .val (.ref x1), .val (.int x2)] [] := by first | (simp [entryFrame, mkF, argsToLocals, Value.category]; done) | rfl
set_option maxRecDepth 65536 in
set_option maxHeartbeats 40000000 in
theorem ctSIB (l : Launch) (Z : State) (a0 : Array Value) (hw : ∀ d ∈ tables_1, d.before a0 Z = true) (hE : EW Z a0 []) (s d : Addr) (h0 : Heap) (hO : Ext Z.heap h0) (E_s : Exa Z h0 s "java/lang/String") (F_v : Fld Z h0 s "java/lang/String" "value" "[B" .null) (F_c : Fld Z h0 s "java/lang/String" "coder" "B" (.int 0)) (hs0 : Z.heap.size ≤ s) :
    Ct true l Z [] [] (⟨"java/lang/String", "<init>", "([BB)V"⟩ : MethodName) jdk_42_method_151_code 3 none ({ frames := 1, cells := 0, slots := 0, locals := 12 } : Room) #[(.ref s), (.ref d), (.int (0 : Int32))] h0 [s] [s] (fun v h => v = none ∧ Exa Z h s "java/lang/String" ∧ Fld Z h s "java/lang/String" "coder" "B" (.int 0) ∧ Fld Z h s "java/lang/String" "value" "[B" (.ref d)) := by
  refine Ct.of_wp (a0 := a0) (Ls := #[.val (.ref s), .val (.ref d), .val (.int (0 : Int32))]) (plainFor_of_name pn_java_lang_String) hE hO (by intro x hx; cases List.mem_singleton.mp hx; exact hs0) (fun m => ef_ctSIB m s d (0 : Int32)) ?_
  refine Wp.aloadN d13_0 (pc' := 1) rfl rfl rfl ?_
  refine Wp.initO (W := 0) rfl (hw _ (List.mem_of_getElem? (i := 11) rfl)) (hw _ (List.mem_of_getElem? (i := 12) rfl)) (hw _ (List.mem_of_getElem? (i := 13) rfl)) d13_1 (pc' := 4) rfl rfl (by decide) (Nat.le_of_eq rfl) (by decide) ?_
  refine Wp.aloadN d13_4 (pc' := 5) rfl rfl rfl ?_
  refine Wp.aloadN d13_5 (pc' := 6) rfl rfl rfl ?_
  refine Wp.putF rfl (host := "") (Or.inl (hw _ (List.mem_of_getElem? (i := 28) rfl))) Via.refl F_v E_s (Or.inr ⟨(hw _ (List.mem_of_getElem? (i := 29) rfl)), rfl, rfl⟩) (hw _ (List.mem_of_getElem? (i := 2) rfl)) (ty := (.array .byte)) (by decide) rfl rfl d13_6 (pc' := 9) rfl (Or.inl (by simp)) (Sfe.mem (by simp)) (fun h1 W1 Fh1 => ?_)
  replace E_s := E_s.wr W1
  replace F_c := F_c.other W1 (Or.inr (slot_ne (Or.inr (hw _ (List.mem_of_getElem? (i := 27) rfl))) (Or.inr (hw _ (List.mem_of_getElem? (i := 29) rfl))) (by decide) (t := .byte) (t' := (.array .byte)) (by decide) (by decide)))
  replace F_v := Fh1
  refine Wp.aloadN d13_9 (pc' := 10) rfl rfl rfl ?_
  refine Wp.iloadN d13_10 (pc' := 11) rfl rfl ?_
  refine Wp.putFN rfl (hw _ (List.mem_of_getElem? (i := 26) rfl)) Via.refl F_c E_s (Or.inr ⟨(hw _ (List.mem_of_getElem? (i := 27) rfl)), rfl, rfl⟩) (hw _ (List.mem_of_getElem? (i := 2) rfl)) (ty := .byte) (v' := .int (0 : Int32)) (by decide) rfl rfl d13_11 (pc' := 14) rfl (Or.inl (by simp)) (Sfe.mem (by simp)) (fun h2 W2 Fh2 => ?_)
  replace E_s := E_s.wr W2
  replace F_v := F_v.other W2 (Or.inr (slot_ne (Or.inr (hw _ (List.mem_of_getElem? (i := 29) rfl))) (Or.inr (hw _ (List.mem_of_getElem? (i := 27) rfl))) (by decide) (t := (.array .byte)) (t' := .byte) (by decide) (by decide)))
  replace F_c := Fh2
  refine Wp.retn rfl d13_14 (by decide) (by decide) ?_
  exact ⟨rfl, E_s, F_c, F_v⟩
theorem d10_0 : decode jdk_42_method_139_code 0 = .ok (.getstatic 38, 3) := by decide +kernel
theorem d10_3 : decode jdk_42_method_139_code 3 = .ok (.ifCond .eq 23, 3) := by decide +kernel
theorem d10_6 : decode jdk_42_method_139_code 6 = .ok (.iload_n 0, 1) := by decide +kernel
theorem d10_7 : decode jdk_42_method_139_code 7 = .ok (.invokestatic 1015, 3) := by decide +kernel
theorem d10_10 : decode jdk_42_method_139_code 10 = .ok (.ifCond .eq 16, 3) := by decide +kernel
theorem d10_13 : decode jdk_42_method_139_code 13 = .ok (.new 10, 3) := by decide +kernel
theorem d10_16 : decode jdk_42_method_139_code 16 = .ok (.dup, 1) := by decide +kernel
theorem d10_17 : decode jdk_42_method_139_code 17 = .ok (.iload_n 0, 1) := by decide +kernel
theorem d10_18 : decode jdk_42_method_139_code 18 = .ok (.invokestatic 1018, 3) := by decide +kernel
theorem d10_21 : decode jdk_42_method_139_code 21 = .ok (.iconst 0, 1) := by decide +kernel
theorem d10_22 : decode jdk_42_method_139_code 22 = .ok (.invokespecial 209, 3) := by decide +kernel
theorem d10_25 : decode jdk_42_method_139_code 25 = .ok (.areturn, 1) := by decide +kernel
theorem d10_26 : decode jdk_42_method_139_code 26 = .ok (.new 10, 3) := by decide +kernel
theorem d10_29 : decode jdk_42_method_139_code 29 = .ok (.dup, 1) := by decide +kernel
theorem d10_30 : decode jdk_42_method_139_code 30 = .ok (.iload_n 0, 1) := by decide +kernel
theorem d10_31 : decode jdk_42_method_139_code 31 = .ok (.invokestatic 1021, 3) := by decide +kernel
theorem d10_34 : decode jdk_42_method_139_code 34 = .ok (.iconst 1, 1) := by decide +kernel
theorem d10_35 : decode jdk_42_method_139_code 35 = .ok (.invokespecial 209, 3) := by decide +kernel
theorem d10_38 : decode jdk_42_method_139_code 38 = .ok (.areturn, 1) := by decide +kernel
theorem ef_ctVOF (m : MethodId) (x0 : Int32) : entryFrame m #[(.int x0)] 1 = mkF m 0 #[.val (.int x0)] [] := by first | (simp [entryFrame, mkF, argsToLocals, Value.category]; done) | rfl
theorem pd__C_Z : parseMethodDescriptor "(C)Z" = some ⟨[.char], some .boolean⟩ := by decide +kernel
theorem pd__C__B : parseMethodDescriptor "(C)[B" = some ⟨[.char], some (.array .byte)⟩ := by decide +kernel
theorem pd___BB_V : parseMethodDescriptor "([BB)V" = some ⟨[(.array .byte), .byte], none⟩ := by decide +kernel
set_option maxRecDepth 65536 in
set_option maxHeartbeats 40000000 in
theorem ctVOF (l : Launch) (Z : State) (a0 : Array Value) (hw : ∀ d ∈ tables_1, d.before a0 Z = true) (hE : EW Z a0 []) (c cz : Int32) (h0 : Heap) (hO : Ext Z.heap h0) (hc0 : ¬ (255 : Int32) < c) (hco : Sta Z Z.heap "java/lang/String" "COMPACT_STRINGS" "Z" (.int cz)) (hcz : ¬ cz = 0) :
    Ct true l Z [] [] (⟨"java/lang/String", "valueOf", "(C)Ljava/lang/String;"⟩ : MethodName) jdk_42_method_139_code 1 (some (.object "java/lang/String")) ({ frames := 2, cells := 2, slots := 5, locals := 27 } : Room) #[(.int c)] h0 [] [] (fun v h => ∃ s, v = some (.ref s) ∧ h0.size ≤ s ∧ SL Z h s [lb c]) := by
  refine Ct.of_wp (a0 := a0) (Ls := #[.val (.int c)]) (plainFor_of_name pn_java_lang_String) hE hO nofun (fun m => ef_ctVOF m c) ?_
  refine Wp.getS rfl (host := "") (Or.inl (hw _ (List.mem_of_getElem? (i := 14) rfl))) Via.refl hco d10_0 (pc' := 3) rfl ?_
  refine Wp.if_eq (pc1 := 26) (pc' := 6) d10_3 (by decide) (by decide) rfl (fun hc1 => by exact absurd hc1 hcz) (fun hc1 => ?_)
  refine Wp.iloadN d10_6 (pc' := 7) rfl rfl ?_
  refine Wp.old fun hOc => ?_
  refine Wp.callS (W := 0) (argsL := [(.int c)]) (rest := []) rfl (ctCAN l Z a0 hw hE c h0 hOc hc0) (hw _ (List.mem_of_getElem? (i := 57) rfl)) (hw _ (List.mem_of_getElem? (i := 58) rfl)) (hw _ (List.mem_of_getElem? (i := 60) rfl)) (hw _ (List.mem_of_getElem? (i := 59) rfl)) (by decide) (lenOf pd__C_Z rfl) d10_7 rfl rfl rfl (Nat.le_of_eq rfl) (pc' := 10) rfl nofun nofun (by decide) (by decide) (k' := 0) (n' := 0) rfl rfl (by decide) (by decide) (fun vh2 h2 zh2 Kh2 qh2 => ?_)
  obtain rfl := qh2
  refine Wp.eqS (S' := [(.int (1 : Int32))]) rfl ?_
  refine Wp.if_eq (pc1 := 26) (pc' := 13) d10_10 (by decide) (by decide) rfl (fun hc3 => by exact absurd hc3 (by decide)) (fun hc3 => ?_)
  refine Wp.new rfl (hw _ (List.mem_of_getElem? (i := 61) rfl)) (hw _ (List.mem_of_getElem? (i := 2) rfl)) (hw _ (List.mem_of_getElem? (i := 3) rfl)) d10_13 (pc' := 16) rfl (k' := 1) (n' := 4) rfl rfl (by decide) (by decide) (fun h4 b4 g_b4 sz_b4 Xh4 E_b4 D_b4 => ?_)
  have F_coder_b4 : Fld Z h4 b4 "java/lang/String" "coder" "B" (.int (0 : Int32)) := D_b4 (Or.inr (hw _ (List.mem_of_getElem? (i := 27) rfl))) (ty := .byte) (by decide)
  have F_value_b4 : Fld Z h4 b4 "java/lang/String" "value" "[B" .null := D_b4 (Or.inr (hw _ (List.mem_of_getElem? (i := 29) rfl))) (ty := (.array .byte)) (by decide)
  clear D_b4
  refine Wp.dup d10_16 (pc' := 17) rfl rfl ?_
  refine Wp.iloadN d10_17 (pc' := 18) rfl rfl ?_
  refine Wp.old fun hOc => ?_
  refine Wp.callS (W := 2) (argsL := [(.int c)]) (rest := [(.ref b4), (.ref b4)]) rfl (ctTOB l Z a0 hw hE c h4 hOc) (hw _ (List.mem_of_getElem? (i := 62) rfl)) (hw _ (List.mem_of_getElem? (i := 63) rfl)) (hw _ (List.mem_of_getElem? (i := 64) rfl)) (hw _ (List.mem_of_getElem? (i := 59) rfl)) (by decide) (lenOf pd__C__B rfl) d10_18 rfl rfl rfl (Nat.le_of_eq rfl) (pc' := 21) rfl nofun nofun (by decide) (by decide) (k' := 2) (n' := 5) rfl rfl (by decide) (by decide) (fun vh5 h5 zh5 Kh5 qh5 => ?_)
  obtain ⟨d, kd, rfl, sb_d, V_d⟩ := qh5
  have ne_b4_d : b4 ≠ d := Nat.ne_of_lt (Nat.lt_of_lt_of_le E_b4.lt sb_d)
  replace E_b4 := E_b4.keep Kh5
  replace F_coder_b4 := F_coder_b4.keep Kh5 nin0
  replace F_value_b4 := F_value_b4.keep Kh5 nin0
  refine Wp.eqS (S' := [(.ref d), (.ref b4), (.ref b4)]) rfl ?_
  have sz_d : h0.size ≤ d := Nat.le_trans zh5 sb_d
  refine Wp.iconst (x := (0 : Int32)) d10_21 (pc' := 22) rfl rfl ?_
  refine Wp.old fun hOc => ?_
  refine Wp.callI (a := b4) (W := 1) (argsL := [(.ref d), (.int (0 : Int32))]) (rest := [(.ref b4)]) rfl (ctSIB l Z a0 hw hE b4 d h5 hOc E_b4 F_value_b4 F_coder_b4 (Nat.le_trans hO.1 sz_b4)) rfl rfl (hw _ (List.mem_of_getElem? (i := 65) rfl)) (hw _ (List.mem_of_getElem? (i := 66) rfl)) (hw _ (List.mem_of_getElem? (i := 67) rfl)) (hw _ (List.mem_of_getElem? (i := 3) rfl)) (by decide) (lenOf pd___BB_V rfl) d10_22 rfl rfl rfl (Nat.le_of_eq rfl) (pc' := 25) rfl (by simp) (by intro x hx; simp only [List.mem_cons, List.not_mem_nil, or_false] at hx; rcases hx with rfl; exact (Or.inr sz_b4)) (by decide) (by decide) (k' := 2) (n' := 5) rfl rfl (by decide) (by decide) (fun vh6 h6 zh6 Kh6 qh6 => ?_)
  obtain ⟨rfl, G_e, G_c, G_v⟩ := qh6
  replace E_b4 := E_b4.keep Kh6
  replace V_d := V_d.keep Kh6 (ninS (Ne.symm ne_b4_d) nin0)
  refine Wp.eqS (S' := [(.ref b4)]) rfl ?_
  refine Wp.retA rfl rfl rfl d10_25 (by decide) (by decide) ?_
  exact ⟨_, rfl, sz_b4, G_e, G_c, d, kd, G_v, V_d⟩
theorem d9_0 : decode jdk_22_method_1_code 0 = .ok (.aload_n 0, 1) := by decide +kernel
theorem d9_1 : decode jdk_22_method_1_code 1 = .ok (.invokespecial 1, 3) := by decide +kernel
theorem d9_4 : decode jdk_22_method_1_code 4 = .ok (.return_, 1) := by decide +kernel
theorem pn_java_util_AbstractCollection : plainName "java/util/AbstractCollection" = true := by first | (simp [plainName, overriddenIn]; done) | decide +kernel
theorem ef_ctAC (m : MethodId) (x0 : Addr) : entryFrame m #[(.ref x0)] 1 = mkF m 0 #[.val (.ref x0)] [] := by first | (simp [entryFrame, mkF, argsToLocals, Value.category]; done) | rfl
set_option maxRecDepth 65536 in
set_option maxHeartbeats 40000000 in
theorem ctAC (l : Launch) (Z : State) (a0 : Array Value) (hw : ∀ d ∈ tables_1, d.before a0 Z = true) (hE : EW Z a0 []) (b : Addr) (h0 : Heap) (hO : Ext Z.heap h0) :
    Ct true l Z [] [] (⟨"java/util/AbstractCollection", "<init>", "()V"⟩ : MethodName) jdk_22_method_1_code 1 none ({ frames := 1, cells := 0, slots := 0, locals := 12 } : Room) #[(.ref b)] h0 [] [] (fun v h => v = none) := by
  refine Ct.of_wp (a0 := a0) (Ls := #[.val (.ref b)]) (plainFor_of_name pn_java_util_AbstractCollection) hE hO nofun (fun m => ef_ctAC m b) ?_
  refine Wp.aloadN d9_0 (pc' := 1) rfl rfl rfl ?_
  refine Wp.initO (W := 0) rfl (hw _ (List.mem_of_getElem? (i := 48) rfl)) (hw _ (List.mem_of_getElem? (i := 12) rfl)) (hw _ (List.mem_of_getElem? (i := 13) rfl)) d9_1 (pc' := 4) rfl rfl (by decide) (Nat.le_of_eq rfl) (by decide) ?_
  refine Wp.retn rfl d9_4 (by decide) (by decide) ?_
  rfl
theorem d8_0 : decode jdk_39_method_1_code 0 = .ok (.aload_n 0, 1) := by decide +kernel
theorem d8_1 : decode jdk_39_method_1_code 1 = .ok (.invokespecial 1, 3) := by decide +kernel
theorem d8_4 : decode jdk_39_method_1_code 4 = .ok (.aload_n 0, 1) := by decide +kernel
theorem d8_5 : decode jdk_39_method_1_code 5 = .ok (.iconst 0, 1) := by decide +kernel
theorem d8_6 : decode jdk_39_method_1_code 6 = .ok (.putfield 7, 3) := by decide +kernel
theorem d8_9 : decode jdk_39_method_1_code 9 = .ok (.return_, 1) := by decide +kernel
theorem pn_java_util_AbstractList : plainName "java/util/AbstractList" = true := by first | (simp [plainName, overriddenIn]; done) | decide +kernel
theorem ef_ctABL (m : MethodId) (x0 : Addr) : entryFrame m #[(.ref x0)] 1 = mkF m 0 #[.val (.ref x0)] [] := by first | (simp [entryFrame, mkF, argsToLocals, Value.category]; done) | rfl
theorem pd___V : parseMethodDescriptor "()V" = some ⟨[], none⟩ := by decide +kernel
set_option maxRecDepth 65536 in
set_option maxHeartbeats 40000000 in
theorem ctABL (l : Launch) (Z : State) (a0 : Array Value) (hw : ∀ d ∈ tables_1, d.before a0 Z = true) (hE : EW Z a0 []) (b : Addr) (h0 : Heap) (hO : Ext Z.heap h0) (hb0 : Z.heap.size ≤ b) (E_b : Exa Z h0 b "java/util/ArrayList") (F_m : Fld Z h0 b "java/util/AbstractList" "modCount" "I" (.int 0)) (F_e : Fld Z h0 b "java/util/ArrayList" "elementData" "[Ljava/lang/Object;" .null) (F_s : Fld Z h0 b "java/util/ArrayList" "size" "I" (.int 0)) :
    Ct true l Z [] [] (⟨"java/util/AbstractList", "<init>", "()V"⟩ : MethodName) jdk_39_method_1_code 1 none ({ frames := 2, cells := 0, slots := 0, locals := 24 } : Room) #[(.ref b)] h0 [] [b] (fun v h => v = none ∧ Fld Z h b "java/util/AbstractList" "modCount" "I" (.int 0) ∧ Fld Z h b "java/util/ArrayList" "elementData" "[Ljava/lang/Object;" .null ∧ Fld Z h b "java/util/ArrayList" "size" "I" (.int 0)) := by
  refine Ct.of_wp (a0 := a0) (Ls := #[.val (.ref b)]) (plainFor_of_name pn_java_util_AbstractList) hE hO (by intro x hx; cases List.mem_singleton.mp hx; exact hb0) (fun m => ef_ctABL m b) ?_
  refine Wp.aloadN d8_0 (pc' := 1) rfl rfl rfl ?_
  refine Wp.old fun hOc => ?_
  refine Wp.callI (a := b) (W := 0) (argsL := []) (rest := []) rfl (ctAC l Z a0 hw hE b h0 hOc) rfl rfl (hw _ (List.mem_of_getElem? (i := 42) rfl)) (hw _ (List.mem_of_getElem? (i := 43) rfl)) (hw _ (List.mem_of_getElem? (i := 47) rfl)) (hw _ (List.mem_of_getElem? (i := 46) rfl)) (by decide) (lenOf pd___V rfl) d8_1 rfl rfl rfl (Nat.le_of_eq rfl) (pc' := 4) rfl nofun nofun (by decide) (by decide) (k' := 0) (n' := 0) rfl rfl (by decide) (by decide) (fun vh1 h1 zh1 Kh1 qh1 => ?_)
  obtain rfl := qh1
  replace E_b := E_b.keep Kh1
  replace F_m := F_m.keep Kh1 nin0
  replace F_e := F_e.keep Kh1 nin0
  replace F_s := F_s.keep Kh1 nin0
  refine Wp.eqS (S' := []) rfl ?_
  refine Wp.aloadN d8_4 (pc' := 5) rfl rfl rfl ?_
  refine Wp.iconst (x := (0 : Int32)) d8_5 (pc' := 6) rfl rfl ?_
  refine Wp.putF rfl (host := "") (Or.inl (hw _ (List.mem_of_getElem? (i := 49) rfl))) Via.refl F_m E_b (Or.inl (hw _ (List.mem_of_getElem? (i := 50) rfl))) (hw _ (List.mem_of_getElem? (i := 31) rfl)) (ty := .int) (by decide) rfl rfl d8_6 (pc' := 9) rfl (Or.inl (by simp)) (Sfe.exa E_b (by decide) (by decide)) (fun h2 W2 Fh2 => ?_)
  replace E_b := E_b.wr W2
  replace F_e := F_e.other W2 (Or.inr (slot_ne (Or.inl (hw _ (List.mem_of_getElem? (i := 53) rfl))) (Or.inl (hw _ (List.mem_of_getElem? (i := 50) rfl))) (by decide) (t := (.array (.object "java/lang/Object"))) (t' := .int) (by decide) (by decide)))
  replace F_s := F_s.other W2 (Or.inr (slot_ne (Or.inl (hw _ (List.mem_of_getElem? (i := 76) rfl))) (Or.inl (hw _ (List.mem_of_getElem? (i := 50) rfl))) (by decide) (t := .int) (t' := .int) (by decide) (by decide)))
  replace F_m := Fh2
  refine Wp.retn rfl d8_9 (by decide) (by decide) ?_
  exact ⟨rfl, F_m, F_e, F_s⟩
theorem d7_0 : decode jdk_38_method_2_code 0 = .ok (.aload_n 0, 1) := by decide +kernel
theorem d7_1 : decode jdk_38_method_2_code 1 = .ok (.invokespecial 1, 3) := by decide +kernel
theorem d7_4 : decode jdk_38_method_2_code 4 = .ok (.aload_n 0, 1) := by decide +kernel
theorem d7_5 : decode jdk_38_method_2_code 5 = .ok (.getstatic 39, 3) := by decide +kernel
theorem d7_8 : decode jdk_38_method_2_code 8 = .ok (.putfield 9, 3) := by decide +kernel
theorem d7_11 : decode jdk_38_method_2_code 11 = .ok (.return_, 1) := by decide +kernel
theorem pn_java_util_ArrayList : plainName "java/util/ArrayList" = true := by first | (simp [plainName, overriddenIn]; done) | decide +kernel
theorem ef_ctAL (m : MethodId) (x0 : Addr) : entryFrame m #[(.ref x0)] 1 = mkF m 0 #[.val (.ref x0)] [] := by first | (simp [entryFrame, mkF, argsToLocals, Value.category]; done) | rfl
set_option maxRecDepth 65536 in
set_option maxHeartbeats 40000000 in
theorem ctAL (l : Launch) (Z : State) (a0 : Array Value) (hw : ∀ d ∈ tables_1, d.before a0 Z = true) (hE : EW Z a0 []) (b de : Addr) (h0 : Heap) (hO : Ext Z.heap h0) (hb0 : Z.heap.size ≤ b) (E_b : Exa Z h0 b "java/util/ArrayList") (F_m : Fld Z h0 b "java/util/AbstractList" "modCount" "I" (.int 0)) (F_e : Fld Z h0 b "java/util/ArrayList" "elementData" "[Ljava/lang/Object;" .null) (F_s : Fld Z h0 b "java/util/ArrayList" "size" "I" (.int 0)) (hde : Sta Z Z.heap "java/util/ArrayList" "DEFAULTCAPACITY_EMPTY_ELEMENTDATA" "[Ljava/lang/Object;" (.ref de)) :
    Ct true l Z [] [] (⟨"java/util/ArrayList", "<init>", "()V"⟩ : MethodName) jdk_38_method_2_code 1 none ({ frames := 3, cells := 0, slots := 0, locals := 36 } : Room) #[(.ref b)] h0 [] [b] (fun v h => v = none ∧ Fld Z h b "java/util/AbstractList" "modCount" "I" (.int 0) ∧ Fld Z h b "java/util/ArrayList" "elementData" "[Ljava/lang/Object;" (.ref de) ∧ Fld Z h b "java/util/ArrayList" "size" "I" (.int 0)) := by
  refine Ct.of_wp (a0 := a0) (Ls := #[.val (.ref b)]) (plainFor_of_name pn_java_util_ArrayList) hE hO (by intro x hx; cases List.mem_singleton.mp hx; exact hb0) (fun m => ef_ctAL m b) ?_
  refine Wp.aloadN d7_0 (pc' := 1) rfl rfl rfl ?_
  refine Wp.old fun hOc => ?_
  refine Wp.callI (a := b) (W := 0) (argsL := []) (rest := []) rfl (ctABL l Z a0 hw hE b h0 hOc hb0 E_b F_m F_e F_s) rfl rfl (hw _ (List.mem_of_getElem? (i := 36) rfl)) (hw _ (List.mem_of_getElem? (i := 37) rfl)) (hw _ (List.mem_of_getElem? (i := 41) rfl)) (hw _ (List.mem_of_getElem? (i := 40) rfl)) (by decide) (lenOf pd___V rfl) d7_1 rfl rfl rfl (Nat.le_of_eq rfl) (pc' := 4) rfl nofun (by intro x hx; simp only [List.mem_cons, List.not_mem_nil, or_false] at hx; rcases hx with rfl; exact (Or.inl (by simp))) (by decide) (by decide) (k' := 0) (n' := 0) rfl rfl (by decide) (by decide) (fun vh1 h1 zh1 Kh1 qh1 => ?_)
  obtain ⟨rfl, F_m, F_e, F_s⟩ := qh1
  replace E_b := E_b.keep Kh1
  refine Wp.eqS (S' := []) rfl ?_
  refine Wp.aloadN d7_4 (pc' := 5) rfl rfl rfl ?_
  refine Wp.getS rfl (host := "") (Or.inl (hw _ (List.mem_of_getElem? (i := 51) rfl))) Via.refl hde d7_5 (pc' := 8) rfl ?_
  refine Wp.putF rfl (host := "") (Or.inl (hw _ (List.mem_of_getElem? (i := 52) rfl))) Via.refl F_e E_b (Or.inl (hw _ (List.mem_of_getElem? (i := 53) rfl))) (hw _ (List.mem_of_getElem? (i := 31) rfl)) (ty := (.array (.object "java/lang/Object"))) (by decide) rfl rfl d7_8 (pc' := 11) rfl (Or.inl (by simp)) (Sfe.exa E_b (by decide) (by decide)) (fun h2 W2 Fh2 => ?_)
  replace E_b := E_b.wr W2
  replace F_m := F_m.other W2 (Or.inr (slot_ne (Or.inl (hw _ (List.mem_of_getElem? (i := 50) rfl))) (Or.inl (hw _ (List.mem_of_getElem? (i := 53) rfl))) (by decide) (t := .int) (t' := (.array (.object "java/lang/Object"))) (by decide) (by decide)))
  replace F_s := F_s.other W2 (Or.inr (slot_ne (Or.inl (hw _ (List.mem_of_getElem? (i := 76) rfl))) (Or.inl (hw _ (List.mem_of_getElem? (i := 53) rfl))) (by decide) (t := .int) (t' := (.array (.object "java/lang/Object"))) (by decide) (by decide)))
  replace F_e := Fh2
  refine Wp.retn rfl d7_11 (by decide) (by decide) ?_
  exact ⟨rfl, F_m, F_e, F_s⟩
theorem d18_0 : decode jdk_29_method_65_code 0 = .ok (.iload_n 0, 1) := by decide +kernel
theorem d18_1 : decode jdk_29_method_65_code 1 = .ok (.iload_n 1, 1) := by decide +kernel
theorem d18_2 : decode jdk_29_method_65_code 2 = .ok (.if_icmp .lt 7, 3) := by decide +kernel
theorem d18_5 : decode jdk_29_method_65_code 5 = .ok (.iload_n 0, 1) := by decide +kernel
theorem d18_6 : decode jdk_29_method_65_code 6 = .ok (.goto 4, 3) := by decide +kernel
theorem d18_9 : decode jdk_29_method_65_code 9 = .ok (.iload_n 1, 1) := by decide +kernel
theorem d18_10 : decode jdk_29_method_65_code 10 = .ok (.ireturn, 1) := by decide +kernel
theorem ef_ctMAX (m : MethodId) (x0 : Int32) (x1 : Int32) : entryFrame m #[(.int x0), (.int x1)] 2 = mkF m 0 #[.val (.int x0), .val (.int x1)] [] := by first | (simp [entryFrame, mkF, argsToLocals, Value.category]; done) | rfl
set_option maxRecDepth 65536 in
set_option maxHeartbeats 40000000 in
theorem ctMAX (l : Launch) (Z : State) (a0 : Array Value) (hw : ∀ d ∈ tables_1, d.before a0 Z = true) (hE : EW Z a0 []) (x z : Int32) (h0 : Heap) (hO : Ext Z.heap h0) :
    Ct true l Z [] [] (⟨"java/lang/Math", "max", "(II)I"⟩ : MethodName) jdk_29_method_65_code 2 (some .int) ({ frames := 0, cells := 0, slots := 0, locals := 0 } : Room) #[(.int x), (.int z)] h0 [] [] (fun v h => v = some (.int (if x < z then z else x))) := by
  refine Ct.of_wp (a0 := a0) (Ls := #[.val (.int x), .val (.int z)]) (Jvm.Free.JP.mathPlain rfl (by decide +kernel)) hE hO nofun (fun m => ef_ctMAX m x z) ?_
  refine Wp.iloadN d18_0 (pc' := 1) rfl rfl ?_
  refine Wp.iloadN d18_1 (pc' := 2) rfl rfl ?_
  refine Wp.icmp_lt (pc1 := 9) (pc' := 5) d18_2 (by decide) (by decide) rfl (fun hc1 => ?_) (fun hc1 => ?_)
  · have hc1 : x < z := hc1
    refine Wp.iloadN d18_9 (pc' := 10) rfl rfl ?_
    refine Wp.retI rfl d18_10 (by decide) (by decide) ?_
    rw [if_pos hc1]
  · have hc1 : ¬ (x < z) := hc1
    refine Wp.iloadN d18_5 (pc' := 6) rfl rfl ?_
    refine Wp.goto (pc' := 10) d18_6 (by decide) (by decide) ?_
    refine Wp.retI rfl d18_10 (by decide) (by decide) ?_
    rw [if_neg hc1]
theorem d27_0 : decode jdk_29_method_69_code 0 = .ok (.iload_n 0, 1) := by decide +kernel
theorem d27_1 : decode jdk_29_method_69_code 1 = .ok (.iload_n 1, 1) := by decide +kernel
theorem d27_2 : decode jdk_29_method_69_code 2 = .ok (.if_icmp .gt 7, 3) := by decide +kernel
theorem d27_5 : decode jdk_29_method_69_code 5 = .ok (.iload_n 0, 1) := by decide +kernel
theorem d27_6 : decode jdk_29_method_69_code 6 = .ok (.goto 4, 3) := by decide +kernel
theorem d27_9 : decode jdk_29_method_69_code 9 = .ok (.iload_n 1, 1) := by decide +kernel
theorem d27_10 : decode jdk_29_method_69_code 10 = .ok (.ireturn, 1) := by decide +kernel
theorem ef_ctMIN (m : MethodId) (x0 : Int32) (x1 : Int32) : entryFrame m #[(.int x0), (.int x1)] 2 = mkF m 0 #[.val (.int x0), .val (.int x1)] [] := by first | (simp [entryFrame, mkF, argsToLocals, Value.category]; done) | rfl
set_option maxRecDepth 65536 in
set_option maxHeartbeats 40000000 in
theorem ctMIN (l : Launch) (Z : State) (a0 : Array Value) (hw : ∀ d ∈ tables_1, d.before a0 Z = true) (hE : EW Z a0 []) (x z : Int32) (h0 : Heap) (hO : Ext Z.heap h0) :
    Ct true l Z [] [] (⟨"java/lang/Math", "min", "(II)I"⟩ : MethodName) jdk_29_method_69_code 2 (some .int) ({ frames := 0, cells := 0, slots := 0, locals := 0 } : Room) #[(.int x), (.int z)] h0 [] [] (fun v h => v = some (.int (if z < x then z else x))) := by
  refine Ct.of_wp (a0 := a0) (Ls := #[.val (.int x), .val (.int z)]) (Jvm.Free.JP.mathPlain rfl (by decide +kernel)) hE hO nofun (fun m => ef_ctMIN m x z) ?_
  refine Wp.iloadN d27_0 (pc' := 1) rfl rfl ?_
  refine Wp.iloadN d27_1 (pc' := 2) rfl rfl ?_
  refine Wp.icmp_gt (pc1 := 9) (pc' := 5) d27_2 (by decide) (by decide) rfl (fun hc1 => ?_) (fun hc1 => ?_)
  · have hc1 : z < x := hc1
    refine Wp.iloadN d27_9 (pc' := 10) rfl rfl ?_
    refine Wp.retI rfl d27_10 (by decide) (by decide) ?_
    rw [if_pos hc1]
  · have hc1 : ¬ (z < x) := hc1
    refine Wp.iloadN d27_5 (pc' := 6) rfl rfl ?_
    refine Wp.goto (pc' := 10) d27_6 (by decide) (by decide) ?_
    refine Wp.retI rfl d27_10 (by decide) (by decide) ?_
    rw [if_neg hc1]
theorem d17_0 : decode jdk_38_method_6_code 0 = .ok (.aload_n 0, 1) := by decide +kernel
theorem d17_1 : decode jdk_38_method_6_code 1 = .ok (.getfield 9, 3) := by decide +kernel
theorem d17_4 : decode jdk_38_method_6_code 4 = .ok (.arraylength, 1) := by decide +kernel
theorem d17_5 : decode jdk_38_method_6_code 5 = .ok (.istore_n 2, 1) := by decide +kernel
theorem d17_6 : decode jdk_38_method_6_code 6 = .ok (.iload_n 2, 1) := by decide +kernel
theorem d17_7 : decode jdk_38_method_6_code 7 = .ok (.ifCond .gt 13, 3) := by decide +kernel
theorem d17_10 : decode jdk_38_method_6_code 10 = .ok (.aload_n 0, 1) := by decide +kernel
theorem d17_11 : decode jdk_38_method_6_code 11 = .ok (.getfield 9, 3) := by decide +kernel
theorem d17_14 : decode jdk_38_method_6_code 14 = .ok (.getstatic 39, 3) := by decide +kernel
theorem d17_17 : decode jdk_38_method_6_code 17 = .ok (.if_acmp .eq 28, 3) := by decide +kernel
theorem d17_20 : decode jdk_38_method_6_code 20 = .ok (.iload_n 2, 1) := by decide +kernel
theorem d17_21 : decode jdk_38_method_6_code 21 = .ok (.iload_n 1, 1) := by decide +kernel
theorem d17_22 : decode jdk_38_method_6_code 22 = .ok (.iload_n 2, 1) := by decide +kernel
theorem d17_23 : decode jdk_38_method_6_code 23 = .ok (.isub, 1) := by decide +kernel
theorem d17_24 : decode jdk_38_method_6_code 24 = .ok (.iload_n 2, 1) := by decide +kernel
theorem d17_25 : decode jdk_38_method_6_code 25 = .ok (.iconst 1, 1) := by decide +kernel
theorem d17_26 : decode jdk_38_method_6_code 26 = .ok (.ishr, 1) := by decide +kernel
theorem d17_27 : decode jdk_38_method_6_code 27 = .ok (.invokestatic 73, 3) := by decide +kernel
theorem d17_30 : decode jdk_38_method_6_code 30 = .ok (.istore_n 3, 1) := by decide +kernel
theorem d17_31 : decode jdk_38_method_6_code 31 = .ok (.aload_n 0, 1) := by decide +kernel
theorem d17_32 : decode jdk_38_method_6_code 32 = .ok (.aload_n 0, 1) := by decide +kernel
theorem d17_33 : decode jdk_38_method_6_code 33 = .ok (.getfield 9, 3) := by decide +kernel
theorem d17_36 : decode jdk_38_method_6_code 36 = .ok (.iload_n 3, 1) := by decide +kernel
theorem d17_37 : decode jdk_38_method_6_code 37 = .ok (.invokestatic 66, 3) := by decide +kernel
theorem d17_40 : decode jdk_38_method_6_code 40 = .ok (.dup_x1, 1) := by decide +kernel
theorem d17_41 : decode jdk_38_method_6_code 41 = .ok (.putfield 9, 3) := by decide +kernel
theorem d17_44 : decode jdk_38_method_6_code 44 = .ok (.areturn, 1) := by decide +kernel
theorem d17_45 : decode jdk_38_method_6_code 45 = .ok (.aload_n 0, 1) := by decide +kernel
theorem d17_46 : decode jdk_38_method_6_code 46 = .ok (.bipush 10, 2) := by decide +kernel
theorem d17_48 : decode jdk_38_method_6_code 48 = .ok (.iload_n 1, 1) := by decide +kernel
theorem d17_49 : decode jdk_38_method_6_code 49 = .ok (.invokestatic 79, 3) := by decide +kernel
theorem d17_52 : decode jdk_38_method_6_code 52 = .ok (.anewarray 7, 3) := by decide +kernel
theorem d17_55 : decode jdk_38_method_6_code 55 = .ok (.dup_x1, 1) := by decide +kernel
theorem d17_56 : decode jdk_38_method_6_code 56 = .ok (.putfield 9, 3) := by decide +kernel
theorem d17_59 : decode jdk_38_method_6_code 59 = .ok (.areturn, 1) := by decide +kernel
theorem ef_ctGRI (m : MethodId) (x0 : Addr) (x1 : Int32) : entryFrame m #[(.ref x0), (.int x1)] 4 = mkF m 0 #[.val (.ref x0), .val (.int x1), .unset, .unset] [] := by first | (simp [entryFrame, mkF, argsToLocals, Value.category]; done) | rfl
theorem pd__II_I : parseMethodDescriptor "(II)I" = some ⟨[.int, .int], some .int⟩ := by decide +kernel
set_option maxRecDepth 65536 in
set_option maxHeartbeats 40000000 in
theorem ctGRI (l : Launch) (Z : State) (a0 : Array Value) (hw : ∀ d ∈ tables_1, d.before a0 Z = true) (hE : EW Z a0 []) (b de : Addr) (kde : ClassId) (mc : Int32) (h0 : Heap) (hO : Ext Z.heap h0) (V_de : Arv Z h0 de kde (.object "java/lang/Object") (0 : Int32) [] .null) (hb0 : Z.heap.size ≤ b) (E_b : Exa Z h0 b "java/util/ArrayList") (F_m : Fld Z h0 b "java/util/AbstractList" "modCount" "I" (.int mc)) (F_e : Fld Z h0 b "java/util/ArrayList" "elementData" "[Ljava/lang/Object;" (.ref de)) (F_s : Fld Z h0 b "java/util/ArrayList" "size" "I" (.int 0)) (hde : Sta Z Z.heap "java/util/ArrayList" "DEFAULTCAPACITY_EMPTY_ELEMENTDATA" "[Ljava/lang/Object;" (.ref de)) (ne_de_b : de ≠ b) :
    Ct true l Z [] [] (⟨"java/util/ArrayList", "grow", "(I)[Ljava/lang/Object;"⟩ : MethodName) jdk_38_method_6_code 4 (some (.array (.object "java/lang/Object"))) ({ frames := 1, cells := 1, slots := 10, locals := 14 } : Room) #[(.ref b), (.int (1 : Int32))] h0 [] [b] (fun v h => ∃ d kd, v = some (.ref d) ∧ h0.size ≤ d ∧ (∃ mc : Int32, Fld Z h b "java/util/AbstractList" "modCount" "I" (.int mc)) ∧ Fld Z h b "java/util/ArrayList" "elementData" "[Ljava/lang/Object;" (.ref d) ∧ Arv Z h d kd (.object "java/lang/Object") (10 : Int32) [.null, .null, .null, .null, .null, .null, .null, .null, .null, .null] .null ∧ Ovr Z kd "java/lang/Object" ∧ Exa Z h d "[Ljava/lang/Object;" ∧ Fld Z h b "java/util/ArrayList" "size" "I" (.int 0) ∧ True) := by
  refine Ct.of_wp (a0 := a0) (Ls := #[.val (.ref b), .val (.int (1 : Int32)), .unset, .unset]) (plainFor_of_name pn_java_util_ArrayList) hE hO (by intro x hx; cases List.mem_singleton.mp hx; exact hb0) (fun m => ef_ctGRI m b (1 : Int32)) ?_
  refine Wp.aloadN d17_0 (pc' := 1) rfl rfl rfl ?_
  refine Wp.getF rfl (host := "") (Or.inl (hw _ (List.mem_of_getElem? (i := 52) rfl))) Via.refl F_e d17_1 (pc' := 4) rfl ?_
  refine Wp.alen V_de d17_4 (pc' := 5) rfl ?_
  refine Wp.istoreN (l' := #[.val (.ref b), .val (.int (1 : Int32)), .val (.int (0 : Int32)), .unset]) d17_5 (pc' := 6) rfl rfl ?_
  refine Wp.iloadN d17_6 (pc' := 7) rfl rfl ?_
  refine Wp.if_gt (pc1 := 20) (pc' := 10) d17_7 (by decide) (by decide) rfl (fun hc1 => by exact absurd hc1 (by decide)) (fun hc1 => ?_)
  refine Wp.aloadN d17_10 (pc' := 11) rfl rfl rfl ?_
  refine Wp.getF rfl (host := "") (Or.inl (hw _ (List.mem_of_getElem? (i := 52) rfl))) Via.refl F_e d17_11 (pc' := 14) rfl ?_
  refine Wp.getS rfl (host := "") (Or.inl (hw _ (List.mem_of_getElem? (i := 51) rfl))) Via.refl hde d17_14 (pc' := 17) rfl ?_
  refine Wp.acmp_eq (pc1 := 45) (pc' := 20) rfl rfl d17_17 (by decide) (by decide) rfl (fun hc2 => ?_) (fun hc2 => by exact absurd rfl hc2)
  refine Wp.aloadN d17_45 (pc' := 46) rfl rfl rfl ?_
  refine Wp.bipush (x := (10 : Int32)) d17_46 (pc' := 48) rfl rfl ?_
  refine Wp.iloadN d17_48 (pc' := 49) rfl rfl ?_
  refine Wp.old fun hOc => ?_
  refine Wp.callS (W := 1) (argsL := [(.int (10 : Int32)), (.int (1 : Int32))]) (rest := [(.ref b)]) rfl (ctMAX l Z a0 hw hE (10 : Int32) (1 : Int32) h0 hOc) (hw _ (List.mem_of_getElem? (i := 92) rfl)) (hw _ (List.mem_of_getElem? (i := 93) rfl)) (hw _ (List.mem_of_getElem? (i := 95) rfl)) (hw _ (List.mem_of_getElem? (i := 94) rfl)) (by decide) (lenOf pd__II_I rfl) d17_49 rfl rfl rfl (Nat.le_of_eq rfl) (pc' := 52) rfl nofun nofun (by decide) (by decide) (k' := 0) (n' := 0) rfl rfl (by decide) (by decide) (fun vh3 h3 zh3 Kh3 qh3 => ?_)
  obtain rfl : vh3 = some (.int 10) := qh3.trans (by rw [if_neg (by decide)])
  replace V_de := V_de.keep Kh3 nin0
  replace E_b := E_b.keep Kh3
  replace F_m := F_m.keep Kh3 nin0
  replace F_e := F_e.keep Kh3 nin0
  replace F_s := F_s.keep Kh3 nin0
  refine Wp.eqS (S' := [(.int (10 : Int32)), (.ref b)]) rfl ?_
  refine Wp.newRE (cap := 10) rfl (hw _ (List.mem_of_getElem? (i := 96) rfl)) (hw _ (List.mem_of_getElem? (i := 97) rfl)) (ad := "[Ljava/lang/Object;") (by decide) (by decide) (by decide) (by decide) d17_52 (pc' := 55) rfl (k' := 1) (n' := 10) rfl rfl (by decide) (by decide) (fun h4 b4 k_b4 g_b4 sz_b4 Xh4 V_b4 O_b4 E_b4 => ?_)
  have ne_de_b4 : de ≠ b4 := Nat.ne_of_lt (Nat.lt_of_lt_of_eq V_de.lt g_b4.symm)
  have ne_b_b4 : b ≠ b4 := Nat.ne_of_lt (Nat.lt_of_lt_of_eq E_b.lt g_b4.symm)
  replace V_de := V_de.ext Xh4
  replace E_b := E_b.ext Xh4
  replace F_m := F_m.ext Xh4
  replace F_e := F_e.ext Xh4
  replace F_s := F_s.ext Xh4
  replace V_b4 : Arv Z h4 b4 k_b4 (.object "java/lang/Object") (10 : Int32) [.null, .null, .null, .null, .null, .null, .null, .null, .null, .null] .null := V_b4.pad (pad_rep [] .null 10)
  refine Wp.dupX1 d17_55 (pc' := 56) rfl rfl rfl ?_
  refine Wp.putF rfl (host := "") (Or.inl (hw _ (List.mem_of_getElem? (i := 52) rfl))) Via.refl F_e E_b (Or.inl (hw _ (List.mem_of_getElem? (i := 53) rfl))) (hw _ (List.mem_of_getElem? (i := 31) rfl)) (ty := (.array (.object "java/lang/Object"))) (by decide) rfl rfl d17_56 (pc' := 59) rfl (Or.inl (by simp)) (Sfe.exa E_b (by decide) (by decide)) (fun h5 W5 Fh5 => ?_)
  replace V_de := V_de.other W5 ne_de_b
  replace E_b := E_b.wr W5
  replace F_m := F_m.other W5 (Or.inr (slot_ne (Or.inl (hw _ (List.mem_of_getElem? (i := 50) rfl))) (Or.inl (hw _ (List.mem_of_getElem? (i := 53) rfl))) (by decide) (t := .int) (t' := (.array (.object "java/lang/Object"))) (by decide) (by decide)))
  replace F_s := F_s.other W5 (Or.inr (slot_ne (Or.inl (hw _ (List.mem_of_getElem? (i := 76) rfl))) (Or.inl (hw _ (List.mem_of_getElem? (i := 53) rfl))) (by decide) (t := .int) (t' := (.array (.object "java/lang/Object"))) (by decide) (by decide)))
  replace V_b4 := V_b4.other W5 (Ne.symm ne_b_b4)
  replace E_b4 := E_b4.wr W5
  replace F_e := Fh5
  refine Wp.retA rfl rfl rfl d17_59 (by decide) (by decide) ?_
  exact ⟨_, k_b4, rfl, sz_b4, ⟨_, F_m⟩, F_e, V_b4, O_b4, E_b4, F_s, trivial⟩
theorem d16_0 : decode jdk_38_method_7_code 0 = .ok (.aload_n 0, 1) := by decide +kernel
theorem d16_1 : decode jdk_38_method_7_code 1 = .ok (.aload_n 0, 1) := by decide +kernel
theorem d16_2 : decode jdk_38_method_7_code 2 = .ok (.getfield 48, 3) := by decide +kernel
theorem d16_5 : decode jdk_38_method_7_code 5 = .ok (.iconst 1, 1) := by decide +kernel
theorem d16_6 : decode jdk_38_method_7_code 6 = .ok (.iadd, 1) := by decide +kernel
theorem d16_7 : decode jdk_38_method_7_code 7 = .ok (.invokevirtual 69, 3) := by decide +kernel
theorem d16_10 : decode jdk_38_method_7_code 10 = .ok (.areturn, 1) := by decide +kernel
theorem ef_ctGR (m : MethodId) (x0 : Addr) : entryFrame m #[(.ref x0)] 1 = mkF m 0 #[.val (.ref x0)] [] := by first | (simp [entryFrame, mkF, argsToLocals, Value.category]; done) | rfl
theorem pd__I__Ljava_lang_Object_ : parseMethodDescriptor "(I)[Ljava/lang/Object;" = some ⟨[.int], some (.array (.object "java/lang/Object"))⟩ := by decide +kernel
set_option maxRecDepth 65536 in
set_option maxHeartbeats 40000000 in
theorem ctGR (l : Launch) (Z : State) (a0 : Array Value) (hw : ∀ d ∈ tables_1, d.before a0 Z = true) (hE : EW Z a0 []) (b de : Addr) (kde : ClassId) (mc : Int32) (h0 : Heap) (hO : Ext Z.heap h0) (V_de : Arv Z h0 de kde (.object "java/lang/Object") (0 : Int32) [] .null) (hb0 : Z.heap.size ≤ b) (E_b : Exa Z h0 b "java/util/ArrayList") (F_m : Fld Z h0 b "java/util/AbstractList" "modCount" "I" (.int mc)) (F_e : Fld Z h0 b "java/util/ArrayList" "elementData" "[Ljava/lang/Object;" (.ref de)) (F_s : Fld Z h0 b "java/util/ArrayList" "size" "I" (.int 0)) (hde : Sta Z Z.heap "java/util/ArrayList" "DEFAULTCAPACITY_EMPTY_ELEMENTDATA" "[Ljava/lang/Object;" (.ref de)) (ne_de_b : de ≠ b) :
    Ct true l Z [] [] (⟨"java/util/ArrayList", "grow", "()[Ljava/lang/Object;"⟩ : MethodName) jdk_38_method_7_code 1 (some (.array (.object "java/lang/Object"))) ({ frames := 2, cells := 1, slots := 10, locals := 29 } : Room) #[(.ref b)] h0 [] [b] (fun v h => ∃ d kd, v = some (.ref d) ∧ h0.size ≤ d ∧ (∃ mc : Int32, Fld Z h b "java/util/AbstractList" "modCount" "I" (.int mc)) ∧ Fld Z h b "java/util/ArrayList" "elementData" "[Ljava/lang/Object;" (.ref d) ∧ Arv Z h d kd (.object "java/lang/Object") (10 : Int32) [.null, .null, .null, .null, .null, .null, .null, .null, .null, .null] .null ∧ Ovr Z kd "java/lang/Object" ∧ Exa Z h d "[Ljava/lang/Object;" ∧ Fld Z h b "java/util/ArrayList" "size" "I" (.int 0) ∧ True) := by
  refine Ct.of_wp (a0 := a0) (Ls := #[.val (.ref b)]) (plainFor_of_name pn_java_util_ArrayList) hE hO (by intro x hx; cases List.mem_singleton.mp hx; exact hb0) (fun m => ef_ctGR m b) ?_
  refine Wp.aloadN d16_0 (pc' := 1) rfl rfl rfl ?_
  refine Wp.aloadN d16_1 (pc' := 2) rfl rfl rfl ?_
  refine Wp.getF rfl (host := "") (Or.inl (hw _ (List.mem_of_getElem? (i := 75) rfl))) Via.refl F_s d16_2 (pc' := 5) rfl ?_
  refine Wp.iconst (x := (1 : Int32)) d16_5 (pc' := 6) rfl rfl ?_
  refine Wp.iadd d16_6 (pc' := 7) rfl ?_
  refine Wp.eqS (S' := [(.int (1 : Int32)), (.ref b)]) rfl ?_
  refine Wp.old fun hOc => ?_
  refine Wp.callP (a := b) (W := 0) (argsL := [(.int (1 : Int32))]) (rest := []) rfl (ctGRI l Z a0 hw hE b de kde mc h0 hOc V_de hb0 E_b F_m F_e F_s hde ne_de_b) (hw _ (List.mem_of_getElem? (i := 87) rfl)) (hw _ (List.mem_of_getElem? (i := 89) rfl)) (hw _ (List.mem_of_getElem? (i := 90) rfl)) (hw _ (List.mem_of_getElem? (i := 88) rfl)) (hw _ (List.mem_of_getElem? (i := 91) rfl)) (hw _ (List.mem_of_getElem? (i := 32) rfl)) E_b (by decide) (lenOf pd__I__Ljava_lang_Object_ rfl) d16_7 rfl rfl rfl (Nat.le_of_eq rfl) (pc' := 10) rfl nofun (by intro x hx; simp only [List.mem_cons, List.not_mem_nil, or_false] at hx; rcases hx with rfl; exact (Or.inl (by simp))) (by decide) (by decide) (k' := 1) (n' := 10) rfl rfl (by decide) (by decide) (fun vh1 h1 zh1 Kh1 qh1 => ?_)
  obtain ⟨d, k_d, rfl, sb_d, ⟨mc', F_m⟩, F_e, V_d, O_d, E_d, F_s, -⟩ := qh1
  have ne_de_d : de ≠ d := Nat.ne_of_lt (Nat.lt_of_lt_of_le V_de.lt sb_d)
  have ne_b_d : b ≠ d := Nat.ne_of_lt (Nat.lt_of_lt_of_le E_b.lt sb_d)
  replace V_de := V_de.keep Kh1 (ninS ne_de_b nin0)
  replace E_b := E_b.keep Kh1
  refine Wp.eqS (S' := [(.ref d)]) rfl ?_
  have sz_d : h0.size ≤ d := Nat.le_trans zh1 sb_d
  refine Wp.retA rfl rfl rfl d16_10 (by decide) (by decide) ?_
  exact ⟨_, k_d, rfl, sz_d, ⟨_, F_m⟩, F_e, V_d, O_d, E_d, F_s, trivial⟩
theorem d15_0 : decode jdk_38_method_24_code 0 = .ok (.iload_n 3, 1) := by decide +kernel
theorem d15_1 : decode jdk_38_method_24_code 1 = .ok (.aload_n 2, 1) := by decide +kernel
theorem d15_2 : decode jdk_38_method_24_code 2 = .ok (.arraylength, 1) := by decide +kernel
theorem d15_3 : decode jdk_38_method_24_code 3 = .ok (.if_icmp .ne 8, 3) := by decide +kernel
theorem d15_6 : decode jdk_38_method_24_code 6 = .ok (.aload_n 0, 1) := by decide +kernel
theorem d15_7 : decode jdk_38_method_24_code 7 = .ok (.invokevirtual 129, 3) := by decide +kernel
theorem d15_10 : decode jdk_38_method_24_code 10 = .ok (.astore_n 2, 1) := by decide +kernel
theorem d15_11 : decode jdk_38_method_24_code 11 = .ok (.aload_n 2, 1) := by decide +kernel
theorem d15_12 : decode jdk_38_method_24_code 12 = .ok (.iload_n 3, 1) := by decide +kernel
theorem d15_13 : decode jdk_38_method_24_code 13 = .ok (.aload_n 1, 1) := by decide +kernel
theorem d15_14 : decode jdk_38_method_24_code 14 = .ok (.aastore, 1) := by decide +kernel
theorem d15_15 : decode jdk_38_method_24_code 15 = .ok (.aload_n 0, 1) := by decide +kernel
theorem d15_16 : decode jdk_38_method_24_code 16 = .ok (.iload_n 3, 1) := by decide +kernel
theorem d15_17 : decode jdk_38_method_24_code 17 = .ok (.iconst 1, 1) := by decide +kernel
theorem d15_18 : decode jdk_38_method_24_code 18 = .ok (.iadd, 1) := by decide +kernel
theorem d15_19 : decode jdk_38_method_24_code 19 = .ok (.putfield 48, 3) := by decide +kernel
theorem d15_22 : decode jdk_38_method_24_code 22 = .ok (.return_, 1) := by decide +kernel
theorem ef_ctA3_0 (m : MethodId) (x0 : Addr) (x1 : Addr) (x2 : Addr) (x3 : Int32) : entryFrame m #[(.ref x0), (.ref x1), (.ref x2), (.int x3)] 4 = mkF m 0 #[.val (.ref x0), .val (.ref x1), .val (.ref x2), .val (.int x3)] [] := by first | (simp [entryFrame, mkF, argsToLocals, Value.category]; done) | rfl
theorem pd____Ljava_lang_Object_ : parseMethodDescriptor "()[Ljava/lang/Object;" = some ⟨[], some (.array (.object "java/lang/Object"))⟩ := by decide +kernel
set_option maxRecDepth 65536 in
set_option maxHeartbeats 40000000 in
theorem ctA3_0 (l : Launch) (Z : State) (a0 : Array Value) (hw : ∀ d ∈ tables_1, d.before a0 Z = true) (hE : EW Z a0 []) (b e de : Addr) (kde : ClassId) (mc : Int32) (h0 : Heap) (hO : Ext Z.heap h0) (V_de : Arv Z h0 de kde (.object "java/lang/Object") (0 : Int32) [] .null) (hb0 : Z.heap.size ≤ b) (E_b : Exa Z h0 b "java/util/ArrayList") (F_m : Fld Z h0 b "java/util/AbstractList" "modCount" "I" (.int mc)) (F_e : Fld Z h0 b "java/util/ArrayList" "elementData" "[Ljava/lang/Object;" (.ref de)) (F_s : Fld Z h0 b "java/util/ArrayList" "size" "I" (.int 0)) (hde : Sta Z Z.heap "java/util/ArrayList" "DEFAULTCAPACITY_EMPTY_ELEMENTDATA" "[Ljava/lang/Object;" (.ref de)) (ne_de_b : de ≠ b) (E_e : Exa Z h0 e "java/lang/String") :
    Ct true l Z [] [] (⟨"java/util/ArrayList", "add", "(Ljava/lang/Object;[Ljava/lang/Object;I)V"⟩ : MethodName) jdk_38_method_24_code 4 none ({ frames := 3, cells := 1, slots := 10, locals := 41 } : Room) #[(.ref b), (.ref e), (.ref de), (.int (0 : Int32))] h0 [] [b] (fun v h => v = none ∧ (∃ d kd, h0.size ≤ d ∧ Ovr Z kd "java/lang/Object" ∧ (∃ mc : Int32, Fld Z h b "java/util/AbstractList" "modCount" "I" (.int mc)) ∧ Fld Z h b "java/util/ArrayList" "elementData" "[Ljava/lang/Object;" (.ref d) ∧ Fld Z h b "java/util/ArrayList" "size" "I" (.int 1) ∧ Arv Z h d kd (.object "java/lang/Object") (10 : Int32) [(.ref e), .null, .null, .null, .null, .null, .null, .null, .null, .null] .null ∧ Exa Z h d "[Ljava/lang/Object;")) := by
  refine Ct.of_wp (a0 := a0) (Ls := #[.val (.ref b), .val (.ref e), .val (.ref de), .val (.int (0 : Int32))]) (plainFor_of_name pn_java_util_ArrayList) hE hO (by intro x hx; cases List.mem_singleton.mp hx; exact hb0) (fun m => ef_ctA3_0 m b e de (0 : Int32)) ?_
  refine Wp.iloadN d15_0 (pc' := 1) rfl rfl ?_
  refine Wp.aloadN d15_1 (pc' := 2) rfl rfl rfl ?_
  refine Wp.alen V_de d15_2 (pc' := 3) rfl ?_
  refine Wp.icmp_ne (pc1 := 11) (pc' := 6) d15_3 (by decide) (by decide) rfl (fun hc1 => by exact absurd hc1 (by decide)) (fun hc1 => ?_)
  refine Wp.aloadN d15_6 (pc' := 7) rfl rfl rfl ?_
  refine Wp.old fun hOc => ?_
  refine Wp.callP (a := b) (W := 0) (argsL := []) (rest := []) rfl (ctGR l Z a0 hw hE b de kde mc h0 hOc V_de hb0 E_b F_m F_e F_s hde ne_de_b) (hw _ (List.mem_of_getElem? (i := 82) rfl)) (hw _ (List.mem_of_getElem? (i := 84) rfl)) (hw _ (List.mem_of_getElem? (i := 85) rfl)) (hw _ (List.mem_of_getElem? (i := 83) rfl)) (hw _ (List.mem_of_getElem? (i := 86) rfl)) (hw _ (List.mem_of_getElem? (i := 32) rfl)) E_b (by decide) (lenOf pd____Ljava_lang_Object_ rfl) d15_7 rfl rfl rfl (Nat.le_of_eq rfl) (pc' := 10) rfl nofun (by intro x hx; simp only [List.mem_cons, List.not_mem_nil, or_false] at hx; rcases hx with rfl; exact (Or.inl (by simp))) (by decide) (by decide) (k' := 1) (n' := 10) rfl rfl (by decide) (by decide) (fun vh2 h2 zh2 Kh2 qh2 => ?_)
  obtain ⟨d, k_d, rfl, sb_d, ⟨mc', F_m⟩, F_e, V_d, O_d, E_d, F_s, -⟩ := qh2
  have ne_de_d : de ≠ d := Nat.ne_of_lt (Nat.lt_of_lt_of_le V_de.lt sb_d)
  have ne_b_d : b ≠ d := Nat.ne_of_lt (Nat.lt_of_lt_of_le E_b.lt sb_d)
  have ne_e_d : e ≠ d := Nat.ne_of_lt (Nat.lt_of_lt_of_le E_e.lt sb_d)
  replace V_de := V_de.keep Kh2 (ninS ne_de_b nin0)
  replace E_b := E_b.keep Kh2
  replace E_e := E_e.keep Kh2
  refine Wp.eqS (S' := [(.ref d)]) rfl ?_
  have sz_d : h0.size ≤ d := Nat.le_trans zh2 sb_d
  refine Wp.astoreN (l' := #[.val (.ref b), .val (.ref e), .val (.ref d), .val (.int (0 : Int32))]) d15_10 (pc' := 11) rfl rfl rfl ?_
  refine Wp.aloadN d15_11 (pc' := 12) rfl rfl rfl ?_
  refine Wp.iloadN d15_12 (pc' := 13) rfl rfl ?_
  refine Wp.aloadN d15_13 (pc' := 14) rfl rfl rfl ?_
  refine Wp.aastore V_d rfl (by decide) rfl (Or.inr ⟨_, _, rfl, O_d, Ins.of_exa E_e (hw _ (List.mem_of_getElem? (i := 98) rfl))⟩) (by decide) (by decide) (i := 0) rfl (Nat.le_of_ble_eq_true rfl) d15_14 (pc' := 15) rfl (Or.inr sz_d) (fun h3 W3 Vh3 => ?_)
  replace V_de := V_de.other W3 ne_de_d
  replace E_b := E_b.wr W3
  replace E_e := E_e.wr W3
  replace E_d := E_d.wr W3
  replace F_m := F_m.other W3 (Or.inl ne_b_d)
  replace F_e := F_e.other W3 (Or.inl ne_b_d)
  replace F_s := F_s.other W3 (Or.inl ne_b_d)
  replace V_d : Arv Z h3 d k_d (.object "java/lang/Object") (10 : Int32) [(.ref e), .null, .null, .null, .null, .null, .null, .null, .null, .null] .null := Vh3
  refine Wp.aloadN d15_15 (pc' := 16) rfl rfl rfl ?_
  refine Wp.iloadN d15_16 (pc' := 17) rfl rfl ?_
  refine Wp.iconst (x := (1 : Int32)) d15_17 (pc' := 18) rfl rfl ?_
  refine Wp.iadd d15_18 (pc' := 19) rfl ?_
  refine Wp.eqS (S' := [(.int (1 : Int32)), (.ref b)]) rfl ?_
  refine Wp.putF rfl (host := "") (Or.inl (hw _ (List.mem_of_getElem? (i := 75) rfl))) Via.refl F_s E_b (Or.inl (hw _ (List.mem_of_getElem? (i := 76) rfl))) (hw _ (List.mem_of_getElem? (i := 31) rfl)) (ty := .int) (by decide) rfl rfl d15_19 (pc' := 22) rfl (Or.inl (by simp)) (Sfe.exa E_b (by decide) (by decide)) (fun h4 W4 Fh4 => ?_)
  replace V_de := V_de.other W4 ne_de_b
  replace E_b := E_b.wr W4
  replace E_e := E_e.wr W4
  replace V_d := V_d.other W4 (Ne.symm ne_b_d)
  replace E_d := E_d.wr W4
  replace F_m := F_m.other W4 (Or.inr (slot_ne (Or.inl (hw _ (List.mem_of_getElem? (i := 50) rfl))) (Or.inl (hw _ (List.mem_of_getElem? (i := 76) rfl))) (by decide) (t := .int) (t' := .int) (by decide) (by decide)))
  replace F_e := F_e.other W4 (Or.inr (slot_ne (Or.inl (hw _ (List.mem_of_getElem? (i := 53) rfl))) (Or.inl (hw _ (List.mem_of_getElem? (i := 76) rfl))) (by decide) (t := (.array (.object "java/lang/Object"))) (t' := .int) (by decide) (by decide)))
  replace F_s := Fh4
  refine Wp.retn rfl d15_22 (by decide) (by decide) ?_
  exact ⟨rfl, ⟨d, k_d, sz_d, O_d, ⟨_, F_m⟩, F_e, F_s, V_d, E_d⟩⟩
theorem d14_0 : decode jdk_38_method_25_code 0 = .ok (.aload_n 0, 1) := by decide +kernel
theorem d14_1 : decode jdk_38_method_25_code 1 = .ok (.dup, 1) := by decide +kernel
theorem d14_2 : decode jdk_38_method_25_code 2 = .ok (.getfield 63, 3) := by decide +kernel
theorem d14_5 : decode jdk_38_method_25_code 5 = .ok (.iconst 1, 1) := by decide +kernel
theorem d14_6 : decode jdk_38_method_25_code 6 = .ok (.iadd, 1) := by decide +kernel
theorem d14_7 : decode jdk_38_method_25_code 7 = .ok (.putfield 63, 3) := by decide +kernel
theorem d14_10 : decode jdk_38_method_25_code 10 = .ok (.aload_n 0, 1) := by decide +kernel
theorem d14_11 : decode jdk_38_method_25_code 11 = .ok (.aload_n 1, 1) := by decide +kernel
theorem d14_12 : decode jdk_38_method_25_code 12 = .ok (.aload_n 0, 1) := by decide +kernel
theorem d14_13 : decode jdk_38_method_25_code 13 = .ok (.getfield 9, 3) := by decide +kernel
theorem d14_16 : decode jdk_38_method_25_code 16 = .ok (.aload_n 0, 1) := by decide +kernel
theorem d14_17 : decode jdk_38_method_25_code 17 = .ok (.getfield 48, 3) := by decide +kernel
theorem d14_20 : decode jdk_38_method_25_code 20 = .ok (.invokevirtual 131, 3) := by decide +kernel
theorem d14_23 : decode jdk_38_method_25_code 23 = .ok (.iconst 1, 1) := by decide +kernel
theorem d14_24 : decode jdk_38_method_25_code 24 = .ok (.ireturn, 1) := by decide +kernel
theorem ef_ctA1_0 (m : MethodId) (x0 : Addr) (x1 : Addr) : entryFrame m #[(.ref x0), (.ref x1)] 2 = mkF m 0 #[.val (.ref x0), .val (.ref x1)] [] := by first | (simp [entryFrame, mkF, argsToLocals, Value.category]; done) | rfl
theorem pd__Ljava_lang_Object__Ljava_lang_Object_I_V : parseMethodDescriptor "(Ljava/lang/Object;[Ljava/lang/Object;I)V" = some ⟨[(.object "java/lang/Object"), (.array (.object "java/lang/Object")), .int], none⟩ := by decide +kernel
set_option maxRecDepth 65536 in
set_option maxHeartbeats 40000000 in
theorem ctA1_0 (l : Launch) (Z : State) (a0 : Array Value) (hw : ∀ d ∈ tables_1, d.before a0 Z = true) (hE : EW Z a0 []) (b e de : Addr) (kde : ClassId) (mc : Int32) (h0 : Heap) (hO : Ext Z.heap h0) (V_de : Arv Z h0 de kde (.object "java/lang/Object") (0 : Int32) [] .null) (hb0 : Z.heap.size ≤ b) (E_b : Exa Z h0 b "java/util/ArrayList") (F_m : Fld Z h0 b "java/util/AbstractList" "modCount" "I" (.int mc)) (F_e : Fld Z h0 b "java/util/ArrayList" "elementData" "[Ljava/lang/Object;" (.ref de)) (F_s : Fld Z h0 b "java/util/ArrayList" "size" "I" (.int 0)) (hde : Sta Z Z.heap "java/util/ArrayList" "DEFAULTCAPACITY_EMPTY_ELEMENTDATA" "[Ljava/lang/Object;" (.ref de)) (ne_de_b : de ≠ b) (E_e : Exa Z h0 e "java/lang/String") :
    Ct true l Z [] [] (⟨"java/util/ArrayList", "add", "(Ljava/lang/Object;)Z"⟩ : MethodName) jdk_38_method_25_code 2 (some .boolean) ({ frames := 4, cells := 1, slots := 10, locals := 56 } : Room) #[(.ref b), (.ref e)] h0 [] [b] (fun v h => v = some (.int 1) ∧ (∃ d kd, h0.size ≤ d ∧ Ovr Z kd "java/lang/Object" ∧ (∃ mc : Int32, Fld Z h b "java/util/AbstractList" "modCount" "I" (.int mc)) ∧ Fld Z h b "java/util/ArrayList" "elementData" "[Ljava/lang/Object;" (.ref d) ∧ Fld Z h b "java/util/ArrayList" "size" "I" (.int 1) ∧ Arv Z h d kd (.object "java/lang/Object") (10 : Int32) [(.ref e), .null, .null, .null, .null, .null, .null, .null, .null, .null] .null ∧ Exa Z h d "[Ljava/lang/Object;")) := by
  refine Ct.of_wp (a0 := a0) (Ls := #[.val (.ref b), .val (.ref e)]) (plainFor_of_name pn_java_util_ArrayList) hE hO (by intro x hx; cases List.mem_singleton.mp hx; exact hb0) (fun m => ef_ctA1_0 m b e) ?_
  refine Wp.aloadN d14_0 (pc' := 1) rfl rfl rfl ?_
  refine Wp.dup d14_1 (pc' := 2) rfl rfl ?_
  refine Wp.getF rfl (host := "") (Or.inl (hw _ (List.mem_of_getElem? (i := 73) rfl))) (Via.of (hw _ (List.mem_of_getElem? (i := 74) rfl))) F_m d14_2 (pc' := 5) rfl ?_
  refine Wp.iconst (x := (1 : Int32)) d14_5 (pc' := 6) rfl rfl ?_
  refine Wp.iadd d14_6 (pc' := 7) rfl ?_
  refine Wp.putF rfl (host := "") (Or.inl (hw _ (List.mem_of_getElem? (i := 73) rfl))) (Via.of (hw _ (List.mem_of_getElem? (i := 74) rfl))) F_m E_b (Or.inl (hw _ (List.mem_of_getElem? (i := 50) rfl))) (hw _ (List.mem_of_getElem? (i := 31) rfl)) (ty := .int) (by decide) rfl rfl d14_7 (pc' := 10) rfl (Or.inl (by simp)) (Sfe.exa E_b (by decide) (by decide)) (fun h1 W1 Fh1 => ?_)
  replace V_de := V_de.other W1 ne_de_b
  replace E_b := E_b.wr W1
  replace F_e := F_e.other W1 (Or.inr (slot_ne (Or.inl (hw _ (List.mem_of_getElem? (i := 53) rfl))) (Or.inl (hw _ (List.mem_of_getElem? (i := 50) rfl))) (by decide) (t := (.array (.object "java/lang/Object"))) (t' := .int) (by decide) (by decide)))
  replace F_s := F_s.other W1 (Or.inr (slot_ne (Or.inl (hw _ (List.mem_of_getElem? (i := 76) rfl))) (Or.inl (hw _ (List.mem_of_getElem? (i := 50) rfl))) (by decide) (t := .int) (t' := .int) (by decide) (by decide)))
  replace E_e := E_e.wr W1
  replace F_m := Fh1
  refine Wp.aloadN d14_10 (pc' := 11) rfl rfl rfl ?_
  refine Wp.aloadN d14_11 (pc' := 12) rfl rfl rfl ?_
  refine Wp.aloadN d14_12 (pc' := 13) rfl rfl rfl ?_
  refine Wp.getF rfl (host := "") (Or.inl (hw _ (List.mem_of_getElem? (i := 52) rfl))) Via.refl F_e d14_13 (pc' := 16) rfl ?_
  refine Wp.aloadN d14_16 (pc' := 17) rfl rfl rfl ?_
  refine Wp.getF rfl (host := "") (Or.inl (hw _ (List.mem_of_getElem? (i := 75) rfl))) Via.refl F_s d14_17 (pc' := 20) rfl ?_
  refine Wp.old fun hOc => ?_
  refine Wp.callP (a := b) (W := 0) (argsL := [(.ref e), (.ref de), (.int (0 : Int32))]) (rest := []) rfl (ctA3_0 l Z a0 hw hE b e de kde (mc + (1 : Int32)) h1 hOc V_de hb0 E_b F_m F_e F_s hde ne_de_b E_e) (hw _ (List.mem_of_getElem? (i := 77) rfl)) (hw _ (List.mem_of_getElem? (i := 79) rfl)) (hw _ (List.mem_of_getElem? (i := 80) rfl)) (hw _ (List.mem_of_getElem? (i := 78) rfl)) (hw _ (List.mem_of_getElem? (i := 81) rfl)) (hw _ (List.mem_of_getElem? (i := 32) rfl)) E_b (by decide) (lenOf pd__Ljava_lang_Object__Ljava_lang_Object_I_V rfl) d14_20 rfl rfl rfl (Nat.le_of_eq rfl) (pc' := 23) rfl nofun (by intro x hx; simp only [List.mem_cons, List.not_mem_nil, or_false] at hx; rcases hx with rfl; exact (Or.inl (by simp))) (by decide) (by decide) (k' := 1) (n' := 10) rfl rfl (by decide) (by decide) (fun vh2 h2 zh2 Kh2 qh2 => ?_)
  obtain ⟨rfl, ⟨d, k_d, sb_d, O_d, ⟨mc', F_m⟩, F_e, F_s, V_d, E_d⟩⟩ := qh2
  have ne_de_d : de ≠ d := Nat.ne_of_lt (Nat.lt_of_lt_of_le V_de.lt sb_d)
  have ne_b_d : b ≠ d := Nat.ne_of_lt (Nat.lt_of_lt_of_le E_b.lt sb_d)
  have ne_e_d : e ≠ d := Nat.ne_of_lt (Nat.lt_of_lt_of_le E_e.lt sb_d)
  replace V_de := V_de.keep Kh2 (ninS ne_de_b nin0)
  replace E_b := E_b.keep Kh2
  replace E_e := E_e.keep Kh2
  refine Wp.eqS (S' := []) rfl ?_
  have sz_d : h0.size ≤ d := Nat.le_trans zh2 sb_d
  refine Wp.iconst (x := (1 : Int32)) d14_23 (pc' := 24) rfl rfl ?_
  refine Wp.retN (x' := (1 : Int32)) (t := .boolean) rfl (by simp) rfl d14_24 (by decide) (by decide) ?_
  exact ⟨rfl, ⟨d, k_d, sz_d, O_d, ⟨_, F_m⟩, F_e, F_s, V_d, E_d⟩⟩
theorem ef_ctA3_1 (m : MethodId) (x0 : Addr) (x1 : Addr) (x2 : Addr) (x3 : Int32) : entryFrame m #[(.ref x0), (.ref x1), (.ref x2), (.int x3)] 4 = mkF m 0 #[.val (.ref x0), .val (.ref x1), .val (.ref x2), .val (.int x3)] [] := by first | (simp [entryFrame, mkF, argsToLocals, Value.category]; done) | rfl
set_option maxRecDepth 65536 in
set_option maxHeartbeats 40000000 in
theorem ctA3_1 (l : Launch) (Z : State) (a0 : Array Value) (hw : ∀ d ∈ tables_1, d.before a0 Z = true) (hE : EW Z a0 []) (b e d : Addr) (kd : ClassId) (mc : Int32) (e0 : Addr) (h0 : Heap) (hO : Ext Z.heap h0) (hb0 : Z.heap.size ≤ b) (hd0 : Z.heap.size ≤ d) (E_b : Exa Z h0 b "java/util/ArrayList") (E_d : Exa Z h0 d "[Ljava/lang/Object;") (O_d : Ovr Z kd "java/lang/Object") (V_d : Arv Z h0 d kd (.object "java/lang/Object") (10 : Int32) [(.ref e0), .null, .null, .null, .null, .null, .null, .null, .null, .null] .null) (F_m : Fld Z h0 b "java/util/AbstractList" "modCount" "I" (.int mc)) (F_e : Fld Z h0 b "java/util/ArrayList" "elementData" "[Ljava/lang/Object;" (.ref d)) (F_s : Fld Z h0 b "java/util/ArrayList" "size" "I" (.int 1)) (ne_b_d : b ≠ d) (E_e : Exa Z h0 e "java/lang/String") :
    Ct true l Z [] [] (⟨"java/util/ArrayList", "add", "(Ljava/lang/Object;[Ljava/lang/Object;I)V"⟩ : MethodName) jdk_38_method_24_code 4 none ({ frames := 0, cells := 0, slots := 0, locals := 0 } : Room) #[(.ref b), (.ref e), (.ref d), (.int (1 : Int32))] h0 [] [b, d] (fun v h => v = none ∧ ((∃ mc : Int32, Fld Z h b "java/util/AbstractList" "modCount" "I" (.int mc)) ∧ Fld Z h b "java/util/ArrayList" "elementData" "[Ljava/lang/Object;" (.ref d) ∧ Fld Z h b "java/util/ArrayList" "size" "I" (.int 2) ∧ Arv Z h d kd (.object "java/lang/Object") (10 : Int32) [(.ref e0), (.ref e), .null, .null, .null, .null, .null, .null, .null, .null] .null ∧ Exa Z h d "[Ljava/lang/Object;")) := by
  refine Ct.of_wp (a0 := a0) (Ls := #[.val (.ref b), .val (.ref e), .val (.ref d), .val (.int (1 : Int32))]) (plainFor_of_name pn_java_util_ArrayList) hE hO (by intro x hx; simp only [List.mem_cons, List.not_mem_nil, or_false] at hx; rcases hx with rfl | rfl <;> assumption) (fun m => ef_ctA3_1 m b e d (1 : Int32)) ?_
  refine Wp.iloadN d15_0 (pc' := 1) rfl rfl ?_
  refine Wp.aloadN d15_1 (pc' := 2) rfl rfl rfl ?_
  refine Wp.alen V_d d15_2 (pc' := 3) rfl ?_
  refine Wp.icmp_ne (pc1 := 11) (pc' := 6) d15_3 (by decide) (by decide) rfl (fun hc1 => ?_) (fun hc1 => by exact absurd hc1 (by decide))
  refine Wp.aloadN d15_11 (pc' := 12) rfl rfl rfl ?_
  refine Wp.iloadN d15_12 (pc' := 13) rfl rfl ?_
  refine Wp.aloadN d15_13 (pc' := 14) rfl rfl rfl ?_
  refine Wp.aastore V_d rfl (by decide) rfl (Or.inr ⟨_, _, rfl, O_d, Ins.of_exa E_e (hw _ (List.mem_of_getElem? (i := 98) rfl))⟩) (by decide) (by decide) (i := 1) rfl (Nat.le_of_ble_eq_true rfl) d15_14 (pc' := 15) rfl (Or.inl (by simp)) (fun h2 W2 Vh2 => ?_)
  replace E_b := E_b.wr W2
  replace F_m := F_m.other W2 (Or.inl ne_b_d)
  replace F_e := F_e.other W2 (Or.inl ne_b_d)
  replace F_s := F_s.other W2 (Or.inl ne_b_d)
  replace E_e := E_e.wr W2
  replace E_d := E_d.wr W2
  replace V_d : Arv Z h2 d kd (.object "java/lang/Object") (10 : Int32) [(.ref e0), (.ref e), .null, .null, .null, .null, .null, .null, .null, .null] .null := Vh2
  refine Wp.aloadN d15_15 (pc' := 16) rfl rfl rfl ?_
  refine Wp.iloadN d15_16 (pc' := 17) rfl rfl ?_
  refine Wp.iconst (x := (1 : Int32)) d15_17 (pc' := 18) rfl rfl ?_
  refine Wp.iadd d15_18 (pc' := 19) rfl ?_
  refine Wp.eqS (S' := [(.int (2 : Int32)), (.ref b)]) rfl ?_
  refine Wp.putF rfl (host := "") (Or.inl (hw _ (List.mem_of_getElem? (i := 75) rfl))) Via.refl F_s E_b (Or.inl (hw _ (List.mem_of_getElem? (i := 76) rfl))) (hw _ (List.mem_of_getElem? (i := 31) rfl)) (ty := .int) (by decide) rfl rfl d15_19 (pc' := 22) rfl (Or.inl (by simp)) (Sfe.exa E_b (by decide) (by decide)) (fun h3 W3 Fh3 => ?_)
  replace E_b := E_b.wr W3
  replace F_m := F_m.other W3 (Or.inr (slot_ne (Or.inl (hw _ (List.mem_of_getElem? (i := 50) rfl))) (Or.inl (hw _ (List.mem_of_getElem? (i := 76) rfl))) (by decide) (t := .int) (t' := .int) (by decide) (by decide)))
  replace F_e := F_e.other W3 (Or.inr (slot_ne (Or.inl (hw _ (List.mem_of_getElem? (i := 53) rfl))) (Or.inl (hw _ (List.mem_of_getElem? (i := 76) rfl))) (by decide) (t := (.array (.object "java/lang/Object"))) (t' := .int) (by decide) (by decide)))
  replace E_e := E_e.wr W3
  replace E_d := E_d.wr W3
  replace V_d := V_d.other W3 (Ne.symm ne_b_d)
  replace F_s := Fh3
  refine Wp.retn rfl d15_22 (by decide) (by decide) ?_
  exact ⟨rfl, ⟨⟨_, F_m⟩, F_e, F_s, V_d, E_d⟩⟩
theorem ef_ctA1_1 (m : MethodId) (x0 : Addr) (x1 : Addr) : entryFrame m #[(.ref x0), (.ref x1)] 2 = mkF m 0 #[.val (.ref x0), .val (.ref x1)] [] := by first | (simp [entryFrame, mkF, argsToLocals, Value.category]; done) | rfl
set_option maxRecDepth 65536 in
set_option maxHeartbeats 40000000 in
theorem ctA1_1 (l : Launch) (Z : State) (a0 : Array Value) (hw : ∀ d ∈ tables_1, d.before a0 Z = true) (hE : EW Z a0 []) (b e d : Addr) (kd : ClassId) (mc : Int32) (e0 : Addr) (h0 : Heap) (hO : Ext Z.heap h0) (hb0 : Z.heap.size ≤ b) (hd0 : Z.heap.size ≤ d) (E_b : Exa Z h0 b "java/util/ArrayList") (E_d : Exa Z h0 d "[Ljava/lang/Object;") (O_d : Ovr Z kd "java/lang/Object") (V_d : Arv Z h0 d kd (.object "java/lang/Object") (10 : Int32) [(.ref e0), .null, .null, .null, .null, .null, .null, .null, .null, .null] .null) (F_m : Fld Z h0 b "java/util/AbstractList" "modCount" "I" (.int mc)) (F_e : Fld Z h0 b "java/util/ArrayList" "elementData" "[Ljava/lang/Object;" (.ref d)) (F_s : Fld Z h0 b "java/util/ArrayList" "size" "I" (.int 1)) (ne_b_d : b ≠ d) (E_e : Exa Z h0 e "java/lang/String") :
    Ct true l Z [] [] (⟨"java/util/ArrayList", "add", "(Ljava/lang/Object;)Z"⟩ : MethodName) jdk_38_method_25_code 2 (some .boolean) ({ frames := 1, cells := 0, slots := 0, locals := 15 } : Room) #[(.ref b), (.ref e)] h0 [] [b, d] (fun v h => v = some (.int 1) ∧ ((∃ mc : Int32, Fld Z h b "java/util/AbstractList" "modCount" "I" (.int mc)) ∧ Fld Z h b "java/util/ArrayList" "elementData" "[Ljava/lang/Object;" (.ref d) ∧ Fld Z h b "java/util/ArrayList" "size" "I" (.int 2) ∧ Arv Z h d kd (.object "java/lang/Object") (10 : Int32) [(.ref e0), (.ref e), .null, .null, .null, .null, .null, .null, .null, .null] .null ∧ Exa Z h d "[Ljava/lang/Object;")) := by
  refine Ct.of_wp (a0 := a0) (Ls := #[.val (.ref b), .val (.ref e)]) (plainFor_of_name pn_java_util_ArrayList) hE hO (by intro x hx; simp only [List.mem_cons, List.not_mem_nil, or_false] at hx; rcases hx with rfl | rfl <;> assumption) (fun m => ef_ctA1_1 m b e) ?_
  refine Wp.aloadN d14_0 (pc' := 1) rfl rfl rfl ?_
  refine Wp.dup d14_1 (pc' := 2) rfl rfl ?_
  refine Wp.getF rfl (host := "") (Or.inl (hw _ (List.mem_of_getElem? (i := 73) rfl))) (Via.of (hw _ (List.mem_of_getElem? (i := 74) rfl))) F_m d14_2 (pc' := 5) rfl ?_
  refine Wp.iconst (x := (1 : Int32)) d14_5 (pc' := 6) rfl rfl ?_
  refine Wp.iadd d14_6 (pc' := 7) rfl ?_
  refine Wp.putF rfl (host := "") (Or.inl (hw _ (List.mem_of_getElem? (i := 73) rfl))) (Via.of (hw _ (List.mem_of_getElem? (i := 74) rfl))) F_m E_b (Or.inl (hw _ (List.mem_of_getElem? (i := 50) rfl))) (hw _ (List.mem_of_getElem? (i := 31) rfl)) (ty := .int) (by decide) rfl rfl d14_7 (pc' := 10) rfl (Or.inl (by simp)) (Sfe.exa E_b (by decide) (by decide)) (fun h1 W1 Fh1 => ?_)
  replace E_b := E_b.wr W1
  replace F_e := F_e.other W1 (Or.inr (slot_ne (Or.inl (hw _ (List.mem_of_getElem? (i := 53) rfl))) (Or.inl (hw _ (List.mem_of_getElem? (i := 50) rfl))) (by decide) (t := (.array (.object "java/lang/Object"))) (t' := .int) (by decide) (by decide)))
  replace F_s := F_s.other W1 (Or.inr (slot_ne (Or.inl (hw _ (List.mem_of_getElem? (i := 76) rfl))) (Or.inl (hw _ (List.mem_of_getElem? (i := 50) rfl))) (by decide) (t := .int) (t' := .int) (by decide) (by decide)))
  replace E_e := E_e.wr W1
  replace E_d := E_d.wr W1
  replace V_d := V_d.other W1 (Ne.symm ne_b_d)
  replace F_m := Fh1
  refine Wp.aloadN d14_10 (pc' := 11) rfl rfl rfl ?_
  refine Wp.aloadN d14_11 (pc' := 12) rfl rfl rfl ?_
  refine Wp.aloadN d14_12 (pc' := 13) rfl rfl rfl ?_
  refine Wp.getF rfl (host := "") (Or.inl (hw _ (List.mem_of_getElem? (i := 52) rfl))) Via.refl F_e d14_13 (pc' := 16) rfl ?_
  refine Wp.aloadN d14_16 (pc' := 17) rfl rfl rfl ?_
  refine Wp.getF rfl (host := "") (Or.inl (hw _ (List.mem_of_getElem? (i := 75) rfl))) Via.refl F_s d14_17 (pc' := 20) rfl ?_
  refine Wp.old fun hOc => ?_
  refine Wp.callP (a := b) (W := 0) (argsL := [(.ref e), (.ref d), (.int (1 : Int32))]) (rest := []) rfl (ctA3_1 l Z a0 hw hE b e d kd (mc + (1 : Int32)) e0 h1 hOc hb0 hd0 E_b E_d O_d V_d F_m F_e F_s ne_b_d E_e) (hw _ (List.mem_of_getElem? (i := 77) rfl)) (hw _ (List.mem_of_getElem? (i := 79) rfl)) (hw _ (List.mem_of_getElem? (i := 80) rfl)) (hw _ (List.mem_of_getElem? (i := 78) rfl)) (hw _ (List.mem_of_getElem? (i := 81) rfl)) (hw _ (List.mem_of_getElem? (i := 32) rfl)) E_b (by decide) (lenOf pd__Ljava_lang_Object__Ljava_lang_Object_I_V rfl) d14_20 rfl rfl rfl (Nat.le_of_eq rfl) (pc' := 23) rfl nofun (by intro x hx; simp only [List.mem_cons, List.not_mem_nil, or_false] at hx; rcases hx with rfl | rfl <;> first | exact (Or.inl (by simp)) | exact (Or.inl (by simp))) (by decide) (by decide) (k' := 0) (n' := 0) rfl rfl (by decide) (by decide) (fun vh2 h2 zh2 Kh2 qh2 => ?_)
  obtain ⟨rfl, ⟨⟨mc', F_m⟩, F_e, F_s, V_d, -⟩⟩ := qh2
  replace E_b := E_b.keep Kh2
  replace E_e := E_e.keep Kh2
  replace E_d := E_d.keep Kh2
  refine Wp.eqS (S' := []) rfl ?_
  refine Wp.iconst (x := (1 : Int32)) d14_23 (pc' := 24) rfl rfl ?_
  refine Wp.retN (x' := (1 : Int32)) (t := .boolean) rfl (by simp) rfl d14_24 (by decide) (by decide) ?_
  exact ⟨rfl, ⟨⟨_, F_m⟩, F_e, F_s, V_d, E_d⟩⟩
theorem ef_ctA3_2 (m : MethodId) (x0 : Addr) (x1 : Addr) (x2 : Addr) (x3 : Int32) : entryFrame m #[(.ref x0), (.ref x1), (.ref x2), (.int x3)] 4 = mkF m 0 #[.val (.ref x0), .val (.ref x1), .val (.ref x2), .val (.int x3)] [] := by first | (simp [entryFrame, mkF, argsToLocals, Value.category]; done) | rfl
set_option maxRecDepth 65536 in
set_option maxHeartbeats 40000000 in
theorem ctA3_2 (l : Launch) (Z : State) (a0 : Array Value) (hw : ∀ d ∈ tables_1, d.before a0 Z = true) (hE : EW Z a0 []) (b e d : Addr) (kd : ClassId) (mc : Int32) (e0 : Addr) (e1 : Addr) (h0 : Heap) (hO : Ext Z.heap h0) (hb0 : Z.heap.size ≤ b) (hd0 : Z.heap.size ≤ d) (E_b : Exa Z h0 b "java/util/ArrayList") (E_d : Exa Z h0 d "[Ljava/lang/Object;") (O_d : Ovr Z kd "java/lang/Object") (V_d : Arv Z h0 d kd (.object "java/lang/Object") (10 : Int32) [(.ref e0), (.ref e1), .null, .null, .null, .null, .null, .null, .null, .null] .null) (F_m : Fld Z h0 b "java/util/AbstractList" "modCount" "I" (.int mc)) (F_e : Fld Z h0 b "java/util/ArrayList" "elementData" "[Ljava/lang/Object;" (.ref d)) (F_s : Fld Z h0 b "java/util/ArrayList" "size" "I" (.int 2)) (ne_b_d : b ≠ d) (E_e : Exa Z h0 e "java/lang/String") :
    Ct true l Z [] [] (⟨"java/util/ArrayList", "add", "(Ljava/lang/Object;[Ljava/lang/Object;I)V"⟩ : MethodName) jdk_38_method_24_code 4 none ({ frames := 0, cells := 0, slots := 0, locals := 0 } : Room) #[(.ref b), (.ref e), (.ref d), (.int (2 : Int32))] h0 [] [b, d] (fun v h => v = none ∧ ((∃ mc : Int32, Fld Z h b "java/util/AbstractList" "modCount" "I" (.int mc)) ∧ Fld Z h b "java/util/ArrayList" "elementData" "[Ljava/lang/Object;" (.ref d) ∧ Fld Z h b "java/util/ArrayList" "size" "I" (.int 3) ∧ Arv Z h d kd (.object "java/lang/Object") (10 : Int32) [(.ref e0), (.ref e1), (.ref e), .null, .null, .null, .null, .null, .null, .null] .null ∧ Exa Z h d "[Ljava/lang/Object;")) := by
  refine Ct.of_wp (a0 := a0) (Ls := #[.val (.ref b), .val (.ref e), .val (.ref d), .val (.int (2 : Int32))]) (plainFor_of_name pn_java_util_ArrayList) hE hO (by intro x hx; simp only [List.mem_cons, List.not_mem_nil, or_false] at hx; rcases hx with rfl | rfl <;> assumption) (fun m => ef_ctA3_2 m b e d (2 : Int32)) ?_
  refine Wp.iloadN d15_0 (pc' := 1) rfl rfl ?_
  refine Wp.aloadN d15_1 (pc' := 2) rfl rfl rfl ?_
  refine Wp.alen V_d d15_2 (pc' := 3) rfl ?_
  refine Wp.icmp_ne (pc1 := 11) (pc' := 6) d15_3 (by decide) (by decide) rfl (fun hc1 => ?_) (fun hc1 => by exact absurd hc1 (by decide))
  refine Wp.aloadN d15_11 (pc' := 12) rfl rfl rfl ?_
  refine Wp.iloadN d15_12 (pc' := 13) rfl rfl ?_
  refine Wp.aloadN d15_13 (pc' := 14) rfl rfl rfl ?_
  refine Wp.aastore V_d rfl (by decide) rfl (Or.inr ⟨_, _, rfl, O_d, Ins.of_exa E_e (hw _ (List.mem_of_getElem? (i := 98) rfl))⟩) (by decide) (by decide) (i := 2) rfl (Nat.le_of_ble_eq_true rfl) d15_14 (pc' := 15) rfl (Or.inl (by simp)) (fun h2 W2 Vh2 => ?_)
  replace E_b := E_b.wr W2
  replace F_m := F_m.other W2 (Or.inl ne_b_d)
  replace F_e := F_e.other W2 (Or.inl ne_b_d)
  replace F_s := F_s.other W2 (Or.inl ne_b_d)
  replace E_e := E_e.wr W2
  replace E_d := E_d.wr W2
  replace V_d : Arv Z h2 d kd (.object "java/lang/Object") (10 : Int32) [(.ref e0), (.ref e1), (.ref e), .null, .null, .null, .null, .null, .null, .null] .null := Vh2
  refine Wp.aloadN d15_15 (pc' := 16) rfl rfl rfl ?_
  refine Wp.iloadN d15_16 (pc' := 17) rfl rfl ?_
  refine Wp.iconst (x := (1 : Int32)) d15_17 (pc' := 18) rfl rfl ?_
  refine Wp.iadd d15_18 (pc' := 19) rfl ?_
  refine Wp.eqS (S' := [(.int (3 : Int32)), (.ref b)]) rfl ?_
  refine Wp.putF rfl (host := "") (Or.inl (hw _ (List.mem_of_getElem? (i := 75) rfl))) Via.refl F_s E_b (Or.inl (hw _ (List.mem_of_getElem? (i := 76) rfl))) (hw _ (List.mem_of_getElem? (i := 31) rfl)) (ty := .int) (by decide) rfl rfl d15_19 (pc' := 22) rfl (Or.inl (by simp)) (Sfe.exa E_b (by decide) (by decide)) (fun h3 W3 Fh3 => ?_)
  replace E_b := E_b.wr W3
  replace F_m := F_m.other W3 (Or.inr (slot_ne (Or.inl (hw _ (List.mem_of_getElem? (i := 50) rfl))) (Or.inl (hw _ (List.mem_of_getElem? (i := 76) rfl))) (by decide) (t := .int) (t' := .int) (by decide) (by decide)))
  replace F_e := F_e.other W3 (Or.inr (slot_ne (Or.inl (hw _ (List.mem_of_getElem? (i := 53) rfl))) (Or.inl (hw _ (List.mem_of_getElem? (i := 76) rfl))) (by decide) (t := (.array (.object "java/lang/Object"))) (t' := .int) (by decide) (by decide)))
  replace E_e := E_e.wr W3
  replace E_d := E_d.wr W3
  replace V_d := V_d.other W3 (Ne.symm ne_b_d)
  replace F_s := Fh3
  refine Wp.retn rfl d15_22 (by decide) (by decide) ?_
  exact ⟨rfl, ⟨⟨_, F_m⟩, F_e, F_s, V_d, E_d⟩⟩
theorem ef_ctA1_2 (m : MethodId) (x0 : Addr) (x1 : Addr) : entryFrame m #[(.ref x0), (.ref x1)] 2 = mkF m 0 #[.val (.ref x0), .val (.ref x1)] [] := by first | (simp [entryFrame, mkF, argsToLocals, Value.category]; done) | rfl
set_option maxRecDepth 65536 in
set_option maxHeartbeats 40000000 in
theorem ctA1_2 (l : Launch) (Z : State) (a0 : Array Value) (hw : ∀ d ∈ tables_1, d.before a0 Z = true) (hE : EW Z a0 []) (b e d : Addr) (kd : ClassId) (mc : Int32) (e0 : Addr) (e1 : Addr) (h0 : Heap) (hO : Ext Z.heap h0) (hb0 : Z.heap.size ≤ b) (hd0 : Z.heap.size ≤ d) (E_b : Exa Z h0 b "java/util/ArrayList") (E_d : Exa Z h0 d "[Ljava/lang/Object;") (O_d : Ovr Z kd "java/lang/Object") (V_d : Arv Z h0 d kd (.object "java/lang/Object") (10 : Int32) [(.ref e0), (.ref e1), .null, .null, .null, .null, .null, .null, .null, .null] .null) (F_m : Fld Z h0 b "java/util/AbstractList" "modCount" "I" (.int mc)) (F_e : Fld Z h0 b "java/util/ArrayList" "elementData" "[Ljava/lang/Object;" (.ref d)) (F_s : Fld Z h0 b "java/util/ArrayList" "size" "I" (.int 2)) (ne_b_d : b ≠ d) (E_e : Exa Z h0 e "java/lang/String") :
    Ct true l Z [] [] (⟨"java/util/ArrayList", "add", "(Ljava/lang/Object;)Z"⟩ : MethodName) jdk_38_method_25_code 2 (some .boolean) ({ frames := 1, cells := 0, slots := 0, locals := 15 } : Room) #[(.ref b), (.ref e)] h0 [] [b, d] (fun v h => v = some (.int 1) ∧ ((∃ mc : Int32, Fld Z h b "java/util/AbstractList" "modCount" "I" (.int mc)) ∧ Fld Z h b "java/util/ArrayList" "elementData" "[Ljava/lang/Object;" (.ref d) ∧ Fld Z h b "java/util/ArrayList" "size" "I" (.int 3) ∧ Arv Z h d kd (.object "java/lang/Object") (10 : Int32) [(.ref e0), (.ref e1), (.ref e), .null, .null, .null, .null, .null, .null, .null] .null ∧ Exa Z h d "[Ljava/lang/Object;")) := by
  refine Ct.of_wp (a0 := a0) (Ls := #[.val (.ref b), .val (.ref e)]) (plainFor_of_name pn_java_util_ArrayList) hE hO (by intro x hx; simp only [List.mem_cons, List.not_mem_nil, or_false] at hx; rcases hx with rfl | rfl <;> assumption) (fun m => ef_ctA1_2 m b e) ?_
  refine Wp.aloadN d14_0 (pc' := 1) rfl rfl rfl ?_
  refine Wp.dup d14_1 (pc' := 2) rfl rfl ?_
  refine Wp.getF rfl (host := "") (Or.inl (hw _ (List.mem_of_getElem? (i := 73) rfl))) (Via.of (hw _ (List.mem_of_getElem? (i := 74) rfl))) F_m d14_2 (pc' := 5) rfl ?_
  refine Wp.iconst (x := (1 : Int32)) d14_5 (pc' := 6) rfl rfl ?_
  refine Wp.iadd d14_6 (pc' := 7) rfl ?_
  refine Wp.putF rfl (host := "") (Or.inl (hw _ (List.mem_of_getElem? (i := 73) rfl))) (Via.of (hw _ (List.mem_of_getElem? (i := 74) rfl))) F_m E_b (Or.inl (hw _ (List.mem_of_getElem? (i := 50) rfl))) (hw _ (List.mem_of_getElem? (i := 31) rfl)) (ty := .int) (by decide) rfl rfl d14_7 (pc' := 10) rfl (Or.inl (by simp)) (Sfe.exa E_b (by decide) (by decide)) (fun h1 W1 Fh1 => ?_)
  replace E_b := E_b.wr W1
  replace F_e := F_e.other W1 (Or.inr (slot_ne (Or.inl (hw _ (List.mem_of_getElem? (i := 53) rfl))) (Or.inl (hw _ (List.mem_of_getElem? (i := 50) rfl))) (by decide) (t := (.array (.object "java/lang/Object"))) (t' := .int) (by decide) (by decide)))
  replace F_s := F_s.other W1 (Or.inr (slot_ne (Or.inl (hw _ (List.mem_of_getElem? (i := 76) rfl))) (Or.inl (hw _ (List.mem_of_getElem? (i := 50) rfl))) (by decide) (t := .int) (t' := .int) (by decide) (by decide)))
  replace E_e := E_e.wr W1
  replace E_d := E_d.wr W1
  replace V_d := V_d.other W1 (Ne.symm ne_b_d)
  replace F_m := Fh1
  refine Wp.aloadN d14_10 (pc' := 11) rfl rfl rfl ?_
  refine Wp.aloadN d14_11 (pc' := 12) rfl rfl rfl ?_
  refine Wp.aloadN d14_12 (pc' := 13) rfl rfl rfl ?_
  refine Wp.getF rfl (host := "") (Or.inl (hw _ (List.mem_of_getElem? (i := 52) rfl))) Via.refl F_e d14_13 (pc' := 16) rfl ?_
  refine Wp.aloadN d14_16 (pc' := 17) rfl rfl rfl ?_
  refine Wp.getF rfl (host := "") (Or.inl (hw _ (List.mem_of_getElem? (i := 75) rfl))) Via.refl F_s d14_17 (pc' := 20) rfl ?_
  refine Wp.old fun hOc => ?_
  refine Wp.callP (a := b) (W := 0) (argsL := [(.ref e), (.ref d), (.int (2 : Int32))]) (rest := []) rfl (ctA3_2 l Z a0 hw hE b e d kd (mc + (1 : Int32)) e0 e1 h1 hOc hb0 hd0 E_b E_d O_d V_d F_m F_e F_s ne_b_d E_e) (hw _ (List.mem_of_getElem? (i := 77) rfl)) (hw _ (List.mem_of_getElem? (i := 79) rfl)) (hw _ (List.mem_of_getElem? (i := 80) rfl)) (hw _ (List.mem_of_getElem? (i := 78) rfl)) (hw _ (List.mem_of_getElem? (i := 81) rfl)) (hw _ (List.mem_of_getElem? (i := 32) rfl)) E_b (by decide) (lenOf pd__Ljava_lang_Object__Ljava_lang_Object_I_V rfl) d14_20 rfl rfl rfl (Nat.le_of_eq rfl) (pc' := 23) rfl nofun (by intro x hx; simp only [List.mem_cons, List.not_mem_nil, or_false] at hx; rcases hx with rfl | rfl <;> first | exact (Or.inl (by simp)) | exact (Or.inl (by simp))) (by decide) (by decide) (k' := 0) (n' := 0) rfl rfl (by decide) (by decide) (fun vh2 h2 zh2 Kh2 qh2 => ?_)
  obtain ⟨rfl, ⟨⟨mc', F_m⟩, F_e, F_s, V_d, -⟩⟩ := qh2
  replace E_b := E_b.keep Kh2
  replace E_e := E_e.keep Kh2
  replace E_d := E_d.keep Kh2
  refine Wp.eqS (S' := []) rfl ?_
  refine Wp.iconst (x := (1 : Int32)) d14_23 (pc' := 24) rfl rfl ?_
  refine Wp.retN (x' := (1 : Int32)) (t := .boolean) rfl (by simp) rfl d14_24 (by decide) (by decide) ?_
  exact ⟨rfl, ⟨⟨_, F_m⟩, F_e, F_s, V_d, E_d⟩⟩
theorem d20_0 : decode jdk_31_method_11_code 0 = .ok (.aload_n 0, 1) := by decide +kernel
theorem d20_1 : decode jdk_31_method_11_code 1 = .ok (.ifnonnull 12, 3) := by decide +kernel
theorem d20_4 : decode jdk_31_method_11_code 4 = .ok (.new 84, 3) := by decide +kernel
theorem d20_7 : decode jdk_31_method_11_code 7 = .ok (.dup, 1) := by decide +kernel
theorem d20_8 : decode jdk_31_method_11_code 8 = .ok (.aload_n 1, 1) := by decide +kernel
theorem d20_9 : decode jdk_31_method_11_code 9 = .ok (.invokespecial 87, 3) := by decide +kernel
theorem d20_12 : decode jdk_31_method_11_code 12 = .ok (.athrow, 1) := by decide +kernel
theorem d20_13 : decode jdk_31_method_11_code 13 = .ok (.aload_n 0, 1) := by decide +kernel
theorem d20_14 : decode jdk_31_method_11_code 14 = .ok (.areturn, 1) := by decide +kernel
theorem pn_java_util_Objects : plainName "java/util/Objects" = true := by first | (simp [plainName, overriddenIn]; done) | decide +kernel
theorem ef_ctRNN (m : MethodId) (x0 : Addr) (x1 : Addr) : entryFrame m #[(.ref x0), (.ref x1)] 2 = mkF m 0 #[.val (.ref x0), .val (.ref x1)] [] := by first | (simp [entryFrame, mkF, argsToLocals, Value.category]; done) | rfl
set_option maxRecDepth 65536 in
set_option maxHeartbeats 40000000 in
theorem ctRNN (l : Launch) (Z : State) (a0 : Array Value) (hw : ∀ d ∈ tables_1, d.before a0 Z = true) (hE : EW Z a0 []) (a c : Addr) (h0 : Heap) (hO : Ext Z.heap h0) :
    Ct true l Z [] [] (⟨"java/util/Objects", "requireNonNull", "(Ljava/lang/Object;Ljava/lang/String;)Ljava/lang/Object;"⟩ : MethodName) jdk_31_method_11_code 2 (some (.object "java/lang/Object")) ({ frames := 0, cells := 0, slots := 0, locals := 0 } : Room) #[(.ref a), (.ref c)] h0 [] [] (fun v h => v = some (.ref a)) := by
  refine Ct.of_wp (a0 := a0) (Ls := #[.val (.ref a), .val (.ref c)]) (plainFor_of_name pn_java_util_Objects) hE hO nofun (fun m => ef_ctRNN m a c) ?_
  refine Wp.aloadN d20_0 (pc' := 1) rfl rfl rfl ?_
  refine Wp.ifnonnullYes (pc' := 13) d20_1 (by decide) (by decide) ?_
  refine Wp.aloadN d20_13 (pc' := 14) rfl rfl rfl ?_
  refine Wp.retA rfl rfl rfl d20_14 (by decide) (by decide) ?_
  rfl
theorem d30_0 : decode jdk_31_method_10_code 0 = .ok (.aload_n 0, 1) := by decide +kernel
theorem d30_1 : decode jdk_31_method_10_code 1 = .ok (.ifnonnull 11, 3) := by decide +kernel
theorem d30_4 : decode jdk_31_method_10_code 4 = .ok (.new 84, 3) := by decide +kernel
theorem d30_7 : decode jdk_31_method_10_code 7 = .ok (.dup, 1) := by decide +kernel
theorem d30_8 : decode jdk_31_method_10_code 8 = .ok (.invokespecial 86, 3) := by decide +kernel
theorem d30_11 : decode jdk_31_method_10_code 11 = .ok (.athrow, 1) := by decide +kernel
theorem d30_12 : decode jdk_31_method_10_code 12 = .ok (.aload_n 0, 1) := by decide +kernel
theorem d30_13 : decode jdk_31_method_10_code 13 = .ok (.areturn, 1) := by decide +kernel
theorem ef_ctRN1 (m : MethodId) (x0 : Addr) : entryFrame m #[(.ref x0)] 1 = mkF m 0 #[.val (.ref x0)] [] := by first | (simp [entryFrame, mkF, argsToLocals, Value.category]; done) | rfl
set_option maxRecDepth 65536 in
set_option maxHeartbeats 40000000 in
theorem ctRN1 (l : Launch) (Z : State) (a0 : Array Value) (hw : ∀ d ∈ tables_1, d.before a0 Z = true) (hE : EW Z a0 []) (a : Addr) (h0 : Heap) (hO : Ext Z.heap h0) :
    Ct true l Z [] [] (⟨"java/util/Objects", "requireNonNull", "(Ljava/lang/Object;)Ljava/lang/Object;"⟩ : MethodName) jdk_31_method_10_code 1 (some (.object "java/lang/Object")) ({ frames := 0, cells := 0, slots := 0, locals := 0 } : Room) #[(.ref a)] h0 [] [] (fun v h => v = some (.ref a)) := by
  refine Ct.of_wp (a0 := a0) (Ls := #[.val (.ref a)]) (plainFor_of_name pn_java_util_Objects) hE hO nofun (fun m => ef_ctRN1 m a) ?_
  refine Wp.aloadN d30_0 (pc' := 1) rfl rfl rfl ?_
  refine Wp.ifnonnullYes (pc' := 12) d30_1 (by decide) (by decide) ?_
  refine Wp.aloadN d30_12 (pc' := 13) rfl rfl rfl ?_
  refine Wp.retA rfl rfl rfl d30_13 (by decide) (by decide) ?_
  rfl
theorem d23_0 : decode jdk_38_method_9_code 0 = .ok (.aload_n 0, 1) := by decide +kernel
theorem d23_1 : decode jdk_38_method_9_code 1 = .ok (.getfield 48, 3) := by decide +kernel
theorem d23_4 : decode jdk_38_method_9_code 4 = .ok (.ifCond .ne 7, 3) := by decide +kernel
theorem d23_7 : decode jdk_38_method_9_code 7 = .ok (.iconst 1, 1) := by decide +kernel
theorem d23_8 : decode jdk_38_method_9_code 8 = .ok (.goto 4, 3) := by decide +kernel
theorem d23_11 : decode jdk_38_method_9_code 11 = .ok (.iconst 0, 1) := by decide +kernel
theorem d23_12 : decode jdk_38_method_9_code 12 = .ok (.ireturn, 1) := by decide +kernel
theorem ef_ctIE (m : MethodId) (x0 : Addr) : entryFrame m #[(.ref x0)] 1 = mkF m 0 #[.val (.ref x0)] [] := by first | (simp [entryFrame, mkF, argsToLocals, Value.category]; done) | rfl
set_option maxRecDepth 65536 in
set_option maxHeartbeats 40000000 in
theorem ctIE (l : Launch) (Z : State) (a0 : Array Value) (hw : ∀ d ∈ tables_1, d.before a0 Z = true) (hE : EW Z a0 []) (b : Addr) (x : Int32) (h0 : Heap) (hO : Ext Z.heap h0) (F_s : Fld Z h0 b "java/util/ArrayList" "size" "I" (.int x)) :
    Ct true l Z [] [] (⟨"java/util/ArrayList", "isEmpty", "()Z"⟩ : MethodName) jdk_38_method_9_code 1 (some .boolean) ({ frames := 0, cells := 0, slots := 0, locals := 0 } : Room) #[(.ref b)] h0 [] [] (fun v h => v = some (.int (if x = 0 then 1 else 0))) := by
  refine Ct.of_wp (a0 := a0) (Ls := #[.val (.ref b)]) (plainFor_of_name pn_java_util_ArrayList) hE hO nofun (fun m => ef_ctIE m b) ?_
  refine Wp.aloadN d23_0 (pc' := 1) rfl rfl rfl ?_
  refine Wp.getF rfl (host := "") (Or.inl (hw _ (List.mem_of_getElem? (i := 75) rfl))) Via.refl F_s d23_1 (pc' := 4) rfl ?_
  refine Wp.if_ne (pc1 := 11) (pc' := 7) d23_4 (by decide) (by decide) rfl (fun hc1 => ?_) (fun hc1 => ?_)
  · have hc1 : ¬ (x = (0 : Int32)) := hc1
    refine Wp.iconst (x := (0 : Int32)) d23_11 (pc' := 12) rfl rfl ?_
    refine Wp.retN (x' := (0 : Int32)) (t := .boolean) rfl (by simp) rfl d23_12 (by decide) (by decide) ?_
    rw [if_neg hc1]
  · have hc1 : x = (0 : Int32) := hc1
    refine Wp.iconst (x := (1 : Int32)) d23_7 (pc' := 8) rfl rfl ?_
    refine Wp.goto (pc' := 12) d23_8 (by decide) (by decide) ?_
    refine Wp.retN (x' := (1 : Int32)) (t := .boolean) rfl (by simp) rfl d23_12 (by decide) (by decide) ?_
    rw [if_pos hc1]
theorem d33_0 : decode jdk_47_method_1_code 0 = .ok (.aload_n 0, 1) := by decide +kernel
theorem d33_1 : decode jdk_47_method_1_code 1 = .ok (.invokespecial 1, 3) := by decide +kernel
theorem d33_4 : decode jdk_47_method_1_code 4 = .ok (.return_, 1) := by decide +kernel
theorem pn_java_util_ImmutableCollections_AbstractImmutableCollection : plainName "java/util/ImmutableCollections$AbstractImmutableCollection" = true := by first | (simp [plainName, overriddenIn]; done) | decide +kernel
theorem ef_ctAIC (m : MethodId) (x0 : Addr) : entryFrame m #[(.ref x0)] 1 = mkF m 0 #[.val (.ref x0)] [] := by first | (simp [entryFrame, mkF, argsToLocals, Value.category]; done) | rfl
set_option maxRecDepth 65536 in
set_option maxHeartbeats 40000000 in
theorem ctAIC (l : Launch) (Z : State) (a0 : Array Value) (hw : ∀ d ∈ tables_1, d.before a0 Z = true) (hE : EW Z a0 []) (b : Addr) (h0 : Heap) (hO : Ext Z.heap h0) :
    Ct true l Z [] [] (⟨"java/util/ImmutableCollections$AbstractImmutableCollection", "<init>", "()V"⟩ : MethodName) jdk_47_method_1_code 1 none ({ frames := 2, cells := 0, slots := 0, locals := 24 } : Room) #[(.ref b)] h0 [] [] (fun v h => v = none) := by
  refine Ct.of_wp (a0 := a0) (Ls := #[.val (.ref b)]) (plainFor_of_name pn_java_util_ImmutableCollections_AbstractImmutableCollection) hE hO nofun (fun m => ef_ctAIC m b) ?_
  refine Wp.aloadN d33_0 (pc' := 1) rfl rfl rfl ?_
  refine Wp.old fun hOc => ?_
  refine Wp.callI (a := b) (W := 0) (argsL := []) (rest := []) rfl (ctAC l Z a0 hw hE b h0 hOc) rfl rfl (hw _ (List.mem_of_getElem? (i := 197) rfl)) (hw _ (List.mem_of_getElem? (i := 43) rfl)) (hw _ (List.mem_of_getElem? (i := 47) rfl)) (hw _ (List.mem_of_getElem? (i := 46) rfl)) (by decide) (lenOf pd___V rfl) d33_1 rfl rfl rfl (Nat.le_of_eq rfl) (pc' := 4) rfl nofun nofun (by decide) (by decide) (k' := 0) (n' := 0) rfl rfl (by decide) (by decide) (fun vh1 h1 zh1 Kh1 qh1 => ?_)
  obtain rfl := qh1
  refine Wp.eqS (S' := []) rfl ?_
  refine Wp.retn rfl d33_4 (by decide) (by decide) ?_
  rfl
theorem d32_0 : decode jdk_46_method_1_code 0 = .ok (.aload_n 0, 1) := by decide +kernel
theorem d32_1 : decode jdk_46_method_1_code 1 = .ok (.invokespecial 1, 3) := by decide +kernel
theorem d32_4 : decode jdk_46_method_1_code 4 = .ok (.return_, 1) := by decide +kernel
theorem pn_java_util_ImmutableCollections_AbstractImmutableList : plainName "java/util/ImmutableCollections$AbstractImmutableList" = true := by first | (simp [plainName, overriddenIn]; done) | decide +kernel
theorem ef_ctAIL (m : MethodId) (x0 : Addr) : entryFrame m #[(.ref x0)] 1 = mkF m 0 #[.val (.ref x0)] [] := by first | (simp [entryFrame, mkF, argsToLocals, Value.category]; done) | rfl
set_option maxRecDepth 65536 in
set_option maxHeartbeats 40000000 in
theorem ctAIL (l : Launch) (Z : State) (a0 : Array Value) (hw : ∀ d ∈ tables_1, d.before a0 Z = true) (hE : EW Z a0 []) (b : Addr) (h0 : Heap) (hO : Ext Z.heap h0) :
    Ct true l Z [] [] (⟨"java/util/ImmutableCollections$AbstractImmutableList", "<init>", "()V"⟩ : MethodName) jdk_46_method_1_code 1 none ({ frames := 3, cells := 0, slots := 0, locals := 36 } : Room) #[(.ref b)] h0 [] [] (fun v h => v = none) := by
  refine Ct.of_wp (a0 := a0) (Ls := #[.val (.ref b)]) (plainFor_of_name pn_java_util_ImmutableCollections_AbstractImmutableList) hE hO nofun (fun m => ef_ctAIL m b) ?_
  refine Wp.aloadN d32_0 (pc' := 1) rfl rfl rfl ?_
  refine Wp.old fun hOc => ?_
  refine Wp.callI (a := b) (W := 0) (argsL := []) (rest := []) rfl (ctAIC l Z a0 hw hE b h0 hOc) rfl rfl (hw _ (List.mem_of_getElem? (i := 191) rfl)) (hw _ (List.mem_of_getElem? (i := 192) rfl)) (hw _ (List.mem_of_getElem? (i := 196) rfl)) (hw _ (List.mem_of_getElem? (i := 195) rfl)) (by decide) (lenOf pd___V rfl) d32_1 rfl rfl rfl (Nat.le_of_eq rfl) (pc' := 4) rfl nofun nofun (by decide) (by decide) (k' := 0) (n' := 0) rfl rfl (by decide) (by decide) (fun vh1 h1 zh1 Kh1 qh1 => ?_)
  obtain rfl := qh1
  refine Wp.eqS (S' := []) rfl ?_
  refine Wp.retn rfl d32_4 (by decide) (by decide) ?_
  rfl
theorem d38_0 : decode jdk_44_method_1_code 0 = .ok (.aload_n 0, 1) := by decide +kernel
theorem d38_1 : decode jdk_44_method_1_code 1 = .ok (.invokespecial 1, 3) := by decide +kernel
theorem d38_4 : decode jdk_44_method_1_code 4 = .ok (.aload_n 0, 1) := by decide +kernel
theorem d38_5 : decode jdk_44_method_1_code 5 = .ok (.aload_n 1, 1) := by decide +kernel
theorem d38_6 : decode jdk_44_method_1_code 6 = .ok (.invokestatic 7, 3) := by decide +kernel
theorem d38_9 : decode jdk_44_method_1_code 9 = .ok (.putfield 13, 3) := by decide +kernel
theorem d38_12 : decode jdk_44_method_1_code 12 = .ok (.aload_n 0, 1) := by decide +kernel
theorem d38_13 : decode jdk_44_method_1_code 13 = .ok (.getstatic 19, 3) := by decide +kernel
theorem d38_16 : decode jdk_44_method_1_code 16 = .ok (.putfield 24, 3) := by decide +kernel
theorem d38_19 : decode jdk_44_method_1_code 19 = .ok (.return_, 1) := by decide +kernel
theorem pn_java_util_ImmutableCollections_List12 : plainName "java/util/ImmutableCollections$List12" = true := by first | (simp [plainName, overriddenIn]; done) | decide +kernel
theorem ef_ctL1 (m : MethodId) (x0 : Addr) (x1 : Addr) : entryFrame m #[(.ref x0), (.ref x1)] 2 = mkF m 0 #[.val (.ref x0), .val (.ref x1)] [] := by first | (simp [entryFrame, mkF, argsToLocals, Value.category]; done) | rfl
theorem pd__Ljava_lang_Object__Ljava_lang_Object_ : parseMethodDescriptor "(Ljava/lang/Object;)Ljava/lang/Object;" = some ⟨[(.object "java/lang/Object")], some (.object "java/lang/Object")⟩ := by decide +kernel
set_option maxRecDepth 65536 in
set_option maxHeartbeats 40000000 in
theorem ctL1 (l : Launch) (Z : State) (a0 : Array Value) (hw : ∀ d ∈ tables_1, d.before a0 Z = true) (hE : EW Z a0 []) (b em e : Addr) (h0 : Heap) (hO : Ext Z.heap h0) (hb0 : Z.heap.size ≤ b) (E_b : Exa Z h0 b "java/util/ImmutableCollections$List12") (hem : Sta Z Z.heap "java/util/ImmutableCollections" "EMPTY" "Ljava/lang/Object;" (.ref em)) (F0 : Fld Z h0 b "java/util/ImmutableCollections$List12" "e0" "Ljava/lang/Object;" .null) (F1 : Fld Z h0 b "java/util/ImmutableCollections$List12" "e1" "Ljava/lang/Object;" .null) :
    Ct true l Z [] [] (⟨"java/util/ImmutableCollections$List12", "<init>", "(Ljava/lang/Object;)V"⟩ : MethodName) jdk_44_method_1_code 2 none ({ frames := 4, cells := 0, slots := 0, locals := 48 } : Room) #[(.ref b), (.ref e)] h0 [] [b] (fun v h => v = none) := by
  refine Ct.of_wp (a0 := a0) (Ls := #[.val (.ref b), .val (.ref e)]) (plainFor_of_name pn_java_util_ImmutableCollections_List12) hE hO (by intro x hx; cases List.mem_singleton.mp hx; exact hb0) (fun m => ef_ctL1 m b e) ?_
  refine Wp.aloadN d38_0 (pc' := 1) rfl rfl rfl ?_
  refine Wp.old fun hOc => ?_
  refine Wp.callI (a := b) (W := 0) (argsL := []) (rest := []) rfl (ctAIL l Z a0 hw hE b h0 hOc) rfl rfl (hw _ (List.mem_of_getElem? (i := 240) rfl)) (hw _ (List.mem_of_getElem? (i := 186) rfl)) (hw _ (List.mem_of_getElem? (i := 190) rfl)) (hw _ (List.mem_of_getElem? (i := 189) rfl)) (by decide) (lenOf pd___V rfl) d38_1 rfl rfl rfl (Nat.le_of_eq rfl) (pc' := 4) rfl nofun nofun (by decide) (by decide) (k' := 0) (n' := 0) rfl rfl (by decide) (by decide) (fun vh1 h1 zh1 Kh1 qh1 => ?_)
  obtain rfl := qh1
  replace E_b := E_b.keep Kh1
  replace F0 := F0.keep Kh1 nin0
  replace F1 := F1.keep Kh1 nin0
  refine Wp.eqS (S' := []) rfl ?_
  refine Wp.aloadN d38_4 (pc' := 5) rfl rfl rfl ?_
  refine Wp.aloadN d38_5 (pc' := 6) rfl rfl rfl ?_
  refine Wp.old fun hOc => ?_
  refine Wp.callS (W := 1) (argsL := [(.ref e)]) (rest := [(.ref b)]) rfl (ctRN1 l Z a0 hw hE e h1 hOc) (hw _ (List.mem_of_getElem? (i := 244) rfl)) (hw _ (List.mem_of_getElem? (i := 177) rfl)) (hw _ (List.mem_of_getElem? (i := 178) rfl)) (hw _ (List.mem_of_getElem? (i := 111) rfl)) (by decide) (lenOf pd__Ljava_lang_Object__Ljava_lang_Object_ rfl) d38_6 rfl rfl rfl (Nat.le_of_eq rfl) (pc' := 9) rfl nofun nofun (by decide) (by decide) (k' := 0) (n' := 0) rfl rfl (by decide) (by decide) (fun vh2 h2 zh2 Kh2 qh2 => ?_)
  obtain rfl := qh2
  replace E_b := E_b.keep Kh2
  replace F0 := F0.keep Kh2 nin0
  replace F1 := F1.keep Kh2 nin0
  refine Wp.eqS (S' := [(.ref e), (.ref b)]) rfl ?_
  refine Wp.putF rfl (host := "") (Or.inl (hw _ (List.mem_of_getElem? (i := 245) rfl))) Via.refl F0 E_b (Or.inr ⟨(hw _ (List.mem_of_getElem? (i := 246) rfl)), rfl, rfl⟩) (hw _ (List.mem_of_getElem? (i := 234) rfl)) (ty := (.object "java/lang/Object")) (by decide) rfl rfl d38_9 (pc' := 12) rfl (Or.inl (by simp)) (Sfe.exa E_b (by decide) (by decide)) (fun h3 W3 Fh3 => ?_)
  replace E_b := E_b.wr W3
  replace F1 := F1.other W3 (Or.inr (slot_ne (Or.inr (hw _ (List.mem_of_getElem? (i := 248) rfl))) (Or.inr (hw _ (List.mem_of_getElem? (i := 246) rfl))) (by decide) (t := (.object "java/lang/Object")) (t' := (.object "java/lang/Object")) (by decide) (by decide)))
  replace F0 := Fh3
  refine Wp.aloadN d38_12 (pc' := 13) rfl rfl rfl ?_
  refine Wp.getS rfl (Or.inr (hw _ (List.mem_of_getElem? (i := 256) rfl))) Via.refl hem d38_13 (pc' := 16) rfl ?_
  refine Wp.putF rfl (host := "") (Or.inl (hw _ (List.mem_of_getElem? (i := 247) rfl))) Via.refl F1 E_b (Or.inr ⟨(hw _ (List.mem_of_getElem? (i := 248) rfl)), rfl, rfl⟩) (hw _ (List.mem_of_getElem? (i := 234) rfl)) (ty := (.object "java/lang/Object")) (by decide) rfl rfl d38_16 (pc' := 19) rfl (Or.inl (by simp)) (Sfe.exa E_b (by decide) (by decide)) (fun h4 W4 Fh4 => ?_)
  replace E_b := E_b.wr W4
  replace F0 := F0.other W4 (Or.inr (slot_ne (Or.inr (hw _ (List.mem_of_getElem? (i := 246) rfl))) (Or.inr (hw _ (List.mem_of_getElem? (i := 248) rfl))) (by decide) (t := (.object "java/lang/Object")) (t' := (.object "java/lang/Object")) (by decide) (by decide)))
  replace F1 := Fh4
  refine Wp.retn rfl d38_19 (by decide) (by decide) ?_
  rfl
theorem d36_0 : decode jdk_44_method_2_code 0 = .ok (.aload_n 0, 1) := by decide +kernel
theorem d36_1 : decode jdk_44_method_2_code 1 = .ok (.invokespecial 1, 3) := by decide +kernel
theorem d36_4 : decode jdk_44_method_2_code 4 = .ok (.aload_n 0, 1) := by decide +kernel
theorem d36_5 : decode jdk_44_method_2_code 5 = .ok (.aload_n 1, 1) := by decide +kernel
theorem d36_6 : decode jdk_44_method_2_code 6 = .ok (.invokestatic 7, 3) := by decide +kernel
theorem d36_9 : decode jdk_44_method_2_code 9 = .ok (.putfield 13, 3) := by decide +kernel
theorem d36_12 : decode jdk_44_method_2_code 12 = .ok (.aload_n 0, 1) := by decide +kernel
theorem d36_13 : decode jdk_44_method_2_code 13 = .ok (.aload_n 2, 1) := by decide +kernel
theorem d36_14 : decode jdk_44_method_2_code 14 = .ok (.invokestatic 7, 3) := by decide +kernel
theorem d36_17 : decode jdk_44_method_2_code 17 = .ok (.putfield 24, 3) := by decide +kernel
theorem d36_20 : decode jdk_44_method_2_code 20 = .ok (.return_, 1) := by decide +kernel
theorem ef_ctL2 (m : MethodId) (x0 : Addr) (x1 : Addr) (x2 : Addr) : entryFrame m #[(.ref x0), (.ref x1), (.ref x2)] 3 = mkF m 0 #[.val (.ref x0), .val (.ref x1), .val (.ref x2)] [] := by first | (simp [entryFrame, mkF, argsToLocals, Value.category]; done) | rfl
set_option maxRecDepth 65536 in
set_option maxHeartbeats 40000000 in
theorem ctL2 (l : Launch) (Z : State) (a0 : Array Value) (hw : ∀ d ∈ tables_1, d.before a0 Z = true) (hE : EW Z a0 []) (b em e f : Addr) (h0 : Heap) (hO : Ext Z.heap h0) (hb0 : Z.heap.size ≤ b) (E_b : Exa Z h0 b "java/util/ImmutableCollections$List12") (hem : Sta Z Z.heap "java/util/ImmutableCollections" "EMPTY" "Ljava/lang/Object;" (.ref em)) (F0 : Fld Z h0 b "java/util/ImmutableCollections$List12" "e0" "Ljava/lang/Object;" .null) (F1 : Fld Z h0 b "java/util/ImmutableCollections$List12" "e1" "Ljava/lang/Object;" .null) :
    Ct true l Z [] [] (⟨"java/util/ImmutableCollections$List12", "<init>", "(Ljava/lang/Object;Ljava/lang/Object;)V"⟩ : MethodName) jdk_44_method_2_code 3 none ({ frames := 4, cells := 0, slots := 0, locals := 48 } : Room) #[(.ref b), (.ref e), (.ref f)] h0 [] [b] (fun v h => v = none) := by
  refine Ct.of_wp (a0 := a0) (Ls := #[.val (.ref b), .val (.ref e), .val (.ref f)]) (plainFor_of_name pn_java_util_ImmutableCollections_List12) hE hO (by intro x hx; cases List.mem_singleton.mp hx; exact hb0) (fun m => ef_ctL2 m b e f) ?_
  refine Wp.aloadN d36_0 (pc' := 1) rfl rfl rfl ?_
  refine Wp.old fun hOc => ?_
  refine Wp.callI (a := b) (W := 0) (argsL := []) (rest := []) rfl (ctAIL l Z a0 hw hE b h0 hOc) rfl rfl (hw _ (List.mem_of_getElem? (i := 240) rfl)) (hw _ (List.mem_of_getElem? (i := 186) rfl)) (hw _ (List.mem_of_getElem? (i := 190) rfl)) (hw _ (List.mem_of_getElem? (i := 189) rfl)) (by decide) (lenOf pd___V rfl) d36_1 rfl rfl rfl (Nat.le_of_eq rfl) (pc' := 4) rfl nofun nofun (by decide) (by decide) (k' := 0) (n' := 0) rfl rfl (by decide) (by decide) (fun vh1 h1 zh1 Kh1 qh1 => ?_)
  obtain rfl := qh1
  replace E_b := E_b.keep Kh1
  replace F0 := F0.keep Kh1 nin0
  replace F1 := F1.keep Kh1 nin0
  refine Wp.eqS (S' := []) rfl ?_
  refine Wp.aloadN d36_4 (pc' := 5) rfl rfl rfl ?_
  refine Wp.aloadN d36_5 (pc' := 6) rfl rfl rfl ?_
  refine Wp.old fun hOc => ?_
  refine Wp.callS (W := 1) (argsL := [(.ref e)]) (rest := [(.ref b)]) rfl (ctRN1 l Z a0 hw hE e h1 hOc) (hw _ (List.mem_of_getElem? (i := 244) rfl)) (hw _ (List.mem_of_getElem? (i := 177) rfl)) (hw _ (List.mem_of_getElem? (i := 178) rfl)) (hw _ (List.mem_of_getElem? (i := 111) rfl)) (by decide) (lenOf pd__Ljava_lang_Object__Ljava_lang_Object_ rfl) d36_6 rfl rfl rfl (Nat.le_of_eq rfl) (pc' := 9) rfl nofun nofun (by decide) (by decide) (k' := 0) (n' := 0) rfl rfl (by decide) (by decide) (fun vh2 h2 zh2 Kh2 qh2 => ?_)
  obtain rfl := qh2
  replace E_b := E_b.keep Kh2
  replace F0 := F0.keep Kh2 nin0
  replace F1 := F1.keep Kh2 nin0
  refine Wp.eqS (S' := [(.ref e), (.ref b)]) rfl ?_
  refine Wp.putF rfl (host := "") (Or.inl (hw _ (List.mem_of_getElem? (i := 245) rfl))) Via.refl F0 E_b (Or.inr ⟨(hw _ (List.mem_of_getElem? (i := 246) rfl)), rfl, rfl⟩) (hw _ (List.mem_of_getElem? (i := 234) rfl)) (ty := (.object "java/lang/Object")) (by decide) rfl rfl d36_9 (pc' := 12) rfl (Or.inl (by simp)) (Sfe.exa E_b (by decide) (by decide)) (fun h3 W3 Fh3 => ?_)
  replace E_b := E_b.wr W3
  replace F1 := F1.other W3 (Or.inr (slot_ne (Or.inr (hw _ (List.mem_of_getElem? (i := 248) rfl))) (Or.inr (hw _ (List.mem_of_getElem? (i := 246) rfl))) (by decide) (t := (.object "java/lang/Object")) (t' := (.object "java/lang/Object")) (by decide) (by decide)))
  replace F0 := Fh3
  refine Wp.aloadN d36_12 (pc' := 13) rfl rfl rfl ?_
  refine Wp.aloadN d36_13 (pc' := 14) rfl rfl rfl ?_
  refine Wp.old fun hOc => ?_
  refine Wp.callS (W := 1) (argsL := [(.ref f)]) (rest := [(.ref b)]) rfl (ctRN1 l Z a0 hw hE f h3 hOc) (hw _ (List.mem_of_getElem? (i := 244) rfl)) (hw _ (List.mem_of_getElem? (i := 177) rfl)) (hw _ (List.mem_of_getElem? (i := 178) rfl)) (hw _ (List.mem_of_getElem? (i := 111) rfl)) (by decide) (lenOf pd__Ljava_lang_Object__Ljava_lang_Object_ rfl) d36_14 rfl rfl rfl (Nat.le_of_eq rfl) (pc' := 17) rfl nofun nofun (by decide) (by decide) (k' := 0) (n' := 0) rfl rfl (by decide) (by decide) (fun vh4 h4 zh4 Kh4 qh4 => ?_)
  obtain rfl := qh4
  replace E_b := E_b.keep Kh4
  replace F0 := F0.keep Kh4 nin0
  replace F1 := F1.keep Kh4 nin0
  refine Wp.eqS (S' := [(.ref f), (.ref b)]) rfl ?_
  refine Wp.putF rfl (host := "") (Or.inl (hw _ (List.mem_of_getElem? (i := 247) rfl))) Via.refl F1 E_b (Or.inr ⟨(hw _ (List.mem_of_getElem? (i := 248) rfl)), rfl, rfl⟩) (hw _ (List.mem_of_getElem? (i := 234) rfl)) (ty := (.object "java/lang/Object")) (by decide) rfl rfl d36_17 (pc' := 20) rfl (Or.inl (by simp)) (Sfe.exa E_b (by decide) (by decide)) (fun h5 W5 Fh5 => ?_)
  replace E_b := E_b.wr W5
  replace F0 := F0.other W5 (Or.inr (slot_ne (Or.inr (hw _ (List.mem_of_getElem? (i := 246) rfl))) (Or.inr (hw _ (List.mem_of_getElem? (i := 248) rfl))) (by decide) (t := (.object "java/lang/Object")) (t' := (.object "java/lang/Object")) (by decide) (by decide)))
  replace F1 := Fh5
  refine Wp.retn rfl d36_20 (by decide) (by decide) ?_
  rfl
theorem d31_0 : decode jdk_45_method_1_code 0 = .ok (.aload_n 0, 1) := by decide +kernel
theorem d31_1 : decode jdk_45_method_1_code 1 = .ok (.invokespecial 1, 3) := by decide +kernel
theorem d31_4 : decode jdk_45_method_1_code 4 = .ok (.aload_n 0, 1) := by decide +kernel
theorem d31_5 : decode jdk_45_method_1_code 5 = .ok (.aload_n 1, 1) := by decide +kernel
theorem d31_6 : decode jdk_45_method_1_code 6 = .ok (.putfield 7, 3) := by decide +kernel
theorem d31_9 : decode jdk_45_method_1_code 9 = .ok (.aload_n 0, 1) := by decide +kernel
theorem d31_10 : decode jdk_45_method_1_code 10 = .ok (.iload_n 2, 1) := by decide +kernel
theorem d31_11 : decode jdk_45_method_1_code 11 = .ok (.putfield 13, 3) := by decide +kernel
theorem d31_14 : decode jdk_45_method_1_code 14 = .ok (.return_, 1) := by decide +kernel
theorem pn_java_util_ImmutableCollections_ListN : plainName "java/util/ImmutableCollections$ListN" = true := by first | (simp [plainName, overriddenIn]; done) | decide +kernel
theorem ef_ctLN (m : MethodId) (x0 : Addr) (x1 : Addr) (x2 : Int32) : entryFrame m #[(.ref x0), (.ref x1), (.int x2)] 3 = mkF m 0 #[.val (.ref x0), .val (.ref x1), .val (.int x2)] [] := by first | (simp [entryFrame, mkF, argsToLocals, Value.category]; done) | rfl
set_option maxRecDepth 65536 in
set_option maxHeartbeats 40000000 in
theorem ctLN (l : Launch) (Z : State) (a0 : Array Value) (hw : ∀ d ∈ tables_1, d.before a0 Z = true) (hE : EW Z a0 []) (b em u : Addr) (h0 : Heap) (hO : Ext Z.heap h0) (hb0 : Z.heap.size ≤ b) (E_b : Exa Z h0 b "java/util/ImmutableCollections$ListN") (hem : Sta Z Z.heap "java/util/ImmutableCollections" "EMPTY" "Ljava/lang/Object;" (.ref em)) (F0 : Fld Z h0 b "java/util/ImmutableCollections$ListN" "elements" "[Ljava/lang/Object;" .null) (F1 : Fld Z h0 b "java/util/ImmutableCollections$ListN" "allowNulls" "Z" (.int (0 : Int32))) :
    Ct true l Z [] [] (⟨"java/util/ImmutableCollections$ListN", "<init>", "([Ljava/lang/Object;Z)V"⟩ : MethodName) jdk_45_method_1_code 3 none ({ frames := 4, cells := 0, slots := 0, locals := 48 } : Room) #[(.ref b), (.ref u), (.int (0 : Int32))] h0 [] [b] (fun v h => v = none) := by
  refine Ct.of_wp (a0 := a0) (Ls := #[.val (.ref b), .val (.ref u), .val (.int (0 : Int32))]) (plainFor_of_name pn_java_util_ImmutableCollections_ListN) hE hO (by intro x hx; cases List.mem_singleton.mp hx; exact hb0) (fun m => ef_ctLN m b u (0 : Int32)) ?_
  refine Wp.aloadN d31_0 (pc' := 1) rfl rfl rfl ?_
  refine Wp.old fun hOc => ?_
  refine Wp.callI (a := b) (W := 0) (argsL := []) (rest := []) rfl (ctAIL l Z a0 hw hE b h0 hOc) rfl rfl (hw _ (List.mem_of_getElem? (i := 185) rfl)) (hw _ (List.mem_of_getElem? (i := 186) rfl)) (hw _ (List.mem_of_getElem? (i := 190) rfl)) (hw _ (List.mem_of_getElem? (i := 189) rfl)) (by decide) (lenOf pd___V rfl) d31_1 rfl rfl rfl (Nat.le_of_eq rfl) (pc' := 4) rfl nofun nofun (by decide) (by decide) (k' := 0) (n' := 0) rfl rfl (by decide) (by decide) (fun vh1 h1 zh1 Kh1 qh1 => ?_)
  obtain rfl := qh1
  replace E_b := E_b.keep Kh1
  replace F0 := F0.keep Kh1 nin0
  replace F1 := F1.keep Kh1 nin0
  refine Wp.eqS (S' := []) rfl ?_
  refine Wp.aloadN d31_4 (pc' := 5) rfl rfl rfl ?_
  refine Wp.aloadN d31_5 (pc' := 6) rfl rfl rfl ?_
  refine Wp.putF rfl (host := "") (Or.inl (hw _ (List.mem_of_getElem? (i := 199) rfl))) Via.refl F0 E_b (Or.inr ⟨(hw _ (List.mem_of_getElem? (i := 200) rfl)), rfl, rfl⟩) (hw _ (List.mem_of_getElem? (i := 179) rfl)) (ty := (.array (.object "java/lang/Object"))) (by decide) rfl rfl d31_6 (pc' := 9) rfl (Or.inl (by simp)) (Sfe.exa E_b (by decide) (by decide)) (fun h2 W2 Fh2 => ?_)
  replace E_b := E_b.wr W2
  replace F1 := F1.other W2 (Or.inr (slot_ne (Or.inr (hw _ (List.mem_of_getElem? (i := 202) rfl))) (Or.inr (hw _ (List.mem_of_getElem? (i := 200) rfl))) (by decide) (t := .boolean) (t' := (.array (.object "java/lang/Object"))) (by decide) (by decide)))
  replace F0 := Fh2
  refine Wp.aloadN d31_9 (pc' := 10) rfl rfl rfl ?_
  refine Wp.iloadN d31_10 (pc' := 11) rfl rfl ?_
  refine Wp.putFN rfl (hw _ (List.mem_of_getElem? (i := 201) rfl)) Via.refl F1 E_b (Or.inr ⟨(hw _ (List.mem_of_getElem? (i := 202) rfl)), rfl, rfl⟩) (hw _ (List.mem_of_getElem? (i := 179) rfl)) (ty := .boolean) (v' := .int (0 : Int32)) (by decide) rfl rfl d31_11 (pc' := 14) rfl (Or.inl (by simp)) (Sfe.exa E_b (by decide) (by decide)) (fun h3 W3 Fh3 => ?_)
  replace E_b := E_b.wr W3
  replace F0 := F0.other W3 (Or.inr (slot_ne (Or.inr (hw _ (List.mem_of_getElem? (i := 200) rfl))) (Or.inr (hw _ (List.mem_of_getElem? (i := 202) rfl))) (by decide) (t := (.array (.object "java/lang/Object"))) (t' := .boolean) (by decide) (by decide)))
  replace F1 := Fh3
  refine Wp.retn rfl d31_14 (by decide) (by decide) ?_
  rfl
theorem d37_0 : decode jdk_40_method_36_code 0 = .ok (.getstatic 90, 3) := by decide +kernel
theorem d37_3 : decode jdk_40_method_36_code 3 = .ok (.areturn, 1) := by decide +kernel
theorem pn_java_util_List : plainName "java/util/List" = true := by first | (simp [plainName, overriddenIn]; done) | decide +kernel
theorem ef_ctOF0 (m : MethodId)  : entryFrame m #[] 0 = mkF m 0 #[] [] := by first | (simp [entryFrame, mkF, argsToLocals, Value.category]; done) | rfl
set_option maxRecDepth 65536 in
set_option maxHeartbeats 40000000 in
theorem ctOF0 (l : Launch) (Z : State) (a0 : Array Value) (hw : ∀ d ∈ tables_1, d.before a0 Z = true) (hE : EW Z a0 []) (el : Addr) (h0 : Heap) (hO : Ext Z.heap h0) (hel : Sta Z Z.heap "java/util/ImmutableCollections" "EMPTY_LIST" "Ljava/util/ImmutableCollections$ListN;" (.ref el)) :
    Ct true l Z [] [] (⟨"java/util/List", "of", "()Ljava/util/List;"⟩ : MethodName) jdk_40_method_36_code 0 (some (.object "java/util/List")) ({ frames := 0, cells := 0, slots := 0, locals := 0 } : Room) #[] h0 [] [] (fun v h => ∃ r : Addr, v = some (.ref r)) := by
  refine Ct.of_wp (a0 := a0) (Ls := #[]) (plainFor_of_name pn_java_util_List) hE hO nofun (fun m => ef_ctOF0 m ) ?_
  refine Wp.getS rfl (host := "") (Or.inl (hw _ (List.mem_of_getElem? (i := 252) rfl))) Via.refl hel d37_0 (pc' := 3) rfl ?_
  refine Wp.retA rfl rfl rfl d37_3 (by decide) (by decide) ?_
  exact ⟨_, rfl⟩

theorem d22_0 : decode jdk_56_method_3_code 0 = .ok (.aload_n 0, 1) := by decide +kernel
theorem d22_1 : decode jdk_56_method_3_code 1 = .ok (.instanceof 10, 3) := by decide +kernel
theorem d22_4 : decode jdk_56_method_3_code 4 = .ok (.ifCond .ne 22, 3) := by decide +kernel
theorem d22_7 : decode jdk_56_method_3_code 7 = .ok (.aload_n 0, 1) := by decide +kernel
theorem d22_8 : decode jdk_56_method_3_code 8 = .ok (.instanceof 12, 3) := by decide +kernel
theorem d22_11 : decode jdk_56_method_3_code 11 = .ok (.ifCond .eq 20, 3) := by decide +kernel
theorem d22_14 : decode jdk_56_method_3_code 14 = .ok (.aload_n 0, 1) := by decide +kernel
theorem d22_15 : decode jdk_56_method_3_code 15 = .ok (.checkcast 12, 3) := by decide +kernel
theorem d22_18 : decode jdk_56_method_3_code 18 = .ok (.astore_n 1, 1) := by decide +kernel
theorem d22_19 : decode jdk_56_method_3_code 19 = .ok (.aload_n 1, 1) := by decide +kernel
theorem d22_20 : decode jdk_56_method_3_code 20 = .ok (.getfield 14, 3) := by decide +kernel
theorem d22_23 : decode jdk_56_method_3_code 23 = .ok (.ifCond .ne 8, 3) := by decide +kernel
theorem d22_26 : decode jdk_56_method_3_code 26 = .ok (.aload_n 0, 1) := by decide +kernel
theorem d22_27 : decode jdk_56_method_3_code 27 = .ok (.checkcast 18, 3) := by decide +kernel
theorem d22_30 : decode jdk_56_method_3_code 30 = .ok (.areturn, 1) := by decide +kernel
theorem d22_31 : decode jdk_56_method_3_code 31 = .ok (.aload_n 0, 1) := by decide +kernel
theorem d22_32 : decode jdk_56_method_3_code 32 = .ok (.invokeinterface 20 1, 5) := by decide +kernel
theorem d22_37 : decode jdk_56_method_3_code 37 = .ok (.ifCond .eq 7, 3) := by decide +kernel
theorem d22_40 : decode jdk_56_method_3_code 40 = .ok (.invokestatic 26, 3) := by decide +kernel
theorem d22_43 : decode jdk_56_method_3_code 43 = .ok (.areturn, 1) := by decide +kernel
theorem d22_44 : decode jdk_56_method_3_code 44 = .ok (.aload_n 0, 1) := by decide +kernel
theorem d22_45 : decode jdk_56_method_3_code 45 = .ok (.invokeinterface 30 1, 5) := by decide +kernel
theorem d22_50 : decode jdk_56_method_3_code 50 = .ok (.invokestatic 34, 3) := by decide +kernel
theorem d22_53 : decode jdk_56_method_3_code 53 = .ok (.areturn, 1) := by decide +kernel
theorem pn_java_util_ImmutableCollections : plainName "java/util/ImmutableCollections" = true := by first | (simp [plainName, overriddenIn]; done) | decide +kernel
theorem ef_ctLC_0 (m : MethodId) (x0 : Addr) : entryFrame m #[(.ref x0)] 2 = mkF m 0 #[.val (.ref x0), .unset] [] := by first | (simp [entryFrame, mkF, argsToLocals, Value.category]; done) | rfl
theorem pd___Z : parseMethodDescriptor "()Z" = some ⟨[], some .boolean⟩ := by decide +kernel
theorem pd___Ljava_util_List_ : parseMethodDescriptor "()Ljava/util/List;" = some ⟨[], some (.object "java/util/List")⟩ := by decide +kernel
set_option maxRecDepth 65536 in
set_option maxHeartbeats 40000000 in
theorem ctLC_0 (l : Launch) (Z : State) (a0 : Array Value) (hw : ∀ d ∈ tables_1, d.before a0 Z = true) (hE : EW Z a0 []) (b el : Addr) (h0 : Heap) (hO : Ext Z.heap h0) (E_b : Exa Z h0 b "java/util/ArrayList") (F_s : Fld Z h0 b "java/util/ArrayList" "size" "I" (.int 0)) (hel : Sta Z Z.heap "java/util/ImmutableCollections" "EMPTY_LIST" "Ljava/util/ImmutableCollections$ListN;" (.ref el)) :
    Ct true l Z [] [] (⟨"java/util/ImmutableCollections", "listCopy", "(Ljava/util/Collection;)Ljava/util/List;"⟩ : MethodName) jdk_56_method_3_code 2 (some (.object "java/util/List")) ({ frames := 7, cells := 3, slots := 8, locals := 100 } : Room) #[(.ref b)] h0 [] [] (fun v h => ∃ r : Addr, v = some (.ref r)) := by
  refine Ct.of_wp (a0 := a0) (Ls := #[.val (.ref b), .unset]) (plainFor_of_name pn_java_util_ImmutableCollections) hE hO nofun (fun m => ef_ctLC_0 m b) ?_
  refine Wp.aloadN d22_0 (pc' := 1) rfl rfl rfl ?_
  refine Wp.instNo rfl (hw _ (List.mem_of_getElem? (i := 124) rfl)) E_b (ns_fin (hw _ (List.mem_of_getElem? (i := 125) rfl)) (NS.step (hw _ (List.mem_of_getElem? (i := 125) rfl)) (NS.step (hw _ (List.mem_of_getElem? (i := 126) rfl)) (NS.step (hw _ (List.mem_of_getElem? (i := 127) rfl)) (ns_root (hw _ (List.mem_of_getElem? (i := 128) rfl)) (hw _ (List.mem_of_getElem? (i := 234) rfl)) (by decide)) (by decide)) (by decide)) (by decide)) (hw _ (List.mem_of_getElem? (i := 234) rfl)) (by decide)) d22_1 (pc' := 4) rfl ?_
  refine Wp.if_ne (pc1 := 26) (pc' := 7) d22_4 (by decide) (by decide) rfl (fun hc1 => by exact absurd hc1 (by decide)) (fun hc1 => ?_)
  refine Wp.aloadN d22_7 (pc' := 8) rfl rfl rfl ?_
  refine Wp.instNo rfl (hw _ (List.mem_of_getElem? (i := 129) rfl)) E_b (ns_fin (hw _ (List.mem_of_getElem? (i := 125) rfl)) (NS.step (hw _ (List.mem_of_getElem? (i := 125) rfl)) (NS.step (hw _ (List.mem_of_getElem? (i := 126) rfl)) (NS.step (hw _ (List.mem_of_getElem? (i := 127) rfl)) (ns_root (hw _ (List.mem_of_getElem? (i := 128) rfl)) (hw _ (List.mem_of_getElem? (i := 179) rfl)) (by decide)) (by decide)) (by decide)) (by decide)) (hw _ (List.mem_of_getElem? (i := 179) rfl)) (by decide)) d22_8 (pc' := 11) rfl ?_
  refine Wp.if_eq (pc1 := 31) (pc' := 14) d22_11 (by decide) (by decide) rfl (fun hc2 => ?_) (fun hc2 => by exact absurd hc2 (by decide))
  refine Wp.aloadN d22_31 (pc' := 32) rfl rfl rfl ?_
  refine Wp.old fun hOc => ?_
  refine Wp.callF (a := b) (x' := (⟨"java/util/Collection", "isEmpty", "()Z"⟩ : MethodName)) (W := 0) (argsL := []) (rest := []) rfl (ctIE l Z a0 hw hE b (0 : Int32) h0 hOc F_s) (hw _ (List.mem_of_getElem? (i := 130) rfl)) (hw _ (List.mem_of_getElem? (i := 131) rfl)) (hw _ (List.mem_of_getElem? (i := 132) rfl)) (hw _ (List.mem_of_getElem? (i := 133) rfl)) (hw _ (List.mem_of_getElem? (i := 134) rfl)) (hw _ (List.mem_of_getElem? (i := 135) rfl)) rfl (hw _ (List.mem_of_getElem? (i := 136) rfl)) (hw _ (List.mem_of_getElem? (i := 137) rfl)) (hw _ (List.mem_of_getElem? (i := 138) rfl)) (hw _ (List.mem_of_getElem? (i := 32) rfl)) E_b (by decide) (lenOf pd___Z rfl) d22_32 rfl rfl rfl (Nat.le_of_eq rfl) (pc' := 37) rfl nofun nofun (by decide) (by decide) (k' := 0) (n' := 0) rfl rfl (by decide) (by decide) (fun vh3 h3 zh3 Kh3 qh3 => ?_)
  obtain rfl : vh3 = some (.int 1) := qh3.trans (by rw [if_pos (by decide)])
  replace E_b := E_b.keep Kh3
  replace F_s := F_s.keep Kh3 nin0
  refine Wp.eqS (S' := [(.int (1 : Int32))]) rfl ?_
  refine Wp.if_eq (pc1 := 44) (pc' := 40) d22_37 (by decide) (by decide) rfl (fun hc4 => by exact absurd hc4 (by decide)) (fun hc4 => ?_)
  refine Wp.old fun hOc => ?_
  refine Wp.callS (W := 0) (argsL := []) (rest := []) rfl (ctOF0 l Z a0 hw hE el h3 hOc hel) (hw _ (List.mem_of_getElem? (i := 249) rfl)) (hw _ (List.mem_of_getElem? (i := 250) rfl)) (hw _ (List.mem_of_getElem? (i := 251) rfl)) (hw _ (List.mem_of_getElem? (i := 118) rfl)) (by decide) (lenOf pd___Ljava_util_List_ rfl) d22_40 rfl rfl rfl (Nat.le_of_eq rfl) (pc' := 43) rfl nofun nofun (by decide) (by decide) (k' := 0) (n' := 0) rfl rfl (by decide) (by decide) (fun vh5 h5 zh5 Kh5 qh5 => ?_)
  obtain ⟨r, rfl⟩ := qh5
  replace E_b := E_b.keep Kh5
  replace F_s := F_s.keep Kh5 nin0
  refine Wp.eqS (S' := [(.ref r)]) rfl ?_
  refine Wp.retA rfl rfl rfl d22_43 (by decide) (by decide) ?_
  exact ⟨_, rfl⟩
theorem d21_0 : decode jdk_40_method_48_code 0 = .ok (.aload_n 0, 1) := by decide +kernel
theorem d21_1 : decode jdk_40_method_48_code 1 = .ok (.invokestatic 112, 3) := by decide +kernel
theorem d21_4 : decode jdk_40_method_48_code 4 = .ok (.areturn, 1) := by decide +kernel
theorem ef_ctCO_0 (m : MethodId) (x0 : Addr) : entryFrame m #[(.ref x0)] 1 = mkF m 0 #[.val (.ref x0)] [] := by first | (simp [entryFrame, mkF, argsToLocals, Value.category]; done) | rfl
theorem pd__Ljava_util_Collection__Ljava_util_List_ : parseMethodDescriptor "(Ljava/util/Collection;)Ljava/util/List;" = some ⟨[(.object "java/util/Collection")], some (.object "java/util/List")⟩ := by decide +kernel
set_option maxRecDepth 65536 in
set_option maxHeartbeats 40000000 in
theorem ctCO_0 (l : Launch) (Z : State) (a0 : Array Value) (hw : ∀ d ∈ tables_1, d.before a0 Z = true) (hE : EW Z a0 []) (b el : Addr) (h0 : Heap) (hO : Ext Z.heap h0) (E_b : Exa Z h0 b "java/util/ArrayList") (F_s : Fld Z h0 b "java/util/ArrayList" "size" "I" (.int 0)) (hel : Sta Z Z.heap "java/util/ImmutableCollections" "EMPTY_LIST" "Ljava/util/ImmutableCollections$ListN;" (.ref el)) :
    Ct true l Z [] [] (⟨"java/util/List", "copyOf", "(Ljava/util/Collection;)Ljava/util/List;"⟩ : MethodName) jdk_40_method_48_code 1 (some (.object "java/util/List")) ({ frames := 8, cells := 3, slots := 8, locals := 113 } : Room) #[(.ref b)] h0 [] [] (fun v h => ∃ r : Addr, v = some (.ref r)) := by
  refine Ct.of_wp (a0 := a0) (Ls := #[.val (.ref b)]) (plainFor_of_name pn_java_util_List) hE hO nofun (fun m => ef_ctCO_0 m b) ?_
  refine Wp.aloadN d21_0 (pc' := 1) rfl rfl rfl ?_
  refine Wp.old fun hOc => ?_
  refine Wp.callS (W := 0) (argsL := [(.ref b)]) (rest := []) rfl (ctLC_0 l Z a0 hw hE b el h0 hOc E_b F_s hel) (hw _ (List.mem_of_getElem? (i := 120) rfl)) (hw _ (List.mem_of_getElem? (i := 121) rfl)) (hw _ (List.mem_of_getElem? (i := 123) rfl)) (hw _ (List.mem_of_getElem? (i := 122) rfl)) (by decide) (lenOf pd__Ljava_util_Collection__Ljava_util_List_ rfl) d21_1 rfl rfl rfl (Nat.le_of_eq rfl) (pc' := 4) rfl nofun nofun (by decide) (by decide) (k' := 3) (n' := 8) rfl rfl (by decide) (by decide) (fun vh1 h1 zh1 Kh1 qh1 => ?_)
  obtain ⟨r, rfl⟩ := qh1
  replace E_b := E_b.keep Kh1
  replace F_s := F_s.keep Kh1 nin0
  refine Wp.eqS (S' := [(.ref r)]) rfl ?_
  refine Wp.retA rfl rfl rfl d21_4 (by decide) (by decide) ?_
  exact ⟨_, rfl⟩
theorem d19_0 : decode prog_54_method_1_code 0 = .ok (.aload_n 0, 1) := by decide +kernel
theorem d19_1 : decode prog_54_method_1_code 1 = .ok (.invokespecial 1, 3) := by decide +kernel
theorem d19_4 : decode prog_54_method_1_code 4 = .ok (.aload_n 0, 1) := by decide +kernel
theorem d19_5 : decode prog_54_method_1_code 5 = .ok (.aload_n 1, 1) := by decide +kernel
theorem d19_6 : decode prog_54_method_1_code 6 = .ok (.ldc 7, 2) := by decide +kernel
theorem d19_8 : decode prog_54_method_1_code 8 = .ok (.invokestatic 9, 3) := by decide +kernel
theorem d19_11 : decode prog_54_method_1_code 11 = .ok (.checkcast 15, 3) := by decide +kernel
theorem d19_14 : decode prog_54_method_1_code 14 = .ok (.putfield 17, 3) := by decide +kernel
theorem d19_17 : decode prog_54_method_1_code 17 = .ok (.aload_n 0, 1) := by decide +kernel
theorem d19_18 : decode prog_54_method_1_code 18 = .ok (.aload_n 2, 1) := by decide +kernel
theorem d19_19 : decode prog_54_method_1_code 19 = .ok (.invokestatic 22, 3) := by decide +kernel
theorem d19_22 : decode prog_54_method_1_code 22 = .ok (.putfield 28, 3) := by decide +kernel
theorem d19_25 : decode prog_54_method_1_code 25 = .ok (.aload_n 0, 1) := by decide +kernel
theorem d19_26 : decode prog_54_method_1_code 26 = .ok (.aload_n 3, 1) := by decide +kernel
theorem d19_27 : decode prog_54_method_1_code 27 = .ok (.putfield 32, 3) := by decide +kernel
theorem d19_30 : decode prog_54_method_1_code 30 = .ok (.return_, 1) := by decide +kernel
theorem pn_com_example_rootward_rootward_policy_Binding : plainName "com/example/rootward/rootward/policy/Binding" = true := by first | (simp [plainName, overriddenIn]; done) | decide +kernel
theorem ef_ctBI_0n (m : MethodId) (x0 : Addr) (x1 : Addr) (x2 : Addr) : entryFrame m #[(.ref x0), (.ref x1), (.ref x2), .null] 4 = mkF m 0 #[.val (.ref x0), .val (.ref x1), .val (.ref x2), .val .null] [] := by first | (simp [entryFrame, mkF, argsToLocals, Value.category]; done) | rfl
theorem pd__Ljava_lang_Object_Ljava_lang_String__Ljava_lang_Object_ : parseMethodDescriptor "(Ljava/lang/Object;Ljava/lang/String;)Ljava/lang/Object;" = some ⟨[(.object "java/lang/Object"), (.object "java/lang/String")], some (.object "java/lang/Object")⟩ := by decide +kernel
set_option maxRecDepth 65536 in
set_option maxHeartbeats 40000000 in
theorem ctBI_0n (l : Launch) (Z : State) (a0 : Array Value) (hw : ∀ d ∈ tables_1, d.before a0 Z = true) (hE : EW Z a0 []) (o s : Addr) (b el : Addr) (h0 : Heap) (hO : Ext Z.heap h0) (ho0 : Z.heap.size ≤ o) (E_o : Exa Z h0 o "com/example/rootward/rootward/policy/Binding") (E_s : Exa Z h0 s "java/lang/String") (G0 : Fld Z h0 o "com/example/rootward/rootward/policy/Binding" "role" "Ljava/lang/String;" .null) (G1 : Fld Z h0 o "com/example/rootward/rootward/policy/Binding" "members" "Ljava/util/List;" .null) (G2 : Fld Z h0 o "com/example/rootward/rootward/policy/Binding" "condition" "Lcom/example/rootward/rootward/policy/Condition;" .null) (ne_b_o : b ≠ o) (E_b : Exa Z h0 b "java/util/ArrayList") (F_s : Fld Z h0 b "java/util/ArrayList" "size" "I" (.int 0)) (hel : Sta Z Z.heap "java/util/ImmutableCollections" "EMPTY_LIST" "Ljava/util/ImmutableCollections$ListN;" (.ref el)) :
    Ct true l Z [] [] (⟨"com/example/rootward/rootward/policy/Binding", "<init>", "(Ljava/lang/String;Ljava/util/Collection;Lcom/example/rootward/rootward/policy/Condition;)V"⟩ : MethodName) prog_54_method_1_code 4 none ({ frames := 9, cells := 5, slots := 28, locals := 126 } : Room) #[(.ref o), (.ref s), (.ref b), .null] h0 [] [o] (fun v h => v = none ∧ Fld Z h o "com/example/rootward/rootward/policy/Binding" "condition" "Lcom/example/rootward/rootward/policy/Condition;" .null) := by
  refine Ct.of_wp (a0 := a0) (Ls := #[.val (.ref o), .val (.ref s), .val (.ref b), .val .null]) (plainFor_of_name pn_com_example_rootward_rootward_policy_Binding) hE hO (by intro x hx; cases List.mem_singleton.mp hx; exact ho0) (fun m => ef_ctBI_0n m o s b) ?_
  refine Wp.aloadN d19_0 (pc' := 1) rfl rfl rfl ?_
  refine Wp.initO (W := 0) rfl (hw _ (List.mem_of_getElem? (i := 105) rfl)) (hw _ (List.mem_of_getElem? (i := 12) rfl)) (hw _ (List.mem_of_getElem? (i := 13) rfl)) d19_1 (pc' := 4) rfl rfl (by decide) (Nat.le_of_eq rfl) (by decide) ?_
  refine Wp.aloadN d19_4 (pc' := 5) rfl rfl rfl ?_
  refine Wp.aloadN d19_5 (pc' := 6) rfl rfl rfl ?_
  refine Wp.ldcO (nn := 16) rfl rfl (hw _ (List.mem_of_getElem? (i := 106) rfl)) (own_wS hw) d19_6 (pc' := 8) rfl (by decide) (by decide) (k' := 2) (n' := 20) rfl rfl (by decide) (by decide) (fun h1 c1 Xh1 => ?_)
  replace E_b := E_b.ext Xh1
  replace F_s := F_s.ext Xh1
  replace E_o := E_o.ext Xh1
  replace E_s := E_s.ext Xh1
  replace G0 := G0.ext Xh1
  replace G1 := G1.ext Xh1
  replace G2 := G2.ext Xh1
  refine Wp.old fun hOc => ?_
  refine Wp.callS (W := 1) (argsL := [(.ref s), (.ref c1)]) (rest := [(.ref o)]) rfl (ctRNN l Z a0 hw hE s c1 h1 hOc) (hw _ (List.mem_of_getElem? (i := 109) rfl)) (hw _ (List.mem_of_getElem? (i := 110) rfl)) (hw _ (List.mem_of_getElem? (i := 112) rfl)) (hw _ (List.mem_of_getElem? (i := 111) rfl)) (by decide) (lenOf pd__Ljava_lang_Object_Ljava_lang_String__Ljava_lang_Object_ rfl) d19_8 rfl rfl rfl (Nat.le_of_eq rfl) (pc' := 11) rfl nofun nofun (by decide) (by decide) (k' := 2) (n' := 20) rfl rfl (by decide) (by decide) (fun vh2 h2 zh2 Kh2 qh2 => ?_)
  obtain rfl := qh2
  replace E_b := E_b.keep Kh2
  replace F_s := F_s.keep Kh2 nin0
  replace E_o := E_o.keep Kh2
  replace E_s := E_s.keep Kh2
  replace G0 := G0.keep Kh2 nin0
  replace G1 := G1.keep Kh2 nin0
  replace G2 := G2.keep Kh2 nin0
  refine Wp.eqS (S' := [(.ref s), (.ref o)]) rfl ?_
  refine Wp.castY rfl (hw _ (List.mem_of_getElem? (i := 113) rfl)) (Ins.self E_s) d19_11 (pc' := 14) rfl ?_
  refine Wp.putF rfl (host := "") (Or.inl (hw _ (List.mem_of_getElem? (i := 114) rfl))) Via.refl G0 E_o (Or.inr ⟨(hw _ (List.mem_of_getElem? (i := 115) rfl)), rfl, rfl⟩) (hw _ (List.mem_of_getElem? (i := 100) rfl)) (ty := (.object "java/lang/String")) (by decide) rfl rfl d19_14 (pc' := 17) rfl (Or.inl (by simp)) (Sfe.exa E_o (by decide) (by decide)) (fun h3 W3 Fh3 => ?_)
  replace E_b := E_b.wr W3
  replace F_s := F_s.other W3 (Or.inl ne_b_o)
  replace E_o := E_o.wr W3
  replace E_s := E_s.wr W3
  replace G1 := G1.other W3 (Or.inr (slot_ne (Or.inr (hw _ (List.mem_of_getElem? (i := 204) rfl))) (Or.inr (hw _ (List.mem_of_getElem? (i := 115) rfl))) (by decide) (t := (.object "java/util/List")) (t' := (.object "java/lang/String")) (by decide) (by decide)))
  replace G2 := G2.other W3 (Or.inr (slot_ne (Or.inr (hw _ (List.mem_of_getElem? (i := 206) rfl))) (Or.inr (hw _ (List.mem_of_getElem? (i := 115) rfl))) (by decide) (t := (.object "com/example/rootward/rootward/policy/Condition")) (t' := (.object "java/lang/String")) (by decide) (by decide)))
  replace G0 := Fh3
  refine Wp.aloadN d19_17 (pc' := 18) rfl rfl rfl ?_
  refine Wp.aloadN d19_18 (pc' := 19) rfl rfl rfl ?_
  refine Wp.old fun hOc => ?_
  refine Wp.callS (W := 1) (argsL := [(.ref b)]) (rest := [(.ref o)]) rfl (ctCO_0 l Z a0 hw hE b el h3 hOc E_b F_s hel) (hw _ (List.mem_of_getElem? (i := 116) rfl)) (hw _ (List.mem_of_getElem? (i := 117) rfl)) (hw _ (List.mem_of_getElem? (i := 119) rfl)) (hw _ (List.mem_of_getElem? (i := 118) rfl)) (by decide) (lenOf pd__Ljava_util_Collection__Ljava_util_List_ rfl) d19_19 rfl rfl rfl (Nat.le_of_eq rfl) (pc' := 22) rfl nofun nofun (by decide) (by decide) (k' := 5) (n' := 28) rfl rfl (by decide) (by decide) (fun vh4 h4 zh4 Kh4 qh4 => ?_)
  obtain ⟨r, rfl⟩ := qh4
  replace E_b := E_b.keep Kh4
  replace F_s := F_s.keep Kh4 nin0
  replace E_o := E_o.keep Kh4
  replace E_s := E_s.keep Kh4
  replace G0 := G0.keep Kh4 nin0
  replace G1 := G1.keep Kh4 nin0
  replace G2 := G2.keep Kh4 nin0
  refine Wp.eqS (S' := [(.ref r), (.ref o)]) rfl ?_
  refine Wp.putF rfl (host := "") (Or.inl (hw _ (List.mem_of_getElem? (i := 203) rfl))) Via.refl G1 E_o (Or.inr ⟨(hw _ (List.mem_of_getElem? (i := 204) rfl)), rfl, rfl⟩) (hw _ (List.mem_of_getElem? (i := 100) rfl)) (ty := (.object "java/util/List")) (by decide) rfl rfl d19_22 (pc' := 25) rfl (Or.inl (by simp)) (Sfe.exa E_o (by decide) (by decide)) (fun h5 W5 Fh5 => ?_)
  replace E_b := E_b.wr W5
  replace F_s := F_s.other W5 (Or.inl ne_b_o)
  replace E_o := E_o.wr W5
  replace E_s := E_s.wr W5
  replace G0 := G0.other W5 (Or.inr (slot_ne (Or.inr (hw _ (List.mem_of_getElem? (i := 115) rfl))) (Or.inr (hw _ (List.mem_of_getElem? (i := 204) rfl))) (by decide) (t := (.object "java/lang/String")) (t' := (.object "java/util/List")) (by decide) (by decide)))
  replace G2 := G2.other W5 (Or.inr (slot_ne (Or.inr (hw _ (List.mem_of_getElem? (i := 206) rfl))) (Or.inr (hw _ (List.mem_of_getElem? (i := 204) rfl))) (by decide) (t := (.object "com/example/rootward/rootward/policy/Condition")) (t' := (.object "java/util/List")) (by decide) (by decide)))
  replace G1 := Fh5
  refine Wp.aloadN d19_25 (pc' := 26) rfl rfl rfl ?_
  refine Wp.aloadN d19_26 (pc' := 27) rfl rfl rfl ?_
  refine Wp.putF rfl (host := "") (Or.inl (hw _ (List.mem_of_getElem? (i := 205) rfl))) Via.refl G2 E_o (Or.inr ⟨(hw _ (List.mem_of_getElem? (i := 206) rfl)), rfl, rfl⟩) (hw _ (List.mem_of_getElem? (i := 100) rfl)) (ty := (.object "com/example/rootward/rootward/policy/Condition")) (by decide) rfl rfl d19_27 (pc' := 30) rfl (Or.inl (by simp)) (Sfe.exa E_o (by decide) (by decide)) (fun h6 W6 Fh6 => ?_)
  replace E_b := E_b.wr W6
  replace F_s := F_s.other W6 (Or.inl ne_b_o)
  replace E_o := E_o.wr W6
  replace E_s := E_s.wr W6
  replace G0 := G0.other W6 (Or.inr (slot_ne (Or.inr (hw _ (List.mem_of_getElem? (i := 115) rfl))) (Or.inr (hw _ (List.mem_of_getElem? (i := 206) rfl))) (by decide) (t := (.object "java/lang/String")) (t' := (.object "com/example/rootward/rootward/policy/Condition")) (by decide) (by decide)))
  replace G1 := G1.other W6 (Or.inr (slot_ne (Or.inr (hw _ (List.mem_of_getElem? (i := 204) rfl))) (Or.inr (hw _ (List.mem_of_getElem? (i := 206) rfl))) (by decide) (t := (.object "java/util/List")) (t' := (.object "com/example/rootward/rootward/policy/Condition")) (by decide) (by decide)))
  replace G2 := Fh6
  refine Wp.retn rfl d19_30 (by decide) (by decide) ?_
  exact ⟨rfl, G2⟩
theorem ef_ctBI_0r (m : MethodId) (x0 : Addr) (x1 : Addr) (x2 : Addr) (x3 : Addr) : entryFrame m #[(.ref x0), (.ref x1), (.ref x2), (.ref x3)] 4 = mkF m 0 #[.val (.ref x0), .val (.ref x1), .val (.ref x2), .val (.ref x3)] [] := by first | (simp [entryFrame, mkF, argsToLocals, Value.category]; done) | rfl
set_option maxRecDepth 65536 in
set_option maxHeartbeats 40000000 in
theorem ctBI_0r (l : Launch) (Z : State) (a0 : Array Value) (hw : ∀ d ∈ tables_1, d.before a0 Z = true) (hE : EW Z a0 []) (o s : Addr) (cc : Addr) (b el : Addr) (h0 : Heap) (hO : Ext Z.heap h0) (ho0 : Z.heap.size ≤ o) (E_o : Exa Z h0 o "com/example/rootward/rootward/policy/Binding") (E_s : Exa Z h0 s "java/lang/String") (G0 : Fld Z h0 o "com/example/rootward/rootward/policy/Binding" "role" "Ljava/lang/String;" .null) (G1 : Fld Z h0 o "com/example/rootward/rootward/policy/Binding" "members" "Ljava/util/List;" .null) (G2 : Fld Z h0 o "com/example/rootward/rootward/policy/Binding" "condition" "Lcom/example/rootward/rootward/policy/Condition;" .null) (ne_b_o : b ≠ o) (E_b : Exa Z h0 b "java/util/ArrayList") (F_s : Fld Z h0 b "java/util/ArrayList" "size" "I" (.int 0)) (hel : Sta Z Z.heap "java/util/ImmutableCollections" "EMPTY_LIST" "Ljava/util/ImmutableCollections$ListN;" (.ref el)) :
    Ct true l Z [] [] (⟨"com/example/rootward/rootward/policy/Binding", "<init>", "(Ljava/lang/String;Ljava/util/Collection;Lcom/example/rootward/rootward/policy/Condition;)V"⟩ : MethodName) prog_54_method_1_code 4 none ({ frames := 9, cells := 5, slots := 28, locals := 126 } : Room) #[(.ref o), (.ref s), (.ref b), (.ref cc)] h0 [] [o] (fun v h => v = none ∧ Fld Z h o "com/example/rootward/rootward/policy/Binding" "condition" "Lcom/example/rootward/rootward/policy/Condition;" (.ref cc)) := by
  refine Ct.of_wp (a0 := a0) (Ls := #[.val (.ref o), .val (.ref s), .val (.ref b), .val (.ref cc)]) (plainFor_of_name pn_com_example_rootward_rootward_policy_Binding) hE hO (by intro x hx; cases List.mem_singleton.mp hx; exact ho0) (fun m => ef_ctBI_0r m o s b cc) ?_
  refine Wp.aloadN d19_0 (pc' := 1) rfl rfl rfl ?_
  refine Wp.initO (W := 0) rfl (hw _ (List.mem_of_getElem? (i := 105) rfl)) (hw _ (List.mem_of_getElem? (i := 12) rfl)) (hw _ (List.mem_of_getElem? (i := 13) rfl)) d19_1 (pc' := 4) rfl rfl (by decide) (Nat.le_of_eq rfl) (by decide) ?_
  refine Wp.aloadN d19_4 (pc' := 5) rfl rfl rfl ?_
  refine Wp.aloadN d19_5 (pc' := 6) rfl rfl rfl ?_
  refine Wp.ldcO (nn := 16) rfl rfl (hw _ (List.mem_of_getElem? (i := 106) rfl)) (own_wS hw) d19_6 (pc' := 8) rfl (by decide) (by decide) (k' := 2) (n' := 20) rfl rfl (by decide) (by decide) (fun h1 c1 Xh1 => ?_)
  replace E_b := E_b.ext Xh1
  replace F_s := F_s.ext Xh1
  replace E_o := E_o.ext Xh1
  replace E_s := E_s.ext Xh1
  replace G0 := G0.ext Xh1
  replace G1 := G1.ext Xh1
  replace G2 := G2.ext Xh1
  refine Wp.old fun hOc => ?_
  refine Wp.callS (W := 1) (argsL := [(.ref s), (.ref c1)]) (rest := [(.ref o)]) rfl (ctRNN l Z a0 hw hE s c1 h1 hOc) (hw _ (List.mem_of_getElem? (i := 109) rfl)) (hw _ (List.mem_of_getElem? (i := 110) rfl)) (hw _ (List.mem_of_getElem? (i := 112) rfl)) (hw _ (List.mem_of_getElem? (i := 111) rfl)) (by decide) (lenOf pd__Ljava_lang_Object_Ljava_lang_String__Ljava_lang_Object_ rfl) d19_8 rfl rfl rfl (Nat.le_of_eq rfl) (pc' := 11) rfl nofun nofun (by decide) (by decide) (k' := 2) (n' := 20) rfl rfl (by decide) (by decide) (fun vh2 h2 zh2 Kh2 qh2 => ?_)
  obtain rfl := qh2
  replace E_b := E_b.keep Kh2
  replace F_s := F_s.keep Kh2 nin0
  replace E_o := E_o.keep Kh2
  replace E_s := E_s.keep Kh2
  replace G0 := G0.keep Kh2 nin0
  replace G1 := G1.keep Kh2 nin0
  replace G2 := G2.keep Kh2 nin0
  refine Wp.eqS (S' := [(.ref s), (.ref o)]) rfl ?_
  refine Wp.castY rfl (hw _ (List.mem_of_getElem? (i := 113) rfl)) (Ins.self E_s) d19_11 (pc' := 14) rfl ?_
  refine Wp.putF rfl (host := "") (Or.inl (hw _ (List.mem_of_getElem? (i := 114) rfl))) Via.refl G0 E_o (Or.inr ⟨(hw _ (List.mem_of_getElem? (i := 115) rfl)), rfl, rfl⟩) (hw _ (List.mem_of_getElem? (i := 100) rfl)) (ty := (.object "java/lang/String")) (by decide) rfl rfl d19_14 (pc' := 17) rfl (Or.inl (by simp)) (Sfe.exa E_o (by decide) (by decide)) (fun h3 W3 Fh3 => ?_)
  replace E_b := E_b.wr W3
  replace F_s := F_s.other W3 (Or.inl ne_b_o)
  replace E_o := E_o.wr W3
  replace E_s := E_s.wr W3
  replace G1 := G1.other W3 (Or.inr (slot_ne (Or.inr (hw _ (List.mem_of_getElem? (i := 204) rfl))) (Or.inr (hw _ (List.mem_of_getElem? (i := 115) rfl))) (by decide) (t := (.object "java/util/List")) (t' := (.object "java/lang/String")) (by decide) (by decide)))
  replace G2 := G2.other W3 (Or.inr (slot_ne (Or.inr (hw _ (List.mem_of_getElem? (i := 206) rfl))) (Or.inr (hw _ (List.mem_of_getElem? (i := 115) rfl))) (by decide) (t := (.object "com/example/rootward/rootward/policy/Condition")) (t' := (.object "java/lang/String")) (by decide) (by decide)))
  replace G0 := Fh3
  refine Wp.aloadN d19_17 (pc' := 18) rfl rfl rfl ?_
  refine Wp.aloadN d19_18 (pc' := 19) rfl rfl rfl ?_
  refine Wp.old fun hOc => ?_
  refine Wp.callS (W := 1) (argsL := [(.ref b)]) (rest := [(.ref o)]) rfl (ctCO_0 l Z a0 hw hE b el h3 hOc E_b F_s hel) (hw _ (List.mem_of_getElem? (i := 116) rfl)) (hw _ (List.mem_of_getElem? (i := 117) rfl)) (hw _ (List.mem_of_getElem? (i := 119) rfl)) (hw _ (List.mem_of_getElem? (i := 118) rfl)) (by decide) (lenOf pd__Ljava_util_Collection__Ljava_util_List_ rfl) d19_19 rfl rfl rfl (Nat.le_of_eq rfl) (pc' := 22) rfl nofun nofun (by decide) (by decide) (k' := 5) (n' := 28) rfl rfl (by decide) (by decide) (fun vh4 h4 zh4 Kh4 qh4 => ?_)
  obtain ⟨r, rfl⟩ := qh4
  replace E_b := E_b.keep Kh4
  replace F_s := F_s.keep Kh4 nin0
  replace E_o := E_o.keep Kh4
  replace E_s := E_s.keep Kh4
  replace G0 := G0.keep Kh4 nin0
  replace G1 := G1.keep Kh4 nin0
  replace G2 := G2.keep Kh4 nin0
  refine Wp.eqS (S' := [(.ref r), (.ref o)]) rfl ?_
  refine Wp.putF rfl (host := "") (Or.inl (hw _ (List.mem_of_getElem? (i := 203) rfl))) Via.refl G1 E_o (Or.inr ⟨(hw _ (List.mem_of_getElem? (i := 204) rfl)), rfl, rfl⟩) (hw _ (List.mem_of_getElem? (i := 100) rfl)) (ty := (.object "java/util/List")) (by decide) rfl rfl d19_22 (pc' := 25) rfl (Or.inl (by simp)) (Sfe.exa E_o (by decide) (by decide)) (fun h5 W5 Fh5 => ?_)
  replace E_b := E_b.wr W5
  replace F_s := F_s.other W5 (Or.inl ne_b_o)
  replace E_o := E_o.wr W5
  replace E_s := E_s.wr W5
  replace G0 := G0.other W5 (Or.inr (slot_ne (Or.inr (hw _ (List.mem_of_getElem? (i := 115) rfl))) (Or.inr (hw _ (List.mem_of_getElem? (i := 204) rfl))) (by decide) (t := (.object "java/lang/String")) (t' := (.object "java/util/List")) (by decide) (by decide)))
  replace G2 := G2.other W5 (Or.inr (slot_ne (Or.inr (hw _ (List.mem_of_getElem? (i := 206) rfl))) (Or.inr (hw _ (List.mem_of_getElem? (i := 204) rfl))) (by decide) (t := (.object "com/example/rootward/rootward/policy/Condition")) (t' := (.object "java/util/List")) (by decide) (by decide)))
  replace G1 := Fh5
  refine Wp.aloadN d19_25 (pc' := 26) rfl rfl rfl ?_
  refine Wp.aloadN d19_26 (pc' := 27) rfl rfl rfl ?_
  refine Wp.putF rfl (host := "") (Or.inl (hw _ (List.mem_of_getElem? (i := 205) rfl))) Via.refl G2 E_o (Or.inr ⟨(hw _ (List.mem_of_getElem? (i := 206) rfl)), rfl, rfl⟩) (hw _ (List.mem_of_getElem? (i := 100) rfl)) (ty := (.object "com/example/rootward/rootward/policy/Condition")) (by decide) rfl rfl d19_27 (pc' := 30) rfl (Or.inl (by simp)) (Sfe.exa E_o (by decide) (by decide)) (fun h6 W6 Fh6 => ?_)
  replace E_b := E_b.wr W6
  replace F_s := F_s.other W6 (Or.inl ne_b_o)
  replace E_o := E_o.wr W6
  replace E_s := E_s.wr W6
  replace G0 := G0.other W6 (Or.inr (slot_ne (Or.inr (hw _ (List.mem_of_getElem? (i := 115) rfl))) (Or.inr (hw _ (List.mem_of_getElem? (i := 206) rfl))) (by decide) (t := (.object "java/lang/String")) (t' := (.object "com/example/rootward/rootward/policy/Condition")) (by decide) (by decide)))
  replace G1 := G1.other W6 (Or.inr (slot_ne (Or.inr (hw _ (List.mem_of_getElem? (i := 204) rfl))) (Or.inr (hw _ (List.mem_of_getElem? (i := 206) rfl))) (by decide) (t := (.object "java/util/List")) (t' := (.object "com/example/rootward/rootward/policy/Condition")) (by decide) (by decide)))
  replace G2 := Fh6
  refine Wp.retn rfl d19_30 (by decide) (by decide) ?_
  exact ⟨rfl, G2⟩
theorem d26_0 : decode jdk_65_method_120_code 0 = .ok (.aload_n 2, 1) := by decide +kernel
theorem d26_1 : decode jdk_65_method_120_code 1 = .ok (.ldc 110, 2) := by decide +kernel
theorem d26_3 : decode jdk_65_method_120_code 3 = .ok (.if_acmp .ne 10, 3) := by decide +kernel
theorem d26_6 : decode jdk_65_method_120_code 6 = .ok (.iload_n 1, 1) := by decide +kernel
theorem d26_7 : decode jdk_65_method_120_code 7 = .ok (.anewarray 2, 3) := by decide +kernel
theorem d26_10 : decode jdk_65_method_120_code 10 = .ok (.goto 14, 3) := by decide +kernel
theorem d26_13 : decode jdk_65_method_120_code 13 = .ok (.aload_n 2, 1) := by decide +kernel
theorem d26_14 : decode jdk_65_method_120_code 14 = .ok (.invokevirtual 90, 3) := by decide +kernel
theorem d26_17 : decode jdk_65_method_120_code 17 = .ok (.iload_n 1, 1) := by decide +kernel
theorem d26_18 : decode jdk_65_method_120_code 18 = .ok (.invokestatic 95, 3) := by decide +kernel
theorem d26_21 : decode jdk_65_method_120_code 21 = .ok (.checkcast 110, 3) := by decide +kernel
theorem d26_24 : decode jdk_65_method_120_code 24 = .ok (.astore_n 3, 1) := by decide +kernel
theorem d26_25 : decode jdk_65_method_120_code 25 = .ok (.aload_n 0, 1) := by decide +kernel
theorem d26_26 : decode jdk_65_method_120_code 26 = .ok (.iconst 0, 1) := by decide +kernel
theorem d26_27 : decode jdk_65_method_120_code 27 = .ok (.aload_n 3, 1) := by decide +kernel
theorem d26_28 : decode jdk_65_method_120_code 28 = .ok (.iconst 0, 1) := by decide +kernel
theorem d26_29 : decode jdk_65_method_120_code 29 = .ok (.aload_n 0, 1) := by decide +kernel
theorem d26_30 : decode jdk_65_method_120_code 30 = .ok (.arraylength, 1) := by decide +kernel
theorem d26_31 : decode jdk_65_method_120_code 31 = .ok (.iload_n 1, 1) := by decide +kernel
theorem d26_32 : decode jdk_65_method_120_code 32 = .ok (.invokestatic 304, 3) := by decide +kernel
theorem d26_35 : decode jdk_65_method_120_code 35 = .ok (.invokestatic 150, 3) := by decide +kernel
theorem d26_38 : decode jdk_65_method_120_code 38 = .ok (.aload_n 3, 1) := by decide +kernel
theorem d26_39 : decode jdk_65_method_120_code 39 = .ok (.areturn, 1) := by decide +kernel
theorem pn_java_util_Arrays : plainName "java/util/Arrays" = true := by first | (simp [plainName, overriddenIn]; done) | decide +kernel
theorem ef_ctC3_1 (m : MethodId) (x0 : Addr) (x1 : Int32) (x2 : Addr) : entryFrame m #[(.ref x0), (.int x1), (.ref x2)] 4 = mkF m 0 #[.val (.ref x0), .val (.int x1), .val (.ref x2), .unset] [] := by first | (simp [entryFrame, mkF, argsToLocals, Value.category]; done) | rfl
set_option maxRecDepth 65536 in
set_option maxHeartbeats 40000000 in
theorem ctC3_1 (l : Launch) (Z : State) (a0 : Array Value) (hw : ∀ d ∈ tables_1, d.before a0 Z = true) (hE : EW Z a0 []) (d mr : Addr) (kd : ClassId) (e0 : Addr) (h0 : Heap) (hO : Ext Z.heap h0) (hM : Mir Z "[Ljava/lang/Object;" mr) (V_d : Arv Z h0 d kd (.object "java/lang/Object") (10 : Int32) [(.ref e0), .null, .null, .null, .null, .null, .null, .null, .null, .null] .null) (E_e0 : Exa Z h0 e0 "java/lang/String") :
    Ct true l Z [] [] (⟨"java/util/Arrays", "copyOf", "([Ljava/lang/Object;ILjava/lang/Class;)[Ljava/lang/Object;"⟩ : MethodName) jdk_65_method_120_code 4 (some (.array (.object "java/lang/Object"))) ({ frames := 1, cells := 1, slots := 1, locals := 60 } : Room) #[(.ref d), (.int (1 : Int32)), (.ref mr)] h0 [] [] (fun v h => ∃ u ku, v = some (.ref u) ∧ h0.size ≤ u ∧ Arv Z h u ku (.object "java/lang/Object") (1 : Int32) [(.ref e0)] .null) := by
  refine Ct.of_wp (a0 := a0) (Ls := #[.val (.ref d), .val (.int (1 : Int32)), .val (.ref mr), .unset]) (plainFor_of_name pn_java_util_Arrays) hE hO nofun (fun m => ef_ctC3_1 m d (1 : Int32) mr) ?_
  refine Wp.aloadN d26_0 (pc' := 1) rfl rfl rfl ?_
  refine Wp.ldcK rfl (hw _ (List.mem_of_getElem? (i := 160) rfl)) hM d26_1 (pc' := 3) rfl ?_
  refine Wp.acmp_ne (pc1 := 13) (pc' := 6) rfl rfl d26_3 (by decide) (by decide) rfl (fun hc1 => by exact absurd rfl hc1) (fun hc1 => ?_)
  refine Wp.iloadN d26_6 (pc' := 7) rfl rfl ?_
  refine Wp.newRE (cap := 1) rfl (hw _ (List.mem_of_getElem? (i := 161) rfl)) (hw _ (List.mem_of_getElem? (i := 97) rfl)) (ad := "[Ljava/lang/Object;") (by decide) (by decide) (by decide) (by decide) d26_7 (pc' := 10) rfl (k' := 1) (n' := 1) rfl rfl (by decide) (by decide) (fun h2 b2 k_b2 g_b2 sz_b2 Xh2 V_b2 O_b2 E_b2 => ?_)
  have ne_d_b2 : d ≠ b2 := Nat.ne_of_lt (Nat.lt_of_lt_of_eq V_d.lt g_b2.symm)
  have ne_e0_b2 : e0 ≠ b2 := Nat.ne_of_lt (Nat.lt_of_lt_of_eq E_e0.lt g_b2.symm)
  replace V_d := V_d.ext Xh2
  replace E_e0 := E_e0.ext Xh2
  replace V_b2 : Arv Z h2 b2 k_b2 (.object "java/lang/Object") (1 : Int32) [.null] .null := V_b2.pad (pad_rep [] .null 1)
  refine Wp.goto (pc' := 24) d26_10 (by decide) (by decide) ?_
  refine Wp.astoreN (l' := #[.val (.ref d), .val (.int (1 : Int32)), .val (.ref mr), .val (.ref b2)]) d26_24 (pc' := 25) rfl rfl rfl ?_
  refine Wp.aloadN d26_25 (pc' := 26) rfl rfl rfl ?_
  refine Wp.iconst (x := (0 : Int32)) d26_26 (pc' := 27) rfl rfl ?_
  refine Wp.aloadN d26_27 (pc' := 28) rfl rfl rfl ?_
  refine Wp.iconst (x := (0 : Int32)) d26_28 (pc' := 29) rfl rfl ?_
  refine Wp.aloadN d26_29 (pc' := 30) rfl rfl rfl ?_
  refine Wp.alen V_d d26_30 (pc' := 31) rfl ?_
  refine Wp.iloadN d26_31 (pc' := 32) rfl rfl ?_
  refine Wp.old fun hOc => ?_
  refine Wp.callS (W := 4) (argsL := [(.int (10 : Int32)), (.int (1 : Int32))]) (rest := [(.int (0 : Int32)), (.ref b2), (.int (0 : Int32)), (.ref d)]) rfl (ctMIN l Z a0 hw hE (10 : Int32) (1 : Int32) h2 hOc) (hw _ (List.mem_of_getElem? (i := 162) rfl)) (hw _ (List.mem_of_getElem? (i := 163) rfl)) (hw _ (List.mem_of_getElem? (i := 164) rfl)) (hw _ (List.mem_of_getElem? (i := 94) rfl)) (by decide) (lenOf pd__II_I rfl) d26_32 rfl rfl rfl (Nat.le_of_eq rfl) (pc' := 35) rfl nofun nofun (by decide) (by decide) (k' := 1) (n' := 1) rfl rfl (by decide) (by decide) (fun vh3 h3 zh3 Kh3 qh3 => ?_)
  obtain rfl : vh3 = some (.int (1 : Int32)) := qh3.trans (by rw [if_pos (by decide)])
  replace V_d := V_d.keep Kh3 nin0
  replace E_e0 := E_e0.keep Kh3
  replace V_b2 := V_b2.keep Kh3 nin0
  replace E_b2 := E_b2.keep Kh3
  refine Wp.eqS (S' := [(.int (1 : Int32)), (.int (0 : Int32)), (.ref b2), (.int (0 : Int32)), (.ref d)]) rfl ?_
  refine Wp.copy (W := 0) (us := [(.ref e0)]) rfl rfl (hw _ (List.mem_of_getElem? (i := 165) rfl)) (hw _ (List.mem_of_getElem? (i := 168) rfl)) (hw _ (List.mem_of_getElem? (i := 166) rfl)) (hw _ (List.mem_of_getElem? (i := 167) rfl)) V_d V_b2 (Or.inr ⟨rfl, rfl, ⟨(by obtain ⟨cl, A, qk, -⟩ := V_b2; exact Sto.ofV A qk O_b2 (Ins.of_exa E_e0 (hw _ (List.mem_of_getElem? (i := 98) rfl)))), trivial⟩⟩) (by decide) (by decide) (by decide) (by decide) (by decide) rfl (Nat.le_of_ble_eq_true rfl) sz_b2 (Sfe.mem (by simp)) rfl d26_35 (pc' := 38) rfl (by decide) (Nat.le_of_eq rfl) (by decide) (fun h4 Kh4 Vh4 => ?_)
  clear V_b2
  have V_b2 : Arv Z h4 b2 k_b2 (.object "java/lang/Object") (1 : Int32) [(.ref e0)] .null := Vh4
  refine Wp.aloadN d26_38 (pc' := 39) rfl rfl rfl ?_
  refine Wp.retA rfl rfl rfl d26_39 (by decide) (by decide) ?_
  exact ⟨_, _, rfl, sz_b2, V_b2⟩
theorem d25_0 : decode jdk_65_method_119_code 0 = .ok (.aload_n 0, 1) := by decide +kernel
theorem d25_1 : decode jdk_65_method_119_code 1 = .ok (.iload_n 1, 1) := by decide +kernel
theorem d25_2 : decode jdk_65_method_119_code 2 = .ok (.aload_n 0, 1) := by decide +kernel
theorem d25_3 : decode jdk_65_method_119_code 3 = .ok (.invokevirtual 86, 3) := by decide +kernel
theorem d25_6 : decode jdk_65_method_119_code 6 = .ok (.invokestatic 300, 3) := by decide +kernel
theorem d25_9 : decode jdk_65_method_119_code 9 = .ok (.areturn, 1) := by decide +kernel
theorem ef_ctC2_1 (m : MethodId) (x0 : Addr) (x1 : Int32) : entryFrame m #[(.ref x0), (.int x1)] 2 = mkF m 0 #[.val (.ref x0), .val (.int x1)] [] := by first | (simp [entryFrame, mkF, argsToLocals, Value.category]; done) | rfl
theorem pd___Ljava_lang_Object_ILjava_lang_Class___Ljava_lang_Object_ : parseMethodDescriptor "([Ljava/lang/Object;ILjava/lang/Class;)[Ljava/lang/Object;" = some ⟨[(.array (.object "java/lang/Object")), .int, (.object "java/lang/Class")], some (.array (.object "java/lang/Object"))⟩ := by decide +kernel
set_option maxRecDepth 65536 in
set_option maxHeartbeats 40000000 in
theorem ctC2_1 (l : Launch) (Z : State) (a0 : Array Value) (hw : ∀ d ∈ tables_1, d.before a0 Z = true) (hE : EW Z a0 []) (d mr : Addr) (kd : ClassId) (e0 : Addr) (h0 : Heap) (hO : Ext Z.heap h0) (hM : Mir Z "[Ljava/lang/Object;" mr) (E_d : Exa Z h0 d "[Ljava/lang/Object;") (V_d : Arv Z h0 d kd (.object "java/lang/Object") (10 : Int32) [(.ref e0), .null, .null, .null, .null, .null, .null, .null, .null, .null] .null) (E_e0 : Exa Z h0 e0 "java/lang/String") :
    Ct true l Z [] [] (⟨"java/util/Arrays", "copyOf", "([Ljava/lang/Object;I)[Ljava/lang/Object;"⟩ : MethodName) jdk_65_method_119_code 2 (some (.array (.object "java/lang/Object"))) ({ frames := 2, cells := 1, slots := 1, locals := 75 } : Room) #[(.ref d), (.int (1 : Int32))] h0 [] [] (fun v h => ∃ u ku, v = some (.ref u) ∧ h0.size ≤ u ∧ Arv Z h u ku (.object "java/lang/Object") (1 : Int32) [(.ref e0)] .null) := by
  refine Ct.of_wp (a0 := a0) (Ls := #[.val (.ref d), .val (.int (1 : Int32))]) (plainFor_of_name pn_java_util_Arrays) hE hO nofun (fun m => ef_ctC2_1 m d (1 : Int32)) ?_
  refine Wp.aloadN d25_0 (pc' := 1) rfl rfl rfl ?_
  refine Wp.iloadN d25_1 (pc' := 2) rfl rfl ?_
  refine Wp.aloadN d25_2 (pc' := 3) rfl rfl rfl ?_
  refine Wp.getCls (W := 2) rfl (hw _ (List.mem_of_getElem? (i := 151) rfl)) (hw _ (List.mem_of_getElem? (i := 152) rfl)) (hw _ (List.mem_of_getElem? (i := 128) rfl)) (hw _ (List.mem_of_getElem? (i := 154) rfl)) (hw _ (List.mem_of_getElem? (i := 153) rfl)) (hw _ (List.mem_of_getElem? (i := 155) rfl)) E_d hM rfl d25_3 (pc' := 6) rfl (by decide) (Nat.le_of_eq rfl) (by decide) ?_
  refine Wp.old fun hOc => ?_
  refine Wp.callS (W := 0) (argsL := [(.ref d), (.int (1 : Int32)), (.ref mr)]) (rest := []) rfl (ctC3_1 l Z a0 hw hE d mr kd e0 h0 hOc hM V_d E_e0) (hw _ (List.mem_of_getElem? (i := 157) rfl)) (hw _ (List.mem_of_getElem? (i := 158) rfl)) (hw _ (List.mem_of_getElem? (i := 159) rfl)) (hw _ (List.mem_of_getElem? (i := 149) rfl)) (by decide) (lenOf pd___Ljava_lang_Object_ILjava_lang_Class___Ljava_lang_Object_ rfl) d25_6 rfl rfl rfl (Nat.le_of_eq rfl) (pc' := 9) rfl nofun nofun (by decide) (by decide) (k' := 1) (n' := 1) rfl rfl (by decide) (by decide) (fun vh1 h1 zh1 Kh1 qh1 => ?_)
  obtain ⟨u, k_u, rfl, sb_u, V_u⟩ := qh1
  have ne_d_u : d ≠ u := Nat.ne_of_lt (Nat.lt_of_lt_of_le V_d.lt sb_u)
  have ne_e0_u : e0 ≠ u := Nat.ne_of_lt (Nat.lt_of_lt_of_le E_e0.lt sb_u)
  replace V_d := V_d.keep Kh1 nin0
  replace E_d := E_d.keep Kh1
  replace E_e0 := E_e0.keep Kh1
  refine Wp.eqS (S' := [(.ref u)]) rfl ?_
  have sz_u : h0.size ≤ u := Nat.le_trans zh1 sb_u
  refine Wp.retA rfl rfl rfl d25_9 (by decide) (by decide) ?_
  exact ⟨_, _, rfl, sz_u, V_u⟩
theorem d24_0 : decode jdk_38_method_16_code 0 = .ok (.aload_n 0, 1) := by decide +kernel
theorem d24_1 : decode jdk_38_method_16_code 1 = .ok (.getfield 9, 3) := by decide +kernel
theorem d24_4 : decode jdk_38_method_16_code 4 = .ok (.aload_n 0, 1) := by decide +kernel
theorem d24_5 : decode jdk_38_method_16_code 5 = .ok (.getfield 48, 3) := by decide +kernel
theorem d24_8 : decode jdk_38_method_16_code 8 = .ok (.invokestatic 66, 3) := by decide +kernel
theorem d24_11 : decode jdk_38_method_16_code 11 = .ok (.areturn, 1) := by decide +kernel
theorem ef_ctTA_1 (m : MethodId) (x0 : Addr) : entryFrame m #[(.ref x0)] 1 = mkF m 0 #[.val (.ref x0)] [] := by first | (simp [entryFrame, mkF, argsToLocals, Value.category]; done) | rfl
theorem pd___Ljava_lang_Object_I__Ljava_lang_Object_ : parseMethodDescriptor "([Ljava/lang/Object;I)[Ljava/lang/Object;" = some ⟨[(.array (.object "java/lang/Object")), .int], some (.array (.object "java/lang/Object"))⟩ := by decide +kernel
set_option maxRecDepth 65536 in
set_option maxHeartbeats 40000000 in
theorem ctTA_1 (l : Launch) (Z : State) (a0 : Array Value) (hw : ∀ d ∈ tables_1, d.before a0 Z = true) (hE : EW Z a0 []) (b d mr : Addr) (kd : ClassId) (e0 : Addr) (h0 : Heap) (hO : Ext Z.heap h0) (E_b : Exa Z h0 b "java/util/ArrayList") (F_e : Fld Z h0 b "java/util/ArrayList" "elementData" "[Ljava/lang/Object;" (.ref d)) (F_s : Fld Z h0 b "java/util/ArrayList" "size" "I" (.int 1)) (hM : Mir Z "[Ljava/lang/Object;" mr) (E_d : Exa Z h0 d "[Ljava/lang/Object;") (V_d : Arv Z h0 d kd (.object "java/lang/Object") (10 : Int32) [(.ref e0), .null, .null, .null, .null, .null, .null, .null, .null, .null] .null) (E_e0 : Exa Z h0 e0 "java/lang/String") :
    Ct true l Z [] [] (⟨"java/util/ArrayList", "toArray", "()[Ljava/lang/Object;"⟩ : MethodName) jdk_38_method_16_code 1 (some (.array (.object "java/lang/Object"))) ({ frames := 3, cells := 1, slots := 1, locals := 88 } : Room) #[(.ref b)] h0 [] [] (fun v h => ∃ u ku, v = some (.ref u) ∧ h0.size ≤ u ∧ Arv Z h u ku (.object "java/lang/Object") (1 : Int32) [(.ref e0)] .null) := by
  refine Ct.of_wp (a0 := a0) (Ls := #[.val (.ref b)]) (plainFor_of_name pn_java_util_ArrayList) hE hO nofun (fun m => ef_ctTA_1 m b) ?_
  refine Wp.aloadN d24_0 (pc' := 1) rfl rfl rfl ?_
  refine Wp.getF rfl (host := "") (Or.inl (hw _ (List.mem_of_getElem? (i := 52) rfl))) Via.refl F_e d24_1 (pc' := 4) rfl ?_
  refine Wp.aloadN d24_4 (pc' := 5) rfl rfl rfl ?_
  refine Wp.getF rfl (host := "") (Or.inl (hw _ (List.mem_of_getElem? (i := 75) rfl))) Via.refl F_s d24_5 (pc' := 8) rfl ?_
  refine Wp.old fun hOc => ?_
  refine Wp.callS (W := 0) (argsL := [(.ref d), (.int (1 : Int32))]) (rest := []) rfl (ctC2_1 l Z a0 hw hE d mr kd e0 h0 hOc hM E_d V_d E_e0) (hw _ (List.mem_of_getElem? (i := 147) rfl)) (hw _ (List.mem_of_getElem? (i := 148) rfl)) (hw _ (List.mem_of_getElem? (i := 150) rfl)) (hw _ (List.mem_of_getElem? (i := 149) rfl)) (by decide) (lenOf pd___Ljava_lang_Object_I__Ljava_lang_Object_ rfl) d24_8 rfl rfl rfl (Nat.le_of_eq rfl) (pc' := 11) rfl nofun nofun (by decide) (by decide) (k' := 1) (n' := 1) rfl rfl (by decide) (by decide) (fun vh1 h1 zh1 Kh1 qh1 => ?_)
  obtain ⟨u, k_u, rfl, sb_u, V_u⟩ := qh1
  have ne_d_u : d ≠ u := Nat.ne_of_lt (Nat.lt_of_lt_of_le V_d.lt sb_u)
  have ne_b_u : b ≠ u := Nat.ne_of_lt (Nat.lt_of_lt_of_le E_b.lt sb_u)
  have ne_e0_u : e0 ≠ u := Nat.ne_of_lt (Nat.lt_of_lt_of_le E_e0.lt sb_u)
  replace V_d := V_d.keep Kh1 nin0
  replace E_d := E_d.keep Kh1
  replace E_b := E_b.keep Kh1
  replace F_e := F_e.keep Kh1 nin0
  replace F_s := F_s.keep Kh1 nin0
  replace E_e0 := E_e0.keep Kh1
  refine Wp.eqS (S' := [(.ref u)]) rfl ?_
  have sz_u : h0.size ≤ u := Nat.le_trans zh1 sb_u
  refine Wp.retA rfl rfl rfl d24_11 (by decide) (by decide) ?_
  exact ⟨_, _, rfl, sz_u, V_u⟩
theorem d28_0 : decode jdk_40_method_47_code 0 = .ok (.aload_n 0, 1) := by decide +kernel
theorem d28_1 : decode jdk_40_method_47_code 1 = .ok (.arraylength, 1) := by decide +kernel
theorem d28_2 : decode jdk_40_method_47_code 2 = .ok (.tableswitch 57 0 2 #[26, 32, 43], 26) := by decide +kernel
theorem d28_28 : decode jdk_40_method_47_code 28 = .ok (.getstatic 90, 3) := by decide +kernel
theorem d28_31 : decode jdk_40_method_47_code 31 = .ok (.astore_n 1, 1) := by decide +kernel
theorem d28_32 : decode jdk_40_method_47_code 32 = .ok (.aload_n 1, 1) := by decide +kernel
theorem d28_33 : decode jdk_40_method_47_code 33 = .ok (.areturn, 1) := by decide +kernel
theorem d28_34 : decode jdk_40_method_47_code 34 = .ok (.new 96, 3) := by decide +kernel
theorem d28_37 : decode jdk_40_method_47_code 37 = .ok (.dup, 1) := by decide +kernel
theorem d28_38 : decode jdk_40_method_47_code 38 = .ok (.aload_n 0, 1) := by decide +kernel
theorem d28_39 : decode jdk_40_method_47_code 39 = .ok (.iconst 0, 1) := by decide +kernel
theorem d28_40 : decode jdk_40_method_47_code 40 = .ok (.aaload, 1) := by decide +kernel
theorem d28_41 : decode jdk_40_method_47_code 41 = .ok (.invokespecial 98, 3) := by decide +kernel
theorem d28_44 : decode jdk_40_method_47_code 44 = .ok (.areturn, 1) := by decide +kernel
theorem d28_45 : decode jdk_40_method_47_code 45 = .ok (.new 96, 3) := by decide +kernel
theorem d28_48 : decode jdk_40_method_47_code 48 = .ok (.dup, 1) := by decide +kernel
theorem d28_49 : decode jdk_40_method_47_code 49 = .ok (.aload_n 0, 1) := by decide +kernel
theorem d28_50 : decode jdk_40_method_47_code 50 = .ok (.iconst 0, 1) := by decide +kernel
theorem d28_51 : decode jdk_40_method_47_code 51 = .ok (.aaload, 1) := by decide +kernel
theorem d28_52 : decode jdk_40_method_47_code 52 = .ok (.aload_n 0, 1) := by decide +kernel
theorem d28_53 : decode jdk_40_method_47_code 53 = .ok (.iconst 1, 1) := by decide +kernel
theorem d28_54 : decode jdk_40_method_47_code 54 = .ok (.aaload, 1) := by decide +kernel
theorem d28_55 : decode jdk_40_method_47_code 55 = .ok (.invokespecial 100, 3) := by decide +kernel
theorem d28_58 : decode jdk_40_method_47_code 58 = .ok (.areturn, 1) := by decide +kernel
theorem d28_59 : decode jdk_40_method_47_code 59 = .ok (.aload_n 0, 1) := by decide +kernel
theorem d28_60 : decode jdk_40_method_47_code 60 = .ok (.invokestatic 109, 3) := by decide +kernel
theorem d28_63 : decode jdk_40_method_47_code 63 = .ok (.areturn, 1) := by decide +kernel
theorem ef_ctOF_1 (m : MethodId) (x0 : Addr) : entryFrame m #[(.ref x0)] 2 = mkF m 0 #[.val (.ref x0), .unset] [] := by first | (simp [entryFrame, mkF, argsToLocals, Value.category]; done) | rfl
theorem pd__Ljava_lang_Object__V : parseMethodDescriptor "(Ljava/lang/Object;)V" = some ⟨[(.object "java/lang/Object")], none⟩ := by decide +kernel
set_option maxRecDepth 65536 in
set_option maxHeartbeats 40000000 in
theorem ctOF_1 (l : Launch) (Z : State) (a0 : Array Value) (hw : ∀ d ∈ tables_1, d.before a0 Z = true) (hE : EW Z a0 []) (u em : Addr) (ku : ClassId) (e0 : Addr) (h0 : Heap) (hO : Ext Z.heap h0) (V_u : Arv Z h0 u ku (.object "java/lang/Object") (1 : Int32) [(.ref e0)] .null) (hem : Sta Z Z.heap "java/util/ImmutableCollections" "EMPTY" "Ljava/lang/Object;" (.ref em)) (E_e0 : Exa Z h0 e0 "java/lang/String") :
    Ct true l Z [] [] (⟨"java/util/List", "of", "([Ljava/lang/Object;)Ljava/util/List;"⟩ : MethodName) jdk_40_method_47_code 2 (some (.object "java/util/List")) ({ frames := 6, cells := 2, slots := 5, locals := 77 } : Room) #[(.ref u)] h0 [] [] (fun v h => ∃ r : Addr, v = some (.ref r)) := by
  refine Ct.of_wp (a0 := a0) (Ls := #[.val (.ref u), .unset]) (plainFor_of_name pn_java_util_List) hE hO nofun (fun m => ef_ctOF_1 m u) ?_
  refine Wp.aloadN d28_0 (pc' := 1) rfl rfl rfl ?_
  refine Wp.alen V_u d28_1 (pc' := 2) rfl ?_
  refine Wp.tswIn (pc' := 34) d28_2 (by decide) rfl (by decide) (by decide) ?_
  refine Wp.new rfl (hw _ (List.mem_of_getElem? (i := 233) rfl)) (hw _ (List.mem_of_getElem? (i := 234) rfl)) (hw _ (List.mem_of_getElem? (i := 235) rfl)) d28_34 (pc' := 37) rfl (k' := 1) (n' := 2) rfl rfl (by decide) (by decide) (fun h1 b1 g_b1 sz_b1 Xh1 E_b1 D_b1 => ?_)
  have ne_u_b1 : u ≠ b1 := Nat.ne_of_lt (Nat.lt_of_lt_of_eq V_u.lt g_b1.symm)
  have ne_e0_b1 : e0 ≠ b1 := Nat.ne_of_lt (Nat.lt_of_lt_of_eq E_e0.lt g_b1.symm)
  replace V_u := V_u.ext Xh1
  replace E_e0 := E_e0.ext Xh1
  have F_e0_b1 : Fld Z h1 b1 "java/util/ImmutableCollections$List12" "e0" "Ljava/lang/Object;" .null := D_b1 (Or.inr (hw _ (List.mem_of_getElem? (i := 246) rfl))) (ty := (.object "java/lang/Object")) (by decide)
  have F_e1_b1 : Fld Z h1 b1 "java/util/ImmutableCollections$List12" "e1" "Ljava/lang/Object;" .null := D_b1 (Or.inr (hw _ (List.mem_of_getElem? (i := 248) rfl))) (ty := (.object "java/lang/Object")) (by decide)
  clear D_b1
  refine Wp.dup d28_37 (pc' := 38) rfl rfl ?_
  refine Wp.aloadN d28_38 (pc' := 39) rfl rfl rfl ?_
  refine Wp.iconst (x := (0 : Int32)) d28_39 (pc' := 40) rfl rfl ?_
  refine Wp.aaload V_u rfl (by decide) (by decide) (v := (.ref e0)) rfl d28_40 (pc' := 41) rfl ?_
  refine Wp.old fun hOc => ?_
  refine Wp.callI (a := b1) (W := 1) (argsL := [(.ref e0)]) (rest := [(.ref b1)]) rfl (ctL1 l Z a0 hw hE b1 em e0 h1 hOc (Nat.le_trans hO.1 sz_b1) E_b1 hem F_e0_b1 F_e1_b1) rfl rfl (hw _ (List.mem_of_getElem? (i := 253) rfl)) (hw _ (List.mem_of_getElem? (i := 254) rfl)) (hw _ (List.mem_of_getElem? (i := 255) rfl)) (hw _ (List.mem_of_getElem? (i := 235) rfl)) (by decide) (lenOf pd__Ljava_lang_Object__V rfl) d28_41 rfl rfl rfl (Nat.le_of_eq rfl) (pc' := 44) rfl nofun (by intro x hx; simp only [List.mem_cons, List.not_mem_nil, or_false] at hx; rcases hx with rfl; exact (Or.inr sz_b1)) (by decide) (by decide) (k' := 1) (n' := 2) rfl rfl (by decide) (by decide) (fun vh2 h2 zh2 Kh2 qh2 => ?_)
  obtain rfl := qh2
  replace V_u := V_u.keep Kh2 (ninS ne_u_b1 nin0)
  replace E_e0 := E_e0.keep Kh2
  replace E_b1 := E_b1.keep Kh2
  refine Wp.eqS (S' := [(.ref b1)]) rfl ?_
  refine Wp.retA rfl rfl rfl d28_44 (by decide) (by decide) ?_
  exact ⟨_, rfl⟩

theorem ef_ctLC_1 (m : MethodId) (x0 : Addr) : entryFrame m #[(.ref x0)] 2 = mkF m 0 #[.val (.ref x0), .unset] [] := by first | (simp [entryFrame, mkF, argsToLocals, Value.category]; done) | rfl
theorem pd___Ljava_lang_Object__Ljava_util_List_ : parseMethodDescriptor "([Ljava/lang/Object;)Ljava/util/List;" = some ⟨[(.array (.object "java/lang/Object"))], some (.object "java/util/List")⟩ := by decide +kernel
set_option maxRecDepth 65536 in
set_option maxHeartbeats 40000000 in
theorem ctLC_1 (l : Launch) (Z : State) (a0 : Array Value) (hw : ∀ d ∈ tables_1, d.before a0 Z = true) (hE : EW Z a0 []) (b d mr : Addr) (kd : ClassId) (e0 : Addr) (em : Addr) (h0 : Heap) (hO : Ext Z.heap h0) (E_b : Exa Z h0 b "java/util/ArrayList") (F_e : Fld Z h0 b "java/util/ArrayList" "elementData" "[Ljava/lang/Object;" (.ref d)) (F_s : Fld Z h0 b "java/util/ArrayList" "size" "I" (.int 1)) (hM : Mir Z "[Ljava/lang/Object;" mr) (E_d : Exa Z h0 d "[Ljava/lang/Object;") (V_d : Arv Z h0 d kd (.object "java/lang/Object") (10 : Int32) [(.ref e0), .null, .null, .null, .null, .null, .null, .null, .null, .null] .null) (E_e0 : Exa Z h0 e0 "java/lang/String") (hem : Sta Z Z.heap "java/util/ImmutableCollections" "EMPTY" "Ljava/lang/Object;" (.ref em)) :
    Ct true l Z [] [] (⟨"java/util/ImmutableCollections", "listCopy", "(Ljava/util/Collection;)Ljava/util/List;"⟩ : MethodName) jdk_56_method_3_code 2 (some (.object "java/util/List")) ({ frames := 7, cells := 3, slots := 8, locals := 100 } : Room) #[(.ref b)] h0 [] [] (fun v h => ∃ r : Addr, v = some (.ref r)) := by
  refine Ct.of_wp (a0 := a0) (Ls := #[.val (.ref b), .unset]) (plainFor_of_name pn_java_util_ImmutableCollections) hE hO nofun (fun m => ef_ctLC_1 m b) ?_
  refine Wp.aloadN d22_0 (pc' := 1) rfl rfl rfl ?_
  refine Wp.instNo rfl (hw _ (List.mem_of_getElem? (i := 124) rfl)) E_b (ns_fin (hw _ (List.mem_of_getElem? (i := 125) rfl)) (NS.step (hw _ (List.mem_of_getElem? (i := 125) rfl)) (NS.step (hw _ (List.mem_of_getElem? (i := 126) rfl)) (NS.step (hw _ (List.mem_of_getElem? (i := 127) rfl)) (ns_root (hw _ (List.mem_of_getElem? (i := 128) rfl)) (hw _ (List.mem_of_getElem? (i := 234) rfl)) (by decide)) (by decide)) (by decide)) (by decide)) (hw _ (List.mem_of_getElem? (i := 234) rfl)) (by decide)) d22_1 (pc' := 4) rfl ?_
  refine Wp.if_ne (pc1 := 26) (pc' := 7) d22_4 (by decide) (by decide) rfl (fun hc1 => by exact absurd hc1 (by decide)) (fun hc1 => ?_)
  refine Wp.aloadN d22_7 (pc' := 8) rfl rfl rfl ?_
  refine Wp.instNo rfl (hw _ (List.mem_of_getElem? (i := 129) rfl)) E_b (ns_fin (hw _ (List.mem_of_getElem? (i := 125) rfl)) (NS.step (hw _ (List.mem_of_getElem? (i := 125) rfl)) (NS.step (hw _ (List.mem_of_getElem? (i := 126) rfl)) (NS.step (hw _ (List.mem_of_getElem? (i := 127) rfl)) (ns_root (hw _ (List.mem_of_getElem? (i := 128) rfl)) (hw _ (List.mem_of_getElem? (i := 179) rfl)) (by decide)) (by decide)) (by decide)) (by decide)) (hw _ (List.mem_of_getElem? (i := 179) rfl)) (by decide)) d22_8 (pc' := 11) rfl ?_
  refine Wp.if_eq (pc1 := 31) (pc' := 14) d22_11 (by decide) (by decide) rfl (fun hc2 => ?_) (fun hc2 => by exact absurd hc2 (by decide))
  refine Wp.aloadN d22_31 (pc' := 32) rfl rfl rfl ?_
  refine Wp.old fun hOc => ?_
  refine Wp.callF (a := b) (x' := (⟨"java/util/Collection", "isEmpty", "()Z"⟩ : MethodName)) (W := 0) (argsL := []) (rest := []) rfl (ctIE l Z a0 hw hE b (1 : Int32) h0 hOc F_s) (hw _ (List.mem_of_getElem? (i := 130) rfl)) (hw _ (List.mem_of_getElem? (i := 131) rfl)) (hw _ (List.mem_of_getElem? (i := 132) rfl)) (hw _ (List.mem_of_getElem? (i := 133) rfl)) (hw _ (List.mem_of_getElem? (i := 134) rfl)) (hw _ (List.mem_of_getElem? (i := 135) rfl)) rfl (hw _ (List.mem_of_getElem? (i := 136) rfl)) (hw _ (List.mem_of_getElem? (i := 137) rfl)) (hw _ (List.mem_of_getElem? (i := 138) rfl)) (hw _ (List.mem_of_getElem? (i := 32) rfl)) E_b (by decide) (lenOf pd___Z rfl) d22_32 rfl rfl rfl (Nat.le_of_eq rfl) (pc' := 37) rfl nofun nofun (by decide) (by decide) (k' := 0) (n' := 0) rfl rfl (by decide) (by decide) (fun vh3 h3 zh3 Kh3 qh3 => ?_)
  obtain rfl : vh3 = some (.int 0) := qh3.trans (by rw [if_neg (by decide)])
  replace V_d := V_d.keep Kh3 nin0
  replace E_d := E_d.keep Kh3
  replace E_b := E_b.keep Kh3
  replace F_e := F_e.keep Kh3 nin0
  replace F_s := F_s.keep Kh3 nin0
  replace E_e0 := E_e0.keep Kh3
  refine Wp.eqS (S' := [(.int (0 : Int32))]) rfl ?_
  refine Wp.if_eq (pc1 := 44) (pc' := 40) d22_37 (by decide) (by decide) rfl (fun hc4 => ?_) (fun hc4 => by exact absurd hc4 (by decide))
  refine Wp.aloadN d22_44 (pc' := 45) rfl rfl rfl ?_
  refine Wp.old fun hOc => ?_
  refine Wp.callF (a := b) (x' := (⟨"java/util/Collection", "toArray", "()[Ljava/lang/Object;"⟩ : MethodName)) (W := 0) (argsL := []) (rest := []) rfl (ctTA_1 l Z a0 hw hE b d mr kd e0 h3 hOc E_b F_e F_s hM E_d V_d E_e0) (hw _ (List.mem_of_getElem? (i := 139) rfl)) (hw _ (List.mem_of_getElem? (i := 140) rfl)) (hw _ (List.mem_of_getElem? (i := 141) rfl)) (hw _ (List.mem_of_getElem? (i := 142) rfl)) (hw _ (List.mem_of_getElem? (i := 143) rfl)) (hw _ (List.mem_of_getElem? (i := 144) rfl)) rfl (hw _ (List.mem_of_getElem? (i := 145) rfl)) (hw _ (List.mem_of_getElem? (i := 137) rfl)) (hw _ (List.mem_of_getElem? (i := 146) rfl)) (hw _ (List.mem_of_getElem? (i := 32) rfl)) E_b (by decide) (lenOf pd____Ljava_lang_Object_ rfl) d22_45 rfl rfl rfl (Nat.le_of_eq rfl) (pc' := 50) rfl nofun nofun (by decide) (by decide) (k' := 1) (n' := 1) rfl rfl (by decide) (by decide) (fun vh5 h5 zh5 Kh5 qh5 => ?_)
  obtain ⟨u, k_u, rfl, sb_u, V_u⟩ := qh5
  have ne_d_u : d ≠ u := Nat.ne_of_lt (Nat.lt_of_lt_of_le V_d.lt sb_u)
  have ne_b_u : b ≠ u := Nat.ne_of_lt (Nat.lt_of_lt_of_le E_b.lt sb_u)
  have ne_e0_u : e0 ≠ u := Nat.ne_of_lt (Nat.lt_of_lt_of_le E_e0.lt sb_u)
  replace V_d := V_d.keep Kh5 nin0
  replace E_d := E_d.keep Kh5
  replace E_b := E_b.keep Kh5
  replace F_e := F_e.keep Kh5 nin0
  replace F_s := F_s.keep Kh5 nin0
  replace E_e0 := E_e0.keep Kh5
  refine Wp.eqS (S' := [(.ref u)]) rfl ?_
  have sz_u : h0.size ≤ u := Nat.le_trans zh5 sb_u
  refine Wp.old fun hOc => ?_
  refine Wp.callS (W := 0) (argsL := [(.ref u)]) (rest := []) rfl (ctOF_1 l Z a0 hw hE u em k_u e0 h5 hOc V_u hem E_e0) (hw _ (List.mem_of_getElem? (i := 169) rfl)) (hw _ (List.mem_of_getElem? (i := 170) rfl)) (hw _ (List.mem_of_getElem? (i := 171) rfl)) (hw _ (List.mem_of_getElem? (i := 118) rfl)) (by decide) (lenOf pd___Ljava_lang_Object__Ljava_util_List_ rfl) d22_50 rfl rfl rfl (Nat.le_of_eq rfl) (pc' := 53) rfl nofun nofun (by decide) (by decide) (k' := 3) (n' := 6) rfl rfl (by decide) (by decide) (fun vh6 h6 zh6 Kh6 qh6 => ?_)
  obtain ⟨r, rfl⟩ := qh6
  replace V_d := V_d.keep Kh6 nin0
  replace E_d := E_d.keep Kh6
  replace E_b := E_b.keep Kh6
  replace F_e := F_e.keep Kh6 nin0
  replace F_s := F_s.keep Kh6 nin0
  replace E_e0 := E_e0.keep Kh6
  replace V_u := V_u.keep Kh6 nin0
  refine Wp.eqS (S' := [(.ref r)]) rfl ?_
  refine Wp.retA rfl rfl rfl d22_53 (by decide) (by decide) ?_
  exact ⟨_, rfl⟩
theorem ef_ctCO_1 (m : MethodId) (x0 : Addr) : entryFrame m #[(.ref x0)] 1 = mkF m 0 #[.val (.ref x0)] [] := by first | (simp [entryFrame, mkF, argsToLocals, Value.category]; done) | rfl
set_option maxRecDepth 65536 in
set_option maxHeartbeats 40000000 in
theorem ctCO_1 (l : Launch) (Z : State) (a0 : Array Value) (hw : ∀ d ∈ tables_1, d.before a0 Z = true) (hE : EW Z a0 []) (b d mr : Addr) (kd : ClassId) (e0 : Addr) (em : Addr) (h0 : Heap) (hO : Ext Z.heap h0) (E_b : Exa Z h0 b "java/util/ArrayList") (F_e : Fld Z h0 b "java/util/ArrayList" "elementData" "[Ljava/lang/Object;" (.ref d)) (F_s : Fld Z h0 b "java/util/ArrayList" "size" "I" (.int 1)) (hM : Mir Z "[Ljava/lang/Object;" mr) (E_d : Exa Z h0 d "[Ljava/lang/Object;") (V_d : Arv Z h0 d kd (.object "java/lang/Object") (10 : Int32) [(.ref e0), .null, .null, .null, .null, .null, .null, .null, .null, .null] .null) (E_e0 : Exa Z h0 e0 "java/lang/String") (hem : Sta Z Z.heap "java/util/ImmutableCollections" "EMPTY" "Ljava/lang/Object;" (.ref em)) :
    Ct true l Z [] [] (⟨"java/util/List", "copyOf", "(Ljava/util/Collection;)Ljava/util/List;"⟩ : MethodName) jdk_40_method_48_code 1 (some (.object "java/util/List")) ({ frames := 8, cells := 3, slots := 8, locals := 113 } : Room) #[(.ref b)] h0 [] [] (fun v h => ∃ r : Addr, v = some (.ref r)) := by
  refine Ct.of_wp (a0 := a0) (Ls := #[.val (.ref b)]) (plainFor_of_name pn_java_util_List) hE hO nofun (fun m => ef_ctCO_1 m b) ?_
  refine Wp.aloadN d21_0 (pc' := 1) rfl rfl rfl ?_
  refine Wp.old fun hOc => ?_
  refine Wp.callS (W := 0) (argsL := [(.ref b)]) (rest := []) rfl (ctLC_1 l Z a0 hw hE b d mr kd e0 em h0 hOc E_b F_e F_s hM E_d V_d E_e0 hem) (hw _ (List.mem_of_getElem? (i := 120) rfl)) (hw _ (List.mem_of_getElem? (i := 121) rfl)) (hw _ (List.mem_of_getElem? (i := 123) rfl)) (hw _ (List.mem_of_getElem? (i := 122) rfl)) (by decide) (lenOf pd__Ljava_util_Collection__Ljava_util_List_ rfl) d21_1 rfl rfl rfl (Nat.le_of_eq rfl) (pc' := 4) rfl nofun nofun (by decide) (by decide) (k' := 3) (n' := 8) rfl rfl (by decide) (by decide) (fun vh1 h1 zh1 Kh1 qh1 => ?_)
  obtain ⟨r, rfl⟩ := qh1
  replace V_d := V_d.keep Kh1 nin0
  replace E_d := E_d.keep Kh1
  replace E_b := E_b.keep Kh1
  replace F_e := F_e.keep Kh1 nin0
  replace F_s := F_s.keep Kh1 nin0
  replace E_e0 := E_e0.keep Kh1
  refine Wp.eqS (S' := [(.ref r)]) rfl ?_
  refine Wp.retA rfl rfl rfl d21_4 (by decide) (by decide) ?_
  exact ⟨_, rfl⟩
theorem ef_ctBI_1n (m : MethodId) (x0 : Addr) (x1 : Addr) (x2 : Addr) : entryFrame m #[(.ref x0), (.ref x1), (.ref x2), .null] 4 = mkF m 0 #[.val (.ref x0), .val (.ref x1), .val (.ref x2), .val .null] [] := by first | (simp [entryFrame, mkF, argsToLocals, Value.category]; done) | rfl
set_option maxRecDepth 65536 in
set_option maxHeartbeats 40000000 in
theorem ctBI_1n (l : Launch) (Z : State) (a0 : Array Value) (hw : ∀ d ∈ tables_1, d.before a0 Z = true) (hE : EW Z a0 []) (o s : Addr) (b d mr : Addr) (kd : ClassId) (e0 : Addr) (em : Addr) (h0 : Heap) (hO : Ext Z.heap h0) (ho0 : Z.heap.size ≤ o) (E_o : Exa Z h0 o "com/example/rootward/rootward/policy/Binding") (E_s : Exa Z h0 s "java/lang/String") (G0 : Fld Z h0 o "com/example/rootward/rootward/policy/Binding" "role" "Ljava/lang/String;" .null) (G1 : Fld Z h0 o "com/example/rootward/rootward/policy/Binding" "members" "Ljava/util/List;" .null) (G2 : Fld Z h0 o "com/example/rootward/rootward/policy/Binding" "condition" "Lcom/example/rootward/rootward/policy/Condition;" .null) (ne_b_o : b ≠ o) (ne_d_o : d ≠ o) (E_b : Exa Z h0 b "java/util/ArrayList") (F_e : Fld Z h0 b "java/util/ArrayList" "elementData" "[Ljava/lang/Object;" (.ref d)) (F_s : Fld Z h0 b "java/util/ArrayList" "size" "I" (.int 1)) (hM : Mir Z "[Ljava/lang/Object;" mr) (E_d : Exa Z h0 d "[Ljava/lang/Object;") (V_d : Arv Z h0 d kd (.object "java/lang/Object") (10 : Int32) [(.ref e0), .null, .null, .null, .null, .null, .null, .null, .null, .null] .null) (E_e0 : Exa Z h0 e0 "java/lang/String") (hem : Sta Z Z.heap "java/util/ImmutableCollections" "EMPTY" "Ljava/lang/Object;" (.ref em)) :
    Ct true l Z [] [] (⟨"com/example/rootward/rootward/policy/Binding", "<init>", "(Ljava/lang/String;Ljava/util/Collection;Lcom/example/rootward/rootward/policy/Condition;)V"⟩ : MethodName) prog_54_method_1_code 4 none ({ frames := 9, cells := 5, slots := 28, locals := 126 } : Room) #[(.ref o), (.ref s), (.ref b), .null] h0 [] [o] (fun v h => v = none ∧ Fld Z h o "com/example/rootward/rootward/policy/Binding" "condition" "Lcom/example/rootward/rootward/policy/Condition;" .null) := by
  refine Ct.of_wp (a0 := a0) (Ls := #[.val (.ref o), .val (.ref s), .val (.ref b), .val .null]) (plainFor_of_name pn_com_example_rootward_rootward_policy_Binding) hE hO (by intro x hx; cases List.mem_singleton.mp hx; exact ho0) (fun m => ef_ctBI_1n m o s b) ?_
  refine Wp.aloadN d19_0 (pc' := 1) rfl rfl rfl ?_
  refine Wp.initO (W := 0) rfl (hw _ (List.mem_of_getElem? (i := 105) rfl)) (hw _ (List.mem_of_getElem? (i := 12) rfl)) (hw _ (List.mem_of_getElem? (i := 13) rfl)) d19_1 (pc' := 4) rfl rfl (by decide) (Nat.le_of_eq rfl) (by decide) ?_
  refine Wp.aloadN d19_4 (pc' := 5) rfl rfl rfl ?_
  refine Wp.aloadN d19_5 (pc' := 6) rfl rfl rfl ?_
  refine Wp.ldcO (nn := 16) rfl rfl (hw _ (List.mem_of_getElem? (i := 106) rfl)) (own_wS hw) d19_6 (pc' := 8) rfl (by decide) (by decide) (k' := 2) (n' := 20) rfl rfl (by decide) (by decide) (fun h1 c1 Xh1 => ?_)
  replace V_d := V_d.ext Xh1
  replace E_d := E_d.ext Xh1
  replace E_b := E_b.ext Xh1
  replace F_e := F_e.ext Xh1
  replace F_s := F_s.ext Xh1
  replace E_e0 := E_e0.ext Xh1
  replace E_o := E_o.ext Xh1
  replace E_s := E_s.ext Xh1
  replace G0 := G0.ext Xh1
  replace G1 := G1.ext Xh1
  replace G2 := G2.ext Xh1
  refine Wp.old fun hOc => ?_
  refine Wp.callS (W := 1) (argsL := [(.ref s), (.ref c1)]) (rest := [(.ref o)]) rfl (ctRNN l Z a0 hw hE s c1 h1 hOc) (hw _ (List.mem_of_getElem? (i := 109) rfl)) (hw _ (List.mem_of_getElem? (i := 110) rfl)) (hw _ (List.mem_of_getElem? (i := 112) rfl)) (hw _ (List.mem_of_getElem? (i := 111) rfl)) (by decide) (lenOf pd__Ljava_lang_Object_Ljava_lang_String__Ljava_lang_Object_ rfl) d19_8 rfl rfl rfl (Nat.le_of_eq rfl) (pc' := 11) rfl nofun nofun (by decide) (by decide) (k' := 2) (n' := 20) rfl rfl (by decide) (by decide) (fun vh2 h2 zh2 Kh2 qh2 => ?_)
  obtain rfl := qh2
  replace V_d := V_d.keep Kh2 nin0
  replace E_d := E_d.keep Kh2
  replace E_b := E_b.keep Kh2
  replace F_e := F_e.keep Kh2 nin0
  replace F_s := F_s.keep Kh2 nin0
  replace E_e0 := E_e0.keep Kh2
  replace E_o := E_o.keep Kh2
  replace E_s := E_s.keep Kh2
  replace G0 := G0.keep Kh2 nin0
  replace G1 := G1.keep Kh2 nin0
  replace G2 := G2.keep Kh2 nin0
  refine Wp.eqS (S' := [(.ref s), (.ref o)]) rfl ?_
  refine Wp.castY rfl (hw _ (List.mem_of_getElem? (i := 113) rfl)) (Ins.self E_s) d19_11 (pc' := 14) rfl ?_
  refine Wp.putF rfl (host := "") (Or.inl (hw _ (List.mem_of_getElem? (i := 114) rfl))) Via.refl G0 E_o (Or.inr ⟨(hw _ (List.mem_of_getElem? (i := 115) rfl)), rfl, rfl⟩) (hw _ (List.mem_of_getElem? (i := 100) rfl)) (ty := (.object "java/lang/String")) (by decide) rfl rfl d19_14 (pc' := 17) rfl (Or.inl (by simp)) (Sfe.exa E_o (by decide) (by decide)) (fun h3 W3 Fh3 => ?_)
  replace V_d := V_d.other W3 ne_d_o
  replace E_d := E_d.wr W3
  replace E_b := E_b.wr W3
  replace F_e := F_e.other W3 (Or.inl ne_b_o)
  replace F_s := F_s.other W3 (Or.inl ne_b_o)
  replace E_e0 := E_e0.wr W3
  replace E_o := E_o.wr W3
  replace E_s := E_s.wr W3
  replace G1 := G1.other W3 (Or.inr (slot_ne (Or.inr (hw _ (List.mem_of_getElem? (i := 204) rfl))) (Or.inr (hw _ (List.mem_of_getElem? (i := 115) rfl))) (by decide) (t := (.object "java/util/List")) (t' := (.object "java/lang/String")) (by decide) (by decide)))
  replace G2 := G2.other W3 (Or.inr (slot_ne (Or.inr (hw _ (List.mem_of_getElem? (i := 206) rfl))) (Or.inr (hw _ (List.mem_of_getElem? (i := 115) rfl))) (by decide) (t := (.object "com/example/rootward/rootward/policy/Condition")) (t' := (.object "java/lang/String")) (by decide) (by decide)))
  replace G0 := Fh3
  refine Wp.aloadN d19_17 (pc' := 18) rfl rfl rfl ?_
  refine Wp.aloadN d19_18 (pc' := 19) rfl rfl rfl ?_
  refine Wp.old fun hOc => ?_
  refine Wp.callS (W := 1) (argsL := [(.ref b)]) (rest := [(.ref o)]) rfl (ctCO_1 l Z a0 hw hE b d mr kd e0 em h3 hOc E_b F_e F_s hM E_d V_d E_e0 hem) (hw _ (List.mem_of_getElem? (i := 116) rfl)) (hw _ (List.mem_of_getElem? (i := 117) rfl)) (hw _ (List.mem_of_getElem? (i := 119) rfl)) (hw _ (List.mem_of_getElem? (i := 118) rfl)) (by decide) (lenOf pd__Ljava_util_Collection__Ljava_util_List_ rfl) d19_19 rfl rfl rfl (Nat.le_of_eq rfl) (pc' := 22) rfl nofun nofun (by decide) (by decide) (k' := 5) (n' := 28) rfl rfl (by decide) (by decide) (fun vh4 h4 zh4 Kh4 qh4 => ?_)
  obtain ⟨r, rfl⟩ := qh4
  replace V_d := V_d.keep Kh4 nin0
  replace E_d := E_d.keep Kh4
  replace E_b := E_b.keep Kh4
  replace F_e := F_e.keep Kh4 nin0
  replace F_s := F_s.keep Kh4 nin0
  replace E_e0 := E_e0.keep Kh4
  replace E_o := E_o.keep Kh4
  replace E_s := E_s.keep Kh4
  replace G0 := G0.keep Kh4 nin0
  replace G1 := G1.keep Kh4 nin0
  replace G2 := G2.keep Kh4 nin0
  refine Wp.eqS (S' := [(.ref r), (.ref o)]) rfl ?_
  refine Wp.putF rfl (host := "") (Or.inl (hw _ (List.mem_of_getElem? (i := 203) rfl))) Via.refl G1 E_o (Or.inr ⟨(hw _ (List.mem_of_getElem? (i := 204) rfl)), rfl, rfl⟩) (hw _ (List.mem_of_getElem? (i := 100) rfl)) (ty := (.object "java/util/List")) (by decide) rfl rfl d19_22 (pc' := 25) rfl (Or.inl (by simp)) (Sfe.exa E_o (by decide) (by decide)) (fun h5 W5 Fh5 => ?_)
  replace V_d := V_d.other W5 ne_d_o
  replace E_d := E_d.wr W5
  replace E_b := E_b.wr W5
  replace F_e := F_e.other W5 (Or.inl ne_b_o)
  replace F_s := F_s.other W5 (Or.inl ne_b_o)
  replace E_e0 := E_e0.wr W5
  replace E_o := E_o.wr W5
  replace E_s := E_s.wr W5
  replace G0 := G0.other W5 (Or.inr (slot_ne (Or.inr (hw _ (List.mem_of_getElem? (i := 115) rfl))) (Or.inr (hw _ (List.mem_of_getElem? (i := 204) rfl))) (by decide) (t := (.object "java/lang/String")) (t' := (.object "java/util/List")) (by decide) (by decide)))
  replace G2 := G2.other W5 (Or.inr (slot_ne (Or.inr (hw _ (List.mem_of_getElem? (i := 206) rfl))) (Or.inr (hw _ (List.mem_of_getElem? (i := 204) rfl))) (by decide) (t := (.object "com/example/rootward/rootward/policy/Condition")) (t' := (.object "java/util/List")) (by decide) (by decide)))
  replace G1 := Fh5
  refine Wp.aloadN d19_25 (pc' := 26) rfl rfl rfl ?_
  refine Wp.aloadN d19_26 (pc' := 27) rfl rfl rfl ?_
  refine Wp.putF rfl (host := "") (Or.inl (hw _ (List.mem_of_getElem? (i := 205) rfl))) Via.refl G2 E_o (Or.inr ⟨(hw _ (List.mem_of_getElem? (i := 206) rfl)), rfl, rfl⟩) (hw _ (List.mem_of_getElem? (i := 100) rfl)) (ty := (.object "com/example/rootward/rootward/policy/Condition")) (by decide) rfl rfl d19_27 (pc' := 30) rfl (Or.inl (by simp)) (Sfe.exa E_o (by decide) (by decide)) (fun h6 W6 Fh6 => ?_)
  replace V_d := V_d.other W6 ne_d_o
  replace E_d := E_d.wr W6
  replace E_b := E_b.wr W6
  replace F_e := F_e.other W6 (Or.inl ne_b_o)
  replace F_s := F_s.other W6 (Or.inl ne_b_o)
  replace E_e0 := E_e0.wr W6
  replace E_o := E_o.wr W6
  replace E_s := E_s.wr W6
  replace G0 := G0.other W6 (Or.inr (slot_ne (Or.inr (hw _ (List.mem_of_getElem? (i := 115) rfl))) (Or.inr (hw _ (List.mem_of_getElem? (i := 206) rfl))) (by decide) (t := (.object "java/lang/String")) (t' := (.object "com/example/rootward/rootward/policy/Condition")) (by decide) (by decide)))
  replace G1 := G1.other W6 (Or.inr (slot_ne (Or.inr (hw _ (List.mem_of_getElem? (i := 204) rfl))) (Or.inr (hw _ (List.mem_of_getElem? (i := 206) rfl))) (by decide) (t := (.object "java/util/List")) (t' := (.object "com/example/rootward/rootward/policy/Condition")) (by decide) (by decide)))
  replace G2 := Fh6
  refine Wp.retn rfl d19_30 (by decide) (by decide) ?_
  exact ⟨rfl, G2⟩
theorem ef_ctBI_1r (m : MethodId) (x0 : Addr) (x1 : Addr) (x2 : Addr) (x3 : Addr) : entryFrame m #[(.ref x0), (.ref x1), (.ref x2), (.ref x3)] 4 = mkF m 0 #[.val (.ref x0), .val (.ref x1), .val (.ref x2), .val (.ref x3)] [] := by first | (simp [entryFrame, mkF, argsToLocals, Value.category]; done) | rfl
set_option maxRecDepth 65536 in
set_option maxHeartbeats 40000000 in
theorem ctBI_1r (l : Launch) (Z : State) (a0 : Array Value) (hw : ∀ d ∈ tables_1, d.before a0 Z = true) (hE : EW Z a0 []) (o s : Addr) (cc : Addr) (b d mr : Addr) (kd : ClassId) (e0 : Addr) (em : Addr) (h0 : Heap) (hO : Ext Z.heap h0) (ho0 : Z.heap.size ≤ o) (E_o : Exa Z h0 o "com/example/rootward/rootward/policy/Binding") (E_s : Exa Z h0 s "java/lang/String") (G0 : Fld Z h0 o "com/example/rootward/rootward/policy/Binding" "role" "Ljava/lang/String;" .null) (G1 : Fld Z h0 o "com/example/rootward/rootward/policy/Binding" "members" "Ljava/util/List;" .null) (G2 : Fld Z h0 o "com/example/rootward/rootward/policy/Binding" "condition" "Lcom/example/rootward/rootward/policy/Condition;" .null) (ne_b_o : b ≠ o) (ne_d_o : d ≠ o) (E_b : Exa Z h0 b "java/util/ArrayList") (F_e : Fld Z h0 b "java/util/ArrayList" "elementData" "[Ljava/lang/Object;" (.ref d)) (F_s : Fld Z h0 b "java/util/ArrayList" "size" "I" (.int 1)) (hM : Mir Z "[Ljava/lang/Object;" mr) (E_d : Exa Z h0 d "[Ljava/lang/Object;") (V_d : Arv Z h0 d kd (.object "java/lang/Object") (10 : Int32) [(.ref e0), .null, .null, .null, .null, .null, .null, .null, .null, .null] .null) (E_e0 : Exa Z h0 e0 "java/lang/String") (hem : Sta Z Z.heap "java/util/ImmutableCollections" "EMPTY" "Ljava/lang/Object;" (.ref em)) :
    Ct true l Z [] [] (⟨"com/example/rootward/rootward/policy/Binding", "<init>", "(Ljava/lang/String;Ljava/util/Collection;Lcom/example/rootward/rootward/policy/Condition;)V"⟩ : MethodName) prog_54_method_1_code 4 none ({ frames := 9, cells := 5, slots := 28, locals := 126 } : Room) #[(.ref o), (.ref s), (.ref b), (.ref cc)] h0 [] [o] (fun v h => v = none ∧ Fld Z h o "com/example/rootward/rootward/policy/Binding" "condition" "Lcom/example/rootward/rootward/policy/Condition;" (.ref cc)) := by
  refine Ct.of_wp (a0 := a0) (Ls := #[.val (.ref o), .val (.ref s), .val (.ref b), .val (.ref cc)]) (plainFor_of_name pn_com_example_rootward_rootward_policy_Binding) hE hO (by intro x hx; cases List.mem_singleton.mp hx; exact ho0) (fun m => ef_ctBI_1r m o s b cc) ?_
  refine Wp.aloadN d19_0 (pc' := 1) rfl rfl rfl ?_
  refine Wp.initO (W := 0) rfl (hw _ (List.mem_of_getElem? (i := 105) rfl)) (hw _ (List.mem_of_getElem? (i := 12) rfl)) (hw _ (List.mem_of_getElem? (i := 13) rfl)) d19_1 (pc' := 4) rfl rfl (by decide) (Nat.le_of_eq rfl) (by decide) ?_
  refine Wp.aloadN d19_4 (pc' := 5) rfl rfl rfl ?_
  refine Wp.aloadN d19_5 (pc' := 6) rfl rfl rfl ?_
  refine Wp.ldcO (nn := 16) rfl rfl (hw _ (List.mem_of_getElem? (i := 106) rfl)) (own_wS hw) d19_6 (pc' := 8) rfl (by decide) (by decide) (k' := 2) (n' := 20) rfl rfl (by decide) (by decide) (fun h1 c1 Xh1 => ?_)
  replace V_d := V_d.ext Xh1
  replace E_d := E_d.ext Xh1
  replace E_b := E_b.ext Xh1
  replace F_e := F_e.ext Xh1
  replace F_s := F_s.ext Xh1
  replace E_e0 := E_e0.ext Xh1
  replace E_o := E_o.ext Xh1
  replace E_s := E_s.ext Xh1
  replace G0 := G0.ext Xh1
  replace G1 := G1.ext Xh1
  replace G2 := G2.ext Xh1
  refine Wp.old fun hOc => ?_
  refine Wp.callS (W := 1) (argsL := [(.ref s), (.ref c1)]) (rest := [(.ref o)]) rfl (ctRNN l Z a0 hw hE s c1 h1 hOc) (hw _ (List.mem_of_getElem? (i := 109) rfl)) (hw _ (List.mem_of_getElem? (i := 110) rfl)) (hw _ (List.mem_of_getElem? (i := 112) rfl)) (hw _ (List.mem_of_getElem? (i := 111) rfl)) (by decide) (lenOf pd__Ljava_lang_Object_Ljava_lang_String__Ljava_lang_Object_ rfl) d19_8 rfl rfl rfl (Nat.le_of_eq rfl) (pc' := 11) rfl nofun nofun (by decide) (by decide) (k' := 2) (n' := 20) rfl rfl (by decide) (by decide) (fun vh2 h2 zh2 Kh2 qh2 => ?_)
  obtain rfl := qh2
  replace V_d := V_d.keep Kh2 nin0
  replace E_d := E_d.keep Kh2
  replace E_b := E_b.keep Kh2
  replace F_e := F_e.keep Kh2 nin0
  replace F_s := F_s.keep Kh2 nin0
  replace E_e0 := E_e0.keep Kh2
  replace E_o := E_o.keep Kh2
  replace E_s := E_s.keep Kh2
  replace G0 := G0.keep Kh2 nin0
  replace G1 := G1.keep Kh2 nin0
  replace G2 := G2.keep Kh2 nin0
  refine Wp.eqS (S' := [(.ref s), (.ref o)]) rfl ?_
  refine Wp.castY rfl (hw _ (List.mem_of_getElem? (i := 113) rfl)) (Ins.self E_s) d19_11 (pc' := 14) rfl ?_
  refine Wp.putF rfl (host := "") (Or.inl (hw _ (List.mem_of_getElem? (i := 114) rfl))) Via.refl G0 E_o (Or.inr ⟨(hw _ (List.mem_of_getElem? (i := 115) rfl)), rfl, rfl⟩) (hw _ (List.mem_of_getElem? (i := 100) rfl)) (ty := (.object "java/lang/String")) (by decide) rfl rfl d19_14 (pc' := 17) rfl (Or.inl (by simp)) (Sfe.exa E_o (by decide) (by decide)) (fun h3 W3 Fh3 => ?_)
  replace V_d := V_d.other W3 ne_d_o
  replace E_d := E_d.wr W3
  replace E_b := E_b.wr W3
  replace F_e := F_e.other W3 (Or.inl ne_b_o)
  replace F_s := F_s.other W3 (Or.inl ne_b_o)
  replace E_e0 := E_e0.wr W3
  replace E_o := E_o.wr W3
  replace E_s := E_s.wr W3
  replace G1 := G1.other W3 (Or.inr (slot_ne (Or.inr (hw _ (List.mem_of_getElem? (i := 204) rfl))) (Or.inr (hw _ (List.mem_of_getElem? (i := 115) rfl))) (by decide) (t := (.object "java/util/List")) (t' := (.object "java/lang/String")) (by decide) (by decide)))
  replace G2 := G2.other W3 (Or.inr (slot_ne (Or.inr (hw _ (List.mem_of_getElem? (i := 206) rfl))) (Or.inr (hw _ (List.mem_of_getElem? (i := 115) rfl))) (by decide) (t := (.object "com/example/rootward/rootward/policy/Condition")) (t' := (.object "java/lang/String")) (by decide) (by decide)))
  replace G0 := Fh3
  refine Wp.aloadN d19_17 (pc' := 18) rfl rfl rfl ?_
  refine Wp.aloadN d19_18 (pc' := 19) rfl rfl rfl ?_
  refine Wp.old fun hOc => ?_
  refine Wp.callS (W := 1) (argsL := [(.ref b)]) (rest := [(.ref o)]) rfl (ctCO_1 l Z a0 hw hE b d mr kd e0 em h3 hOc E_b F_e F_s hM E_d V_d E_e0 hem) (hw _ (List.mem_of_getElem? (i := 116) rfl)) (hw _ (List.mem_of_getElem? (i := 117) rfl)) (hw _ (List.mem_of_getElem? (i := 119) rfl)) (hw _ (List.mem_of_getElem? (i := 118) rfl)) (by decide) (lenOf pd__Ljava_util_Collection__Ljava_util_List_ rfl) d19_19 rfl rfl rfl (Nat.le_of_eq rfl) (pc' := 22) rfl nofun nofun (by decide) (by decide) (k' := 5) (n' := 28) rfl rfl (by decide) (by decide) (fun vh4 h4 zh4 Kh4 qh4 => ?_)
  obtain ⟨r, rfl⟩ := qh4
  replace V_d := V_d.keep Kh4 nin0
  replace E_d := E_d.keep Kh4
  replace E_b := E_b.keep Kh4
  replace F_e := F_e.keep Kh4 nin0
  replace F_s := F_s.keep Kh4 nin0
  replace E_e0 := E_e0.keep Kh4
  replace E_o := E_o.keep Kh4
  replace E_s := E_s.keep Kh4
  replace G0 := G0.keep Kh4 nin0
  replace G1 := G1.keep Kh4 nin0
  replace G2 := G2.keep Kh4 nin0
  refine Wp.eqS (S' := [(.ref r), (.ref o)]) rfl ?_
  refine Wp.putF rfl (host := "") (Or.inl (hw _ (List.mem_of_getElem? (i := 203) rfl))) Via.refl G1 E_o (Or.inr ⟨(hw _ (List.mem_of_getElem? (i := 204) rfl)), rfl, rfl⟩) (hw _ (List.mem_of_getElem? (i := 100) rfl)) (ty := (.object "java/util/List")) (by decide) rfl rfl d19_22 (pc' := 25) rfl (Or.inl (by simp)) (Sfe.exa E_o (by decide) (by decide)) (fun h5 W5 Fh5 => ?_)
  replace V_d := V_d.other W5 ne_d_o
  replace E_d := E_d.wr W5
  replace E_b := E_b.wr W5
  replace F_e := F_e.other W5 (Or.inl ne_b_o)
  replace F_s := F_s.other W5 (Or.inl ne_b_o)
  replace E_e0 := E_e0.wr W5
  replace E_o := E_o.wr W5
  replace E_s := E_s.wr W5
  replace G0 := G0.other W5 (Or.inr (slot_ne (Or.inr (hw _ (List.mem_of_getElem? (i := 115) rfl))) (Or.inr (hw _ (List.mem_of_getElem? (i := 204) rfl))) (by decide) (t := (.object "java/lang/String")) (t' := (.object "java/util/List")) (by decide) (by decide)))
  replace G2 := G2.other W5 (Or.inr (slot_ne (Or.inr (hw _ (List.mem_of_getElem? (i := 206) rfl))) (Or.inr (hw _ (List.mem_of_getElem? (i := 204) rfl))) (by decide) (t := (.object "com/example/rootward/rootward/policy/Condition")) (t' := (.object "java/util/List")) (by decide) (by decide)))
  replace G1 := Fh5
  refine Wp.aloadN d19_25 (pc' := 26) rfl rfl rfl ?_
  refine Wp.aloadN d19_26 (pc' := 27) rfl rfl rfl ?_
  refine Wp.putF rfl (host := "") (Or.inl (hw _ (List.mem_of_getElem? (i := 205) rfl))) Via.refl G2 E_o (Or.inr ⟨(hw _ (List.mem_of_getElem? (i := 206) rfl)), rfl, rfl⟩) (hw _ (List.mem_of_getElem? (i := 100) rfl)) (ty := (.object "com/example/rootward/rootward/policy/Condition")) (by decide) rfl rfl d19_27 (pc' := 30) rfl (Or.inl (by simp)) (Sfe.exa E_o (by decide) (by decide)) (fun h6 W6 Fh6 => ?_)
  replace V_d := V_d.other W6 ne_d_o
  replace E_d := E_d.wr W6
  replace E_b := E_b.wr W6
  replace F_e := F_e.other W6 (Or.inl ne_b_o)
  replace F_s := F_s.other W6 (Or.inl ne_b_o)
  replace E_e0 := E_e0.wr W6
  replace E_o := E_o.wr W6
  replace E_s := E_s.wr W6
  replace G0 := G0.other W6 (Or.inr (slot_ne (Or.inr (hw _ (List.mem_of_getElem? (i := 115) rfl))) (Or.inr (hw _ (List.mem_of_getElem? (i := 206) rfl))) (by decide) (t := (.object "java/lang/String")) (t' := (.object "com/example/rootward/rootward/policy/Condition")) (by decide) (by decide)))
  replace G1 := G1.other W6 (Or.inr (slot_ne (Or.inr (hw _ (List.mem_of_getElem? (i := 204) rfl))) (Or.inr (hw _ (List.mem_of_getElem? (i := 206) rfl))) (by decide) (t := (.object "java/util/List")) (t' := (.object "com/example/rootward/rootward/policy/Condition")) (by decide) (by decide)))
  replace G2 := Fh6
  refine Wp.retn rfl d19_30 (by decide) (by decide) ?_
  exact ⟨rfl, G2⟩
theorem ef_ctC3_2 (m : MethodId) (x0 : Addr) (x1 : Int32) (x2 : Addr) : entryFrame m #[(.ref x0), (.int x1), (.ref x2)] 4 = mkF m 0 #[.val (.ref x0), .val (.int x1), .val (.ref x2), .unset] [] := by first | (simp [entryFrame, mkF, argsToLocals, Value.category]; done) | rfl
set_option maxRecDepth 65536 in
set_option maxHeartbeats 40000000 in
theorem ctC3_2 (l : Launch) (Z : State) (a0 : Array Value) (hw : ∀ d ∈ tables_1, d.before a0 Z = true) (hE : EW Z a0 []) (d mr : Addr) (kd : ClassId) (e0 : Addr) (e1 : Addr) (h0 : Heap) (hO : Ext Z.heap h0) (hM : Mir Z "[Ljava/lang/Object;" mr) (V_d : Arv Z h0 d kd (.object "java/lang/Object") (10 : Int32) [(.ref e0), (.ref e1), .null, .null, .null, .null, .null, .null, .null, .null] .null) (E_e0 : Exa Z h0 e0 "java/lang/String") (E_e1 : Exa Z h0 e1 "java/lang/String") :
    Ct true l Z [] [] (⟨"java/util/Arrays", "copyOf", "([Ljava/lang/Object;ILjava/lang/Class;)[Ljava/lang/Object;"⟩ : MethodName) jdk_65_method_120_code 4 (some (.array (.object "java/lang/Object"))) ({ frames := 1, cells := 1, slots := 2, locals := 60 } : Room) #[(.ref d), (.int (2 : Int32)), (.ref mr)] h0 [] [] (fun v h => ∃ u ku, v = some (.ref u) ∧ h0.size ≤ u ∧ Arv Z h u ku (.object "java/lang/Object") (2 : Int32) [(.ref e0), (.ref e1)] .null) := by
  refine Ct.of_wp (a0 := a0) (Ls := #[.val (.ref d), .val (.int (2 : Int32)), .val (.ref mr), .unset]) (plainFor_of_name pn_java_util_Arrays) hE hO nofun (fun m => ef_ctC3_2 m d (2 : Int32) mr) ?_
  refine Wp.aloadN d26_0 (pc' := 1) rfl rfl rfl ?_
  refine Wp.ldcK rfl (hw _ (List.mem_of_getElem? (i := 160) rfl)) hM d26_1 (pc' := 3) rfl ?_
  refine Wp.acmp_ne (pc1 := 13) (pc' := 6) rfl rfl d26_3 (by decide) (by decide) rfl (fun hc1 => by exact absurd rfl hc1) (fun hc1 => ?_)
  refine Wp.iloadN d26_6 (pc' := 7) rfl rfl ?_
  refine Wp.newRE (cap := 2) rfl (hw _ (List.mem_of_getElem? (i := 161) rfl)) (hw _ (List.mem_of_getElem? (i := 97) rfl)) (ad := "[Ljava/lang/Object;") (by decide) (by decide) (by decide) (by decide) d26_7 (pc' := 10) rfl (k' := 1) (n' := 2) rfl rfl (by decide) (by decide) (fun h2 b2 k_b2 g_b2 sz_b2 Xh2 V_b2 O_b2 E_b2 => ?_)
  have ne_d_b2 : d ≠ b2 := Nat.ne_of_lt (Nat.lt_of_lt_of_eq V_d.lt g_b2.symm)
  have ne_e0_b2 : e0 ≠ b2 := Nat.ne_of_lt (Nat.lt_of_lt_of_eq E_e0.lt g_b2.symm)
  have ne_e1_b2 : e1 ≠ b2 := Nat.ne_of_lt (Nat.lt_of_lt_of_eq E_e1.lt g_b2.symm)
  replace V_d := V_d.ext Xh2
  replace E_e0 := E_e0.ext Xh2
  replace E_e1 := E_e1.ext Xh2
  replace V_b2 : Arv Z h2 b2 k_b2 (.object "java/lang/Object") (2 : Int32) [.null, .null] .null := V_b2.pad (pad_rep [] .null 2)
  refine Wp.goto (pc' := 24) d26_10 (by decide) (by decide) ?_
  refine Wp.astoreN (l' := #[.val (.ref d), .val (.int (2 : Int32)), .val (.ref mr), .val (.ref b2)]) d26_24 (pc' := 25) rfl rfl rfl ?_
  refine Wp.aloadN d26_25 (pc' := 26) rfl rfl rfl ?_
  refine Wp.iconst (x := (0 : Int32)) d26_26 (pc' := 27) rfl rfl ?_
  refine Wp.aloadN d26_27 (pc' := 28) rfl rfl rfl ?_
  refine Wp.iconst (x := (0 : Int32)) d26_28 (pc' := 29) rfl rfl ?_
  refine Wp.aloadN d26_29 (pc' := 30) rfl rfl rfl ?_
  refine Wp.alen V_d d26_30 (pc' := 31) rfl ?_
  refine Wp.iloadN d26_31 (pc' := 32) rfl rfl ?_
  refine Wp.old fun hOc => ?_
  refine Wp.callS (W := 4) (argsL := [(.int (10 : Int32)), (.int (2 : Int32))]) (rest := [(.int (0 : Int32)), (.ref b2), (.int (0 : Int32)), (.ref d)]) rfl (ctMIN l Z a0 hw hE (10 : Int32) (2 : Int32) h2 hOc) (hw _ (List.mem_of_getElem? (i := 162) rfl)) (hw _ (List.mem_of_getElem? (i := 163) rfl)) (hw _ (List.mem_of_getElem? (i := 164) rfl)) (hw _ (List.mem_of_getElem? (i := 94) rfl)) (by decide) (lenOf pd__II_I rfl) d26_32 rfl rfl rfl (Nat.le_of_eq rfl) (pc' := 35) rfl nofun nofun (by decide) (by decide) (k' := 1) (n' := 2) rfl rfl (by decide) (by decide) (fun vh3 h3 zh3 Kh3 qh3 => ?_)
  obtain rfl : vh3 = some (.int (2 : Int32)) := qh3.trans (by rw [if_pos (by decide)])
  replace V_d := V_d.keep Kh3 nin0
  replace E_e0 := E_e0.keep Kh3
  replace E_e1 := E_e1.keep Kh3
  replace V_b2 := V_b2.keep Kh3 nin0
  replace E_b2 := E_b2.keep Kh3
  refine Wp.eqS (S' := [(.int (2 : Int32)), (.int (0 : Int32)), (.ref b2), (.int (0 : Int32)), (.ref d)]) rfl ?_
  refine Wp.copy (W := 0) (us := [(.ref e0), (.ref e1)]) rfl rfl (hw _ (List.mem_of_getElem? (i := 165) rfl)) (hw _ (List.mem_of_getElem? (i := 168) rfl)) (hw _ (List.mem_of_getElem? (i := 166) rfl)) (hw _ (List.mem_of_getElem? (i := 167) rfl)) V_d V_b2 (Or.inr ⟨rfl, rfl, ⟨(by obtain ⟨cl, A, qk, -⟩ := V_b2; exact Sto.ofV A qk O_b2 (Ins.of_exa E_e0 (hw _ (List.mem_of_getElem? (i := 98) rfl)))), ⟨(by obtain ⟨cl, A, qk, -⟩ := V_b2; exact Sto.ofV A qk O_b2 (Ins.of_exa E_e1 (hw _ (List.mem_of_getElem? (i := 98) rfl)))), trivial⟩⟩⟩) (by decide) (by decide) (by decide) (by decide) (by decide) rfl (Nat.le_of_ble_eq_true rfl) sz_b2 (Sfe.mem (by simp)) rfl d26_35 (pc' := 38) rfl (by decide) (Nat.le_of_eq rfl) (by decide) (fun h4 Kh4 Vh4 => ?_)
  clear V_b2
  have V_b2 : Arv Z h4 b2 k_b2 (.object "java/lang/Object") (2 : Int32) [(.ref e0), (.ref e1)] .null := Vh4
  refine Wp.aloadN d26_38 (pc' := 39) rfl rfl rfl ?_
  refine Wp.retA rfl rfl rfl d26_39 (by decide) (by decide) ?_
  exact ⟨_, _, rfl, sz_b2, V_b2⟩
theorem ef_ctC2_2 (m : MethodId) (x0 : Addr) (x1 : Int32) : entryFrame m #[(.ref x0), (.int x1)] 2 = mkF m 0 #[.val (.ref x0), .val (.int x1)] [] := by first | (simp [entryFrame, mkF, argsToLocals, Value.category]; done) | rfl
set_option maxRecDepth 65536 in
set_option maxHeartbeats 40000000 in
theorem ctC2_2 (l : Launch) (Z : State) (a0 : Array Value) (hw : ∀ d ∈ tables_1, d.before a0 Z = true) (hE : EW Z a0 []) (d mr : Addr) (kd : ClassId) (e0 : Addr) (e1 : Addr) (h0 : Heap) (hO : Ext Z.heap h0) (hM : Mir Z "[Ljava/lang/Object;" mr) (E_d : Exa Z h0 d "[Ljava/lang/Object;") (V_d : Arv Z h0 d kd (.object "java/lang/Object") (10 : Int32) [(.ref e0), (.ref e1), .null, .null, .null, .null, .null, .null, .null, .null] .null) (E_e0 : Exa Z h0 e0 "java/lang/String") (E_e1 : Exa Z h0 e1 "java/lang/String") :
    Ct true l Z [] [] (⟨"java/util/Arrays", "copyOf", "([Ljava/lang/Object;I)[Ljava/lang/Object;"⟩ : MethodName) jdk_65_method_119_code 2 (some (.array (.object "java/lang/Object"))) ({ frames := 2, cells := 1, slots := 2, locals := 75 } : Room) #[(.ref d), (.int (2 : Int32))] h0 [] [] (fun v h => ∃ u ku, v = some (.ref u) ∧ h0.size ≤ u ∧ Arv Z h u ku (.object "java/lang/Object") (2 : Int32) [(.ref e0), (.ref e1)] .null) := by
  refine Ct.of_wp (a0 := a0) (Ls := #[.val (.ref d), .val (.int (2 : Int32))]) (plainFor_of_name pn_java_util_Arrays) hE hO nofun (fun m => ef_ctC2_2 m d (2 : Int32)) ?_
  refine Wp.aloadN d25_0 (pc' := 1) rfl rfl rfl ?_
  refine Wp.iloadN d25_1 (pc' := 2) rfl rfl ?_
  refine Wp.aloadN d25_2 (pc' := 3) rfl rfl rfl ?_
  refine Wp.getCls (W := 2) rfl (hw _ (List.mem_of_getElem? (i := 151) rfl)) (hw _ (List.mem_of_getElem? (i := 152) rfl)) (hw _ (List.mem_of_getElem? (i := 128) rfl)) (hw _ (List.mem_of_getElem? (i := 154) rfl)) (hw _ (List.mem_of_getElem? (i := 153) rfl)) (hw _ (List.mem_of_getElem? (i := 155) rfl)) E_d hM rfl d25_3 (pc' := 6) rfl (by decide) (Nat.le_of_eq rfl) (by decide) ?_
  refine Wp.old fun hOc => ?_
  refine Wp.callS (W := 0) (argsL := [(.ref d), (.int (2 : Int32)), (.ref mr)]) (rest := []) rfl (ctC3_2 l Z a0 hw hE d mr kd e0 e1 h0 hOc hM V_d E_e0 E_e1) (hw _ (List.mem_of_getElem? (i := 157) rfl)) (hw _ (List.mem_of_getElem? (i := 158) rfl)) (hw _ (List.mem_of_getElem? (i := 159) rfl)) (hw _ (List.mem_of_getElem? (i := 149) rfl)) (by decide) (lenOf pd___Ljava_lang_Object_ILjava_lang_Class___Ljava_lang_Object_ rfl) d25_6 rfl rfl rfl (Nat.le_of_eq rfl) (pc' := 9) rfl nofun nofun (by decide) (by decide) (k' := 1) (n' := 2) rfl rfl (by decide) (by decide) (fun vh1 h1 zh1 Kh1 qh1 => ?_)
  obtain ⟨u, k_u, rfl, sb_u, V_u⟩ := qh1
  have ne_d_u : d ≠ u := Nat.ne_of_lt (Nat.lt_of_lt_of_le V_d.lt sb_u)
  have ne_e0_u : e0 ≠ u := Nat.ne_of_lt (Nat.lt_of_lt_of_le E_e0.lt sb_u)
  have ne_e1_u : e1 ≠ u := Nat.ne_of_lt (Nat.lt_of_lt_of_le E_e1.lt sb_u)
  replace V_d := V_d.keep Kh1 nin0
  replace E_d := E_d.keep Kh1
  replace E_e0 := E_e0.keep Kh1
  replace E_e1 := E_e1.keep Kh1
  refine Wp.eqS (S' := [(.ref u)]) rfl ?_
  have sz_u : h0.size ≤ u := Nat.le_trans zh1 sb_u
  refine Wp.retA rfl rfl rfl d25_9 (by decide) (by decide) ?_
  exact ⟨_, _, rfl, sz_u, V_u⟩
theorem ef_ctTA_2 (m : MethodId) (x0 : Addr) : entryFrame m #[(.ref x0)] 1 = mkF m 0 #[.val (.ref x0)] [] := by first | (simp [entryFrame, mkF, argsToLocals, Value.category]; done) | rfl
set_option maxRecDepth 65536 in
set_option maxHeartbeats 40000000 in
theorem ctTA_2 (l : Launch) (Z : State) (a0 : Array Value) (hw : ∀ d ∈ tables_1, d.before a0 Z = true) (hE : EW Z a0 []) (b d mr : Addr) (kd : ClassId) (e0 : Addr) (e1 : Addr) (h0 : Heap) (hO : Ext Z.heap h0) (E_b : Exa Z h0 b "java/util/ArrayList") (F_e : Fld Z h0 b "java/util/ArrayList" "elementData" "[Ljava/lang/Object;" (.ref d)) (F_s : Fld Z h0 b "java/util/ArrayList" "size" "I" (.int 2)) (hM : Mir Z "[Ljava/lang/Object;" mr) (E_d : Exa Z h0 d "[Ljava/lang/Object;") (V_d : Arv Z h0 d kd (.object "java/lang/Object") (10 : Int32) [(.ref e0), (.ref e1), .null, .null, .null, .null, .null, .null, .null, .null] .null) (E_e0 : Exa Z h0 e0 "java/lang/String") (E_e1 : Exa Z h0 e1 "java/lang/String") :
    Ct true l Z [] [] (⟨"java/util/ArrayList", "toArray", "()[Ljava/lang/Object;"⟩ : MethodName) jdk_38_method_16_code 1 (some (.array (.object "java/lang/Object"))) ({ frames := 3, cells := 1, slots := 2, locals := 88 } : Room) #[(.ref b)] h0 [] [] (fun v h => ∃ u ku, v = some (.ref u) ∧ h0.size ≤ u ∧ Arv Z h u ku (.object "java/lang/Object") (2 : Int32) [(.ref e0), (.ref e1)] .null) := by
  refine Ct.of_wp (a0 := a0) (Ls := #[.val (.ref b)]) (plainFor_of_name pn_java_util_ArrayList) hE hO nofun (fun m => ef_ctTA_2 m b) ?_
  refine Wp.aloadN d24_0 (pc' := 1) rfl rfl rfl ?_
  refine Wp.getF rfl (host := "") (Or.inl (hw _ (List.mem_of_getElem? (i := 52) rfl))) Via.refl F_e d24_1 (pc' := 4) rfl ?_
  refine Wp.aloadN d24_4 (pc' := 5) rfl rfl rfl ?_
  refine Wp.getF rfl (host := "") (Or.inl (hw _ (List.mem_of_getElem? (i := 75) rfl))) Via.refl F_s d24_5 (pc' := 8) rfl ?_
  refine Wp.old fun hOc => ?_
  refine Wp.callS (W := 0) (argsL := [(.ref d), (.int (2 : Int32))]) (rest := []) rfl (ctC2_2 l Z a0 hw hE d mr kd e0 e1 h0 hOc hM E_d V_d E_e0 E_e1) (hw _ (List.mem_of_getElem? (i := 147) rfl)) (hw _ (List.mem_of_getElem? (i := 148) rfl)) (hw _ (List.mem_of_getElem? (i := 150) rfl)) (hw _ (List.mem_of_getElem? (i := 149) rfl)) (by decide) (lenOf pd___Ljava_lang_Object_I__Ljava_lang_Object_ rfl) d24_8 rfl rfl rfl (Nat.le_of_eq rfl) (pc' := 11) rfl nofun nofun (by decide) (by decide) (k' := 1) (n' := 2) rfl rfl (by decide) (by decide) (fun vh1 h1 zh1 Kh1 qh1 => ?_)
  obtain ⟨u, k_u, rfl, sb_u, V_u⟩ := qh1
  have ne_d_u : d ≠ u := Nat.ne_of_lt (Nat.lt_of_lt_of_le V_d.lt sb_u)
  have ne_b_u : b ≠ u := Nat.ne_of_lt (Nat.lt_of_lt_of_le E_b.lt sb_u)
  have ne_e0_u : e0 ≠ u := Nat.ne_of_lt (Nat.lt_of_lt_of_le E_e0.lt sb_u)
  have ne_e1_u : e1 ≠ u := Nat.ne_of_lt (Nat.lt_of_lt_of_le E_e1.lt sb_u)
  replace V_d := V_d.keep Kh1 nin0
  replace E_d := E_d.keep Kh1
  replace E_b := E_b.keep Kh1
  replace F_e := F_e.keep Kh1 nin0
  replace F_s := F_s.keep Kh1 nin0
  replace E_e0 := E_e0.keep Kh1
  replace E_e1 := E_e1.keep Kh1
  refine Wp.eqS (S' := [(.ref u)]) rfl ?_
  have sz_u : h0.size ≤ u := Nat.le_trans zh1 sb_u
  refine Wp.retA rfl rfl rfl d24_11 (by decide) (by decide) ?_
  exact ⟨_, _, rfl, sz_u, V_u⟩
theorem ef_ctOF_2 (m : MethodId) (x0 : Addr) : entryFrame m #[(.ref x0)] 2 = mkF m 0 #[.val (.ref x0), .unset] [] := by first | (simp [entryFrame, mkF, argsToLocals, Value.category]; done) | rfl
theorem pd__Ljava_lang_Object_Ljava_lang_Object__V : parseMethodDescriptor "(Ljava/lang/Object;Ljava/lang/Object;)V" = some ⟨[(.object "java/lang/Object"), (.object "java/lang/Object")], none⟩ := by decide +kernel
set_option maxRecDepth 65536 in
set_option maxHeartbeats 40000000 in
theorem ctOF_2 (l : Launch) (Z : State) (a0 : Array Value) (hw : ∀ d ∈ tables_1, d.before a0 Z = true) (hE : EW Z a0 []) (u em : Addr) (ku : ClassId) (e0 : Addr) (e1 : Addr) (h0 : Heap) (hO : Ext Z.heap h0) (V_u : Arv Z h0 u ku (.object "java/lang/Object") (2 : Int32) [(.ref e0), (.ref e1)] .null) (hem : Sta Z Z.heap "java/util/ImmutableCollections" "EMPTY" "Ljava/lang/Object;" (.ref em)) (E_e0 : Exa Z h0 e0 "java/lang/String") (E_e1 : Exa Z h0 e1 "java/lang/String") :
    Ct true l Z [] [] (⟨"java/util/List", "of", "([Ljava/lang/Object;)Ljava/util/List;"⟩ : MethodName) jdk_40_method_47_code 2 (some (.object "java/util/List")) ({ frames := 6, cells := 2, slots := 5, locals := 77 } : Room) #[(.ref u)] h0 [] [] (fun v h => ∃ r : Addr, v = some (.ref r)) := by
  refine Ct.of_wp (a0 := a0) (Ls := #[.val (.ref u), .unset]) (plainFor_of_name pn_java_util_List) hE hO nofun (fun m => ef_ctOF_2 m u) ?_
  refine Wp.aloadN d28_0 (pc' := 1) rfl rfl rfl ?_
  refine Wp.alen V_u d28_1 (pc' := 2) rfl ?_
  refine Wp.tswIn (pc' := 45) d28_2 (by decide) rfl (by decide) (by decide) ?_
  refine Wp.new rfl (hw _ (List.mem_of_getElem? (i := 233) rfl)) (hw _ (List.mem_of_getElem? (i := 234) rfl)) (hw _ (List.mem_of_getElem? (i := 235) rfl)) d28_45 (pc' := 48) rfl (k' := 1) (n' := 2) rfl rfl (by decide) (by decide) (fun h1 b1 g_b1 sz_b1 Xh1 E_b1 D_b1 => ?_)
  have ne_u_b1 : u ≠ b1 := Nat.ne_of_lt (Nat.lt_of_lt_of_eq V_u.lt g_b1.symm)
  have ne_e0_b1 : e0 ≠ b1 := Nat.ne_of_lt (Nat.lt_of_lt_of_eq E_e0.lt g_b1.symm)
  have ne_e1_b1 : e1 ≠ b1 := Nat.ne_of_lt (Nat.lt_of_lt_of_eq E_e1.lt g_b1.symm)
  replace V_u := V_u.ext Xh1
  replace E_e0 := E_e0.ext Xh1
  replace E_e1 := E_e1.ext Xh1
  have F_e0_b1 : Fld Z h1 b1 "java/util/ImmutableCollections$List12" "e0" "Ljava/lang/Object;" .null := D_b1 (Or.inr (hw _ (List.mem_of_getElem? (i := 246) rfl))) (ty := (.object "java/lang/Object")) (by decide)
  have F_e1_b1 : Fld Z h1 b1 "java/util/ImmutableCollections$List12" "e1" "Ljava/lang/Object;" .null := D_b1 (Or.inr (hw _ (List.mem_of_getElem? (i := 248) rfl))) (ty := (.object "java/lang/Object")) (by decide)
  clear D_b1
  refine Wp.dup d28_48 (pc' := 49) rfl rfl ?_
  refine Wp.aloadN d28_49 (pc' := 50) rfl rfl rfl ?_
  refine Wp.iconst (x := (0 : Int32)) d28_50 (pc' := 51) rfl rfl ?_
  refine Wp.aaload V_u rfl (by decide) (by decide) (v := (.ref e0)) rfl d28_51 (pc' := 52) rfl ?_
  refine Wp.aloadN d28_52 (pc' := 53) rfl rfl rfl ?_
  refine Wp.iconst (x := (1 : Int32)) d28_53 (pc' := 54) rfl rfl ?_
  refine Wp.aaload V_u rfl (by decide) (by decide) (v := (.ref e1)) rfl d28_54 (pc' := 55) rfl ?_
  refine Wp.old fun hOc => ?_
  refine Wp.callI (a := b1) (W := 1) (argsL := [(.ref e0), (.ref e1)]) (rest := [(.ref b1)]) rfl (ctL2 l Z a0 hw hE b1 em e0 e1 h1 hOc (Nat.le_trans hO.1 sz_b1) E_b1 hem F_e0_b1 F_e1_b1) rfl rfl (hw _ (List.mem_of_getElem? (i := 236) rfl)) (hw _ (List.mem_of_getElem? (i := 237) rfl)) (hw _ (List.mem_of_getElem? (i := 239) rfl)) (hw _ (List.mem_of_getElem? (i := 235) rfl)) (by decide) (lenOf pd__Ljava_lang_Object_Ljava_lang_Object__V rfl) d28_55 rfl rfl rfl (Nat.le_of_eq rfl) (pc' := 58) rfl nofun (by intro x hx; simp only [List.mem_cons, List.not_mem_nil, or_false] at hx; rcases hx with rfl; exact (Or.inr sz_b1)) (by decide) (by decide) (k' := 1) (n' := 2) rfl rfl (by decide) (by decide) (fun vh2 h2 zh2 Kh2 qh2 => ?_)
  obtain rfl := qh2
  replace V_u := V_u.keep Kh2 (ninS ne_u_b1 nin0)
  replace E_e0 := E_e0.keep Kh2
  replace E_e1 := E_e1.keep Kh2
  replace E_b1 := E_b1.keep Kh2
  refine Wp.eqS (S' := [(.ref b1)]) rfl ?_
  refine Wp.retA rfl rfl rfl d28_58 (by decide) (by decide) ?_
  exact ⟨_, rfl⟩

theorem ef_ctLC_2 (m : MethodId) (x0 : Addr) : entryFrame m #[(.ref x0)] 2 = mkF m 0 #[.val (.ref x0), .unset] [] := by first | (simp [entryFrame, mkF, argsToLocals, Value.category]; done) | rfl
set_option maxRecDepth 65536 in
set_option maxHeartbeats 40000000 in
theorem ctLC_2 (l : Launch) (Z : State) (a0 : Array Value) (hw : ∀ d ∈ tables_1, d.before a0 Z = true) (hE : EW Z a0 []) (b d mr : Addr) (kd : ClassId) (e0 : Addr) (e1 : Addr) (em : Addr) (h0 : Heap) (hO : Ext Z.heap h0) (E_b : Exa Z h0 b "java/util/ArrayList") (F_e : Fld Z h0 b "java/util/ArrayList" "elementData" "[Ljava/lang/Object;" (.ref d)) (F_s : Fld Z h0 b "java/util/ArrayList" "size" "I" (.int 2)) (hM : Mir Z "[Ljava/lang/Object;" mr) (E_d : Exa Z h0 d "[Ljava/lang/Object;") (V_d : Arv Z h0 d kd (.object "java/lang/Object") (10 : Int32) [(.ref e0), (.ref e1), .null, .null, .null, .null, .null, .null, .null, .null] .null) (E_e0 : Exa Z h0 e0 "java/lang/String") (E_e1 : Exa Z h0 e1 "java/lang/String") (hem : Sta Z Z.heap "java/util/ImmutableCollections" "EMPTY" "Ljava/lang/Object;" (.ref em)) :
    Ct true l Z [] [] (⟨"java/util/ImmutableCollections", "listCopy", "(Ljava/util/Collection;)Ljava/util/List;"⟩ : MethodName) jdk_56_method_3_code 2 (some (.object "java/util/List")) ({ frames := 7, cells := 3, slots := 8, locals := 100 } : Room) #[(.ref b)] h0 [] [] (fun v h => ∃ r : Addr, v = some (.ref r)) := by
  refine Ct.of_wp (a0 := a0) (Ls := #[.val (.ref b), .unset]) (plainFor_of_name pn_java_util_ImmutableCollections) hE hO nofun (fun m => ef_ctLC_2 m b) ?_
  refine Wp.aloadN d22_0 (pc' := 1) rfl rfl rfl ?_
  refine Wp.instNo rfl (hw _ (List.mem_of_getElem? (i := 124) rfl)) E_b (ns_fin (hw _ (List.mem_of_getElem? (i := 125) rfl)) (NS.step (hw _ (List.mem_of_getElem? (i := 125) rfl)) (NS.step (hw _ (List.mem_of_getElem? (i := 126) rfl)) (NS.step (hw _ (List.mem_of_getElem? (i := 127) rfl)) (ns_root (hw _ (List.mem_of_getElem? (i := 128) rfl)) (hw _ (List.mem_of_getElem? (i := 234) rfl)) (by decide)) (by decide)) (by decide)) (by decide)) (hw _ (List.mem_of_getElem? (i := 234) rfl)) (by decide)) d22_1 (pc' := 4) rfl ?_
  refine Wp.if_ne (pc1 := 26) (pc' := 7) d22_4 (by decide) (by decide) rfl (fun hc1 => by exact absurd hc1 (by decide)) (fun hc1 => ?_)
  refine Wp.aloadN d22_7 (pc' := 8) rfl rfl rfl ?_
  refine Wp.instNo rfl (hw _ (List.mem_of_getElem? (i := 129) rfl)) E_b (ns_fin (hw _ (List.mem_of_getElem? (i := 125) rfl)) (NS.step (hw _ (List.mem_of_getElem? (i := 125) rfl)) (NS.step (hw _ (List.mem_of_getElem? (i := 126) rfl)) (NS.step (hw _ (List.mem_of_getElem? (i := 127) rfl)) (ns_root (hw _ (List.mem_of_getElem? (i := 128) rfl)) (hw _ (List.mem_of_getElem? (i := 179) rfl)) (by decide)) (by decide)) (by decide)) (by decide)) (hw _ (List.mem_of_getElem? (i := 179) rfl)) (by decide)) d22_8 (pc' := 11) rfl ?_
  refine Wp.if_eq (pc1 := 31) (pc' := 14) d22_11 (by decide) (by decide) rfl (fun hc2 => ?_) (fun hc2 => by exact absurd hc2 (by decide))
  refine Wp.aloadN d22_31 (pc' := 32) rfl rfl rfl ?_
  refine Wp.old fun hOc => ?_
  refine Wp.callF (a := b) (x' := (⟨"java/util/Collection", "isEmpty", "()Z"⟩ : MethodName)) (W := 0) (argsL := []) (rest := []) rfl (ctIE l Z a0 hw hE b (2 : Int32) h0 hOc F_s) (hw _ (List.mem_of_getElem? (i := 130) rfl)) (hw _ (List.mem_of_getElem? (i := 131) rfl)) (hw _ (List.mem_of_getElem? (i := 132) rfl)) (hw _ (List.mem_of_getElem? (i := 133) rfl)) (hw _ (List.mem_of_getElem? (i := 134) rfl)) (hw _ (List.mem_of_getElem? (i := 135) rfl)) rfl (hw _ (List.mem_of_getElem? (i := 136) rfl)) (hw _ (List.mem_of_getElem? (i := 137) rfl)) (hw _ (List.mem_of_getElem? (i := 138) rfl)) (hw _ (List.mem_of_getElem? (i := 32) rfl)) E_b (by decide) (lenOf pd___Z rfl) d22_32 rfl rfl rfl (Nat.le_of_eq rfl) (pc' := 37) rfl nofun nofun (by decide) (by decide) (k' := 0) (n' := 0) rfl rfl (by decide) (by decide) (fun vh3 h3 zh3 Kh3 qh3 => ?_)
  obtain rfl : vh3 = some (.int 0) := qh3.trans (by rw [if_neg (by decide)])
  replace V_d := V_d.keep Kh3 nin0
  replace E_d := E_d.keep Kh3
  replace E_b := E_b.keep Kh3
  replace F_e := F_e.keep Kh3 nin0
  replace F_s := F_s.keep Kh3 nin0
  replace E_e0 := E_e0.keep Kh3
  replace E_e1 := E_e1.keep Kh3
  refine Wp.eqS (S' := [(.int (0 : Int32))]) rfl ?_
  refine Wp.if_eq (pc1 := 44) (pc' := 40) d22_37 (by decide) (by decide) rfl (fun hc4 => ?_) (fun hc4 => by exact absurd hc4 (by decide))
  refine Wp.aloadN d22_44 (pc' := 45) rfl rfl rfl ?_
  refine Wp.old fun hOc => ?_
  refine Wp.callF (a := b) (x' := (⟨"java/util/Collection", "toArray", "()[Ljava/lang/Object;"⟩ : MethodName)) (W := 0) (argsL := []) (rest := []) rfl (ctTA_2 l Z a0 hw hE b d mr kd e0 e1 h3 hOc E_b F_e F_s hM E_d V_d E_e0 E_e1) (hw _ (List.mem_of_getElem? (i := 139) rfl)) (hw _ (List.mem_of_getElem? (i := 140) rfl)) (hw _ (List.mem_of_getElem? (i := 141) rfl)) (hw _ (List.mem_of_getElem? (i := 142) rfl)) (hw _ (List.mem_of_getElem? (i := 143) rfl)) (hw _ (List.mem_of_getElem? (i := 144) rfl)) rfl (hw _ (List.mem_of_getElem? (i := 145) rfl)) (hw _ (List.mem_of_getElem? (i := 137) rfl)) (hw _ (List.mem_of_getElem? (i := 146) rfl)) (hw _ (List.mem_of_getElem? (i := 32) rfl)) E_b (by decide) (lenOf pd____Ljava_lang_Object_ rfl) d22_45 rfl rfl rfl (Nat.le_of_eq rfl) (pc' := 50) rfl nofun nofun (by decide) (by decide) (k' := 1) (n' := 2) rfl rfl (by decide) (by decide) (fun vh5 h5 zh5 Kh5 qh5 => ?_)
  obtain ⟨u, k_u, rfl, sb_u, V_u⟩ := qh5
  have ne_d_u : d ≠ u := Nat.ne_of_lt (Nat.lt_of_lt_of_le V_d.lt sb_u)
  have ne_b_u : b ≠ u := Nat.ne_of_lt (Nat.lt_of_lt_of_le E_b.lt sb_u)
  have ne_e0_u : e0 ≠ u := Nat.ne_of_lt (Nat.lt_of_lt_of_le E_e0.lt sb_u)
  have ne_e1_u : e1 ≠ u := Nat.ne_of_lt (Nat.lt_of_lt_of_le E_e1.lt sb_u)
  replace V_d := V_d.keep Kh5 nin0
  replace E_d := E_d.keep Kh5
  replace E_b := E_b.keep Kh5
  replace F_e := F_e.keep Kh5 nin0
  replace F_s := F_s.keep Kh5 nin0
  replace E_e0 := E_e0.keep Kh5
  replace E_e1 := E_e1.keep Kh5
  refine Wp.eqS (S' := [(.ref u)]) rfl ?_
  have sz_u : h0.size ≤ u := Nat.le_trans zh5 sb_u
  refine Wp.old fun hOc => ?_
  refine Wp.callS (W := 0) (argsL := [(.ref u)]) (rest := []) rfl (ctOF_2 l Z a0 hw hE u em k_u e0 e1 h5 hOc V_u hem E_e0 E_e1) (hw _ (List.mem_of_getElem? (i := 169) rfl)) (hw _ (List.mem_of_getElem? (i := 170) rfl)) (hw _ (List.mem_of_getElem? (i := 171) rfl)) (hw _ (List.mem_of_getElem? (i := 118) rfl)) (by decide) (lenOf pd___Ljava_lang_Object__Ljava_util_List_ rfl) d22_50 rfl rfl rfl (Nat.le_of_eq rfl) (pc' := 53) rfl nofun nofun (by decide) (by decide) (k' := 3) (n' := 7) rfl rfl (by decide) (by decide) (fun vh6 h6 zh6 Kh6 qh6 => ?_)
  obtain ⟨r, rfl⟩ := qh6
  replace V_d := V_d.keep Kh6 nin0
  replace E_d := E_d.keep Kh6
  replace E_b := E_b.keep Kh6
  replace F_e := F_e.keep Kh6 nin0
  replace F_s := F_s.keep Kh6 nin0
  replace E_e0 := E_e0.keep Kh6
  replace E_e1 := E_e1.keep Kh6
  replace V_u := V_u.keep Kh6 nin0
  refine Wp.eqS (S' := [(.ref r)]) rfl ?_
  refine Wp.retA rfl rfl rfl d22_53 (by decide) (by decide) ?_
  exact ⟨_, rfl⟩
theorem ef_ctCO_2 (m : MethodId) (x0 : Addr) : entryFrame m #[(.ref x0)] 1 = mkF m 0 #[.val (.ref x0)] [] := by first | (simp [entryFrame, mkF, argsToLocals, Value.category]; done) | rfl
set_option maxRecDepth 65536 in
set_option maxHeartbeats 40000000 in
theorem ctCO_2 (l : Launch) (Z : State) (a0 : Array Value) (hw : ∀ d ∈ tables_1, d.before a0 Z = true) (hE : EW Z a0 []) (b d mr : Addr) (kd : ClassId) (e0 : Addr) (e1 : Addr) (em : Addr) (h0 : Heap) (hO : Ext Z.heap h0) (E_b : Exa Z h0 b "java/util/ArrayList") (F_e : Fld Z h0 b "java/util/ArrayList" "elementData" "[Ljava/lang/Object;" (.ref d)) (F_s : Fld Z h0 b "java/util/ArrayList" "size" "I" (.int 2)) (hM : Mir Z "[Ljava/lang/Object;" mr) (E_d : Exa Z h0 d "[Ljava/lang/Object;") (V_d : Arv Z h0 d kd (.object "java/lang/Object") (10 : Int32) [(.ref e0), (.ref e1), .null, .null, .null, .null, .null, .null, .null, .null] .null) (E_e0 : Exa Z h0 e0 "java/lang/String") (E_e1 : Exa Z h0 e1 "java/lang/String") (hem : Sta Z Z.heap "java/util/ImmutableCollections" "EMPTY" "Ljava/lang/Object;" (.ref em)) :
    Ct true l Z [] [] (⟨"java/util/List", "copyOf", "(Ljava/util/Collection;)Ljava/util/List;"⟩ : MethodName) jdk_40_method_48_code 1 (some (.object "java/util/List")) ({ frames := 8, cells := 3, slots := 8, locals := 113 } : Room) #[(.ref b)] h0 [] [] (fun v h => ∃ r : Addr, v = some (.ref r)) := by
  refine Ct.of_wp (a0 := a0) (Ls := #[.val (.ref b)]) (plainFor_of_name pn_java_util_List) hE hO nofun (fun m => ef_ctCO_2 m b) ?_
  refine Wp.aloadN d21_0 (pc' := 1) rfl rfl rfl ?_
  refine Wp.old fun hOc => ?_
  refine Wp.callS (W := 0) (argsL := [(.ref b)]) (rest := []) rfl (ctLC_2 l Z a0 hw hE b d mr kd e0 e1 em h0 hOc E_b F_e F_s hM E_d V_d E_e0 E_e1 hem) (hw _ (List.mem_of_getElem? (i := 120) rfl)) (hw _ (List.mem_of_getElem? (i := 121) rfl)) (hw _ (List.mem_of_getElem? (i := 123) rfl)) (hw _ (List.mem_of_getElem? (i := 122) rfl)) (by decide) (lenOf pd__Ljava_util_Collection__Ljava_util_List_ rfl) d21_1 rfl rfl rfl (Nat.le_of_eq rfl) (pc' := 4) rfl nofun nofun (by decide) (by decide) (k' := 3) (n' := 8) rfl rfl (by decide) (by decide) (fun vh1 h1 zh1 Kh1 qh1 => ?_)
  obtain ⟨r, rfl⟩ := qh1
  replace V_d := V_d.keep Kh1 nin0
  replace E_d := E_d.keep Kh1
  replace E_b := E_b.keep Kh1
  replace F_e := F_e.keep Kh1 nin0
  replace F_s := F_s.keep Kh1 nin0
  replace E_e0 := E_e0.keep Kh1
  replace E_e1 := E_e1.keep Kh1
  refine Wp.eqS (S' := [(.ref r)]) rfl ?_
  refine Wp.retA rfl rfl rfl d21_4 (by decide) (by decide) ?_
  exact ⟨_, rfl⟩
theorem ef_ctBI_2n (m : MethodId) (x0 : Addr) (x1 : Addr) (x2 : Addr) : entryFrame m #[(.ref x0), (.ref x1), (.ref x2), .null] 4 = mkF m 0 #[.val (.ref x0), .val (.ref x1), .val (.ref x2), .val .null] [] := by first | (simp [entryFrame, mkF, argsToLocals, Value.category]; done) | rfl
set_option maxRecDepth 65536 in
set_option maxHeartbeats 40000000 in
theorem ctBI_2n (l : Launch) (Z : State) (a0 : Array Value) (hw : ∀ d ∈ tables_1, d.before a0 Z = true) (hE : EW Z a0 []) (o s : Addr) (b d mr : Addr) (kd : ClassId) (e0 : Addr) (e1 : Addr) (em : Addr) (h0 : Heap) (hO : Ext Z.heap h0) (ho0 : Z.heap.size ≤ o) (E_o : Exa Z h0 o "com/example/rootward/rootward/policy/Binding") (E_s : Exa Z h0 s "java/lang/String") (G0 : Fld Z h0 o "com/example/rootward/rootward/policy/Binding" "role" "Ljava/lang/String;" .null) (G1 : Fld Z h0 o "com/example/rootward/rootward/policy/Binding" "members" "Ljava/util/List;" .null) (G2 : Fld Z h0 o "com/example/rootward/rootward/policy/Binding" "condition" "Lcom/example/rootward/rootward/policy/Condition;" .null) (ne_b_o : b ≠ o) (ne_d_o : d ≠ o) (E_b : Exa Z h0 b "java/util/ArrayList") (F_e : Fld Z h0 b "java/util/ArrayList" "elementData" "[Ljava/lang/Object;" (.ref d)) (F_s : Fld Z h0 b "java/util/ArrayList" "size" "I" (.int 2)) (hM : Mir Z "[Ljava/lang/Object;" mr) (E_d : Exa Z h0 d "[Ljava/lang/Object;") (V_d : Arv Z h0 d kd (.object "java/lang/Object") (10 : Int32) [(.ref e0), (.ref e1), .null, .null, .null, .null, .null, .null, .null, .null] .null) (E_e0 : Exa Z h0 e0 "java/lang/String") (E_e1 : Exa Z h0 e1 "java/lang/String") (hem : Sta Z Z.heap "java/util/ImmutableCollections" "EMPTY" "Ljava/lang/Object;" (.ref em)) :
    Ct true l Z [] [] (⟨"com/example/rootward/rootward/policy/Binding", "<init>", "(Ljava/lang/String;Ljava/util/Collection;Lcom/example/rootward/rootward/policy/Condition;)V"⟩ : MethodName) prog_54_method_1_code 4 none ({ frames := 9, cells := 5, slots := 28, locals := 126 } : Room) #[(.ref o), (.ref s), (.ref b), .null] h0 [] [o] (fun v h => v = none ∧ Fld Z h o "com/example/rootward/rootward/policy/Binding" "condition" "Lcom/example/rootward/rootward/policy/Condition;" .null) := by
  refine Ct.of_wp (a0 := a0) (Ls := #[.val (.ref o), .val (.ref s), .val (.ref b), .val .null]) (plainFor_of_name pn_com_example_rootward_rootward_policy_Binding) hE hO (by intro x hx; cases List.mem_singleton.mp hx; exact ho0) (fun m => ef_ctBI_2n m o s b) ?_
  refine Wp.aloadN d19_0 (pc' := 1) rfl rfl rfl ?_
  refine Wp.initO (W := 0) rfl (hw _ (List.mem_of_getElem? (i := 105) rfl)) (hw _ (List.mem_of_getElem? (i := 12) rfl)) (hw _ (List.mem_of_getElem? (i := 13) rfl)) d19_1 (pc' := 4) rfl rfl (by decide) (Nat.le_of_eq rfl) (by decide) ?_
  refine Wp.aloadN d19_4 (pc' := 5) rfl rfl rfl ?_
  refine Wp.aloadN d19_5 (pc' := 6) rfl rfl rfl ?_
  refine Wp.ldcO (nn := 16) rfl rfl (hw _ (List.mem_of_getElem? (i := 106) rfl)) (own_wS hw) d19_6 (pc' := 8) rfl (by decide) (by decide) (k' := 2) (n' := 20) rfl rfl (by decide) (by decide) (fun h1 c1 Xh1 => ?_)
  replace V_d := V_d.ext Xh1
  replace E_d := E_d.ext Xh1
  replace E_b := E_b.ext Xh1
  replace F_e := F_e.ext Xh1
  replace F_s := F_s.ext Xh1
  replace E_e0 := E_e0.ext Xh1
  replace E_e1 := E_e1.ext Xh1
  replace E_o := E_o.ext Xh1
  replace E_s := E_s.ext Xh1
  replace G0 := G0.ext Xh1
  replace G1 := G1.ext Xh1
  replace G2 := G2.ext Xh1
  refine Wp.old fun hOc => ?_
  refine Wp.callS (W := 1) (argsL := [(.ref s), (.ref c1)]) (rest := [(.ref o)]) rfl (ctRNN l Z a0 hw hE s c1 h1 hOc) (hw _ (List.mem_of_getElem? (i := 109) rfl)) (hw _ (List.mem_of_getElem? (i := 110) rfl)) (hw _ (List.mem_of_getElem? (i := 112) rfl)) (hw _ (List.mem_of_getElem? (i := 111) rfl)) (by decide) (lenOf pd__Ljava_lang_Object_Ljava_lang_String__Ljava_lang_Object_ rfl) d19_8 rfl rfl rfl (Nat.le_of_eq rfl) (pc' := 11) rfl nofun nofun (by decide) (by decide) (k' := 2) (n' := 20) rfl rfl (by decide) (by decide) (fun vh2 h2 zh2 Kh2 qh2 => ?_)
  obtain rfl := qh2
  replace V_d := V_d.keep Kh2 nin0
  replace E_d := E_d.keep Kh2
  replace E_b := E_b.keep Kh2
  replace F_e := F_e.keep Kh2 nin0
  replace F_s := F_s.keep Kh2 nin0
  replace E_e0 := E_e0.keep Kh2
  replace E_e1 := E_e1.keep Kh2
  replace E_o := E_o.keep Kh2
  replace E_s := E_s.keep Kh2
  replace G0 := G0.keep Kh2 nin0
  replace G1 := G1.keep Kh2 nin0
  replace G2 := G2.keep Kh2 nin0
  refine Wp.eqS (S' := [(.ref s), (.ref o)]) rfl ?_
  refine Wp.castY rfl (hw _ (List.mem_of_getElem? (i := 113) rfl)) (Ins.self E_s) d19_11 (pc' := 14) rfl ?_
  refine Wp.putF rfl (host := "") (Or.inl (hw _ (List.mem_of_getElem? (i := 114) rfl))) Via.refl G0 E_o (Or.inr ⟨(hw _ (List.mem_of_getElem? (i := 115) rfl)), rfl, rfl⟩) (hw _ (List.mem_of_getElem? (i := 100) rfl)) (ty := (.object "java/lang/String")) (by decide) rfl rfl d19_14 (pc' := 17) rfl (Or.inl (by simp)) (Sfe.exa E_o (by decide) (by decide)) (fun h3 W3 Fh3 => ?_)
  replace V_d := V_d.other W3 ne_d_o
  replace E_d := E_d.wr W3
  replace E_b := E_b.wr W3
  replace F_e := F_e.other W3 (Or.inl ne_b_o)
  replace F_s := F_s.other W3 (Or.inl ne_b_o)
  replace E_e0 := E_e0.wr W3
  replace E_e1 := E_e1.wr W3
  replace E_o := E_o.wr W3
  replace E_s := E_s.wr W3
  replace G1 := G1.other W3 (Or.inr (slot_ne (Or.inr (hw _ (List.mem_of_getElem? (i := 204) rfl))) (Or.inr (hw _ (List.mem_of_getElem? (i := 115) rfl))) (by decide) (t := (.object "java/util/List")) (t' := (.object "java/lang/String")) (by decide) (by decide)))
  replace G2 := G2.other W3 (Or.inr (slot_ne (Or.inr (hw _ (List.mem_of_getElem? (i := 206) rfl))) (Or.inr (hw _ (List.mem_of_getElem? (i := 115) rfl))) (by decide) (t := (.object "com/example/rootward/rootward/policy/Condition")) (t' := (.object "java/lang/String")) (by decide) (by decide)))
  replace G0 := Fh3
  refine Wp.aloadN d19_17 (pc' := 18) rfl rfl rfl ?_
  refine Wp.aloadN d19_18 (pc' := 19) rfl rfl rfl ?_
  refine Wp.old fun hOc => ?_
  refine Wp.callS (W := 1) (argsL := [(.ref b)]) (rest := [(.ref o)]) rfl (ctCO_2 l Z a0 hw hE b d mr kd e0 e1 em h3 hOc E_b F_e F_s hM E_d V_d E_e0 E_e1 hem) (hw _ (List.mem_of_getElem? (i := 116) rfl)) (hw _ (List.mem_of_getElem? (i := 117) rfl)) (hw _ (List.mem_of_getElem? (i := 119) rfl)) (hw _ (List.mem_of_getElem? (i := 118) rfl)) (by decide) (lenOf pd__Ljava_util_Collection__Ljava_util_List_ rfl) d19_19 rfl rfl rfl (Nat.le_of_eq rfl) (pc' := 22) rfl nofun nofun (by decide) (by decide) (k' := 5) (n' := 28) rfl rfl (by decide) (by decide) (fun vh4 h4 zh4 Kh4 qh4 => ?_)
  obtain ⟨r, rfl⟩ := qh4
  replace V_d := V_d.keep Kh4 nin0
  replace E_d := E_d.keep Kh4
  replace E_b := E_b.keep Kh4
  replace F_e := F_e.keep Kh4 nin0
  replace F_s := F_s.keep Kh4 nin0
  replace E_e0 := E_e0.keep Kh4
  replace E_e1 := E_e1.keep Kh4
  replace E_o := E_o.keep Kh4
  replace E_s := E_s.keep Kh4
  replace G0 := G0.keep Kh4 nin0
  replace G1 := G1.keep Kh4 nin0
  replace G2 := G2.keep Kh4 nin0
  refine Wp.eqS (S' := [(.ref r), (.ref o)]) rfl ?_
  refine Wp.putF rfl (host := "") (Or.inl (hw _ (List.mem_of_getElem? (i := 203) rfl))) Via.refl G1 E_o (Or.inr ⟨(hw _ (List.mem_of_getElem? (i := 204) rfl)), rfl, rfl⟩) (hw _ (List.mem_of_getElem? (i := 100) rfl)) (ty := (.object "java/util/List")) (by decide) rfl rfl d19_22 (pc' := 25) rfl (Or.inl (by simp)) (Sfe.exa E_o (by decide) (by decide)) (fun h5 W5 Fh5 => ?_)
  replace V_d := V_d.other W5 ne_d_o
  replace E_d := E_d.wr W5
  replace E_b := E_b.wr W5
  replace F_e := F_e.other W5 (Or.inl ne_b_o)
  replace F_s := F_s.other W5 (Or.inl ne_b_o)
  replace E_e0 := E_e0.wr W5
  replace E_e1 := E_e1.wr W5
  replace E_o := E_o.wr W5
  replace E_s := E_s.wr W5
  replace G0 := G0.other W5 (Or.inr (slot_ne (Or.inr (hw _ (List.mem_of_getElem? (i := 115) rfl))) (Or.inr (hw _ (List.mem_of_getElem? (i := 204) rfl))) (by decide) (t := (.object "java/lang/String")) (t' := (.object "java/util/List")) (by decide) (by decide)))
  replace G2 := G2.other W5 (Or.inr (slot_ne (Or.inr (hw _ (List.mem_of_getElem? (i := 206) rfl))) (Or.inr (hw _ (List.mem_of_getElem? (i := 204) rfl))) (by decide) (t := (.object "com/example/rootward/rootward/policy/Condition")) (t' := (.object "java/util/List")) (by decide) (by decide)))
  replace G1 := Fh5
  refine Wp.aloadN d19_25 (pc' := 26) rfl rfl rfl ?_
  refine Wp.aloadN d19_26 (pc' := 27) rfl rfl rfl ?_
  refine Wp.putF rfl (host := "") (Or.inl (hw _ (List.mem_of_getElem? (i := 205) rfl))) Via.refl G2 E_o (Or.inr ⟨(hw _ (List.mem_of_getElem? (i := 206) rfl)), rfl, rfl⟩) (hw _ (List.mem_of_getElem? (i := 100) rfl)) (ty := (.object "com/example/rootward/rootward/policy/Condition")) (by decide) rfl rfl d19_27 (pc' := 30) rfl (Or.inl (by simp)) (Sfe.exa E_o (by decide) (by decide)) (fun h6 W6 Fh6 => ?_)
  replace V_d := V_d.other W6 ne_d_o
  replace E_d := E_d.wr W6
  replace E_b := E_b.wr W6
  replace F_e := F_e.other W6 (Or.inl ne_b_o)
  replace F_s := F_s.other W6 (Or.inl ne_b_o)
  replace E_e0 := E_e0.wr W6
  replace E_e1 := E_e1.wr W6
  replace E_o := E_o.wr W6
  replace E_s := E_s.wr W6
  replace G0 := G0.other W6 (Or.inr (slot_ne (Or.inr (hw _ (List.mem_of_getElem? (i := 115) rfl))) (Or.inr (hw _ (List.mem_of_getElem? (i := 206) rfl))) (by decide) (t := (.object "java/lang/String")) (t' := (.object "com/example/rootward/rootward/policy/Condition")) (by decide) (by decide)))
  replace G1 := G1.other W6 (Or.inr (slot_ne (Or.inr (hw _ (List.mem_of_getElem? (i := 204) rfl))) (Or.inr (hw _ (List.mem_of_getElem? (i := 206) rfl))) (by decide) (t := (.object "java/util/List")) (t' := (.object "com/example/rootward/rootward/policy/Condition")) (by decide) (by decide)))
  replace G2 := Fh6
  refine Wp.retn rfl d19_30 (by decide) (by decide) ?_
  exact ⟨rfl, G2⟩
theorem ef_ctBI_2r (m : MethodId) (x0 : Addr) (x1 : Addr) (x2 : Addr) (x3 : Addr) : entryFrame m #[(.ref x0), (.ref x1), (.ref x2), (.ref x3)] 4 = mkF m 0 #[.val (.ref x0), .val (.ref x1), .val (.ref x2), .val (.ref x3)] [] := by first | (simp [entryFrame, mkF, argsToLocals, Value.category]; done) | rfl
set_option maxRecDepth 65536 in
set_option maxHeartbeats 40000000 in
theorem ctBI_2r (l : Launch) (Z : State) (a0 : Array Value) (hw : ∀ d ∈ tables_1, d.before a0 Z = true) (hE : EW Z a0 []) (o s : Addr) (cc : Addr) (b d mr : Addr) (kd : ClassId) (e0 : Addr) (e1 : Addr) (em : Addr) (h0 : Heap) (hO : Ext Z.heap h0) (ho0 : Z.heap.size ≤ o) (E_o : Exa Z h0 o "com/example/rootward/rootward/policy/Binding") (E_s : Exa Z h0 s "java/lang/String") (G0 : Fld Z h0 o "com/example/rootward/rootward/policy/Binding" "role" "Ljava/lang/String;" .null) (G1 : Fld Z h0 o "com/example/rootward/rootward/policy/Binding" "members" "Ljava/util/List;" .null) (G2 : Fld Z h0 o "com/example/rootward/rootward/policy/Binding" "condition" "Lcom/example/rootward/rootward/policy/Condition;" .null) (ne_b_o : b ≠ o) (ne_d_o : d ≠ o) (E_b : Exa Z h0 b "java/util/ArrayList") (F_e : Fld Z h0 b "java/util/ArrayList" "elementData" "[Ljava/lang/Object;" (.ref d)) (F_s : Fld Z h0 b "java/util/ArrayList" "size" "I" (.int 2)) (hM : Mir Z "[Ljava/lang/Object;" mr) (E_d : Exa Z h0 d "[Ljava/lang/Object;") (V_d : Arv Z h0 d kd (.object "java/lang/Object") (10 : Int32) [(.ref e0), (.ref e1), .null, .null, .null, .null, .null, .null, .null, .null] .null) (E_e0 : Exa Z h0 e0 "java/lang/String") (E_e1 : Exa Z h0 e1 "java/lang/String") (hem : Sta Z Z.heap "java/util/ImmutableCollections" "EMPTY" "Ljava/lang/Object;" (.ref em)) :
    Ct true l Z [] [] (⟨"com/example/rootward/rootward/policy/Binding", "<init>", "(Ljava/lang/String;Ljava/util/Collection;Lcom/example/rootward/rootward/policy/Condition;)V"⟩ : MethodName) prog_54_method_1_code 4 none ({ frames := 9, cells := 5, slots := 28, locals := 126 } : Room) #[(.ref o), (.ref s), (.ref b), (.ref cc)] h0 [] [o] (fun v h => v = none ∧ Fld Z h o "com/example/rootward/rootward/policy/Binding" "condition" "Lcom/example/rootward/rootward/policy/Condition;" (.ref cc)) := by
  refine Ct.of_wp (a0 := a0) (Ls := #[.val (.ref o), .val (.ref s), .val (.ref b), .val (.ref cc)]) (plainFor_of_name pn_com_example_rootward_rootward_policy_Binding) hE hO (by intro x hx; cases List.mem_singleton.mp hx; exact ho0) (fun m => ef_ctBI_2r m o s b cc) ?_
  refine Wp.aloadN d19_0 (pc' := 1) rfl rfl rfl ?_
  refine Wp.initO (W := 0) rfl (hw _ (List.mem_of_getElem? (i := 105) rfl)) (hw _ (List.mem_of_getElem? (i := 12) rfl)) (hw _ (List.mem_of_getElem? (i := 13) rfl)) d19_1 (pc' := 4) rfl rfl (by decide) (Nat.le_of_eq rfl) (by decide) ?_
  refine Wp.aloadN d19_4 (pc' := 5) rfl rfl rfl ?_
  refine Wp.aloadN d19_5 (pc' := 6) rfl rfl rfl ?_
  refine Wp.ldcO (nn := 16) rfl rfl (hw _ (List.mem_of_getElem? (i := 106) rfl)) (own_wS hw) d19_6 (pc' := 8) rfl (by decide) (by decide) (k' := 2) (n' := 20) rfl rfl (by decide) (by decide) (fun h1 c1 Xh1 => ?_)
  replace V_d := V_d.ext Xh1
  replace E_d := E_d.ext Xh1
  replace E_b := E_b.ext Xh1
  replace F_e := F_e.ext Xh1
  replace F_s := F_s.ext Xh1
  replace E_e0 := E_e0.ext Xh1
  replace E_e1 := E_e1.ext Xh1
  replace E_o := E_o.ext Xh1
  replace E_s := E_s.ext Xh1
  replace G0 := G0.ext Xh1
  replace G1 := G1.ext Xh1
  replace G2 := G2.ext Xh1
  refine Wp.old fun hOc => ?_
  refine Wp.callS (W := 1) (argsL := [(.ref s), (.ref c1)]) (rest := [(.ref o)]) rfl (ctRNN l Z a0 hw hE s c1 h1 hOc) (hw _ (List.mem_of_getElem? (i := 109) rfl)) (hw _ (List.mem_of_getElem? (i := 110) rfl)) (hw _ (List.mem_of_getElem? (i := 112) rfl)) (hw _ (List.mem_of_getElem? (i := 111) rfl)) (by decide) (lenOf pd__Ljava_lang_Object_Ljava_lang_String__Ljava_lang_Object_ rfl) d19_8 rfl rfl rfl (Nat.le_of_eq rfl) (pc' := 11) rfl nofun nofun (by decide) (by decide) (k' := 2) (n' := 20) rfl rfl (by decide) (by decide) (fun vh2 h2 zh2 Kh2 qh2 => ?_)
  obtain rfl := qh2
  replace V_d := V_d.keep Kh2 nin0
  replace E_d := E_d.keep Kh2
  replace E_b := E_b.keep Kh2
  replace F_e := F_e.keep Kh2 nin0
  replace F_s := F_s.keep Kh2 nin0
  replace E_e0 := E_e0.keep Kh2
  replace E_e1 := E_e1.keep Kh2
  replace E_o := E_o.keep Kh2
  replace E_s := E_s.keep Kh2
  replace G0 := G0.keep Kh2 nin0
  replace G1 := G1.keep Kh2 nin0
  replace G2 := G2.keep Kh2 nin0
  refine Wp.eqS (S' := [(.ref s), (.ref o)]) rfl ?_
  refine Wp.castY rfl (hw _ (List.mem_of_getElem? (i := 113) rfl)) (Ins.self E_s) d19_11 (pc' := 14) rfl ?_
  refine Wp.putF rfl (host := "") (Or.inl (hw _ (List.mem_of_getElem? (i := 114) rfl))) Via.refl G0 E_o (Or.inr ⟨(hw _ (List.mem_of_getElem? (i := 115) rfl)), rfl, rfl⟩) (hw _ (List.mem_of_getElem? (i := 100) rfl)) (ty := (.object "java/lang/String")) (by decide) rfl rfl d19_14 (pc' := 17) rfl (Or.inl (by simp)) (Sfe.exa E_o (by decide) (by decide)) (fun h3 W3 Fh3 => ?_)
  replace V_d := V_d.other W3 ne_d_o
  replace E_d := E_d.wr W3
  replace E_b := E_b.wr W3
  replace F_e := F_e.other W3 (Or.inl ne_b_o)
  replace F_s := F_s.other W3 (Or.inl ne_b_o)
  replace E_e0 := E_e0.wr W3
  replace E_e1 := E_e1.wr W3
  replace E_o := E_o.wr W3
  replace E_s := E_s.wr W3
  replace G1 := G1.other W3 (Or.inr (slot_ne (Or.inr (hw _ (List.mem_of_getElem? (i := 204) rfl))) (Or.inr (hw _ (List.mem_of_getElem? (i := 115) rfl))) (by decide) (t := (.object "java/util/List")) (t' := (.object "java/lang/String")) (by decide) (by decide)))
  replace G2 := G2.other W3 (Or.inr (slot_ne (Or.inr (hw _ (List.mem_of_getElem? (i := 206) rfl))) (Or.inr (hw _ (List.mem_of_getElem? (i := 115) rfl))) (by decide) (t := (.object "com/example/rootward/rootward/policy/Condition")) (t' := (.object "java/lang/String")) (by decide) (by decide)))
  replace G0 := Fh3
  refine Wp.aloadN d19_17 (pc' := 18) rfl rfl rfl ?_
  refine Wp.aloadN d19_18 (pc' := 19) rfl rfl rfl ?_
  refine Wp.old fun hOc => ?_
  refine Wp.callS (W := 1) (argsL := [(.ref b)]) (rest := [(.ref o)]) rfl (ctCO_2 l Z a0 hw hE b d mr kd e0 e1 em h3 hOc E_b F_e F_s hM E_d V_d E_e0 E_e1 hem) (hw _ (List.mem_of_getElem? (i := 116) rfl)) (hw _ (List.mem_of_getElem? (i := 117) rfl)) (hw _ (List.mem_of_getElem? (i := 119) rfl)) (hw _ (List.mem_of_getElem? (i := 118) rfl)) (by decide) (lenOf pd__Ljava_util_Collection__Ljava_util_List_ rfl) d19_19 rfl rfl rfl (Nat.le_of_eq rfl) (pc' := 22) rfl nofun nofun (by decide) (by decide) (k' := 5) (n' := 28) rfl rfl (by decide) (by decide) (fun vh4 h4 zh4 Kh4 qh4 => ?_)
  obtain ⟨r, rfl⟩ := qh4
  replace V_d := V_d.keep Kh4 nin0
  replace E_d := E_d.keep Kh4
  replace E_b := E_b.keep Kh4
  replace F_e := F_e.keep Kh4 nin0
  replace F_s := F_s.keep Kh4 nin0
  replace E_e0 := E_e0.keep Kh4
  replace E_e1 := E_e1.keep Kh4
  replace E_o := E_o.keep Kh4
  replace E_s := E_s.keep Kh4
  replace G0 := G0.keep Kh4 nin0
  replace G1 := G1.keep Kh4 nin0
  replace G2 := G2.keep Kh4 nin0
  refine Wp.eqS (S' := [(.ref r), (.ref o)]) rfl ?_
  refine Wp.putF rfl (host := "") (Or.inl (hw _ (List.mem_of_getElem? (i := 203) rfl))) Via.refl G1 E_o (Or.inr ⟨(hw _ (List.mem_of_getElem? (i := 204) rfl)), rfl, rfl⟩) (hw _ (List.mem_of_getElem? (i := 100) rfl)) (ty := (.object "java/util/List")) (by decide) rfl rfl d19_22 (pc' := 25) rfl (Or.inl (by simp)) (Sfe.exa E_o (by decide) (by decide)) (fun h5 W5 Fh5 => ?_)
  replace V_d := V_d.other W5 ne_d_o
  replace E_d := E_d.wr W5
  replace E_b := E_b.wr W5
  replace F_e := F_e.other W5 (Or.inl ne_b_o)
  replace F_s := F_s.other W5 (Or.inl ne_b_o)
  replace E_e0 := E_e0.wr W5
  replace E_e1 := E_e1.wr W5
  replace E_o := E_o.wr W5
  replace E_s := E_s.wr W5
  replace G0 := G0.other W5 (Or.inr (slot_ne (Or.inr (hw _ (List.mem_of_getElem? (i := 115) rfl))) (Or.inr (hw _ (List.mem_of_getElem? (i := 204) rfl))) (by decide) (t := (.object "java/lang/String")) (t' := (.object "java/util/List")) (by decide) (by decide)))
  replace G2 := G2.other W5 (Or.inr (slot_ne (Or.inr (hw _ (List.mem_of_getElem? (i := 206) rfl))) (Or.inr (hw _ (List.mem_of_getElem? (i := 204) rfl))) (by decide) (t := (.object "com/example/rootward/rootward/policy/Condition")) (t' := (.object "java/util/List")) (by decide) (by decide)))
  replace G1 := Fh5
  refine Wp.aloadN d19_25 (pc' := 26) rfl rfl rfl ?_
  refine Wp.aloadN d19_26 (pc' := 27) rfl rfl rfl ?_
  refine Wp.putF rfl (host := "") (Or.inl (hw _ (List.mem_of_getElem? (i := 205) rfl))) Via.refl G2 E_o (Or.inr ⟨(hw _ (List.mem_of_getElem? (i := 206) rfl)), rfl, rfl⟩) (hw _ (List.mem_of_getElem? (i := 100) rfl)) (ty := (.object "com/example/rootward/rootward/policy/Condition")) (by decide) rfl rfl d19_27 (pc' := 30) rfl (Or.inl (by simp)) (Sfe.exa E_o (by decide) (by decide)) (fun h6 W6 Fh6 => ?_)
  replace V_d := V_d.other W6 ne_d_o
  replace E_d := E_d.wr W6
  replace E_b := E_b.wr W6
  replace F_e := F_e.other W6 (Or.inl ne_b_o)
  replace F_s := F_s.other W6 (Or.inl ne_b_o)
  replace E_e0 := E_e0.wr W6
  replace E_e1 := E_e1.wr W6
  replace E_o := E_o.wr W6
  replace E_s := E_s.wr W6
  replace G0 := G0.other W6 (Or.inr (slot_ne (Or.inr (hw _ (List.mem_of_getElem? (i := 115) rfl))) (Or.inr (hw _ (List.mem_of_getElem? (i := 206) rfl))) (by decide) (t := (.object "java/lang/String")) (t' := (.object "com/example/rootward/rootward/policy/Condition")) (by decide) (by decide)))
  replace G1 := G1.other W6 (Or.inr (slot_ne (Or.inr (hw _ (List.mem_of_getElem? (i := 204) rfl))) (Or.inr (hw _ (List.mem_of_getElem? (i := 206) rfl))) (by decide) (t := (.object "java/util/List")) (t' := (.object "com/example/rootward/rootward/policy/Condition")) (by decide) (by decide)))
  replace G2 := Fh6
  refine Wp.retn rfl d19_30 (by decide) (by decide) ?_
  exact ⟨rfl, G2⟩
theorem ef_ctC3_3 (m : MethodId) (x0 : Addr) (x1 : Int32) (x2 : Addr) : entryFrame m #[(.ref x0), (.int x1), (.ref x2)] 4 = mkF m 0 #[.val (.ref x0), .val (.int x1), .val (.ref x2), .unset] [] := by first | (simp [entryFrame, mkF, argsToLocals, Value.category]; done) | rfl
set_option maxRecDepth 65536 in
set_option maxHeartbeats 40000000 in
theorem ctC3_3 (l : Launch) (Z : State) (a0 : Array Value) (hw : ∀ d ∈ tables_1, d.before a0 Z = true) (hE : EW Z a0 []) (d mr : Addr) (kd : ClassId) (e0 : Addr) (e1 : Addr) (e2 : Addr) (h0 : Heap) (hO : Ext Z.heap h0) (hM : Mir Z "[Ljava/lang/Object;" mr) (V_d : Arv Z h0 d kd (.object "java/lang/Object") (10 : Int32) [(.ref e0), (.ref e1), (.ref e2), .null, .null, .null, .null, .null, .null, .null] .null) (E_e0 : Exa Z h0 e0 "java/lang/String") (E_e1 : Exa Z h0 e1 "java/lang/String") (E_e2 : Exa Z h0 e2 "java/lang/String") :
    Ct true l Z [] [] (⟨"java/util/Arrays", "copyOf", "([Ljava/lang/Object;ILjava/lang/Class;)[Ljava/lang/Object;"⟩ : MethodName) jdk_65_method_120_code 4 (some (.array (.object "java/lang/Object"))) ({ frames := 1, cells := 1, slots := 3, locals := 60 } : Room) #[(.ref d), (.int (3 : Int32)), (.ref mr)] h0 [] [] (fun v h => ∃ u ku, v = some (.ref u) ∧ h0.size ≤ u ∧ Arv Z h u ku (.object "java/lang/Object") (3 : Int32) [(.ref e0), (.ref e1), (.ref e2)] .null) := by
  refine Ct.of_wp (a0 := a0) (Ls := #[.val (.ref d), .val (.int (3 : Int32)), .val (.ref mr), .unset]) (plainFor_of_name pn_java_util_Arrays) hE hO nofun (fun m => ef_ctC3_3 m d (3 : Int32) mr) ?_
  refine Wp.aloadN d26_0 (pc' := 1) rfl rfl rfl ?_
  refine Wp.ldcK rfl (hw _ (List.mem_of_getElem? (i := 160) rfl)) hM d26_1 (pc' := 3) rfl ?_
  refine Wp.acmp_ne (pc1 := 13) (pc' := 6) rfl rfl d26_3 (by decide) (by decide) rfl (fun hc1 => by exact absurd rfl hc1) (fun hc1 => ?_)
  refine Wp.iloadN d26_6 (pc' := 7) rfl rfl ?_
  refine Wp.newRE (cap := 3) rfl (hw _ (List.mem_of_getElem? (i := 161) rfl)) (hw _ (List.mem_of_getElem? (i := 97) rfl)) (ad := "[Ljava/lang/Object;") (by decide) (by decide) (by decide) (by decide) d26_7 (pc' := 10) rfl (k' := 1) (n' := 3) rfl rfl (by decide) (by decide) (fun h2 b2 k_b2 g_b2 sz_b2 Xh2 V_b2 O_b2 E_b2 => ?_)
  have ne_d_b2 : d ≠ b2 := Nat.ne_of_lt (Nat.lt_of_lt_of_eq V_d.lt g_b2.symm)
  have ne_e0_b2 : e0 ≠ b2 := Nat.ne_of_lt (Nat.lt_of_lt_of_eq E_e0.lt g_b2.symm)
  have ne_e1_b2 : e1 ≠ b2 := Nat.ne_of_lt (Nat.lt_of_lt_of_eq E_e1.lt g_b2.symm)
  have ne_e2_b2 : e2 ≠ b2 := Nat.ne_of_lt (Nat.lt_of_lt_of_eq E_e2.lt g_b2.symm)
  replace V_d := V_d.ext Xh2
  replace E_e0 := E_e0.ext Xh2
  replace E_e1 := E_e1.ext Xh2
  replace E_e2 := E_e2.ext Xh2
  replace V_b2 : Arv Z h2 b2 k_b2 (.object "java/lang/Object") (3 : Int32) [.null, .null, .null] .null := V_b2.pad (pad_rep [] .null 3)
  refine Wp.goto (pc' := 24) d26_10 (by decide) (by decide) ?_
  refine Wp.astoreN (l' := #[.val (.ref d), .val (.int (3 : Int32)), .val (.ref mr), .val (.ref b2)]) d26_24 (pc' := 25) rfl rfl rfl ?_
  refine Wp.aloadN d26_25 (pc' := 26) rfl rfl rfl ?_
  refine Wp.iconst (x := (0 : Int32)) d26_26 (pc' := 27) rfl rfl ?_
  refine Wp.aloadN d26_27 (pc' := 28) rfl rfl rfl ?_
  refine Wp.iconst (x := (0 : Int32)) d26_28 (pc' := 29) rfl rfl ?_
  refine Wp.aloadN d26_29 (pc' := 30) rfl rfl rfl ?_
  refine Wp.alen V_d d26_30 (pc' := 31) rfl ?_
  refine Wp.iloadN d26_31 (pc' := 32) rfl rfl ?_
  refine Wp.old fun hOc => ?_
  refine Wp.callS (W := 4) (argsL := [(.int (10 : Int32)), (.int (3 : Int32))]) (rest := [(.int (0 : Int32)), (.ref b2), (.int (0 : Int32)), (.ref d)]) rfl (ctMIN l Z a0 hw hE (10 : Int32) (3 : Int32) h2 hOc) (hw _ (List.mem_of_getElem? (i := 162) rfl)) (hw _ (List.mem_of_getElem? (i := 163) rfl)) (hw _ (List.mem_of_getElem? (i := 164) rfl)) (hw _ (List.mem_of_getElem? (i := 94) rfl)) (by decide) (lenOf pd__II_I rfl) d26_32 rfl rfl rfl (Nat.le_of_eq rfl) (pc' := 35) rfl nofun nofun (by decide) (by decide) (k' := 1) (n' := 3) rfl rfl (by decide) (by decide) (fun vh3 h3 zh3 Kh3 qh3 => ?_)
  obtain rfl : vh3 = some (.int (3 : Int32)) := qh3.trans (by rw [if_pos (by decide)])
  replace V_d := V_d.keep Kh3 nin0
  replace E_e0 := E_e0.keep Kh3
  replace E_e1 := E_e1.keep Kh3
  replace E_e2 := E_e2.keep Kh3
  replace V_b2 := V_b2.keep Kh3 nin0
  replace E_b2 := E_b2.keep Kh3
  refine Wp.eqS (S' := [(.int (3 : Int32)), (.int (0 : Int32)), (.ref b2), (.int (0 : Int32)), (.ref d)]) rfl ?_
  refine Wp.copy (W := 0) (us := [(.ref e0), (.ref e1), (.ref e2)]) rfl rfl (hw _ (List.mem_of_getElem? (i := 165) rfl)) (hw _ (List.mem_of_getElem? (i := 168) rfl)) (hw _ (List.mem_of_getElem? (i := 166) rfl)) (hw _ (List.mem_of_getElem? (i := 167) rfl)) V_d V_b2 (Or.inr ⟨rfl, rfl, ⟨(by obtain ⟨cl, A, qk, -⟩ := V_b2; exact Sto.ofV A qk O_b2 (Ins.of_exa E_e0 (hw _ (List.mem_of_getElem? (i := 98) rfl)))), ⟨(by obtain ⟨cl, A, qk, -⟩ := V_b2; exact Sto.ofV A qk O_b2 (Ins.of_exa E_e1 (hw _ (List.mem_of_getElem? (i := 98) rfl)))), ⟨(by obtain ⟨cl, A, qk, -⟩ := V_b2; exact Sto.ofV A qk O_b2 (Ins.of_exa E_e2 (hw _ (List.mem_of_getElem? (i := 98) rfl)))), trivial⟩⟩⟩⟩) (by decide) (by decide) (by decide) (by decide) (by decide) rfl (Nat.le_of_ble_eq_true rfl) sz_b2 (Sfe.mem (by simp)) rfl d26_35 (pc' := 38) rfl (by decide) (Nat.le_of_eq rfl) (by decide) (fun h4 Kh4 Vh4 => ?_)
  clear V_b2
  have V_b2 : Arv Z h4 b2 k_b2 (.object "java/lang/Object") (3 : Int32) [(.ref e0), (.ref e1), (.ref e2)] .null := Vh4
  refine Wp.aloadN d26_38 (pc' := 39) rfl rfl rfl ?_
  refine Wp.retA rfl rfl rfl d26_39 (by decide) (by decide) ?_
  exact ⟨_, _, rfl, sz_b2, V_b2⟩
theorem ef_ctC2_3 (m : MethodId) (x0 : Addr) (x1 : Int32) : entryFrame m #[(.ref x0), (.int x1)] 2 = mkF m 0 #[.val (.ref x0), .val (.int x1)] [] := by first | (simp [entryFrame, mkF, argsToLocals, Value.category]; done) | rfl
set_option maxRecDepth 65536 in
set_option maxHeartbeats 40000000 in
theorem ctC2_3 (l : Launch) (Z : State) (a0 : Array Value) (hw : ∀ d ∈ tables_1, d.before a0 Z = true) (hE : EW Z a0 []) (d mr : Addr) (kd : ClassId) (e0 : Addr) (e1 : Addr) (e2 : Addr) (h0 : Heap) (hO : Ext Z.heap h0) (hM : Mir Z "[Ljava/lang/Object;" mr) (E_d : Exa Z h0 d "[Ljava/lang/Object;") (V_d : Arv Z h0 d kd (.object "java/lang/Object") (10 : Int32) [(.ref e0), (.ref e1), (.ref e2), .null, .null, .null, .null, .null, .null, .null] .null) (E_e0 : Exa Z h0 e0 "java/lang/String") (E_e1 : Exa Z h0 e1 "java/lang/String") (E_e2 : Exa Z h0 e2 "java/lang/String") :
    Ct true l Z [] [] (⟨"java/util/Arrays", "copyOf", "([Ljava/lang/Object;I)[Ljava/lang/Object;"⟩ : MethodName) jdk_65_method_119_code 2 (some (.array (.object "java/lang/Object"))) ({ frames := 2, cells := 1, slots := 3, locals := 75 } : Room) #[(.ref d), (.int (3 : Int32))] h0 [] [] (fun v h => ∃ u ku, v = some (.ref u) ∧ h0.size ≤ u ∧ Arv Z h u ku (.object "java/lang/Object") (3 : Int32) [(.ref e0), (.ref e1), (.ref e2)] .null) := by
  refine Ct.of_wp (a0 := a0) (Ls := #[.val (.ref d), .val (.int (3 : Int32))]) (plainFor_of_name pn_java_util_Arrays) hE hO nofun (fun m => ef_ctC2_3 m d (3 : Int32)) ?_
  refine Wp.aloadN d25_0 (pc' := 1) rfl rfl rfl ?_
  refine Wp.iloadN d25_1 (pc' := 2) rfl rfl ?_
  refine Wp.aloadN d25_2 (pc' := 3) rfl rfl rfl ?_
  refine Wp.getCls (W := 2) rfl (hw _ (List.mem_of_getElem? (i := 151) rfl)) (hw _ (List.mem_of_getElem? (i := 152) rfl)) (hw _ (List.mem_of_getElem? (i := 128) rfl)) (hw _ (List.mem_of_getElem? (i := 154) rfl)) (hw _ (List.mem_of_getElem? (i := 153) rfl)) (hw _ (List.mem_of_getElem? (i := 155) rfl)) E_d hM rfl d25_3 (pc' := 6) rfl (by decide) (Nat.le_of_eq rfl) (by decide) ?_
  refine Wp.old fun hOc => ?_
  refine Wp.callS (W := 0) (argsL := [(.ref d), (.int (3 : Int32)), (.ref mr)]) (rest := []) rfl (ctC3_3 l Z a0 hw hE d mr kd e0 e1 e2 h0 hOc hM V_d E_e0 E_e1 E_e2) (hw _ (List.mem_of_getElem? (i := 157) rfl)) (hw _ (List.mem_of_getElem? (i := 158) rfl)) (hw _ (List.mem_of_getElem? (i := 159) rfl)) (hw _ (List.mem_of_getElem? (i := 149) rfl)) (by decide) (lenOf pd___Ljava_lang_Object_ILjava_lang_Class___Ljava_lang_Object_ rfl) d25_6 rfl rfl rfl (Nat.le_of_eq rfl) (pc' := 9) rfl nofun nofun (by decide) (by decide) (k' := 1) (n' := 3) rfl rfl (by decide) (by decide) (fun vh1 h1 zh1 Kh1 qh1 => ?_)
  obtain ⟨u, k_u, rfl, sb_u, V_u⟩ := qh1
  have ne_d_u : d ≠ u := Nat.ne_of_lt (Nat.lt_of_lt_of_le V_d.lt sb_u)
  have ne_e0_u : e0 ≠ u := Nat.ne_of_lt (Nat.lt_of_lt_of_le E_e0.lt sb_u)
  have ne_e1_u : e1 ≠ u := Nat.ne_of_lt (Nat.lt_of_lt_of_le E_e1.lt sb_u)
  have ne_e2_u : e2 ≠ u := Nat.ne_of_lt (Nat.lt_of_lt_of_le E_e2.lt sb_u)
  replace V_d := V_d.keep Kh1 nin0
  replace E_d := E_d.keep Kh1
  replace E_e0 := E_e0.keep Kh1
  replace E_e1 := E_e1.keep Kh1
  replace E_e2 := E_e2.keep Kh1
  refine Wp.eqS (S' := [(.ref u)]) rfl ?_
  have sz_u : h0.size ≤ u := Nat.le_trans zh1 sb_u
  refine Wp.retA rfl rfl rfl d25_9 (by decide) (by decide) ?_
  exact ⟨_, _, rfl, sz_u, V_u⟩
theorem ef_ctTA_3 (m : MethodId) (x0 : Addr) : entryFrame m #[(.ref x0)] 1 = mkF m 0 #[.val (.ref x0)] [] := by first | (simp [entryFrame, mkF, argsToLocals, Value.category]; done) | rfl
set_option maxRecDepth 65536 in
set_option maxHeartbeats 40000000 in
theorem ctTA_3 (l : Launch) (Z : State) (a0 : Array Value) (hw : ∀ d ∈ tables_1, d.before a0 Z = true) (hE : EW Z a0 []) (b d mr : Addr) (kd : ClassId) (e0 : Addr) (e1 : Addr) (e2 : Addr) (h0 : Heap) (hO : Ext Z.heap h0) (E_b : Exa Z h0 b "java/util/ArrayList") (F_e : Fld Z h0 b "java/util/ArrayList" "elementData" "[Ljava/lang/Object;" (.ref d)) (F_s : Fld Z h0 b "java/util/ArrayList" "size" "I" (.int 3)) (hM : Mir Z "[Ljava/lang/Object;" mr) (E_d : Exa Z h0 d "[Ljava/lang/Object;") (V_d : Arv Z h0 d kd (.object "java/lang/Object") (10 : Int32) [(.ref e0), (.ref e1), (.ref e2), .null, .null, .null, .null, .null, .null, .null] .null) (E_e0 : Exa Z h0 e0 "java/lang/String") (E_e1 : Exa Z h0 e1 "java/lang/String") (E_e2 : Exa Z h0 e2 "java/lang/String") :
    Ct true l Z [] [] (⟨"java/util/ArrayList", "toArray", "()[Ljava/lang/Object;"⟩ : MethodName) jdk_38_method_16_code 1 (some (.array (.object "java/lang/Object"))) ({ frames := 3, cells := 1, slots := 3, locals := 88 } : Room) #[(.ref b)] h0 [] [] (fun v h => ∃ u ku, v = some (.ref u) ∧ h0.size ≤ u ∧ Arv Z h u ku (.object "java/lang/Object") (3 : Int32) [(.ref e0), (.ref e1), (.ref e2)] .null) := by
  refine Ct.of_wp (a0 := a0) (Ls := #[.val (.ref b)]) (plainFor_of_name pn_java_util_ArrayList) hE hO nofun (fun m => ef_ctTA_3 m b) ?_
  refine Wp.aloadN d24_0 (pc' := 1) rfl rfl rfl ?_
  refine Wp.getF rfl (host := "") (Or.inl (hw _ (List.mem_of_getElem? (i := 52) rfl))) Via.refl F_e d24_1 (pc' := 4) rfl ?_
  refine Wp.aloadN d24_4 (pc' := 5) rfl rfl rfl ?_
  refine Wp.getF rfl (host := "") (Or.inl (hw _ (List.mem_of_getElem? (i := 75) rfl))) Via.refl F_s d24_5 (pc' := 8) rfl ?_
  refine Wp.old fun hOc => ?_
  refine Wp.callS (W := 0) (argsL := [(.ref d), (.int (3 : Int32))]) (rest := []) rfl (ctC2_3 l Z a0 hw hE d mr kd e0 e1 e2 h0 hOc hM E_d V_d E_e0 E_e1 E_e2) (hw _ (List.mem_of_getElem? (i := 147) rfl)) (hw _ (List.mem_of_getElem? (i := 148) rfl)) (hw _ (List.mem_of_getElem? (i := 150) rfl)) (hw _ (List.mem_of_getElem? (i := 149) rfl)) (by decide) (lenOf pd___Ljava_lang_Object_I__Ljava_lang_Object_ rfl) d24_8 rfl rfl rfl (Nat.le_of_eq rfl) (pc' := 11) rfl nofun nofun (by decide) (by decide) (k' := 1) (n' := 3) rfl rfl (by decide) (by decide) (fun vh1 h1 zh1 Kh1 qh1 => ?_)
  obtain ⟨u, k_u, rfl, sb_u, V_u⟩ := qh1
  have ne_d_u : d ≠ u := Nat.ne_of_lt (Nat.lt_of_lt_of_le V_d.lt sb_u)
  have ne_b_u : b ≠ u := Nat.ne_of_lt (Nat.lt_of_lt_of_le E_b.lt sb_u)
  have ne_e0_u : e0 ≠ u := Nat.ne_of_lt (Nat.lt_of_lt_of_le E_e0.lt sb_u)
  have ne_e1_u : e1 ≠ u := Nat.ne_of_lt (Nat.lt_of_lt_of_le E_e1.lt sb_u)
  have ne_e2_u : e2 ≠ u := Nat.ne_of_lt (Nat.lt_of_lt_of_le E_e2.lt sb_u)
  replace V_d := V_d.keep Kh1 nin0
  replace E_d := E_d.keep Kh1
  replace E_b := E_b.keep Kh1
  replace F_e := F_e.keep Kh1 nin0
  replace F_s := F_s.keep Kh1 nin0
  replace E_e0 := E_e0.keep Kh1
  replace E_e1 := E_e1.keep Kh1
  replace E_e2 := E_e2.keep Kh1
  refine Wp.eqS (S' := [(.ref u)]) rfl ?_
  have sz_u : h0.size ≤ u := Nat.le_trans zh1 sb_u
  refine Wp.retA rfl rfl rfl d24_11 (by decide) (by decide) ?_
  exact ⟨_, _, rfl, sz_u, V_u⟩
theorem d29_0 : decode jdk_56_method_4_code 0 = .ok (.aload_n 0, 1) := by decide +kernel
theorem d29_1 : decode jdk_56_method_4_code 1 = .ok (.arraylength, 1) := by decide +kernel
theorem d29_2 : decode jdk_56_method_4_code 2 = .ok (.anewarray 2, 3) := by decide +kernel
theorem d29_5 : decode jdk_56_method_4_code 5 = .ok (.astore_n 1, 1) := by decide +kernel
theorem d29_6 : decode jdk_56_method_4_code 6 = .ok (.iconst 0, 1) := by decide +kernel
theorem d29_7 : decode jdk_56_method_4_code 7 = .ok (.istore_n 2, 1) := by decide +kernel
theorem d29_8 : decode jdk_56_method_4_code 8 = .ok (.iload_n 2, 1) := by decide +kernel
theorem d29_9 : decode jdk_56_method_4_code 9 = .ok (.aload_n 0, 1) := by decide +kernel
theorem d29_10 : decode jdk_56_method_4_code 10 = .ok (.arraylength, 1) := by decide +kernel
theorem d29_11 : decode jdk_56_method_4_code 11 = .ok (.if_icmp .ge 18, 3) := by decide +kernel
theorem d29_14 : decode jdk_56_method_4_code 14 = .ok (.aload_n 1, 1) := by decide +kernel
theorem d29_15 : decode jdk_56_method_4_code 15 = .ok (.iload_n 2, 1) := by decide +kernel
theorem d29_16 : decode jdk_56_method_4_code 16 = .ok (.aload_n 0, 1) := by decide +kernel
theorem d29_17 : decode jdk_56_method_4_code 17 = .ok (.iload_n 2, 1) := by decide +kernel
theorem d29_18 : decode jdk_56_method_4_code 18 = .ok (.aaload, 1) := by decide +kernel
theorem d29_19 : decode jdk_56_method_4_code 19 = .ok (.invokestatic 37, 3) := by decide +kernel
theorem d29_22 : decode jdk_56_method_4_code 22 = .ok (.aastore, 1) := by decide +kernel
theorem d29_23 : decode jdk_56_method_4_code 23 = .ok (.iinc 2 1, 3) := by decide +kernel
theorem d29_26 : decode jdk_56_method_4_code 26 = .ok (.goto (-18), 3) := by decide +kernel
theorem d29_29 : decode jdk_56_method_4_code 29 = .ok (.new 12, 3) := by decide +kernel
theorem d29_32 : decode jdk_56_method_4_code 32 = .ok (.dup, 1) := by decide +kernel
theorem d29_33 : decode jdk_56_method_4_code 33 = .ok (.aload_n 1, 1) := by decide +kernel
theorem d29_34 : decode jdk_56_method_4_code 34 = .ok (.iconst 0, 1) := by decide +kernel
theorem d29_35 : decode jdk_56_method_4_code 35 = .ok (.invokespecial 43, 3) := by decide +kernel
theorem d29_38 : decode jdk_56_method_4_code 38 = .ok (.areturn, 1) := by decide +kernel
theorem ef_ctLF (m : MethodId) (x0 : Addr) : entryFrame m #[(.ref x0)] 3 = mkF m 0 #[.val (.ref x0), .unset, .unset] [] := by first | (simp [entryFrame, mkF, argsToLocals, Value.category]; done) | rfl
theorem pd___Ljava_lang_Object_Z_V : parseMethodDescriptor "([Ljava/lang/Object;Z)V" = some ⟨[(.array (.object "java/lang/Object")), .boolean], none⟩ := by decide +kernel
set_option maxRecDepth 65536 in
set_option maxHeartbeats 40000000 in
theorem ctLF (l : Launch) (Z : State) (a0 : Array Value) (hw : ∀ d ∈ tables_1, d.before a0 Z = true) (hE : EW Z a0 []) (u em : Addr) (ku : ClassId) (e0 : Addr) (e1 : Addr) (e2 : Addr) (h0 : Heap) (hO : Ext Z.heap h0) (V_u : Arv Z h0 u ku (.object "java/lang/Object") (3 : Int32) [(.ref e0), (.ref e1), (.ref e2)] .null) (hem : Sta Z Z.heap "java/util/ImmutableCollections" "EMPTY" "Ljava/lang/Object;" (.ref em)) (E_e0 : Exa Z h0 e0 "java/lang/String") (E_e1 : Exa Z h0 e1 "java/lang/String") (E_e2 : Exa Z h0 e2 "java/lang/String") :
    Ct true l Z [] [] (⟨"java/util/ImmutableCollections", "listFromArray", "([Ljava/lang/Object;)Ljava/util/List;"⟩ : MethodName) jdk_56_method_4_code 3 (some (.object "java/util/List")) ({ frames := 5, cells := 2, slots := 5, locals := 63 } : Room) #[(.ref u)] h0 [] [] (fun v h => ∃ r : Addr, v = some (.ref r)) := by
  refine Ct.of_wp (a0 := a0) (Ls := #[.val (.ref u), .unset, .unset]) (plainFor_of_name pn_java_util_ImmutableCollections) hE hO nofun (fun m => ef_ctLF m u) ?_
  refine Wp.aloadN d29_0 (pc' := 1) rfl rfl rfl ?_
  refine Wp.alen V_u d29_1 (pc' := 2) rfl ?_
  refine Wp.newRE (cap := 3) rfl (hw _ (List.mem_of_getElem? (i := 175) rfl)) (hw _ (List.mem_of_getElem? (i := 97) rfl)) (ad := "[Ljava/lang/Object;") (by decide) (by decide) (by decide) (by decide) d29_2 (pc' := 5) rfl (k' := 1) (n' := 3) rfl rfl (by decide) (by decide) (fun h1 b1 k_b1 g_b1 sz_b1 Xh1 V_b1 O_b1 E_b1 => ?_)
  have ne_u_b1 : u ≠ b1 := Nat.ne_of_lt (Nat.lt_of_lt_of_eq V_u.lt g_b1.symm)
  have ne_e0_b1 : e0 ≠ b1 := Nat.ne_of_lt (Nat.lt_of_lt_of_eq E_e0.lt g_b1.symm)
  have ne_e1_b1 : e1 ≠ b1 := Nat.ne_of_lt (Nat.lt_of_lt_of_eq E_e1.lt g_b1.symm)
  have ne_e2_b1 : e2 ≠ b1 := Nat.ne_of_lt (Nat.lt_of_lt_of_eq E_e2.lt g_b1.symm)
  replace V_u := V_u.ext Xh1
  replace E_e0 := E_e0.ext Xh1
  replace E_e1 := E_e1.ext Xh1
  replace E_e2 := E_e2.ext Xh1
  replace V_b1 : Arv Z h1 b1 k_b1 (.object "java/lang/Object") (3 : Int32) [.null, .null, .null] .null := V_b1.pad (pad_rep [] .null 3)
  refine Wp.astoreN (l' := #[.val (.ref u), .val (.ref b1), .unset]) d29_5 (pc' := 6) rfl rfl rfl ?_
  refine Wp.iconst (x := (0 : Int32)) d29_6 (pc' := 7) rfl rfl ?_
  refine Wp.istoreN (l' := #[.val (.ref u), .val (.ref b1), .val (.int (0 : Int32))]) d29_7 (pc' := 8) rfl rfl ?_
  refine Wp.iloadN d29_8 (pc' := 9) rfl rfl ?_
  refine Wp.aloadN d29_9 (pc' := 10) rfl rfl rfl ?_
  refine Wp.alen V_u d29_10 (pc' := 11) rfl ?_
  refine Wp.icmp_ge (pc1 := 29) (pc' := 14) d29_11 (by decide) (by decide) rfl (fun hc2 => by exact absurd hc2 (by decide)) (fun hc2 => ?_)
  refine Wp.aloadN d29_14 (pc' := 15) rfl rfl rfl ?_
  refine Wp.iloadN d29_15 (pc' := 16) rfl rfl ?_
  refine Wp.aloadN d29_16 (pc' := 17) rfl rfl rfl ?_
  refine Wp.iloadN d29_17 (pc' := 18) rfl rfl ?_
  refine Wp.aaload V_u rfl (by decide) (by decide) (v := (.ref e0)) rfl d29_18 (pc' := 19) rfl ?_
  refine Wp.old fun hOc => ?_
  refine Wp.callS (W := 2) (argsL := [(.ref e0)]) (rest := [(.int (0 : Int32)), (.ref b1)]) rfl (ctRN1 l Z a0 hw hE e0 h1 hOc) (hw _ (List.mem_of_getElem? (i := 176) rfl)) (hw _ (List.mem_of_getElem? (i := 177) rfl)) (hw _ (List.mem_of_getElem? (i := 178) rfl)) (hw _ (List.mem_of_getElem? (i := 111) rfl)) (by decide) (lenOf pd__Ljava_lang_Object__Ljava_lang_Object_ rfl) d29_19 rfl rfl rfl (Nat.le_of_eq rfl) (pc' := 22) rfl nofun nofun (by decide) (by decide) (k' := 1) (n' := 3) rfl rfl (by decide) (by decide) (fun vh3 h3 zh3 Kh3 qh3 => ?_)
  obtain rfl := qh3
  replace V_u := V_u.keep Kh3 nin0
  replace E_e0 := E_e0.keep Kh3
  replace E_e1 := E_e1.keep Kh3
  replace E_e2 := E_e2.keep Kh3
  replace V_b1 := V_b1.keep Kh3 nin0
  replace E_b1 := E_b1.keep Kh3
  refine Wp.eqS (S' := [(.ref e0), (.int (0 : Int32)), (.ref b1)]) rfl ?_
  refine Wp.aastore V_b1 rfl (by decide) rfl (Or.inr ⟨_, _, rfl, O_b1, Ins.of_exa E_e0 (hw _ (List.mem_of_getElem? (i := 98) rfl))⟩) (by decide) (by decide) (i := 0) rfl (Nat.le_of_ble_eq_true rfl) d29_22 (pc' := 23) rfl (Or.inr sz_b1) (fun h4 W4 Vh4 => ?_)
  replace V_u := V_u.other W4 ne_u_b1
  replace E_e0 := E_e0.wr W4
  replace E_e1 := E_e1.wr W4
  replace E_e2 := E_e2.wr W4
  replace E_b1 := E_b1.wr W4
  replace V_b1 : Arv Z h4 b1 k_b1 (.object "java/lang/Object") (3 : Int32) [(.ref e0), .null, .null] .null := Vh4
  refine Wp.iinc (l' := #[.val (.ref u), .val (.ref b1), .val (.int (1 : Int32))]) d29_23 (pc' := 26) rfl rfl rfl ?_
  refine Wp.goto (pc' := 8) d29_26 (by decide) (by decide) ?_
  refine Wp.iloadN d29_8 (pc' := 9) rfl rfl ?_
  refine Wp.aloadN d29_9 (pc' := 10) rfl rfl rfl ?_
  refine Wp.alen V_u d29_10 (pc' := 11) rfl ?_
  refine Wp.icmp_ge (pc1 := 29) (pc' := 14) d29_11 (by decide) (by decide) rfl (fun hc5 => by exact absurd hc5 (by decide)) (fun hc5 => ?_)
  refine Wp.aloadN d29_14 (pc' := 15) rfl rfl rfl ?_
  refine Wp.iloadN d29_15 (pc' := 16) rfl rfl ?_
  refine Wp.aloadN d29_16 (pc' := 17) rfl rfl rfl ?_
  refine Wp.iloadN d29_17 (pc' := 18) rfl rfl ?_
  refine Wp.aaload V_u rfl (by decide) (by decide) (v := (.ref e1)) rfl d29_18 (pc' := 19) rfl ?_
  refine Wp.old fun hOc => ?_
  refine Wp.callS (W := 2) (argsL := [(.ref e1)]) (rest := [(.int (1 : Int32)), (.ref b1)]) rfl (ctRN1 l Z a0 hw hE e1 h4 hOc) (hw _ (List.mem_of_getElem? (i := 176) rfl)) (hw _ (List.mem_of_getElem? (i := 177) rfl)) (hw _ (List.mem_of_getElem? (i := 178) rfl)) (hw _ (List.mem_of_getElem? (i := 111) rfl)) (by decide) (lenOf pd__Ljava_lang_Object__Ljava_lang_Object_ rfl) d29_19 rfl rfl rfl (Nat.le_of_eq rfl) (pc' := 22) rfl nofun nofun (by decide) (by decide) (k' := 1) (n' := 3) rfl rfl (by decide) (by decide) (fun vh6 h6 zh6 Kh6 qh6 => ?_)
  obtain rfl := qh6
  replace V_u := V_u.keep Kh6 nin0
  replace E_e0 := E_e0.keep Kh6
  replace E_e1 := E_e1.keep Kh6
  replace E_e2 := E_e2.keep Kh6
  replace V_b1 := V_b1.keep Kh6 nin0
  replace E_b1 := E_b1.keep Kh6
  refine Wp.eqS (S' := [(.ref e1), (.int (1 : Int32)), (.ref b1)]) rfl ?_
  refine Wp.aastore V_b1 rfl (by decide) rfl (Or.inr ⟨_, _, rfl, O_b1, Ins.of_exa E_e1 (hw _ (List.mem_of_getElem? (i := 98) rfl))⟩) (by decide) (by decide) (i := 1) rfl (Nat.le_of_ble_eq_true rfl) d29_22 (pc' := 23) rfl (Or.inr sz_b1) (fun h7 W7 Vh7 => ?_)
  replace V_u := V_u.other W7 ne_u_b1
  replace E_e0 := E_e0.wr W7
  replace E_e1 := E_e1.wr W7
  replace E_e2 := E_e2.wr W7
  replace E_b1 := E_b1.wr W7
  replace V_b1 : Arv Z h7 b1 k_b1 (.object "java/lang/Object") (3 : Int32) [(.ref e0), (.ref e1), .null] .null := Vh7
  refine Wp.iinc (l' := #[.val (.ref u), .val (.ref b1), .val (.int (2 : Int32))]) d29_23 (pc' := 26) rfl rfl rfl ?_
  refine Wp.goto (pc' := 8) d29_26 (by decide) (by decide) ?_
  refine Wp.iloadN d29_8 (pc' := 9) rfl rfl ?_
  refine Wp.aloadN d29_9 (pc' := 10) rfl rfl rfl ?_
  refine Wp.alen V_u d29_10 (pc' := 11) rfl ?_
  refine Wp.icmp_ge (pc1 := 29) (pc' := 14) d29_11 (by decide) (by decide) rfl (fun hc8 => by exact absurd hc8 (by decide)) (fun hc8 => ?_)
  refine Wp.aloadN d29_14 (pc' := 15) rfl rfl rfl ?_
  refine Wp.iloadN d29_15 (pc' := 16) rfl rfl ?_
  refine Wp.aloadN d29_16 (pc' := 17) rfl rfl rfl ?_
  refine Wp.iloadN d29_17 (pc' := 18) rfl rfl ?_
  refine Wp.aaload V_u rfl (by decide) (by decide) (v := (.ref e2)) rfl d29_18 (pc' := 19) rfl ?_
  refine Wp.old fun hOc => ?_
  refine Wp.callS (W := 2) (argsL := [(.ref e2)]) (rest := [(.int (2 : Int32)), (.ref b1)]) rfl (ctRN1 l Z a0 hw hE e2 h7 hOc) (hw _ (List.mem_of_getElem? (i := 176) rfl)) (hw _ (List.mem_of_getElem? (i := 177) rfl)) (hw _ (List.mem_of_getElem? (i := 178) rfl)) (hw _ (List.mem_of_getElem? (i := 111) rfl)) (by decide) (lenOf pd__Ljava_lang_Object__Ljava_lang_Object_ rfl) d29_19 rfl rfl rfl (Nat.le_of_eq rfl) (pc' := 22) rfl nofun nofun (by decide) (by decide) (k' := 1) (n' := 3) rfl rfl (by decide) (by decide) (fun vh9 h9 zh9 Kh9 qh9 => ?_)
  obtain rfl := qh9
  replace V_u := V_u.keep Kh9 nin0
  replace E_e0 := E_e0.keep Kh9
  replace E_e1 := E_e1.keep Kh9
  replace E_e2 := E_e2.keep Kh9
  replace V_b1 := V_b1.keep Kh9 nin0
  replace E_b1 := E_b1.keep Kh9
  refine Wp.eqS (S' := [(.ref e2), (.int (2 : Int32)), (.ref b1)]) rfl ?_
  refine Wp.aastore V_b1 rfl (by decide) rfl (Or.inr ⟨_, _, rfl, O_b1, Ins.of_exa E_e2 (hw _ (List.mem_of_getElem? (i := 98) rfl))⟩) (by decide) (by decide) (i := 2) rfl (Nat.le_of_ble_eq_true rfl) d29_22 (pc' := 23) rfl (Or.inr sz_b1) (fun h10 W10 Vh10 => ?_)
  replace V_u := V_u.other W10 ne_u_b1
  replace E_e0 := E_e0.wr W10
  replace E_e1 := E_e1.wr W10
  replace E_e2 := E_e2.wr W10
  replace E_b1 := E_b1.wr W10
  replace V_b1 : Arv Z h10 b1 k_b1 (.object "java/lang/Object") (3 : Int32) [(.ref e0), (.ref e1), (.ref e2)] .null := Vh10
  refine Wp.iinc (l' := #[.val (.ref u), .val (.ref b1), .val (.int (3 : Int32))]) d29_23 (pc' := 26) rfl rfl rfl ?_
  refine Wp.goto (pc' := 8) d29_26 (by decide) (by decide) ?_
  refine Wp.iloadN d29_8 (pc' := 9) rfl rfl ?_
  refine Wp.aloadN d29_9 (pc' := 10) rfl rfl rfl ?_
  refine Wp.alen V_u d29_10 (pc' := 11) rfl ?_
  refine Wp.icmp_ge (pc1 := 29) (pc' := 14) d29_11 (by decide) (by decide) rfl (fun hc11 => ?_) (fun hc11 => by exact absurd hc11 (by decide))
  refine Wp.new rfl (hw _ (List.mem_of_getElem? (i := 129) rfl)) (hw _ (List.mem_of_getElem? (i := 179) rfl)) (hw _ (List.mem_of_getElem? (i := 180) rfl)) d29_29 (pc' := 32) rfl (k' := 2) (n' := 5) rfl rfl (by decide) (by decide) (fun h12 b12 g_b12 sz_b12 Xh12 E_b12 D_b12 => ?_)
  have ne_u_b12 : u ≠ b12 := Nat.ne_of_lt (Nat.lt_of_lt_of_eq V_u.lt g_b12.symm)
  have ne_e0_b12 : e0 ≠ b12 := Nat.ne_of_lt (Nat.lt_of_lt_of_eq E_e0.lt g_b12.symm)
  have ne_e1_b12 : e1 ≠ b12 := Nat.ne_of_lt (Nat.lt_of_lt_of_eq E_e1.lt g_b12.symm)
  have ne_e2_b12 : e2 ≠ b12 := Nat.ne_of_lt (Nat.lt_of_lt_of_eq E_e2.lt g_b12.symm)
  have ne_b1_b12 : b1 ≠ b12 := Nat.ne_of_lt (Nat.lt_of_lt_of_eq V_b1.lt g_b12.symm)
  replace V_u := V_u.ext Xh12
  replace E_e0 := E_e0.ext Xh12
  replace E_e1 := E_e1.ext Xh12
  replace E_e2 := E_e2.ext Xh12
  replace V_b1 := V_b1.ext Xh12
  replace E_b1 := E_b1.ext Xh12
  have F_elements_b12 : Fld Z h12 b12 "java/util/ImmutableCollections$ListN" "elements" "[Ljava/lang/Object;" .null := D_b12 (Or.inr (hw _ (List.mem_of_getElem? (i := 200) rfl))) (ty := (.array (.object "java/lang/Object"))) (by decide)
  have F_allowNulls_b12 : Fld Z h12 b12 "java/util/ImmutableCollections$ListN" "allowNulls" "Z" (.int (0 : Int32)) := D_b12 (Or.inr (hw _ (List.mem_of_getElem? (i := 202) rfl))) (ty := .boolean) (by decide)
  clear D_b12
  refine Wp.dup d29_32 (pc' := 33) rfl rfl ?_
  refine Wp.aloadN d29_33 (pc' := 34) rfl rfl rfl ?_
  refine Wp.iconst (x := (0 : Int32)) d29_34 (pc' := 35) rfl rfl ?_
  refine Wp.old fun hOc => ?_
  refine Wp.callIN (a := b12) (W := 1) (argsL := [(.ref b1), (.int (0 : Int32))]) (rest := [(.ref b12)]) rfl (ctLN l Z a0 hw hE b12 em b1 h12 hOc (Nat.le_trans hO.1 sz_b12) E_b12 hem F_elements_b12 F_allowNulls_b12) rfl rfl (hw _ (List.mem_of_getElem? (i := 181) rfl)) (hw _ (List.mem_of_getElem? (i := 182) rfl)) (hw _ (List.mem_of_getElem? (i := 184) rfl)) (hw _ (List.mem_of_getElem? (i := 180) rfl)) (by decide) (lenOf pd___Ljava_lang_Object_Z_V rfl) d29_35 rfl rfl rfl (Nat.le_of_eq rfl) (pc' := 38) rfl nofun (by intro x hx; simp only [List.mem_cons, List.not_mem_nil, or_false] at hx; rcases hx with rfl; exact (Or.inr sz_b12)) (by decide) (by decide) (k' := 2) (n' := 5) rfl rfl (by decide) (by decide) (fun vh13 h13 zh13 Kh13 qh13 => ?_)
  obtain rfl := qh13
  replace V_u := V_u.keep Kh13 (ninS ne_u_b12 nin0)
  replace E_e0 := E_e0.keep Kh13
  replace E_e1 := E_e1.keep Kh13
  replace E_e2 := E_e2.keep Kh13
  replace V_b1 := V_b1.keep Kh13 (ninS ne_b1_b12 nin0)
  replace E_b1 := E_b1.keep Kh13
  replace E_b12 := E_b12.keep Kh13
  refine Wp.eqS (S' := [(.ref b12)]) rfl ?_
  refine Wp.retA rfl rfl rfl d29_38 (by decide) (by decide) ?_
  exact ⟨_, rfl⟩
theorem ef_ctOF_3 (m : MethodId) (x0 : Addr) : entryFrame m #[(.ref x0)] 2 = mkF m 0 #[.val (.ref x0), .unset] [] := by first | (simp [entryFrame, mkF, argsToLocals, Value.category]; done) | rfl
set_option maxRecDepth 65536 in
set_option maxHeartbeats 40000000 in
theorem ctOF_3 (l : Launch) (Z : State) (a0 : Array Value) (hw : ∀ d ∈ tables_1, d.before a0 Z = true) (hE : EW Z a0 []) (u em : Addr) (ku : ClassId) (e0 : Addr) (e1 : Addr) (e2 : Addr) (h0 : Heap) (hO : Ext Z.heap h0) (V_u : Arv Z h0 u ku (.object "java/lang/Object") (3 : Int32) [(.ref e0), (.ref e1), (.ref e2)] .null) (hem : Sta Z Z.heap "java/util/ImmutableCollections" "EMPTY" "Ljava/lang/Object;" (.ref em)) (E_e0 : Exa Z h0 e0 "java/lang/String") (E_e1 : Exa Z h0 e1 "java/lang/String") (E_e2 : Exa Z h0 e2 "java/lang/String") :
    Ct true l Z [] [] (⟨"java/util/List", "of", "([Ljava/lang/Object;)Ljava/util/List;"⟩ : MethodName) jdk_40_method_47_code 2 (some (.object "java/util/List")) ({ frames := 6, cells := 2, slots := 5, locals := 77 } : Room) #[(.ref u)] h0 [] [] (fun v h => ∃ r : Addr, v = some (.ref r)) := by
  refine Ct.of_wp (a0 := a0) (Ls := #[.val (.ref u), .unset]) (plainFor_of_name pn_java_util_List) hE hO nofun (fun m => ef_ctOF_3 m u) ?_
  refine Wp.aloadN d28_0 (pc' := 1) rfl rfl rfl ?_
  refine Wp.alen V_u d28_1 (pc' := 2) rfl ?_
  refine Wp.tswOut (pc' := 59) d28_2 (by decide) (by decide) (by decide) ?_
  refine Wp.aloadN d28_59 (pc' := 60) rfl rfl rfl ?_
  refine Wp.old fun hOc => ?_
  refine Wp.callS (W := 0) (argsL := [(.ref u)]) (rest := []) rfl (ctLF l Z a0 hw hE u em ku e0 e1 e2 h0 hOc V_u hem E_e0 E_e1 E_e2) (hw _ (List.mem_of_getElem? (i := 172) rfl)) (hw _ (List.mem_of_getElem? (i := 173) rfl)) (hw _ (List.mem_of_getElem? (i := 174) rfl)) (hw _ (List.mem_of_getElem? (i := 122) rfl)) (by decide) (lenOf pd___Ljava_lang_Object__Ljava_util_List_ rfl) d28_60 rfl rfl rfl (Nat.le_of_eq rfl) (pc' := 63) rfl nofun nofun (by decide) (by decide) (k' := 2) (n' := 5) rfl rfl (by decide) (by decide) (fun vh1 h1 zh1 Kh1 qh1 => ?_)
  obtain ⟨r, rfl⟩ := qh1
  replace V_u := V_u.keep Kh1 nin0
  replace E_e0 := E_e0.keep Kh1
  replace E_e1 := E_e1.keep Kh1
  replace E_e2 := E_e2.keep Kh1
  refine Wp.eqS (S' := [(.ref r)]) rfl ?_
  refine Wp.retA rfl rfl rfl d28_63 (by decide) (by decide) ?_
  exact ⟨_, rfl⟩

theorem ef_ctLC_3 (m : MethodId) (x0 : Addr) : entryFrame m #[(.ref x0)] 2 = mkF m 0 #[.val (.ref x0), .unset] [] := by first | (simp [entryFrame, mkF, argsToLocals, Value.category]; done) | rfl
set_option maxRecDepth 65536 in
set_option maxHeartbeats 40000000 in
theorem ctLC_3 (l : Launch) (Z : State) (a0 : Array Value) (hw : ∀ d ∈ tables_1, d.before a0 Z = true) (hE : EW Z a0 []) (b d mr : Addr) (kd : ClassId) (e0 : Addr) (e1 : Addr) (e2 : Addr) (em : Addr) (h0 : Heap) (hO : Ext Z.heap h0) (E_b : Exa Z h0 b "java/util/ArrayList") (F_e : Fld Z h0 b "java/util/ArrayList" "elementData" "[Ljava/lang/Object;" (.ref d)) (F_s : Fld Z h0 b "java/util/ArrayList" "size" "I" (.int 3)) (hM : Mir Z "[Ljava/lang/Object;" mr) (E_d : Exa Z h0 d "[Ljava/lang/Object;") (V_d : Arv Z h0 d kd (.object "java/lang/Object") (10 : Int32) [(.ref e0), (.ref e1), (.ref e2), .null, .null, .null, .null, .null, .null, .null] .null) (E_e0 : Exa Z h0 e0 "java/lang/String") (E_e1 : Exa Z h0 e1 "java/lang/String") (E_e2 : Exa Z h0 e2 "java/lang/String") (hem : Sta Z Z.heap "java/util/ImmutableCollections" "EMPTY" "Ljava/lang/Object;" (.ref em)) :
    Ct true l Z [] [] (⟨"java/util/ImmutableCollections", "listCopy", "(Ljava/util/Collection;)Ljava/util/List;"⟩ : MethodName) jdk_56_method_3_code 2 (some (.object "java/util/List")) ({ frames := 7, cells := 3, slots := 8, locals := 100 } : Room) #[(.ref b)] h0 [] [] (fun v h => ∃ r : Addr, v = some (.ref r)) := by
  refine Ct.of_wp (a0 := a0) (Ls := #[.val (.ref b), .unset]) (plainFor_of_name pn_java_util_ImmutableCollections) hE hO nofun (fun m => ef_ctLC_3 m b) ?_
  refine Wp.aloadN d22_0 (pc' := 1) rfl rfl rfl ?_
  refine Wp.instNo rfl (hw _ (List.mem_of_getElem? (i := 124) rfl)) E_b (ns_fin (hw _ (List.mem_of_getElem? (i := 125) rfl)) (NS.step (hw _ (List.mem_of_getElem? (i := 125) rfl)) (NS.step (hw _ (List.mem_of_getElem? (i := 126) rfl)) (NS.step (hw _ (List.mem_of_getElem? (i := 127) rfl)) (ns_root (hw _ (List.mem_of_getElem? (i := 128) rfl)) (hw _ (List.mem_of_getElem? (i := 234) rfl)) (by decide)) (by decide)) (by decide)) (by decide)) (hw _ (List.mem_of_getElem? (i := 234) rfl)) (by decide)) d22_1 (pc' := 4) rfl ?_
  refine Wp.if_ne (pc1 := 26) (pc' := 7) d22_4 (by decide) (by decide) rfl (fun hc1 => by exact absurd hc1 (by decide)) (fun hc1 => ?_)
  refine Wp.aloadN d22_7 (pc' := 8) rfl rfl rfl ?_
  refine Wp.instNo rfl (hw _ (List.mem_of_getElem? (i := 129) rfl)) E_b (ns_fin (hw _ (List.mem_of_getElem? (i := 125) rfl)) (NS.step (hw _ (List.mem_of_getElem? (i := 125) rfl)) (NS.step (hw _ (List.mem_of_getElem? (i := 126) rfl)) (NS.step (hw _ (List.mem_of_getElem? (i := 127) rfl)) (ns_root (hw _ (List.mem_of_getElem? (i := 128) rfl)) (hw _ (List.mem_of_getElem? (i := 179) rfl)) (by decide)) (by decide)) (by decide)) (by decide)) (hw _ (List.mem_of_getElem? (i := 179) rfl)) (by decide)) d22_8 (pc' := 11) rfl ?_
  refine Wp.if_eq (pc1 := 31) (pc' := 14) d22_11 (by decide) (by decide) rfl (fun hc2 => ?_) (fun hc2 => by exact absurd hc2 (by decide))
  refine Wp.aloadN d22_31 (pc' := 32) rfl rfl rfl ?_
  refine Wp.old fun hOc => ?_
  refine Wp.callF (a := b) (x' := (⟨"java/util/Collection", "isEmpty", "()Z"⟩ : MethodName)) (W := 0) (argsL := []) (rest := []) rfl (ctIE l Z a0 hw hE b (3 : Int32) h0 hOc F_s) (hw _ (List.mem_of_getElem? (i := 130) rfl)) (hw _ (List.mem_of_getElem? (i := 131) rfl)) (hw _ (List.mem_of_getElem? (i := 132) rfl)) (hw _ (List.mem_of_getElem? (i := 133) rfl)) (hw _ (List.mem_of_getElem? (i := 134) rfl)) (hw _ (List.mem_of_getElem? (i := 135) rfl)) rfl (hw _ (List.mem_of_getElem? (i := 136) rfl)) (hw _ (List.mem_of_getElem? (i := 137) rfl)) (hw _ (List.mem_of_getElem? (i := 138) rfl)) (hw _ (List.mem_of_getElem? (i := 32) rfl)) E_b (by decide) (lenOf pd___Z rfl) d22_32 rfl rfl rfl (Nat.le_of_eq rfl) (pc' := 37) rfl nofun nofun (by decide) (by decide) (k' := 0) (n' := 0) rfl rfl (by decide) (by decide) (fun vh3 h3 zh3 Kh3 qh3 => ?_)
  obtain rfl : vh3 = some (.int 0) := qh3.trans (by rw [if_neg (by decide)])
  replace V_d := V_d.keep Kh3 nin0
  replace E_d := E_d.keep Kh3
  replace E_b := E_b.keep Kh3
  replace F_e := F_e.keep Kh3 nin0
  replace F_s := F_s.keep Kh3 nin0
  replace E_e0 := E_e0.keep Kh3
  replace E_e1 := E_e1.keep Kh3
  replace E_e2 := E_e2.keep Kh3
  refine Wp.eqS (S' := [(.int (0 : Int32))]) rfl ?_
  refine Wp.if_eq (pc1 := 44) (pc' := 40) d22_37 (by decide) (by decide) rfl (fun hc4 => ?_) (fun hc4 => by exact absurd hc4 (by decide))
  refine Wp.aloadN d22_44 (pc' := 45) rfl rfl rfl ?_
  refine Wp.old fun hOc => ?_
  refine Wp.callF (a := b) (x' := (⟨"java/util/Collection", "toArray", "()[Ljava/lang/Object;"⟩ : MethodName)) (W := 0) (argsL := []) (rest := []) rfl (ctTA_3 l Z a0 hw hE b d mr kd e0 e1 e2 h3 hOc E_b F_e F_s hM E_d V_d E_e0 E_e1 E_e2) (hw _ (List.mem_of_getElem? (i := 139) rfl)) (hw _ (List.mem_of_getElem? (i := 140) rfl)) (hw _ (List.mem_of_getElem? (i := 141) rfl)) (hw _ (List.mem_of_getElem? (i := 142) rfl)) (hw _ (List.mem_of_getElem? (i := 143) rfl)) (hw _ (List.mem_of_getElem? (i := 144) rfl)) rfl (hw _ (List.mem_of_getElem? (i := 145) rfl)) (hw _ (List.mem_of_getElem? (i := 137) rfl)) (hw _ (List.mem_of_getElem? (i := 146) rfl)) (hw _ (List.mem_of_getElem? (i := 32) rfl)) E_b (by decide) (lenOf pd____Ljava_lang_Object_ rfl) d22_45 rfl rfl rfl (Nat.le_of_eq rfl) (pc' := 50) rfl nofun nofun (by decide) (by decide) (k' := 1) (n' := 3) rfl rfl (by decide) (by decide) (fun vh5 h5 zh5 Kh5 qh5 => ?_)
  obtain ⟨u, k_u, rfl, sb_u, V_u⟩ := qh5
  have ne_d_u : d ≠ u := Nat.ne_of_lt (Nat.lt_of_lt_of_le V_d.lt sb_u)
  have ne_b_u : b ≠ u := Nat.ne_of_lt (Nat.lt_of_lt_of_le E_b.lt sb_u)
  have ne_e0_u : e0 ≠ u := Nat.ne_of_lt (Nat.lt_of_lt_of_le E_e0.lt sb_u)
  have ne_e1_u : e1 ≠ u := Nat.ne_of_lt (Nat.lt_of_lt_of_le E_e1.lt sb_u)
  have ne_e2_u : e2 ≠ u := Nat.ne_of_lt (Nat.lt_of_lt_of_le E_e2.lt sb_u)
  replace V_d := V_d.keep Kh5 nin0
  replace E_d := E_d.keep Kh5
  replace E_b := E_b.keep Kh5
  replace F_e := F_e.keep Kh5 nin0
  replace F_s := F_s.keep Kh5 nin0
  replace E_e0 := E_e0.keep Kh5
  replace E_e1 := E_e1.keep Kh5
  replace E_e2 := E_e2.keep Kh5
  refine Wp.eqS (S' := [(.ref u)]) rfl ?_
  have sz_u : h0.size ≤ u := Nat.le_trans zh5 sb_u
  refine Wp.old fun hOc => ?_
  refine Wp.callS (W := 0) (argsL := [(.ref u)]) (rest := []) rfl (ctOF_3 l Z a0 hw hE u em k_u e0 e1 e2 h5 hOc V_u hem E_e0 E_e1 E_e2) (hw _ (List.mem_of_getElem? (i := 169) rfl)) (hw _ (List.mem_of_getElem? (i := 170) rfl)) (hw _ (List.mem_of_getElem? (i := 171) rfl)) (hw _ (List.mem_of_getElem? (i := 118) rfl)) (by decide) (lenOf pd___Ljava_lang_Object__Ljava_util_List_ rfl) d22_50 rfl rfl rfl (Nat.le_of_eq rfl) (pc' := 53) rfl nofun nofun (by decide) (by decide) (k' := 3) (n' := 8) rfl rfl (by decide) (by decide) (fun vh6 h6 zh6 Kh6 qh6 => ?_)
  obtain ⟨r, rfl⟩ := qh6
  replace V_d := V_d.keep Kh6 nin0
  replace E_d := E_d.keep Kh6
  replace E_b := E_b.keep Kh6
  replace F_e := F_e.keep Kh6 nin0
  replace F_s := F_s.keep Kh6 nin0
  replace E_e0 := E_e0.keep Kh6
  replace E_e1 := E_e1.keep Kh6
  replace E_e2 := E_e2.keep Kh6
  replace V_u := V_u.keep Kh6 nin0
  refine Wp.eqS (S' := [(.ref r)]) rfl ?_
  refine Wp.retA rfl rfl rfl d22_53 (by decide) (by decide) ?_
  exact ⟨_, rfl⟩
theorem ef_ctCO_3 (m : MethodId) (x0 : Addr) : entryFrame m #[(.ref x0)] 1 = mkF m 0 #[.val (.ref x0)] [] := by first | (simp [entryFrame, mkF, argsToLocals, Value.category]; done) | rfl
set_option maxRecDepth 65536 in
set_option maxHeartbeats 40000000 in
theorem ctCO_3 (l : Launch) (Z : State) (a0 : Array Value) (hw : ∀ d ∈ tables_1, d.before a0 Z = true) (hE : EW Z a0 []) (b d mr : Addr) (kd : ClassId) (e0 : Addr) (e1 : Addr) (e2 : Addr) (em : Addr) (h0 : Heap) (hO : Ext Z.heap h0) (E_b : Exa Z h0 b "java/util/ArrayList") (F_e : Fld Z h0 b "java/util/ArrayList" "elementData" "[Ljava/lang/Object;" (.ref d)) (F_s : Fld Z h0 b "java/util/ArrayList" "size" "I" (.int 3)) (hM : Mir Z "[Ljava/lang/Object;" mr) (E_d : Exa Z h0 d "[Ljava/lang/Object;") (V_d : Arv Z h0 d kd (.object "java/lang/Object") (10 : Int32) [(.ref e0), (.ref e1), (.ref e2), .null, .null, .null, .null, .null, .null, .null] .null) (E_e0 : Exa Z h0 e0 "java/lang/String") (E_e1 : Exa Z h0 e1 "java/lang/String") (E_e2 : Exa Z h0 e2 "java/lang/String") (hem : Sta Z Z.heap "java/util/ImmutableCollections" "EMPTY" "Ljava/lang/Object;" (.ref em)) :
    Ct true l Z [] [] (⟨"java/util/List", "copyOf", "(Ljava/util/Collection;)Ljava/util/List;"⟩ : MethodName) jdk_40_method_48_code 1 (some (.object "java/util/List")) ({ frames := 8, cells := 3, slots := 8, locals := 113 } : Room) #[(.ref b)] h0 [] [] (fun v h => ∃ r : Addr, v = some (.ref r)) := by
  refine Ct.of_wp (a0 := a0) (Ls := #[.val (.ref b)]) (plainFor_of_name pn_java_util_List) hE hO nofun (fun m => ef_ctCO_3 m b) ?_
  refine Wp.aloadN d21_0 (pc' := 1) rfl rfl rfl ?_
  refine Wp.old fun hOc => ?_
  refine Wp.callS (W := 0) (argsL := [(.ref b)]) (rest := []) rfl (ctLC_3 l Z a0 hw hE b d mr kd e0 e1 e2 em h0 hOc E_b F_e F_s hM E_d V_d E_e0 E_e1 E_e2 hem) (hw _ (List.mem_of_getElem? (i := 120) rfl)) (hw _ (List.mem_of_getElem? (i := 121) rfl)) (hw _ (List.mem_of_getElem? (i := 123) rfl)) (hw _ (List.mem_of_getElem? (i := 122) rfl)) (by decide) (lenOf pd__Ljava_util_Collection__Ljava_util_List_ rfl) d21_1 rfl rfl rfl (Nat.le_of_eq rfl) (pc' := 4) rfl nofun nofun (by decide) (by decide) (k' := 3) (n' := 8) rfl rfl (by decide) (by decide) (fun vh1 h1 zh1 Kh1 qh1 => ?_)
  obtain ⟨r, rfl⟩ := qh1
  replace V_d := V_d.keep Kh1 nin0
  replace E_d := E_d.keep Kh1
  replace E_b := E_b.keep Kh1
  replace F_e := F_e.keep Kh1 nin0
  replace F_s := F_s.keep Kh1 nin0
  replace E_e0 := E_e0.keep Kh1
  replace E_e1 := E_e1.keep Kh1
  replace E_e2 := E_e2.keep Kh1
  refine Wp.eqS (S' := [(.ref r)]) rfl ?_
  refine Wp.retA rfl rfl rfl d21_4 (by decide) (by decide) ?_
  exact ⟨_, rfl⟩
theorem ef_ctBI_3n (m : MethodId) (x0 : Addr) (x1 : Addr) (x2 : Addr) : entryFrame m #[(.ref x0), (.ref x1), (.ref x2), .null] 4 = mkF m 0 #[.val (.ref x0), .val (.ref x1), .val (.ref x2), .val .null] [] := by first | (simp [entryFrame, mkF, argsToLocals, Value.category]; done) | rfl
set_option maxRecDepth 65536 in
set_option maxHeartbeats 40000000 in
theorem ctBI_3n (l : Launch) (Z : State) (a0 : Array Value) (hw : ∀ d ∈ tables_1, d.before a0 Z = true) (hE : EW Z a0 []) (o s : Addr) (b d mr : Addr) (kd : ClassId) (e0 : Addr) (e1 : Addr) (e2 : Addr) (em : Addr) (h0 : Heap) (hO : Ext Z.heap h0) (ho0 : Z.heap.size ≤ o) (E_o : Exa Z h0 o "com/example/rootward/rootward/policy/Binding") (E_s : Exa Z h0 s "java/lang/String") (G0 : Fld Z h0 o "com/example/rootward/rootward/policy/Binding" "role" "Ljava/lang/String;" .null) (G1 : Fld Z h0 o "com/example/rootward/rootward/policy/Binding" "members" "Ljava/util/List;" .null) (G2 : Fld Z h0 o "com/example/rootward/rootward/policy/Binding" "condition" "Lcom/example/rootward/rootward/policy/Condition;" .null) (ne_b_o : b ≠ o) (ne_d_o : d ≠ o) (E_b : Exa Z h0 b "java/util/ArrayList") (F_e : Fld Z h0 b "java/util/ArrayList" "elementData" "[Ljava/lang/Object;" (.ref d)) (F_s : Fld Z h0 b "java/util/ArrayList" "size" "I" (.int 3)) (hM : Mir Z "[Ljava/lang/Object;" mr) (E_d : Exa Z h0 d "[Ljava/lang/Object;") (V_d : Arv Z h0 d kd (.object "java/lang/Object") (10 : Int32) [(.ref e0), (.ref e1), (.ref e2), .null, .null, .null, .null, .null, .null, .null] .null) (E_e0 : Exa Z h0 e0 "java/lang/String") (E_e1 : Exa Z h0 e1 "java/lang/String") (E_e2 : Exa Z h0 e2 "java/lang/String") (hem : Sta Z Z.heap "java/util/ImmutableCollections" "EMPTY" "Ljava/lang/Object;" (.ref em)) :
    Ct true l Z [] [] (⟨"com/example/rootward/rootward/policy/Binding", "<init>", "(Ljava/lang/String;Ljava/util/Collection;Lcom/example/rootward/rootward/policy/Condition;)V"⟩ : MethodName) prog_54_method_1_code 4 none ({ frames := 9, cells := 5, slots := 28, locals := 126 } : Room) #[(.ref o), (.ref s), (.ref b), .null] h0 [] [o] (fun v h => v = none ∧ Fld Z h o "com/example/rootward/rootward/policy/Binding" "condition" "Lcom/example/rootward/rootward/policy/Condition;" .null) := by
  refine Ct.of_wp (a0 := a0) (Ls := #[.val (.ref o), .val (.ref s), .val (.ref b), .val .null]) (plainFor_of_name pn_com_example_rootward_rootward_policy_Binding) hE hO (by intro x hx; cases List.mem_singleton.mp hx; exact ho0) (fun m => ef_ctBI_3n m o s b) ?_
  refine Wp.aloadN d19_0 (pc' := 1) rfl rfl rfl ?_
  refine Wp.initO (W := 0) rfl (hw _ (List.mem_of_getElem? (i := 105) rfl)) (hw _ (List.mem_of_getElem? (i := 12) rfl)) (hw _ (List.mem_of_getElem? (i := 13) rfl)) d19_1 (pc' := 4) rfl rfl (by decide) (Nat.le_of_eq rfl) (by decide) ?_
  refine Wp.aloadN d19_4 (pc' := 5) rfl rfl rfl ?_
  refine Wp.aloadN d19_5 (pc' := 6) rfl rfl rfl ?_
  refine Wp.ldcO (nn := 16) rfl rfl (hw _ (List.mem_of_getElem? (i := 106) rfl)) (own_wS hw) d19_6 (pc' := 8) rfl (by decide) (by decide) (k' := 2) (n' := 20) rfl rfl (by decide) (by decide) (fun h1 c1 Xh1 => ?_)
  replace V_d := V_d.ext Xh1
  replace E_d := E_d.ext Xh1
  replace E_b := E_b.ext Xh1
  replace F_e := F_e.ext Xh1
  replace F_s := F_s.ext Xh1
  replace E_e0 := E_e0.ext Xh1
  replace E_e1 := E_e1.ext Xh1
  replace E_e2 := E_e2.ext Xh1
  replace E_o := E_o.ext Xh1
  replace E_s := E_s.ext Xh1
  replace G0 := G0.ext Xh1
  replace G1 := G1.ext Xh1
  replace G2 := G2.ext Xh1
  refine Wp.old fun hOc => ?_
  refine Wp.callS (W := 1) (argsL := [(.ref s), (.ref c1)]) (rest := [(.ref o)]) rfl (ctRNN l Z a0 hw hE s c1 h1 hOc) (hw _ (List.mem_of_getElem? (i := 109) rfl)) (hw _ (List.mem_of_getElem? (i := 110) rfl)) (hw _ (List.mem_of_getElem? (i := 112) rfl)) (hw _ (List.mem_of_getElem? (i := 111) rfl)) (by decide) (lenOf pd__Ljava_lang_Object_Ljava_lang_String__Ljava_lang_Object_ rfl) d19_8 rfl rfl rfl (Nat.le_of_eq rfl) (pc' := 11) rfl nofun nofun (by decide) (by decide) (k' := 2) (n' := 20) rfl rfl (by decide) (by decide) (fun vh2 h2 zh2 Kh2 qh2 => ?_)
  obtain rfl := qh2
  replace V_d := V_d.keep Kh2 nin0
  replace E_d := E_d.keep Kh2
  replace E_b := E_b.keep Kh2
  replace F_e := F_e.keep Kh2 nin0
  replace F_s := F_s.keep Kh2 nin0
  replace E_e0 := E_e0.keep Kh2
  replace E_e1 := E_e1.keep Kh2
  replace E_e2 := E_e2.keep Kh2
  replace E_o := E_o.keep Kh2
  replace E_s := E_s.keep Kh2
  replace G0 := G0.keep Kh2 nin0
  replace G1 := G1.keep Kh2 nin0
  replace G2 := G2.keep Kh2 nin0
  refine Wp.eqS (S' := [(.ref s), (.ref o)]) rfl ?_
  refine Wp.castY rfl (hw _ (List.mem_of_getElem? (i := 113) rfl)) (Ins.self E_s) d19_11 (pc' := 14) rfl ?_
  refine Wp.putF rfl (host := "") (Or.inl (hw _ (List.mem_of_getElem? (i := 114) rfl))) Via.refl G0 E_o (Or.inr ⟨(hw _ (List.mem_of_getElem? (i := 115) rfl)), rfl, rfl⟩) (hw _ (List.mem_of_getElem? (i := 100) rfl)) (ty := (.object "java/lang/String")) (by decide) rfl rfl d19_14 (pc' := 17) rfl (Or.inl (by simp)) (Sfe.exa E_o (by decide) (by decide)) (fun h3 W3 Fh3 => ?_)
  replace V_d := V_d.other W3 ne_d_o
  replace E_d := E_d.wr W3
  replace E_b := E_b.wr W3
  replace F_e := F_e.other W3 (Or.inl ne_b_o)
  replace F_s := F_s.other W3 (Or.inl ne_b_o)
  replace E_e0 := E_e0.wr W3
  replace E_e1 := E_e1.wr W3
  replace E_e2 := E_e2.wr W3
  replace E_o := E_o.wr W3
  replace E_s := E_s.wr W3
  replace G1 := G1.other W3 (Or.inr (slot_ne (Or.inr (hw _ (List.mem_of_getElem? (i := 204) rfl))) (Or.inr (hw _ (List.mem_of_getElem? (i := 115) rfl))) (by decide) (t := (.object "java/util/List")) (t' := (.object "java/lang/String")) (by decide) (by decide)))
  replace G2 := G2.other W3 (Or.inr (slot_ne (Or.inr (hw _ (List.mem_of_getElem? (i := 206) rfl))) (Or.inr (hw _ (List.mem_of_getElem? (i := 115) rfl))) (by decide) (t := (.object "com/example/rootward/rootward/policy/Condition")) (t' := (.object "java/lang/String")) (by decide) (by decide)))
  replace G0 := Fh3
  refine Wp.aloadN d19_17 (pc' := 18) rfl rfl rfl ?_
  refine Wp.aloadN d19_18 (pc' := 19) rfl rfl rfl ?_
  refine Wp.old fun hOc => ?_
  refine Wp.callS (W := 1) (argsL := [(.ref b)]) (rest := [(.ref o)]) rfl (ctCO_3 l Z a0 hw hE b d mr kd e0 e1 e2 em h3 hOc E_b F_e F_s hM E_d V_d E_e0 E_e1 E_e2 hem) (hw _ (List.mem_of_getElem? (i := 116) rfl)) (hw _ (List.mem_of_getElem? (i := 117) rfl)) (hw _ (List.mem_of_getElem? (i := 119) rfl)) (hw _ (List.mem_of_getElem? (i := 118) rfl)) (by decide) (lenOf pd__Ljava_util_Collection__Ljava_util_List_ rfl) d19_19 rfl rfl rfl (Nat.le_of_eq rfl) (pc' := 22) rfl nofun nofun (by decide) (by decide) (k' := 5) (n' := 28) rfl rfl (by decide) (by decide) (fun vh4 h4 zh4 Kh4 qh4 => ?_)
  obtain ⟨r, rfl⟩ := qh4
  replace V_d := V_d.keep Kh4 nin0
  replace E_d := E_d.keep Kh4
  replace E_b := E_b.keep Kh4
  replace F_e := F_e.keep Kh4 nin0
  replace F_s := F_s.keep Kh4 nin0
  replace E_e0 := E_e0.keep Kh4
  replace E_e1 := E_e1.keep Kh4
  replace E_e2 := E_e2.keep Kh4
  replace E_o := E_o.keep Kh4
  replace E_s := E_s.keep Kh4
  replace G0 := G0.keep Kh4 nin0
  replace G1 := G1.keep Kh4 nin0
  replace G2 := G2.keep Kh4 nin0
  refine Wp.eqS (S' := [(.ref r), (.ref o)]) rfl ?_
  refine Wp.putF rfl (host := "") (Or.inl (hw _ (List.mem_of_getElem? (i := 203) rfl))) Via.refl G1 E_o (Or.inr ⟨(hw _ (List.mem_of_getElem? (i := 204) rfl)), rfl, rfl⟩) (hw _ (List.mem_of_getElem? (i := 100) rfl)) (ty := (.object "java/util/List")) (by decide) rfl rfl d19_22 (pc' := 25) rfl (Or.inl (by simp)) (Sfe.exa E_o (by decide) (by decide)) (fun h5 W5 Fh5 => ?_)
  replace V_d := V_d.other W5 ne_d_o
  replace E_d := E_d.wr W5
  replace E_b := E_b.wr W5
  replace F_e := F_e.other W5 (Or.inl ne_b_o)
  replace F_s := F_s.other W5 (Or.inl ne_b_o)
  replace E_e0 := E_e0.wr W5
  replace E_e1 := E_e1.wr W5
  replace E_e2 := E_e2.wr W5
  replace E_o := E_o.wr W5
  replace E_s := E_s.wr W5
  replace G0 := G0.other W5 (Or.inr (slot_ne (Or.inr (hw _ (List.mem_of_getElem? (i := 115) rfl))) (Or.inr (hw _ (List.mem_of_getElem? (i := 204) rfl))) (by decide) (t := (.object "java/lang/String")) (t' := (.object "java/util/List")) (by decide) (by decide)))
  replace G2 := G2.other W5 (Or.inr (slot_ne (Or.inr (hw _ (List.mem_of_getElem? (i := 206) rfl))) (Or.inr (hw _ (List.mem_of_getElem? (i := 204) rfl))) (by decide) (t := (.object "com/example/rootward/rootward/policy/Condition")) (t' := (.object "java/util/List")) (by decide) (by decide)))
  replace G1 := Fh5
  refine Wp.aloadN d19_25 (pc' := 26) rfl rfl rfl ?_
  refine Wp.aloadN d19_26 (pc' := 27) rfl rfl rfl ?_
  refine Wp.putF rfl (host := "") (Or.inl (hw _ (List.mem_of_getElem? (i := 205) rfl))) Via.refl G2 E_o (Or.inr ⟨(hw _ (List.mem_of_getElem? (i := 206) rfl)), rfl, rfl⟩) (hw _ (List.mem_of_getElem? (i := 100) rfl)) (ty := (.object "com/example/rootward/rootward/policy/Condition")) (by decide) rfl rfl d19_27 (pc' := 30) rfl (Or.inl (by simp)) (Sfe.exa E_o (by decide) (by decide)) (fun h6 W6 Fh6 => ?_)
  replace V_d := V_d.other W6 ne_d_o
  replace E_d := E_d.wr W6
  replace E_b := E_b.wr W6
  replace F_e := F_e.other W6 (Or.inl ne_b_o)
  replace F_s := F_s.other W6 (Or.inl ne_b_o)
  replace E_e0 := E_e0.wr W6
  replace E_e1 := E_e1.wr W6
  replace E_e2 := E_e2.wr W6
  replace E_o := E_o.wr W6
  replace E_s := E_s.wr W6
  replace G0 := G0.other W6 (Or.inr (slot_ne (Or.inr (hw _ (List.mem_of_getElem? (i := 115) rfl))) (Or.inr (hw _ (List.mem_of_getElem? (i := 206) rfl))) (by decide) (t := (.object "java/lang/String")) (t' := (.object "com/example/rootward/rootward/policy/Condition")) (by decide) (by decide)))
  replace G1 := G1.other W6 (Or.inr (slot_ne (Or.inr (hw _ (List.mem_of_getElem? (i := 204) rfl))) (Or.inr (hw _ (List.mem_of_getElem? (i := 206) rfl))) (by decide) (t := (.object "java/util/List")) (t' := (.object "com/example/rootward/rootward/policy/Condition")) (by decide) (by decide)))
  replace G2 := Fh6
  refine Wp.retn rfl d19_30 (by decide) (by decide) ?_
  exact ⟨rfl, G2⟩
theorem ef_ctBI_3r (m : MethodId) (x0 : Addr) (x1 : Addr) (x2 : Addr) (x3 : Addr) : entryFrame m #[(.ref x0), (.ref x1), (.ref x2), (.ref x3)] 4 = mkF m 0 #[.val (.ref x0), .val (.ref x1), .val (.ref x2), .val (.ref x3)] [] := by first | (simp [entryFrame, mkF, argsToLocals, Value.category]; done) | rfl
set_option maxRecDepth 65536 in
set_option maxHeartbeats 40000000 in
theorem ctBI_3r (l : Launch) (Z : State) (a0 : Array Value) (hw : ∀ d ∈ tables_1, d.before a0 Z = true) (hE : EW Z a0 []) (o s : Addr) (cc : Addr) (b d mr : Addr) (kd : ClassId) (e0 : Addr) (e1 : Addr) (e2 : Addr) (em : Addr) (h0 : Heap) (hO : Ext Z.heap h0) (ho0 : Z.heap.size ≤ o) (E_o : Exa Z h0 o "com/example/rootward/rootward/policy/Binding") (E_s : Exa Z h0 s "java/lang/String") (G0 : Fld Z h0 o "com/example/rootward/rootward/policy/Binding" "role" "Ljava/lang/String;" .null) (G1 : Fld Z h0 o "com/example/rootward/rootward/policy/Binding" "members" "Ljava/util/List;" .null) (G2 : Fld Z h0 o "com/example/rootward/rootward/policy/Binding" "condition" "Lcom/example/rootward/rootward/policy/Condition;" .null) (ne_b_o : b ≠ o) (ne_d_o : d ≠ o) (E_b : Exa Z h0 b "java/util/ArrayList") (F_e : Fld Z h0 b "java/util/ArrayList" "elementData" "[Ljava/lang/Object;" (.ref d)) (F_s : Fld Z h0 b "java/util/ArrayList" "size" "I" (.int 3)) (hM : Mir Z "[Ljava/lang/Object;" mr) (E_d : Exa Z h0 d "[Ljava/lang/Object;") (V_d : Arv Z h0 d kd (.object "java/lang/Object") (10 : Int32) [(.ref e0), (.ref e1), (.ref e2), .null, .null, .null, .null, .null, .null, .null] .null) (E_e0 : Exa Z h0 e0 "java/lang/String") (E_e1 : Exa Z h0 e1 "java/lang/String") (E_e2 : Exa Z h0 e2 "java/lang/String") (hem : Sta Z Z.heap "java/util/ImmutableCollections" "EMPTY" "Ljava/lang/Object;" (.ref em)) :
    Ct true l Z [] [] (⟨"com/example/rootward/rootward/policy/Binding", "<init>", "(Ljava/lang/String;Ljava/util/Collection;Lcom/example/rootward/rootward/policy/Condition;)V"⟩ : MethodName) prog_54_method_1_code 4 none ({ frames := 9, cells := 5, slots := 28, locals := 126 } : Room) #[(.ref o), (.ref s), (.ref b), (.ref cc)] h0 [] [o] (fun v h => v = none ∧ Fld Z h o "com/example/rootward/rootward/policy/Binding" "condition" "Lcom/example/rootward/rootward/policy/Condition;" (.ref cc)) := by
  refine Ct.of_wp (a0 := a0) (Ls := #[.val (.ref o), .val (.ref s), .val (.ref b), .val (.ref cc)]) (plainFor_of_name pn_com_example_rootward_rootward_policy_Binding) hE hO (by intro x hx; cases List.mem_singleton.mp hx; exact ho0) (fun m => ef_ctBI_3r m o s b cc) ?_
  refine Wp.aloadN d19_0 (pc' := 1) rfl rfl rfl ?_
  refine Wp.initO (W := 0) rfl (hw _ (List.mem_of_getElem? (i := 105) rfl)) (hw _ (List.mem_of_getElem? (i := 12) rfl)) (hw _ (List.mem_of_getElem? (i := 13) rfl)) d19_1 (pc' := 4) rfl rfl (by decide) (Nat.le_of_eq rfl) (by decide) ?_
  refine Wp.aloadN d19_4 (pc' := 5) rfl rfl rfl ?_
  refine Wp.aloadN d19_5 (pc' := 6) rfl rfl rfl ?_
  refine Wp.ldcO (nn := 16) rfl rfl (hw _ (List.mem_of_getElem? (i := 106) rfl)) (own_wS hw) d19_6 (pc' := 8) rfl (by decide) (by decide) (k' := 2) (n' := 20) rfl rfl (by decide) (by decide) (fun h1 c1 Xh1 => ?_)
  replace V_d := V_d.ext Xh1
  replace E_d := E_d.ext Xh1
  replace E_b := E_b.ext Xh1
  replace F_e := F_e.ext Xh1
  replace F_s := F_s.ext Xh1
  replace E_e0 := E_e0.ext Xh1
  replace E_e1 := E_e1.ext Xh1
  replace E_e2 := E_e2.ext Xh1
  replace E_o := E_o.ext Xh1
  replace E_s := E_s.ext Xh1
  replace G0 := G0.ext Xh1
  replace G1 := G1.ext Xh1
  replace G2 := G2.ext Xh1
  refine Wp.old fun hOc => ?_
  refine Wp.callS (W := 1) (argsL := [(.ref s), (.ref c1)]) (rest := [(.ref o)]) rfl (ctRNN l Z a0 hw hE s c1 h1 hOc) (hw _ (List.mem_of_getElem? (i := 109) rfl)) (hw _ (List.mem_of_getElem? (i := 110) rfl)) (hw _ (List.mem_of_getElem? (i := 112) rfl)) (hw _ (List.mem_of_getElem? (i := 111) rfl)) (by decide) (lenOf pd__Ljava_lang_Object_Ljava_lang_String__Ljava_lang_Object_ rfl) d19_8 rfl rfl rfl (Nat.le_of_eq rfl) (pc' := 11) rfl nofun nofun (by decide) (by decide) (k' := 2) (n' := 20) rfl rfl (by decide) (by decide) (fun vh2 h2 zh2 Kh2 qh2 => ?_)
  obtain rfl := qh2
  replace V_d := V_d.keep Kh2 nin0
  replace E_d := E_d.keep Kh2
  replace E_b := E_b.keep Kh2
  replace F_e := F_e.keep Kh2 nin0
  replace F_s := F_s.keep Kh2 nin0
  replace E_e0 := E_e0.keep Kh2
  replace E_e1 := E_e1.keep Kh2
  replace E_e2 := E_e2.keep Kh2
  replace E_o := E_o.keep Kh2
  replace E_s := E_s.keep Kh2
  replace G0 := G0.keep Kh2 nin0
  replace G1 := G1.keep Kh2 nin0
  replace G2 := G2.keep Kh2 nin0
  refine Wp.eqS (S' := [(.ref s), (.ref o)]) rfl ?_
  refine Wp.castY rfl (hw _ (List.mem_of_getElem? (i := 113) rfl)) (Ins.self E_s) d19_11 (pc' := 14) rfl ?_
  refine Wp.putF rfl (host := "") (Or.inl (hw _ (List.mem_of_getElem? (i := 114) rfl))) Via.refl G0 E_o (Or.inr ⟨(hw _ (List.mem_of_getElem? (i := 115) rfl)), rfl, rfl⟩) (hw _ (List.mem_of_getElem? (i := 100) rfl)) (ty := (.object "java/lang/String")) (by decide) rfl rfl d19_14 (pc' := 17) rfl (Or.inl (by simp)) (Sfe.exa E_o (by decide) (by decide)) (fun h3 W3 Fh3 => ?_)
  replace V_d := V_d.other W3 ne_d_o
  replace E_d := E_d.wr W3
  replace E_b := E_b.wr W3
  replace F_e := F_e.other W3 (Or.inl ne_b_o)
  replace F_s := F_s.other W3 (Or.inl ne_b_o)
  replace E_e0 := E_e0.wr W3
  replace E_e1 := E_e1.wr W3
  replace E_e2 := E_e2.wr W3
  replace E_o := E_o.wr W3
  replace E_s := E_s.wr W3
  replace G1 := G1.other W3 (Or.inr (slot_ne (Or.inr (hw _ (List.mem_of_getElem? (i := 204) rfl))) (Or.inr (hw _ (List.mem_of_getElem? (i := 115) rfl))) (by decide) (t := (.object "java/util/List")) (t' := (.object "java/lang/String")) (by decide) (by decide)))
  replace G2 := G2.other W3 (Or.inr (slot_ne (Or.inr (hw _ (List.mem_of_getElem? (i := 206) rfl))) (Or.inr (hw _ (List.mem_of_getElem? (i := 115) rfl))) (by decide) (t := (.object "com/example/rootward/rootward/policy/Condition")) (t' := (.object "java/lang/String")) (by decide) (by decide)))
  replace G0 := Fh3
  refine Wp.aloadN d19_17 (pc' := 18) rfl rfl rfl ?_
  refine Wp.aloadN d19_18 (pc' := 19) rfl rfl rfl ?_
  refine Wp.old fun hOc => ?_
  refine Wp.callS (W := 1) (argsL := [(.ref b)]) (rest := [(.ref o)]) rfl (ctCO_3 l Z a0 hw hE b d mr kd e0 e1 e2 em h3 hOc E_b F_e F_s hM E_d V_d E_e0 E_e1 E_e2 hem) (hw _ (List.mem_of_getElem? (i := 116) rfl)) (hw _ (List.mem_of_getElem? (i := 117) rfl)) (hw _ (List.mem_of_getElem? (i := 119) rfl)) (hw _ (List.mem_of_getElem? (i := 118) rfl)) (by decide) (lenOf pd__Ljava_util_Collection__Ljava_util_List_ rfl) d19_19 rfl rfl rfl (Nat.le_of_eq rfl) (pc' := 22) rfl nofun nofun (by decide) (by decide) (k' := 5) (n' := 28) rfl rfl (by decide) (by decide) (fun vh4 h4 zh4 Kh4 qh4 => ?_)
  obtain ⟨r, rfl⟩ := qh4
  replace V_d := V_d.keep Kh4 nin0
  replace E_d := E_d.keep Kh4
  replace E_b := E_b.keep Kh4
  replace F_e := F_e.keep Kh4 nin0
  replace F_s := F_s.keep Kh4 nin0
  replace E_e0 := E_e0.keep Kh4
  replace E_e1 := E_e1.keep Kh4
  replace E_e2 := E_e2.keep Kh4
  replace E_o := E_o.keep Kh4
  replace E_s := E_s.keep Kh4
  replace G0 := G0.keep Kh4 nin0
  replace G1 := G1.keep Kh4 nin0
  replace G2 := G2.keep Kh4 nin0
  refine Wp.eqS (S' := [(.ref r), (.ref o)]) rfl ?_
  refine Wp.putF rfl (host := "") (Or.inl (hw _ (List.mem_of_getElem? (i := 203) rfl))) Via.refl G1 E_o (Or.inr ⟨(hw _ (List.mem_of_getElem? (i := 204) rfl)), rfl, rfl⟩) (hw _ (List.mem_of_getElem? (i := 100) rfl)) (ty := (.object "java/util/List")) (by decide) rfl rfl d19_22 (pc' := 25) rfl (Or.inl (by simp)) (Sfe.exa E_o (by decide) (by decide)) (fun h5 W5 Fh5 => ?_)
  replace V_d := V_d.other W5 ne_d_o
  replace E_d := E_d.wr W5
  replace E_b := E_b.wr W5
  replace F_e := F_e.other W5 (Or.inl ne_b_o)
  replace F_s := F_s.other W5 (Or.inl ne_b_o)
  replace E_e0 := E_e0.wr W5
  replace E_e1 := E_e1.wr W5
  replace E_e2 := E_e2.wr W5
  replace E_o := E_o.wr W5
  replace E_s := E_s.wr W5
  replace G0 := G0.other W5 (Or.inr (slot_ne (Or.inr (hw _ (List.mem_of_getElem? (i := 115) rfl))) (Or.inr (hw _ (List.mem_of_getElem? (i := 204) rfl))) (by decide) (t := (.object "java/lang/String")) (t' := (.object "java/util/List")) (by decide) (by decide)))
  replace G2 := G2.other W5 (Or.inr (slot_ne (Or.inr (hw _ (List.mem_of_getElem? (i := 206) rfl))) (Or.inr (hw _ (List.mem_of_getElem? (i := 204) rfl))) (by decide) (t := (.object "com/example/rootward/rootward/policy/Condition")) (t' := (.object "java/util/List")) (by decide) (by decide)))
  replace G1 := Fh5
  refine Wp.aloadN d19_25 (pc' := 26) rfl rfl rfl ?_
  refine Wp.aloadN d19_26 (pc' := 27) rfl rfl rfl ?_
  refine Wp.putF rfl (host := "") (Or.inl (hw _ (List.mem_of_getElem? (i := 205) rfl))) Via.refl G2 E_o (Or.inr ⟨(hw _ (List.mem_of_getElem? (i := 206) rfl)), rfl, rfl⟩) (hw _ (List.mem_of_getElem? (i := 100) rfl)) (ty := (.object "com/example/rootward/rootward/policy/Condition")) (by decide) rfl rfl d19_27 (pc' := 30) rfl (Or.inl (by simp)) (Sfe.exa E_o (by decide) (by decide)) (fun h6 W6 Fh6 => ?_)
  replace V_d := V_d.other W6 ne_d_o
  replace E_d := E_d.wr W6
  replace E_b := E_b.wr W6
  replace F_e := F_e.other W6 (Or.inl ne_b_o)
  replace F_s := F_s.other W6 (Or.inl ne_b_o)
  replace E_e0 := E_e0.wr W6
  replace E_e1 := E_e1.wr W6
  replace E_e2 := E_e2.wr W6
  replace E_o := E_o.wr W6
  replace E_s := E_s.wr W6
  replace G0 := G0.other W6 (Or.inr (slot_ne (Or.inr (hw _ (List.mem_of_getElem? (i := 115) rfl))) (Or.inr (hw _ (List.mem_of_getElem? (i := 206) rfl))) (by decide) (t := (.object "java/lang/String")) (t' := (.object "com/example/rootward/rootward/policy/Condition")) (by decide) (by decide)))
  replace G1 := G1.other W6 (Or.inr (slot_ne (Or.inr (hw _ (List.mem_of_getElem? (i := 204) rfl))) (Or.inr (hw _ (List.mem_of_getElem? (i := 206) rfl))) (by decide) (t := (.object "java/util/List")) (t' := (.object "com/example/rootward/rootward/policy/Condition")) (by decide) (by decide)))
  replace G2 := Fh6
  refine Wp.retn rfl d19_30 (by decide) (by decide) ?_
  exact ⟨rfl, G2⟩
theorem d34_0 : decode prog_54_method_5_code 0 = .ok (.aload_n 0, 1) := by decide +kernel
theorem d34_1 : decode prog_54_method_5_code 1 = .ok (.getfield 32, 3) := by decide +kernel
theorem d34_4 : decode prog_54_method_5_code 4 = .ok (.ifnull 7, 3) := by decide +kernel
theorem d34_7 : decode prog_54_method_5_code 7 = .ok (.iconst 1, 1) := by decide +kernel
theorem d34_8 : decode prog_54_method_5_code 8 = .ok (.goto 4, 3) := by decide +kernel
theorem d34_11 : decode prog_54_method_5_code 11 = .ok (.iconst 0, 1) := by decide +kernel
theorem d34_12 : decode prog_54_method_5_code 12 = .ok (.ireturn, 1) := by decide +kernel
theorem ef_ctICn (m : MethodId) (x0 : Addr) : entryFrame m #[(.ref x0)] 1 = mkF m 0 #[.val (.ref x0)] [] := by first | (simp [entryFrame, mkF, argsToLocals, Value.category]; done) | rfl
set_option maxRecDepth 65536 in
set_option maxHeartbeats 40000000 in
theorem ctICn (l : Launch) (Z : State) (a0 : Array Value) (hw : ∀ d ∈ tables_1, d.before a0 Z = true) (hE : EW Z a0 []) (b : Addr) (h0 : Heap) (hO : Ext Z.heap h0) (F : Fld Z h0 b "com/example/rootward/rootward/policy/Binding" "condition" "Lcom/example/rootward/rootward/policy/Condition;" .null) :
    Ct true l Z [] [] (⟨"com/example/rootward/rootward/policy/Binding", "isConditional", "()Z"⟩ : MethodName) prog_54_method_5_code 1 (some .boolean) ({ frames := 0, cells := 0, slots := 0, locals := 0 } : Room) #[(.ref b)] h0 [] [] (fun v h => v = some (.int 0)) := by
  refine Ct.of_wp (a0 := a0) (Ls := #[.val (.ref b)]) (plainFor_of_name pn_com_example_rootward_rootward_policy_Binding) hE hO nofun (fun m => ef_ctICn m b) ?_
  refine Wp.aloadN d34_0 (pc' := 1) rfl rfl rfl ?_
  refine Wp.getF rfl (host := "") (Or.inl (hw _ (List.mem_of_getElem? (i := 205) rfl))) Via.refl F d34_1 (pc' := 4) rfl ?_
  refine Wp.ifnullYes (pc' := 11) d34_4 (by decide) (by decide) ?_
  refine Wp.iconst (x := (0 : Int32)) d34_11 (pc' := 12) rfl rfl ?_
  refine Wp.retN (x' := (0 : Int32)) (t := .boolean) rfl (by simp) rfl d34_12 (by decide) (by decide) ?_
  rfl
theorem ef_ctICr (m : MethodId) (x0 : Addr) : entryFrame m #[(.ref x0)] 1 = mkF m 0 #[.val (.ref x0)] [] := by first | (simp [entryFrame, mkF, argsToLocals, Value.category]; done) | rfl
set_option maxRecDepth 65536 in
set_option maxHeartbeats 40000000 in
theorem ctICr (l : Launch) (Z : State) (a0 : Array Value) (hw : ∀ d ∈ tables_1, d.before a0 Z = true) (hE : EW Z a0 []) (b c : Addr) (h0 : Heap) (hO : Ext Z.heap h0) (F : Fld Z h0 b "com/example/rootward/rootward/policy/Binding" "condition" "Lcom/example/rootward/rootward/policy/Condition;" (.ref c)) :
    Ct true l Z [] [] (⟨"com/example/rootward/rootward/policy/Binding", "isConditional", "()Z"⟩ : MethodName) prog_54_method_5_code 1 (some .boolean) ({ frames := 0, cells := 0, slots := 0, locals := 0 } : Room) #[(.ref b)] h0 [] [] (fun v h => v = some (.int 1)) := by
  refine Ct.of_wp (a0 := a0) (Ls := #[.val (.ref b)]) (plainFor_of_name pn_com_example_rootward_rootward_policy_Binding) hE hO nofun (fun m => ef_ctICr m b) ?_
  refine Wp.aloadN d34_0 (pc' := 1) rfl rfl rfl ?_
  refine Wp.getF rfl (host := "") (Or.inl (hw _ (List.mem_of_getElem? (i := 205) rfl))) Via.refl F d34_1 (pc' := 4) rfl ?_
  refine Wp.ifnullNo (pc' := 7) d34_4 rfl ?_
  refine Wp.iconst (x := (1 : Int32)) d34_7 (pc' := 8) rfl rfl ?_
  refine Wp.goto (pc' := 12) d34_8 (by decide) (by decide) ?_
  refine Wp.retN (x' := (1 : Int32)) (t := .boolean) rfl (by simp) rfl d34_12 (by decide) (by decide) ?_
  rfl
theorem d35_0 : decode prog_56_method_1_code 0 = .ok (.aload_n 0, 1) := by decide +kernel
theorem d35_1 : decode prog_56_method_1_code 1 = .ok (.invokespecial 1, 3) := by decide +kernel
theorem d35_4 : decode prog_56_method_1_code 4 = .ok (.aload_n 0, 1) := by decide +kernel
theorem d35_5 : decode prog_56_method_1_code 5 = .ok (.aload_n 1, 1) := by decide +kernel
theorem d35_6 : decode prog_56_method_1_code 6 = .ok (.ldc 7, 2) := by decide +kernel
theorem d35_8 : decode prog_56_method_1_code 8 = .ok (.invokestatic 9, 3) := by decide +kernel
theorem d35_11 : decode prog_56_method_1_code 11 = .ok (.checkcast 15, 3) := by decide +kernel
theorem d35_14 : decode prog_56_method_1_code 14 = .ok (.putfield 17, 3) := by decide +kernel
theorem d35_17 : decode prog_56_method_1_code 17 = .ok (.aload_n 0, 1) := by decide +kernel
theorem d35_18 : decode prog_56_method_1_code 18 = .ok (.aload_n 2, 1) := by decide +kernel
theorem d35_19 : decode prog_56_method_1_code 19 = .ok (.ldc 22, 2) := by decide +kernel
theorem d35_21 : decode prog_56_method_1_code 21 = .ok (.invokestatic 9, 3) := by decide +kernel
theorem d35_24 : decode prog_56_method_1_code 24 = .ok (.checkcast 15, 3) := by decide +kernel
theorem d35_27 : decode prog_56_method_1_code 27 = .ok (.putfield 24, 3) := by decide +kernel
theorem d35_30 : decode prog_56_method_1_code 30 = .ok (.aload_n 0, 1) := by decide +kernel
theorem d35_31 : decode prog_56_method_1_code 31 = .ok (.aload_n 3, 1) := by decide +kernel
theorem d35_32 : decode prog_56_method_1_code 32 = .ok (.ldc 26, 2) := by decide +kernel
theorem d35_34 : decode prog_56_method_1_code 34 = .ok (.invokestatic 9, 3) := by decide +kernel
theorem d35_37 : decode prog_56_method_1_code 37 = .ok (.checkcast 15, 3) := by decide +kernel
theorem d35_40 : decode prog_56_method_1_code 40 = .ok (.putfield 28, 3) := by decide +kernel
theorem d35_43 : decode prog_56_method_1_code 43 = .ok (.aload_n 0, 1) := by decide +kernel
theorem d35_44 : decode prog_56_method_1_code 44 = .ok (.aload 4, 2) := by decide +kernel
theorem d35_46 : decode prog_56_method_1_code 46 = .ok (.ldc 30, 2) := by decide +kernel
theorem d35_48 : decode prog_56_method_1_code 48 = .ok (.invokestatic 9, 3) := by decide +kernel
theorem d35_51 : decode prog_56_method_1_code 51 = .ok (.checkcast 15, 3) := by decide +kernel
theorem d35_54 : decode prog_56_method_1_code 54 = .ok (.putfield 32, 3) := by decide +kernel
theorem d35_57 : decode prog_56_method_1_code 57 = .ok (.return_, 1) := by decide +kernel
theorem pn_com_example_rootward_rootward_policy_Condition : plainName "com/example/rootward/rootward/policy/Condition" = true := by first | (simp [plainName, overriddenIn]; done) | decide +kernel
theorem ef_ctCD (m : MethodId) (x0 : Addr) (x1 : Addr) (x2 : Addr) (x3 : Addr) (x4 : Addr) : entryFrame m #[(.ref x0), (.ref x1), (.ref x2), (.ref x3), (.ref x4)] 5 = mkF m 0 #[.val (.ref x0), .val (.ref x1), .val (.ref x2), .val (.ref x3), .val (.ref x4)] [] := by first | (simp [entryFrame, mkF, argsToLocals, Value.category]; done) | rfl
set_option maxRecDepth 65536 in
set_option maxHeartbeats 40000000 in
theorem ctCD (l : Launch) (Z : State) (a0 : Array Value) (hw : ∀ d ∈ tables_1, d.before a0 Z = true) (hE : EW Z a0 []) (b t1 t2 t3 t4 : Addr) (h0 : Heap) (hO : Ext Z.heap h0) (hb0 : Z.heap.size ≤ b) (E_b : Exa Z h0 b "com/example/rootward/rootward/policy/Condition") (F0 : Fld Z h0 b "com/example/rootward/rootward/policy/Condition" "expression" "Ljava/lang/String;" .null) (F1 : Fld Z h0 b "com/example/rootward/rootward/policy/Condition" "title" "Ljava/lang/String;" .null) (F2 : Fld Z h0 b "com/example/rootward/rootward/policy/Condition" "description" "Ljava/lang/String;" .null) (F3 : Fld Z h0 b "com/example/rootward/rootward/policy/Condition" "location" "Ljava/lang/String;" .null) (E_t1 : Exa Z h0 t1 "java/lang/String") (E_t2 : Exa Z h0 t2 "java/lang/String") (E_t3 : Exa Z h0 t3 "java/lang/String") (E_t4 : Exa Z h0 t4 "java/lang/String") :
    Ct true l Z [] [] (⟨"com/example/rootward/rootward/policy/Condition", "<init>", "(Ljava/lang/String;Ljava/lang/String;Ljava/lang/String;Ljava/lang/String;)V"⟩ : MethodName) prog_56_method_1_code 5 none ({ frames := 1, cells := 8, slots := 152, locals := 14 } : Room) #[(.ref b), (.ref t1), (.ref t2), (.ref t3), (.ref t4)] h0 [] [b] (fun v h => v = none) := by
  refine Ct.of_wp (a0 := a0) (Ls := #[.val (.ref b), .val (.ref t1), .val (.ref t2), .val (.ref t3), .val (.ref t4)]) (plainFor_of_name pn_com_example_rootward_rootward_policy_Condition) hE hO (by intro x hx; cases List.mem_singleton.mp hx; exact hb0) (fun m => ef_ctCD m b t1 t2 t3 t4) ?_
  refine Wp.aloadN d35_0 (pc' := 1) rfl rfl rfl ?_
  refine Wp.initO (W := 0) rfl (hw _ (List.mem_of_getElem? (i := 218) rfl)) (hw _ (List.mem_of_getElem? (i := 12) rfl)) (hw _ (List.mem_of_getElem? (i := 13) rfl)) d35_1 (pc' := 4) rfl rfl (by decide) (Nat.le_of_eq rfl) (by decide) ?_
  refine Wp.aloadN d35_4 (pc' := 5) rfl rfl rfl ?_
  refine Wp.aloadN d35_5 (pc' := 6) rfl rfl rfl ?_
  refine Wp.ldcO (nn := 40) rfl rfl (hw _ (List.mem_of_getElem? (i := 219) rfl)) (own_wS hw) d35_6 (pc' := 8) rfl (by decide) (by decide) (k' := 2) (n' := 44) rfl rfl (by decide) (by decide) (fun h1 c1 Xh1 => ?_)
  replace E_b := E_b.ext Xh1
  replace F0 := F0.ext Xh1
  replace F1 := F1.ext Xh1
  replace F2 := F2.ext Xh1
  replace F3 := F3.ext Xh1
  replace E_t1 := E_t1.ext Xh1
  replace E_t2 := E_t2.ext Xh1
  replace E_t3 := E_t3.ext Xh1
  replace E_t4 := E_t4.ext Xh1
  refine Wp.old fun hOc => ?_
  refine Wp.callS (W := 1) (argsL := [(.ref t1), (.ref c1)]) (rest := [(.ref b)]) rfl (ctRNN l Z a0 hw hE t1 c1 h1 hOc) (hw _ (List.mem_of_getElem? (i := 220) rfl)) (hw _ (List.mem_of_getElem? (i := 110) rfl)) (hw _ (List.mem_of_getElem? (i := 112) rfl)) (hw _ (List.mem_of_getElem? (i := 111) rfl)) (by decide) (lenOf pd__Ljava_lang_Object_Ljava_lang_String__Ljava_lang_Object_ rfl) d35_8 rfl rfl rfl (Nat.le_of_eq rfl) (pc' := 11) rfl nofun nofun (by decide) (by decide) (k' := 2) (n' := 44) rfl rfl (by decide) (by decide) (fun vh2 h2 zh2 Kh2 qh2 => ?_)
  obtain rfl := qh2
  replace E_b := E_b.keep Kh2
  replace F0 := F0.keep Kh2 nin0
  replace F1 := F1.keep Kh2 nin0
  replace F2 := F2.keep Kh2 nin0
  replace F3 := F3.keep Kh2 nin0
  replace E_t1 := E_t1.keep Kh2
  replace E_t2 := E_t2.keep Kh2
  replace E_t3 := E_t3.keep Kh2
  replace E_t4 := E_t4.keep Kh2
  refine Wp.eqS (S' := [(.ref t1), (.ref b)]) rfl ?_
  refine Wp.castY rfl (hw _ (List.mem_of_getElem? (i := 221) rfl)) (Ins.self E_t1) d35_11 (pc' := 14) rfl ?_
  refine Wp.putF rfl (host := "") (Or.inl (hw _ (List.mem_of_getElem? (i := 222) rfl))) Via.refl F0 E_b (Or.inr ⟨(hw _ (List.mem_of_getElem? (i := 223) rfl)), rfl, rfl⟩) (hw _ (List.mem_of_getElem? (i := 213) rfl)) (ty := (.object "java/lang/String")) (by decide) rfl rfl d35_14 (pc' := 17) rfl (Or.inl (by simp)) (Sfe.exa E_b (by decide) (by decide)) (fun h3 W3 Fh3 => ?_)
  replace E_b := E_b.wr W3
  replace F1 := F1.other W3 (Or.inr (slot_ne (Or.inr (hw _ (List.mem_of_getElem? (i := 226) rfl))) (Or.inr (hw _ (List.mem_of_getElem? (i := 223) rfl))) (by decide) (t := (.object "java/lang/String")) (t' := (.object "java/lang/String")) (by decide) (by decide)))
  replace F2 := F2.other W3 (Or.inr (slot_ne (Or.inr (hw _ (List.mem_of_getElem? (i := 229) rfl))) (Or.inr (hw _ (List.mem_of_getElem? (i := 223) rfl))) (by decide) (t := (.object "java/lang/String")) (t' := (.object "java/lang/String")) (by decide) (by decide)))
  replace F3 := F3.other W3 (Or.inr (slot_ne (Or.inr (hw _ (List.mem_of_getElem? (i := 232) rfl))) (Or.inr (hw _ (List.mem_of_getElem? (i := 223) rfl))) (by decide) (t := (.object "java/lang/String")) (t' := (.object "java/lang/String")) (by decide) (by decide)))
  replace E_t1 := E_t1.wr W3
  replace E_t2 := E_t2.wr W3
  replace E_t3 := E_t3.wr W3
  replace E_t4 := E_t4.wr W3
  replace F0 := Fh3
  refine Wp.aloadN d35_17 (pc' := 18) rfl rfl rfl ?_
  refine Wp.aloadN d35_18 (pc' := 19) rfl rfl rfl ?_
  refine Wp.ldcO (nn := 20) rfl rfl (hw _ (List.mem_of_getElem? (i := 224) rfl)) (own_wS hw) d35_19 (pc' := 21) rfl (by decide) (by decide) (k' := 4) (n' := 68) rfl rfl (by decide) (by decide) (fun h4 c4 Xh4 => ?_)
  replace E_b := E_b.ext Xh4
  replace F0 := F0.ext Xh4
  replace F1 := F1.ext Xh4
  replace F2 := F2.ext Xh4
  replace F3 := F3.ext Xh4
  replace E_t1 := E_t1.ext Xh4
  replace E_t2 := E_t2.ext Xh4
  replace E_t3 := E_t3.ext Xh4
  replace E_t4 := E_t4.ext Xh4
  refine Wp.old fun hOc => ?_
  refine Wp.callS (W := 1) (argsL := [(.ref t2), (.ref c4)]) (rest := [(.ref b)]) rfl (ctRNN l Z a0 hw hE t2 c4 h4 hOc) (hw _ (List.mem_of_getElem? (i := 220) rfl)) (hw _ (List.mem_of_getElem? (i := 110) rfl)) (hw _ (List.mem_of_getElem? (i := 112) rfl)) (hw _ (List.mem_of_getElem? (i := 111) rfl)) (by decide) (lenOf pd__Ljava_lang_Object_Ljava_lang_String__Ljava_lang_Object_ rfl) d35_21 rfl rfl rfl (Nat.le_of_eq rfl) (pc' := 24) rfl nofun nofun (by decide) (by decide) (k' := 4) (n' := 68) rfl rfl (by decide) (by decide) (fun vh5 h5 zh5 Kh5 qh5 => ?_)
  obtain rfl := qh5
  replace E_b := E_b.keep Kh5
  replace F0 := F0.keep Kh5 nin0
  replace F1 := F1.keep Kh5 nin0
  replace F2 := F2.keep Kh5 nin0
  replace F3 := F3.keep Kh5 nin0
  replace E_t1 := E_t1.keep Kh5
  replace E_t2 := E_t2.keep Kh5
  replace E_t3 := E_t3.keep Kh5
  replace E_t4 := E_t4.keep Kh5
  refine Wp.eqS (S' := [(.ref t2), (.ref b)]) rfl ?_
  refine Wp.castY rfl (hw _ (List.mem_of_getElem? (i := 221) rfl)) (Ins.self E_t2) d35_24 (pc' := 27) rfl ?_
  refine Wp.putF rfl (host := "") (Or.inl (hw _ (List.mem_of_getElem? (i := 225) rfl))) Via.refl F1 E_b (Or.inr ⟨(hw _ (List.mem_of_getElem? (i := 226) rfl)), rfl, rfl⟩) (hw _ (List.mem_of_getElem? (i := 213) rfl)) (ty := (.object "java/lang/String")) (by decide) rfl rfl d35_27 (pc' := 30) rfl (Or.inl (by simp)) (Sfe.exa E_b (by decide) (by decide)) (fun h6 W6 Fh6 => ?_)
  replace E_b := E_b.wr W6
  replace F0 := F0.other W6 (Or.inr (slot_ne (Or.inr (hw _ (List.mem_of_getElem? (i := 223) rfl))) (Or.inr (hw _ (List.mem_of_getElem? (i := 226) rfl))) (by decide) (t := (.object "java/lang/String")) (t' := (.object "java/lang/String")) (by decide) (by decide)))
  replace F2 := F2.other W6 (Or.inr (slot_ne (Or.inr (hw _ (List.mem_of_getElem? (i := 229) rfl))) (Or.inr (hw _ (List.mem_of_getElem? (i := 226) rfl))) (by decide) (t := (.object "java/lang/String")) (t' := (.object "java/lang/String")) (by decide) (by decide)))
  replace F3 := F3.other W6 (Or.inr (slot_ne (Or.inr (hw _ (List.mem_of_getElem? (i := 232) rfl))) (Or.inr (hw _ (List.mem_of_getElem? (i := 226) rfl))) (by decide) (t := (.object "java/lang/String")) (t' := (.object "java/lang/String")) (by decide) (by decide)))
  replace E_t1 := E_t1.wr W6
  replace E_t2 := E_t2.wr W6
  replace E_t3 := E_t3.wr W6
  replace E_t4 := E_t4.wr W6
  replace F1 := Fh6
  refine Wp.aloadN d35_30 (pc' := 31) rfl rfl rfl ?_
  refine Wp.aloadN d35_31 (pc' := 32) rfl rfl rfl ?_
  refine Wp.ldcO (nn := 44) rfl rfl (hw _ (List.mem_of_getElem? (i := 227) rfl)) (own_wS hw) d35_32 (pc' := 34) rfl (by decide) (by decide) (k' := 6) (n' := 116) rfl rfl (by decide) (by decide) (fun h7 c7 Xh7 => ?_)
  replace E_b := E_b.ext Xh7
  replace F0 := F0.ext Xh7
  replace F1 := F1.ext Xh7
  replace F2 := F2.ext Xh7
  replace F3 := F3.ext Xh7
  replace E_t1 := E_t1.ext Xh7
  replace E_t2 := E_t2.ext Xh7
  replace E_t3 := E_t3.ext Xh7
  replace E_t4 := E_t4.ext Xh7
  refine Wp.old fun hOc => ?_
  refine Wp.callS (W := 1) (argsL := [(.ref t3), (.ref c7)]) (rest := [(.ref b)]) rfl (ctRNN l Z a0 hw hE t3 c7 h7 hOc) (hw _ (List.mem_of_getElem? (i := 220) rfl)) (hw _ (List.mem_of_getElem? (i := 110) rfl)) (hw _ (List.mem_of_getElem? (i := 112) rfl)) (hw _ (List.mem_of_getElem? (i := 111) rfl)) (by decide) (lenOf pd__Ljava_lang_Object_Ljava_lang_String__Ljava_lang_Object_ rfl) d35_34 rfl rfl rfl (Nat.le_of_eq rfl) (pc' := 37) rfl nofun nofun (by decide) (by decide) (k' := 6) (n' := 116) rfl rfl (by decide) (by decide) (fun vh8 h8 zh8 Kh8 qh8 => ?_)
  obtain rfl := qh8
  replace E_b := E_b.keep Kh8
  replace F0 := F0.keep Kh8 nin0
  replace F1 := F1.keep Kh8 nin0
  replace F2 := F2.keep Kh8 nin0
  replace F3 := F3.keep Kh8 nin0
  replace E_t1 := E_t1.keep Kh8
  replace E_t2 := E_t2.keep Kh8
  replace E_t3 := E_t3.keep Kh8
  replace E_t4 := E_t4.keep Kh8
  refine Wp.eqS (S' := [(.ref t3), (.ref b)]) rfl ?_
  refine Wp.castY rfl (hw _ (List.mem_of_getElem? (i := 221) rfl)) (Ins.self E_t3) d35_37 (pc' := 40) rfl ?_
  refine Wp.putF rfl (host := "") (Or.inl (hw _ (List.mem_of_getElem? (i := 228) rfl))) Via.refl F2 E_b (Or.inr ⟨(hw _ (List.mem_of_getElem? (i := 229) rfl)), rfl, rfl⟩) (hw _ (List.mem_of_getElem? (i := 213) rfl)) (ty := (.object "java/lang/String")) (by decide) rfl rfl d35_40 (pc' := 43) rfl (Or.inl (by simp)) (Sfe.exa E_b (by decide) (by decide)) (fun h9 W9 Fh9 => ?_)
  replace E_b := E_b.wr W9
  replace F0 := F0.other W9 (Or.inr (slot_ne (Or.inr (hw _ (List.mem_of_getElem? (i := 223) rfl))) (Or.inr (hw _ (List.mem_of_getElem? (i := 229) rfl))) (by decide) (t := (.object "java/lang/String")) (t' := (.object "java/lang/String")) (by decide) (by decide)))
  replace F1 := F1.other W9 (Or.inr (slot_ne (Or.inr (hw _ (List.mem_of_getElem? (i := 226) rfl))) (Or.inr (hw _ (List.mem_of_getElem? (i := 229) rfl))) (by decide) (t := (.object "java/lang/String")) (t' := (.object "java/lang/String")) (by decide) (by decide)))
  replace F3 := F3.other W9 (Or.inr (slot_ne (Or.inr (hw _ (List.mem_of_getElem? (i := 232) rfl))) (Or.inr (hw _ (List.mem_of_getElem? (i := 229) rfl))) (by decide) (t := (.object "java/lang/String")) (t' := (.object "java/lang/String")) (by decide) (by decide)))
  replace E_t1 := E_t1.wr W9
  replace E_t2 := E_t2.wr W9
  replace E_t3 := E_t3.wr W9
  replace E_t4 := E_t4.wr W9
  replace F2 := Fh9
  refine Wp.aloadN d35_43 (pc' := 44) rfl rfl rfl ?_
  refine Wp.aload d35_44 (pc' := 46) rfl rfl rfl ?_
  refine Wp.ldcO (nn := 32) rfl rfl (hw _ (List.mem_of_getElem? (i := 230) rfl)) (own_wS hw) d35_46 (pc' := 48) rfl (by decide) (by decide) (k' := 8) (n' := 152) rfl rfl (by decide) (by decide) (fun h10 c10 Xh10 => ?_)
  replace E_b := E_b.ext Xh10
  replace F0 := F0.ext Xh10
  replace F1 := F1.ext Xh10
  replace F2 := F2.ext Xh10
  replace F3 := F3.ext Xh10
  replace E_t1 := E_t1.ext Xh10
  replace E_t2 := E_t2.ext Xh10
  replace E_t3 := E_t3.ext Xh10
  replace E_t4 := E_t4.ext Xh10
  refine Wp.old fun hOc => ?_
  refine Wp.callS (W := 1) (argsL := [(.ref t4), (.ref c10)]) (rest := [(.ref b)]) rfl (ctRNN l Z a0 hw hE t4 c10 h10 hOc) (hw _ (List.mem_of_getElem? (i := 220) rfl)) (hw _ (List.mem_of_getElem? (i := 110) rfl)) (hw _ (List.mem_of_getElem? (i := 112) rfl)) (hw _ (List.mem_of_getElem? (i := 111) rfl)) (by decide) (lenOf pd__Ljava_lang_Object_Ljava_lang_String__Ljava_lang_Object_ rfl) d35_48 rfl rfl rfl (Nat.le_of_eq rfl) (pc' := 51) rfl nofun nofun (by decide) (by decide) (k' := 8) (n' := 152) rfl rfl (by decide) (by decide) (fun vh11 h11 zh11 Kh11 qh11 => ?_)
  obtain rfl := qh11
  replace E_b := E_b.keep Kh11
  replace F0 := F0.keep Kh11 nin0
  replace F1 := F1.keep Kh11 nin0
  replace F2 := F2.keep Kh11 nin0
  replace F3 := F3.keep Kh11 nin0
  replace E_t1 := E_t1.keep Kh11
  replace E_t2 := E_t2.keep Kh11
  replace E_t3 := E_t3.keep Kh11
  replace E_t4 := E_t4.keep Kh11
  refine Wp.eqS (S' := [(.ref t4), (.ref b)]) rfl ?_
  refine Wp.castY rfl (hw _ (List.mem_of_getElem? (i := 221) rfl)) (Ins.self E_t4) d35_51 (pc' := 54) rfl ?_
  refine Wp.putF rfl (host := "") (Or.inl (hw _ (List.mem_of_getElem? (i := 231) rfl))) Via.refl F3 E_b (Or.inr ⟨(hw _ (List.mem_of_getElem? (i := 232) rfl)), rfl, rfl⟩) (hw _ (List.mem_of_getElem? (i := 213) rfl)) (ty := (.object "java/lang/String")) (by decide) rfl rfl d35_54 (pc' := 57) rfl (Or.inl (by simp)) (Sfe.exa E_b (by decide) (by decide)) (fun h12 W12 Fh12 => ?_)
  replace E_b := E_b.wr W12
  replace F0 := F0.other W12 (Or.inr (slot_ne (Or.inr (hw _ (List.mem_of_getElem? (i := 223) rfl))) (Or.inr (hw _ (List.mem_of_getElem? (i := 232) rfl))) (by decide) (t := (.object "java/lang/String")) (t' := (.object "java/lang/String")) (by decide) (by decide)))
  replace F1 := F1.other W12 (Or.inr (slot_ne (Or.inr (hw _ (List.mem_of_getElem? (i := 226) rfl))) (Or.inr (hw _ (List.mem_of_getElem? (i := 232) rfl))) (by decide) (t := (.object "java/lang/String")) (t' := (.object "java/lang/String")) (by decide) (by decide)))
  replace F2 := F2.other W12 (Or.inr (slot_ne (Or.inr (hw _ (List.mem_of_getElem? (i := 229) rfl))) (Or.inr (hw _ (List.mem_of_getElem? (i := 232) rfl))) (by decide) (t := (.object "java/lang/String")) (t' := (.object "java/lang/String")) (by decide) (by decide)))
  replace E_t1 := E_t1.wr W12
  replace E_t2 := E_t2.wr W12
  replace E_t3 := E_t3.wr W12
  replace E_t4 := E_t4.wr W12
  replace F3 := Fh12
  refine Wp.retn rfl d35_57 (by decide) (by decide) ?_
  rfl
theorem pn_com_example_rootward_rootward_policy_BindingIsConditionalPinLaw : plainName "com/example/rootward/rootward/policy/BindingIsConditionalPinLaw" = true := by first | (simp [plainName, overriddenIn]; done) | decide +kernel
theorem ef_ct0 (m : MethodId) (x0 : Int32) (x1 : Int32) (x2 : Int32) (x3 : Int32) : entryFrame m #[(.int x0), (.int x1), (.int x2), (.int x3)] maxLocals = mkF m 0 #[.val (.int x0), .val (.int x1), .val (.int x2), .val (.int x3), .unset, .unset, .unset, .unset, .unset, .unset, .unset] [] := by first | (simp [entryFrame, mkF, argsToLocals, Value.category, maxLocals]; done) | rfl
theorem pd___C_V : parseMethodDescriptor "([C)V" = some ⟨[(.array .char)], none⟩ := by decide +kernel
theorem pd__Ljava_lang_String_Ljava_util_Collection_Lcom_example_rootward_rootward_policy_Condition__V : parseMethodDescriptor "(Ljava/lang/String;Ljava/util/Collection;Lcom/example/rootward/rootward/policy/Condition;)V" = some ⟨[(.object "java/lang/String"), (.object "java/util/Collection"), (.object "com/example/rootward/rootward/policy/Condition")], none⟩ := by decide +kernel
theorem pd__C_Ljava_lang_String_ : parseMethodDescriptor "(C)Ljava/lang/String;" = some ⟨[.char], some (.object "java/lang/String")⟩ := by decide +kernel
theorem pd__Ljava_lang_String_Ljava_lang_String_Ljava_lang_String_Ljava_lang_String__V : parseMethodDescriptor "(Ljava/lang/String;Ljava/lang/String;Ljava/lang/String;Ljava/lang/String;)V" = some ⟨[(.object "java/lang/String"), (.object "java/lang/String"), (.object "java/lang/String"), (.object "java/lang/String")], none⟩ := by decide +kernel
theorem pd__Ljava_lang_Object__Z : parseMethodDescriptor "(Ljava/lang/Object;)Z" = some ⟨[(.object "java/lang/Object")], some .boolean⟩ := by decide +kernel
set_option maxRecDepth 65536 in
set_option maxHeartbeats 40000000 in
theorem ct0 (l : Launch) (Z : State) (a0 : Array Value) (hw : ∀ d ∈ tables_1, d.before a0 Z = true) (hE : EW Z a0 []) (p0 p1 p2 p3 cz : Int32) (de em el mr : Addr) (kde : ClassId) (h0 : Heap) (hO : Ext Z.heap h0) (hco : Sta Z Z.heap "java/lang/String" "COMPACT_STRINGS" "Z" (.int cz)) (hcz : ¬ cz = 0) (hde : Sta Z Z.heap "java/util/ArrayList" "DEFAULTCAPACITY_EMPTY_ELEMENTDATA" "[Ljava/lang/Object;" (.ref de)) (V_de : Arv Z Z.heap de kde (.object "java/lang/Object") (0 : Int32) [] .null) (hem : Sta Z Z.heap "java/util/ImmutableCollections" "EMPTY" "Ljava/lang/Object;" (.ref em)) (hel : Sta Z Z.heap "java/util/ImmutableCollections" "EMPTY_LIST" "Ljava/util/ImmutableCollections$ListN;" (.ref el)) (hM : Mir Z "[Ljava/lang/Object;" mr) :
    Ct true l Z [] tables_1 x code maxLocals ret room_1 #[(.int p0), (.int p1), (.int p2), (.int p3)] h0 [] [] (fun v h => v = some (.int 1)) := by
  refine Ct.of_wp (a0 := a0) (Ls := #[.val (.int p0), .val (.int p1), .val (.int p2), .val (.int p3), .unset, .unset, .unset, .unset, .unset, .unset, .unset]) (plainFor_of_name pn_com_example_rootward_rootward_policy_BindingIsConditionalPinLaw) hE hO nofun (fun m => ef_ct0 m p0 p1 p2 p3) ?_
  refine Wp.iconst (x := (2 : Int32)) at_0 (pc' := 1) rfl rfl ?_
  refine Wp.newP (cap := 2) (hw _ (List.mem_of_getElem? (i := 0) rfl)) (by decide) (by decide) (by decide) at_1 (pc' := 3) rfl (k' := 1) (n' := 2) rfl rfl (by decide) (by decide) (fun h1 b1 k_b1 g_b1 sz_b1 Xh1 V_b1 => ?_)
  replace V_b1 : Arv Z h1 b1 k_b1 .char (2 : Int32) [(.int (0 : Int32)), (.int (0 : Int32))] (.int (0 : Int32)) := V_b1.pad (pad_rep [] (.int (0 : Int32)) 2)
  refine Wp.astore (l' := #[.val (.int p0), .val (.int p1), .val (.int p2), .val (.int p3), .val (.ref b1), .unset, .unset, .unset, .unset, .unset, .unset]) at_3 (pc' := 5) rfl rfl rfl ?_
  refine Wp.aload at_5 (pc' := 7) rfl rfl rfl ?_
  refine Wp.iconst (x := (0 : Int32)) at_7 (pc' := 8) rfl rfl ?_
  refine Wp.iloadN at_8 (pc' := 9) rfl rfl ?_
  refine Wp.sipush (x := (255 : Int32)) at_9 (pc' := 12) rfl rfl ?_
  refine Wp.iand at_12 (pc' := 13) rfl ?_
  refine Wp.i2c at_13 (pc' := 14) rfl ?_
  rw [i2c_mask]
  refine Wp.castore V_b1 (by decide) (by decide) (i := 0) rfl (Nat.le_of_ble_eq_true rfl) at_14 (pc' := 15) rfl (Or.inr sz_b1) (fun h2 W2 Vh2 => ?_)
  replace V_b1 : Arv Z h2 b1 k_b1 .char (2 : Int32) [(.int (nar .char (p0 &&& (255 : Int32)))), (.int (0 : Int32))] (.int (0 : Int32)) := Vh2
  refine Wp.aload at_15 (pc' := 17) rfl rfl rfl ?_
  refine Wp.iconst (x := (1 : Int32)) at_17 (pc' := 18) rfl rfl ?_
  refine Wp.iloadN at_18 (pc' := 19) rfl rfl ?_
  refine Wp.bipush (x := (8 : Int32)) at_19 (pc' := 21) rfl rfl ?_
  refine Wp.iushr at_21 (pc' := 22) rfl ?_
  refine Wp.sipush (x := (255 : Int32)) at_22 (pc' := 25) rfl rfl ?_
  refine Wp.iand at_25 (pc' := 26) rfl ?_
  refine Wp.i2c at_26 (pc' := 27) rfl ?_
  rw [i2c_mask]
  refine Wp.castore V_b1 (by decide) (by decide) (i := 1) rfl (Nat.le_of_ble_eq_true rfl) at_27 (pc' := 28) rfl (Or.inr sz_b1) (fun h3 W3 Vh3 => ?_)
  replace V_b1 : Arv Z h3 b1 k_b1 .char (2 : Int32) [(.int (nar .char (p0 &&& (255 : Int32)))), (.int (nar .char (((p0.toUInt32 >>> ((8 : Int32) &&& 31).toUInt32).toInt32) &&& (255 : Int32))))] (.int (0 : Int32)) := Vh3
  refine Wp.new rfl (hw _ (List.mem_of_getElem? (i := 1) rfl)) (hw _ (List.mem_of_getElem? (i := 2) rfl)) (hw _ (List.mem_of_getElem? (i := 3) rfl)) at_28 (pc' := 31) rfl (k' := 2) (n' := 6) rfl rfl (by decide) (by decide) (fun h4 b4 g_b4 sz_b4 Xh4 E_b4 D_b4 => ?_)
  have ne_b1_b4 : b1 ≠ b4 := Nat.ne_of_lt (Nat.lt_of_lt_of_eq V_b1.lt g_b4.symm)
  replace V_b1 := V_b1.ext Xh4
  have F_coder_b4 : Fld Z h4 b4 "java/lang/String" "coder" "B" (.int (0 : Int32)) := D_b4 (Or.inr (hw _ (List.mem_of_getElem? (i := 27) rfl))) (ty := .byte) (by decide)
  have F_value_b4 : Fld Z h4 b4 "java/lang/String" "value" "[B" .null := D_b4 (Or.inr (hw _ (List.mem_of_getElem? (i := 29) rfl))) (ty := (.array .byte)) (by decide)
  clear D_b4
  refine Wp.dup at_31 (pc' := 32) rfl rfl ?_
  refine Wp.aload at_32 (pc' := 34) rfl rfl rfl ?_
  refine Wp.old fun hOc => ?_
  have V_cs : Arv Z h4 b1 k_b1 .char (Int32.ofNat ([(p0 &&& (255 : Int32)), (((p0.toUInt32 >>> ((8 : Int32) &&& 31).toUInt32).toInt32) &&& (255 : Int32))] : List Int32).length) (([(p0 &&& (255 : Int32)), (((p0.toUInt32 >>> ((8 : Int32) &&& 31).toUInt32).toInt32) &&& (255 : Int32))] : List Int32).map Value.int) (.int 0) := by simp only [own_nar] at V_b1; exact V_b1
  refine Wp.callI (a := b4) (W := 1) (argsL := [(.ref b1)]) (rest := [(.ref b4)]) rfl (ctSI l Z a0 hw hE b4 b1 k_b1 [(p0 &&& (255 : Int32)), (((p0.toUInt32 >>> ((8 : Int32) &&& 31).toUInt32).toInt32) &&& (255 : Int32))] cz h4 hOc (Nat.le_of_ble_eq_true rfl) (Nat.le_of_ble_eq_true rfl) (by intro c hc; simp only [List.mem_cons, List.not_mem_nil, or_false] at hc; rcases hc with rfl | rfl <;> exact (own_255 _).1) V_cs E_b4 F_value_b4 F_coder_b4 (Nat.le_trans hO.1 sz_b4) ne_b1_b4 hco hcz (Nat.le_of_ble_eq_true rfl)) rfl rfl (hw _ (List.mem_of_getElem? (i := 4) rfl)) (hw _ (List.mem_of_getElem? (i := 5) rfl)) (hw _ (List.mem_of_getElem? (i := 6) rfl)) (hw _ (List.mem_of_getElem? (i := 3) rfl)) (by decide) (lenOf pd___C_V rfl) at_34 rfl rfl rfl (Nat.le_of_eq rfl) (pc' := 37) rfl (by simp) (by intro x hx; simp only [List.mem_cons, List.not_mem_nil, or_false] at hx; rcases hx with rfl; exact (Or.inr sz_b4)) (by decide) (by decide) (k' := 6) (n' := 14) rfl rfl (by decide) (by decide) (fun vh5 h5 zh5 Kh5 qh5 => ?_)
  obtain ⟨rfl, -⟩ := qh5
  replace V_b1 := V_b1.keep Kh5 (ninS ne_b1_b4 nin0)
  replace E_b4 := E_b4.keep Kh5
  refine Wp.eqS (S' := [(.ref b4)]) rfl ?_
  refine Wp.astore (l' := #[.val (.int p0), .val (.int p1), .val (.int p2), .val (.int p3), .val (.ref b1), .val (.ref b4), .unset, .unset, .unset, .unset, .unset]) at_37 (pc' := 39) rfl rfl rfl ?_
  refine Wp.new rfl (hw _ (List.mem_of_getElem? (i := 30) rfl)) (hw _ (List.mem_of_getElem? (i := 31) rfl)) (hw _ (List.mem_of_getElem? (i := 32) rfl)) at_39 (pc' := 42) rfl (k' := 7) (n' := 17) rfl rfl (by decide) (by decide) (fun h6 b6 g_b6 sz_b6 Xh6 E_b6 D_b6 => ?_)
  have ne_b1_b6 : b1 ≠ b6 := Nat.ne_of_lt (Nat.lt_of_lt_of_eq V_b1.lt g_b6.symm)
  have ne_b4_b6 : b4 ≠ b6 := Nat.ne_of_lt (Nat.lt_of_lt_of_eq E_b4.lt g_b6.symm)
  replace V_b1 := V_b1.ext Xh6
  replace E_b4 := E_b4.ext Xh6
  have F_modCount_b6 : Fld Z h6 b6 "java/util/AbstractList" "modCount" "I" (.int (0 : Int32)) := D_b6 (Or.inl (hw _ (List.mem_of_getElem? (i := 50) rfl))) (ty := .int) (by decide)
  have F_elementData_b6 : Fld Z h6 b6 "java/util/ArrayList" "elementData" "[Ljava/lang/Object;" .null := D_b6 (Or.inl (hw _ (List.mem_of_getElem? (i := 53) rfl))) (ty := (.array (.object "java/lang/Object"))) (by decide)
  have F_size_b6 : Fld Z h6 b6 "java/util/ArrayList" "size" "I" (.int (0 : Int32)) := D_b6 (Or.inl (hw _ (List.mem_of_getElem? (i := 76) rfl))) (ty := .int) (by decide)
  clear D_b6
  refine Wp.dup at_42 (pc' := 43) rfl rfl ?_
  refine Wp.old fun hOc => ?_
  refine Wp.callI (a := b6) (W := 1) (argsL := []) (rest := [(.ref b6)]) rfl (ctAL l Z a0 hw hE b6 de h6 hOc (Nat.le_trans hO.1 sz_b6) E_b6 F_modCount_b6 F_elementData_b6 F_size_b6 hde) rfl rfl (hw _ (List.mem_of_getElem? (i := 33) rfl)) (hw _ (List.mem_of_getElem? (i := 34) rfl)) (hw _ (List.mem_of_getElem? (i := 35) rfl)) (hw _ (List.mem_of_getElem? (i := 32) rfl)) (by decide) (lenOf pd___V rfl) at_43 rfl rfl rfl (Nat.le_of_eq rfl) (pc' := 46) rfl nofun (by intro x hx; simp only [List.mem_cons, List.not_mem_nil, or_false] at hx; rcases hx with rfl; exact (Or.inr sz_b6)) (by decide) (by decide) (k' := 7) (n' := 17) rfl rfl (by decide) (by decide) (fun vh7 h7 zh7 Kh7 qh7 => ?_)
  obtain ⟨rfl, M_b6, L_b6, Z_b6⟩ := qh7
  replace V_b1 := V_b1.keep Kh7 (ninS ne_b1_b6 nin0)
  replace E_b4 := E_b4.keep Kh7
  replace E_b6 := E_b6.keep Kh7
  refine Wp.eqS (S' := [(.ref b6)]) rfl ?_
  refine Wp.astore (l' := #[.val (.int p0), .val (.int p1), .val (.int p2), .val (.int p3), .val (.ref b1), .val (.ref b4), .val (.ref b6), .unset, .unset, .unset, .unset]) at_46 (pc' := 48) rfl rfl rfl ?_
  refine Wp.iloadN at_48 (pc' := 49) rfl rfl ?_
  refine Wp.iconst (x := (3 : Int32)) at_49 (pc' := 50) rfl rfl ?_
  refine Wp.iand at_50 (pc' := 51) rfl ?_
  rcases own_and3 p1 with hl | hl | hl | hl
  · rw [hl]
    refine Wp.istore (l' := #[.val (.int p0), .val (.int p1), .val (.int p2), .val (.int p3), .val (.ref b1), .val (.ref b4), .val (.ref b6), .val (.int (0 : Int32)), .unset, .unset, .unset]) at_51 (pc' := 53) rfl rfl ?_
    refine Wp.iload at_53 (pc' := 55) rfl rfl ?_
    refine Wp.iconst (x := (1 : Int32)) at_55 (pc' := 56) rfl rfl ?_
    refine Wp.icmp_lt (pc1 := 76) (pc' := 59) at_56 (by decide) (by decide) rfl (fun hc8 => ?_) (fun hc8 => by exact absurd hc8 (by decide))
    refine Wp.iload at_76 (pc' := 78) rfl rfl ?_
    refine Wp.iconst (x := (2 : Int32)) at_78 (pc' := 79) rfl rfl ?_
    refine Wp.icmp_lt (pc1 := 100) (pc' := 82) at_79 (by decide) (by decide) rfl (fun hc9 => ?_) (fun hc9 => by exact absurd hc9 (by decide))
    refine Wp.iload at_100 (pc' := 102) rfl rfl ?_
    refine Wp.iconst (x := (3 : Int32)) at_102 (pc' := 103) rfl rfl ?_
    refine Wp.icmp_lt (pc1 := 114) (pc' := 106) at_103 (by decide) (by decide) rfl (fun hc10 => ?_) (fun hc10 => by exact absurd hc10 (by decide))
    refine Wp.iloadN at_114 (pc' := 115) rfl rfl ?_
    refine Wp.iconst (x := (1 : Int32)) at_115 (pc' := 116) rfl rfl ?_
    refine Wp.iand at_116 (pc' := 117) rfl ?_
    refine Wp.if_eq (pc1 := 124) (pc' := 120) at_117 (by decide) (by decide) rfl (fun hc11 => ?_) (fun hc11 => ?_)
    · have hc11 : (p2 &&& (1 : Int32)) = (0 : Int32) := hc11
      refine Wp.iconst (x := (0 : Int32)) at_124 (pc' := 125) rfl rfl ?_
      refine Wp.istore (l' := #[.val (.int p0), .val (.int p1), .val (.int p2), .val (.int p3), .val (.ref b1), .val (.ref b4), .val (.ref b6), .val (.int (0 : Int32)), .val (.int (0 : Int32)), .unset, .unset]) at_125 (pc' := 127) rfl rfl ?_
      refine Wp.aconstNull at_127 (pc' := 128) rfl ?_
      refine Wp.astore (l' := #[.val (.int p0), .val (.int p1), .val (.int p2), .val (.int p3), .val (.ref b1), .val (.ref b4), .val (.ref b6), .val (.int (0 : Int32)), .val (.int (0 : Int32)), .val .null, .unset]) at_128 (pc' := 130) rfl rfl rfl ?_
      refine Wp.iload at_130 (pc' := 132) rfl rfl ?_
      refine Wp.if_eq (pc1 := 189) (pc' := 135) at_132 (by decide) (by decide) rfl (fun hc12 => ?_) (fun hc12 => by exact absurd hc12 (by decide))
      refine Wp.new rfl (hw _ (List.mem_of_getElem? (i := 99) rfl)) (hw _ (List.mem_of_getElem? (i := 100) rfl)) (hw _ (List.mem_of_getElem? (i := 101) rfl)) at_189 (pc' := 192) rfl (k' := 8) (n' := 20) rfl rfl (by decide) (by decide) (fun h13 b13 g_b13 sz_b13 Xh13 E_b13 D_b13 => ?_)
      have ne_b1_b13 : b1 ≠ b13 := Nat.ne_of_lt (Nat.lt_of_lt_of_eq V_b1.lt g_b13.symm)
      have ne_b4_b13 : b4 ≠ b13 := Nat.ne_of_lt (Nat.lt_of_lt_of_eq E_b4.lt g_b13.symm)
      have ne_b6_b13 : b6 ≠ b13 := Nat.ne_of_lt (Nat.lt_of_lt_of_eq E_b6.lt g_b13.symm)
      replace V_b1 := V_b1.ext Xh13
      replace E_b4 := E_b4.ext Xh13
      replace E_b6 := E_b6.ext Xh13
      replace M_b6 := M_b6.ext Xh13
      replace L_b6 := L_b6.ext Xh13
      replace Z_b6 := Z_b6.ext Xh13
      have F_role_b13 : Fld Z h13 b13 "com/example/rootward/rootward/policy/Binding" "role" "Ljava/lang/String;" .null := D_b13 (Or.inr (hw _ (List.mem_of_getElem? (i := 115) rfl))) (ty := (.object "java/lang/String")) (by decide)
      have F_members_b13 : Fld Z h13 b13 "com/example/rootward/rootward/policy/Binding" "members" "Ljava/util/List;" .null := D_b13 (Or.inr (hw _ (List.mem_of_getElem? (i := 204) rfl))) (ty := (.object "java/util/List")) (by decide)
      have F_condition_b13 : Fld Z h13 b13 "com/example/rootward/rootward/policy/Binding" "condition" "Lcom/example/rootward/rootward/policy/Condition;" .null := D_b13 (Or.inr (hw _ (List.mem_of_getElem? (i := 206) rfl))) (ty := (.object "com/example/rootward/rootward/policy/Condition")) (by decide)
      clear D_b13
      refine Wp.dup at_192 (pc' := 193) rfl rfl ?_
      refine Wp.aload at_193 (pc' := 195) rfl rfl rfl ?_
      refine Wp.aload at_195 (pc' := 197) rfl rfl rfl ?_
      refine Wp.aload at_197 (pc' := 199) rfl rfl rfl ?_
      refine Wp.old fun hOc => ?_
      refine Wp.callI (a := b13) (W := 1) (argsL := [(.ref b4), (.ref b6), .null]) (rest := [(.ref b13)]) rfl (ctBI_0n l Z a0 hw hE b13 b4 b6 el h13 hOc (Nat.le_trans hO.1 sz_b13) E_b13 E_b4 F_role_b13 F_members_b13 F_condition_b13 ne_b6_b13  E_b6 Z_b6 hel) rfl rfl (hw _ (List.mem_of_getElem? (i := 102) rfl)) (hw _ (List.mem_of_getElem? (i := 103) rfl)) (hw _ (List.mem_of_getElem? (i := 104) rfl)) (hw _ (List.mem_of_getElem? (i := 101) rfl)) (by decide) (lenOf pd__Ljava_lang_String_Ljava_util_Collection_Lcom_example_rootward_rootward_policy_Condition__V rfl) at_199 rfl rfl rfl (Nat.le_of_eq rfl) (pc' := 202) rfl nofun (by intro x hx; simp only [List.mem_cons, List.not_mem_nil, or_false] at hx; rcases hx with rfl; exact (Or.inr sz_b13)) (by decide) (by decide) (k' := 13) (n' := 48) rfl rfl (by decide) (by decide) (fun vh14 h14 zh14 Kh14 qh14 => ?_)
      obtain ⟨rfl, C_b13⟩ := qh14
      replace V_b1 := V_b1.keep Kh14 (ninS ne_b1_b13 nin0)
      replace E_b4 := E_b4.keep Kh14
      replace E_b6 := E_b6.keep Kh14
      replace M_b6 := M_b6.keep Kh14 (ninS ne_b6_b13 nin0)
      replace L_b6 := L_b6.keep Kh14 (ninS ne_b6_b13 nin0)
      replace Z_b6 := Z_b6.keep Kh14 (ninS ne_b6_b13 nin0)
      replace E_b13 := E_b13.keep Kh14
      refine Wp.eqS (S' := [(.ref b13)]) rfl ?_
      refine Wp.astore (l' := #[.val (.int p0), .val (.int p1), .val (.int p2), .val (.int p3), .val (.ref b1), .val (.ref b4), .val (.ref b6), .val (.int (0 : Int32)), .val (.int (0 : Int32)), .val .null, .val (.ref b13)]) at_202 (pc' := 204) rfl rfl rfl ?_
      refine Wp.aload at_204 (pc' := 206) rfl rfl rfl ?_
      refine Wp.old fun hOc => ?_
      refine Wp.callV (a := b13) (x' := (⟨"com/example/rootward/rootward/policy/Binding", "isConditional", "()Z"⟩ : MethodName)) (W := 0) (argsL := []) (rest := []) rfl (ctICn l Z a0 hw hE b13 h14 hOc C_b13) (hw _ (List.mem_of_getElem? (i := 207) rfl)) (hw _ (List.mem_of_getElem? (i := 208) rfl)) (hw _ (List.mem_of_getElem? (i := 210) rfl)) (hw _ (List.mem_of_getElem? (i := 209) rfl)) (hw _ (List.mem_of_getElem? (i := 211) rfl)) (hw _ (List.mem_of_getElem? (i := 101) rfl)) (fun s hZ => nf_sel rfl (hw _ (List.mem_of_getElem? (i := 210) rfl)) s hZ rfl) E_b13 (by decide) (lenOf pd___Z rfl) at_206 rfl rfl rfl (Nat.le_of_eq rfl) (pc' := 209) rfl nofun nofun (by decide) (by decide) (k' := 13) (n' := 48) rfl rfl (by decide) (by decide) (fun vh15 h15 zh15 Kh15 qh15 => ?_)
      obtain rfl := qh15
      replace V_b1 := V_b1.keep Kh15 nin0
      replace E_b4 := E_b4.keep Kh15
      replace E_b6 := E_b6.keep Kh15
      replace M_b6 := M_b6.keep Kh15 nin0
      replace L_b6 := L_b6.keep Kh15 nin0
      replace Z_b6 := Z_b6.keep Kh15 nin0
      replace E_b13 := E_b13.keep Kh15
      replace C_b13 := C_b13.keep Kh15 nin0
      refine Wp.eqS (S' := [(.int (0 : Int32))]) rfl ?_
      refine Wp.iload at_209 (pc' := 211) rfl rfl ?_
      refine Wp.icmp_ne (pc1 := 218) (pc' := 214) at_211 (by decide) (by decide) rfl (fun hc16 => by exact absurd hc16 (by decide)) (fun hc16 => ?_)
      refine Wp.iconst (x := (1 : Int32)) at_214 (pc' := 215) rfl rfl ?_
      refine Wp.goto (pc' := 219) at_215 (by decide) (by decide) ?_
      refine Wp.retN (x' := (1 : Int32)) (t := .boolean) rfl (by simp) rfl at_219 (by decide) (by decide) ?_
      rfl
    · have hc11 : ¬ ((p2 &&& (1 : Int32)) = (0 : Int32)) := hc11
      refine Wp.iconst (x := (1 : Int32)) at_120 (pc' := 121) rfl rfl ?_
      refine Wp.goto (pc' := 125) at_121 (by decide) (by decide) ?_
      refine Wp.istore (l' := #[.val (.int p0), .val (.int p1), .val (.int p2), .val (.int p3), .val (.ref b1), .val (.ref b4), .val (.ref b6), .val (.int (0 : Int32)), .val (.int (1 : Int32)), .unset, .unset]) at_125 (pc' := 127) rfl rfl ?_
      refine Wp.aconstNull at_127 (pc' := 128) rfl ?_
      refine Wp.astore (l' := #[.val (.int p0), .val (.int p1), .val (.int p2), .val (.int p3), .val (.ref b1), .val (.ref b4), .val (.ref b6), .val (.int (0 : Int32)), .val (.int (1 : Int32)), .val .null, .unset]) at_128 (pc' := 130) rfl rfl rfl ?_
      refine Wp.iload at_130 (pc' := 132) rfl rfl ?_
      refine Wp.if_eq (pc1 := 189) (pc' := 135) at_132 (by decide) (by decide) rfl (fun hc17 => by exact absurd hc17 (by decide)) (fun hc17 => ?_)
      refine Wp.new rfl (hw _ (List.mem_of_getElem? (i := 212) rfl)) (hw _ (List.mem_of_getElem? (i := 213) rfl)) (hw _ (List.mem_of_getElem? (i := 214) rfl)) at_135 (pc' := 138) rfl (k' := 8) (n' := 21) rfl rfl (by decide) (by decide) (fun h18 b18 g_b18 sz_b18 Xh18 E_b18 D_b18 => ?_)
      have ne_b1_b18 : b1 ≠ b18 := Nat.ne_of_lt (Nat.lt_of_lt_of_eq V_b1.lt g_b18.symm)
      have ne_b4_b18 : b4 ≠ b18 := Nat.ne_of_lt (Nat.lt_of_lt_of_eq E_b4.lt g_b18.symm)
      have ne_b6_b18 : b6 ≠ b18 := Nat.ne_of_lt (Nat.lt_of_lt_of_eq E_b6.lt g_b18.symm)
      replace V_b1 := V_b1.ext Xh18
      replace E_b4 := E_b4.ext Xh18
      replace E_b6 := E_b6.ext Xh18
      replace M_b6 := M_b6.ext Xh18
      replace L_b6 := L_b6.ext Xh18
      replace Z_b6 := Z_b6.ext Xh18
      have F_expression_b18 : Fld Z h18 b18 "com/example/rootward/rootward/policy/Condition" "expression" "Ljava/lang/String;" .null := D_b18 (Or.inr (hw _ (List.mem_of_getElem? (i := 223) rfl))) (ty := (.object "java/lang/String")) (by decide)
      have F_title_b18 : Fld Z h18 b18 "com/example/rootward/rootward/policy/Condition" "title" "Ljava/lang/String;" .null := D_b18 (Or.inr (hw _ (List.mem_of_getElem? (i := 226) rfl))) (ty := (.object "java/lang/String")) (by decide)
      have F_description_b18 : Fld Z h18 b18 "com/example/rootward/rootward/policy/Condition" "description" "Ljava/lang/String;" .null := D_b18 (Or.inr (hw _ (List.mem_of_getElem? (i := 229) rfl))) (ty := (.object "java/lang/String")) (by decide)
      have F_location_b18 : Fld Z h18 b18 "com/example/rootward/rootward/policy/Condition" "location" "Ljava/lang/String;" .null := D_b18 (Or.inr (hw _ (List.mem_of_getElem? (i := 232) rfl))) (ty := (.object "java/lang/String")) (by decide)
      clear D_b18
      refine Wp.dup at_138 (pc' := 139) rfl rfl ?_
      refine Wp.iloadN at_139 (pc' := 140) rfl rfl ?_
      refine Wp.sipush (x := (255 : Int32)) at_140 (pc' := 143) rfl rfl ?_
      refine Wp.iand at_143 (pc' := 144) rfl ?_
      refine Wp.i2c at_144 (pc' := 145) rfl ?_
      rw [i2c_mask]
      refine Wp.old fun hOc => ?_
      refine Wp.callS (W := 2) (argsL := [(.int (p3 &&& (255 : Int32)))]) (rest := [(.ref b18), (.ref b18)]) rfl (ctVOF l Z a0 hw hE (p3 &&& (255 : Int32)) cz h18 hOc (own_255 _).1 hco hcz) (hw _ (List.mem_of_getElem? (i := 54) rfl)) (hw _ (List.mem_of_getElem? (i := 55) rfl)) (hw _ (List.mem_of_getElem? (i := 56) rfl)) (hw _ (List.mem_of_getElem? (i := 3) rfl)) (by decide) (lenOf pd__C_Ljava_lang_String_ rfl) at_145 rfl rfl rfl (Nat.le_of_eq rfl) (pc' := 148) rfl nofun nofun (by decide) (by decide) (k' := 10) (n' := 26) rfl rfl (by decide) (by decide) (fun vh19 h19 zh19 Kh19 qh19 => ?_)
      obtain ⟨v145, rfl, sb_v145, T_v145⟩ := qh19
      have E_v145 := T_v145.1
      clear T_v145
      have ne_b1_v145 : b1 ≠ v145 := Nat.ne_of_lt (Nat.lt_of_lt_of_le V_b1.lt sb_v145)
      have ne_b4_v145 : b4 ≠ v145 := Nat.ne_of_lt (Nat.lt_of_lt_of_le E_b4.lt sb_v145)
      have ne_b6_v145 : b6 ≠ v145 := Nat.ne_of_lt (Nat.lt_of_lt_of_le E_b6.lt sb_v145)
      have ne_b18_v145 : b18 ≠ v145 := Nat.ne_of_lt (Nat.lt_of_lt_of_le E_b18.lt sb_v145)
      replace V_b1 := V_b1.keep Kh19 nin0
      replace E_b4 := E_b4.keep Kh19
      replace E_b6 := E_b6.keep Kh19
      replace M_b6 := M_b6.keep Kh19 nin0
      replace L_b6 := L_b6.keep Kh19 nin0
      replace Z_b6 := Z_b6.keep Kh19 nin0
      replace E_b18 := E_b18.keep Kh19
      replace F_expression_b18 := F_expression_b18.keep Kh19 nin0
      replace F_title_b18 := F_title_b18.keep Kh19 nin0
      replace F_description_b18 := F_description_b18.keep Kh19 nin0
      replace F_location_b18 := F_location_b18.keep Kh19 nin0
      refine Wp.eqS (S' := [(.ref v145), (.ref b18), (.ref b18)]) rfl ?_
      have sz_v145 : h0.size ≤ v145 := Nat.le_trans zh19 sb_v145
      refine Wp.iloadN at_148 (pc' := 149) rfl rfl ?_
      refine Wp.bipush (x := (8 : Int32)) at_149 (pc' := 151) rfl rfl ?_
      refine Wp.iushr at_151 (pc' := 152) rfl ?_
      refine Wp.sipush (x := (255 : Int32)) at_152 (pc' := 155) rfl rfl ?_
      refine Wp.iand at_155 (pc' := 156) rfl ?_
      refine Wp.i2c at_156 (pc' := 157) rfl ?_
      rw [i2c_mask]
      refine Wp.old fun hOc => ?_
      refine Wp.callS (W := 3) (argsL := [(.int (((p3.toUInt32 >>> ((8 : Int32) &&& 31).toUInt32).toInt32) &&& (255 : Int32)))]) (rest := [(.ref v145), (.ref b18), (.ref b18)]) rfl (ctVOF l Z a0 hw hE (((p3.toUInt32 >>> ((8 : Int32) &&& 31).toUInt32).toInt32) &&& (255 : Int32)) cz h19 hOc (own_255 _).1 hco hcz) (hw _ (List.mem_of_getElem? (i := 54) rfl)) (hw _ (List.mem_of_getElem? (i := 55) rfl)) (hw _ (List.mem_of_getElem? (i := 56) rfl)) (hw _ (List.mem_of_getElem? (i := 3) rfl)) (by decide) (lenOf pd__C_Ljava_lang_String_ rfl) at_157 rfl rfl rfl (Nat.le_of_eq rfl) (pc' := 160) rfl nofun nofun (by decide) (by decide) (k' := 12) (n' := 31) rfl rfl (by decide) (by decide) (fun vh20 h20 zh20 Kh20 qh20 => ?_)
      obtain ⟨v157, rfl, sb_v157, T_v157⟩ := qh20
      have E_v157 := T_v157.1
      clear T_v157
      have ne_b1_v157 : b1 ≠ v157 := Nat.ne_of_lt (Nat.lt_of_lt_of_le V_b1.lt sb_v157)
      have ne_b4_v157 : b4 ≠ v157 := Nat.ne_of_lt (Nat.lt_of_lt_of_le E_b4.lt sb_v157)
      have ne_b6_v157 : b6 ≠ v157 := Nat.ne_of_lt (Nat.lt_of_lt_of_le E_b6.lt sb_v157)
      have ne_b18_v157 : b18 ≠ v157 := Nat.ne_of_lt (Nat.lt_of_lt_of_le E_b18.lt sb_v157)
      have ne_v145_v157 : v145 ≠ v157 := Nat.ne_of_lt (Nat.lt_of_lt_of_le E_v145.lt sb_v157)
      replace V_b1 := V_b1.keep Kh20 nin0
      replace E_b4 := E_b4.keep Kh20
      replace E_b6 := E_b6.keep Kh20
      replace M_b6 := M_b6.keep Kh20 nin0
      replace L_b6 := L_b6.keep Kh20 nin0
      replace Z_b6 := Z_b6.keep Kh20 nin0
      replace E_b18 := E_b18.keep Kh20
      replace F_expression_b18 := F_expression_b18.keep Kh20 nin0
      replace F_title_b18 := F_title_b18.keep Kh20 nin0
      replace F_description_b18 := F_description_b18.keep Kh20 nin0
      replace F_location_b18 := F_location_b18.keep Kh20 nin0
      replace E_v145 := E_v145.keep Kh20
      refine Wp.eqS (S' := [(.ref v157), (.ref v145), (.ref b18), (.ref b18)]) rfl ?_
      have sz_v157 : h0.size ≤ v157 := Nat.le_trans zh20 sb_v157
      refine Wp.iloadN at_160 (pc' := 161) rfl rfl ?_
      refine Wp.bipush (x := (16 : Int32)) at_161 (pc' := 163) rfl rfl ?_
      refine Wp.iushr at_163 (pc' := 164) rfl ?_
      refine Wp.sipush (x := (255 : Int32)) at_164 (pc' := 167) rfl rfl ?_
      refine Wp.iand at_167 (pc' := 168) rfl ?_
      refine Wp.i2c at_168 (pc' := 169) rfl ?_
      rw [i2c_mask]
      refine Wp.old fun hOc => ?_
      refine Wp.callS (W := 4) (argsL := [(.int (((p3.toUInt32 >>> ((16 : Int32) &&& 31).toUInt32).toInt32) &&& (255 : Int32)))]) (rest := [(.ref v157), (.ref v145), (.ref b18), (.ref b18)]) rfl (ctVOF l Z a0 hw hE (((p3.toUInt32 >>> ((16 : Int32) &&& 31).toUInt32).toInt32) &&& (255 : Int32)) cz h20 hOc (own_255 _).1 hco hcz) (hw _ (List.mem_of_getElem? (i := 54) rfl)) (hw _ (List.mem_of_getElem? (i := 55) rfl)) (hw _ (List.mem_of_getElem? (i := 56) rfl)) (hw _ (List.mem_of_getElem? (i := 3) rfl)) (by decide) (lenOf pd__C_Ljava_lang_String_ rfl) at_169 rfl rfl rfl (Nat.le_of_eq rfl) (pc' := 172) rfl nofun nofun (by decide) (by decide) (k' := 14) (n' := 36) rfl rfl (by decide) (by decide) (fun vh21 h21 zh21 Kh21 qh21 => ?_)
      obtain ⟨v169, rfl, sb_v169, T_v169⟩ := qh21
      have E_v169 := T_v169.1
      clear T_v169
      have ne_b1_v169 : b1 ≠ v169 := Nat.ne_of_lt (Nat.lt_of_lt_of_le V_b1.lt sb_v169)
      have ne_b4_v169 : b4 ≠ v169 := Nat.ne_of_lt (Nat.lt_of_lt_of_le E_b4.lt sb_v169)
      have ne_b6_v169 : b6 ≠ v169 := Nat.ne_of_lt (Nat.lt_of_lt_of_le E_b6.lt sb_v169)
      have ne_b18_v169 : b18 ≠ v169 := Nat.ne_of_lt (Nat.lt_of_lt_of_le E_b18.lt sb_v169)
      have ne_v145_v169 : v145 ≠ v169 := Nat.ne_of_lt (Nat.lt_of_lt_of_le E_v145.lt sb_v169)
      have ne_v157_v169 : v157 ≠ v169 := Nat.ne_of_lt (Nat.lt_of_lt_of_le E_v157.lt sb_v169)
      replace V_b1 := V_b1.keep Kh21 nin0
      replace E_b4 := E_b4.keep Kh21
      replace E_b6 := E_b6.keep Kh21
      replace M_b6 := M_b6.keep Kh21 nin0
      replace L_b6 := L_b6.keep Kh21 nin0
      replace Z_b6 := Z_b6.keep Kh21 nin0
      replace E_b18 := E_b18.keep Kh21
      replace F_expression_b18 := F_expression_b18.keep Kh21 nin0
      replace F_title_b18 := F_title_b18.keep Kh21 nin0
      replace F_description_b18 := F_description_b18.keep Kh21 nin0
      replace F_location_b18 := F_location_b18.keep Kh21 nin0
      replace E_v145 := E_v145.keep Kh21
      replace E_v157 := E_v157.keep Kh21
      refine Wp.eqS (S' := [(.ref v169), (.ref v157), (.ref v145), (.ref b18), (.ref b18)]) rfl ?_
      have sz_v169 : h0.size ≤ v169 := Nat.le_trans zh21 sb_v169
      refine Wp.iloadN at_172 (pc' := 173) rfl rfl ?_
      refine Wp.bipush (x := (24 : Int32)) at_173 (pc' := 175) rfl rfl ?_
      refine Wp.iushr at_175 (pc' := 176) rfl ?_
      refine Wp.sipush (x := (255 : Int32)) at_176 (pc' := 179) rfl rfl ?_
      refine Wp.iand at_179 (pc' := 180) rfl ?_
      refine Wp.i2c at_180 (pc' := 181) rfl ?_
      rw [i2c_mask]
      refine Wp.old fun hOc => ?_
      refine Wp.callS (W := 5) (argsL := [(.int (((p3.toUInt32 >>> ((24 : Int32) &&& 31).toUInt32).toInt32) &&& (255 : Int32)))]) (rest := [(.ref v169), (.ref v157), (.ref v145), (.ref b18), (.ref b18)]) rfl (ctVOF l Z a0 hw hE (((p3.toUInt32 >>> ((24 : Int32) &&& 31).toUInt32).toInt32) &&& (255 : Int32)) cz h21 hOc (own_255 _).1 hco hcz) (hw _ (List.mem_of_getElem? (i := 54) rfl)) (hw _ (List.mem_of_getElem? (i := 55) rfl)) (hw _ (List.mem_of_getElem? (i := 56) rfl)) (hw _ (List.mem_of_getElem? (i := 3) rfl)) (by decide) (lenOf pd__C_Ljava_lang_String_ rfl) at_181 rfl rfl rfl (Nat.le_of_eq rfl) (pc' := 184) rfl nofun nofun (by decide) (by decide) (k' := 16) (n' := 41) rfl rfl (by decide) (by decide) (fun vh22 h22 zh22 Kh22 qh22 => ?_)
      obtain ⟨v181, rfl, sb_v181, T_v181⟩ := qh22
      have E_v181 := T_v181.1
      clear T_v181
      have ne_b1_v181 : b1 ≠ v181 := Nat.ne_of_lt (Nat.lt_of_lt_of_le V_b1.lt sb_v181)
      have ne_b4_v181 : b4 ≠ v181 := Nat.ne_of_lt (Nat.lt_of_lt_of_le E_b4.lt sb_v181)
      have ne_b6_v181 : b6 ≠ v181 := Nat.ne_of_lt (Nat.lt_of_lt_of_le E_b6.lt sb_v181)
      have ne_b18_v181 : b18 ≠ v181 := Nat.ne_of_lt (Nat.lt_of_lt_of_le E_b18.lt sb_v181)
      have ne_v145_v181 : v145 ≠ v181 := Nat.ne_of_lt (Nat.lt_of_lt_of_le E_v145.lt sb_v181)
      have ne_v157_v181 : v157 ≠ v181 := Nat.ne_of_lt (Nat.lt_of_lt_of_le E_v157.lt sb_v181)
      have ne_v169_v181 : v169 ≠ v181 := Nat.ne_of_lt (Nat.lt_of_lt_of_le E_v169.lt sb_v181)
      replace V_b1 := V_b1.keep Kh22 nin0
      replace E_b4 := E_b4.keep Kh22
      replace E_b6 := E_b6.keep Kh22
      replace M_b6 := M_b6.keep Kh22 nin0
      replace L_b6 := L_b6.keep Kh22 nin0
      replace Z_b6 := Z_b6.keep Kh22 nin0
      replace E_b18 := E_b18.keep Kh22
      replace F_expression_b18 := F_expression_b18.keep Kh22 nin0
      replace F_title_b18 := F_title_b18.keep Kh22 nin0
      replace F_description_b18 := F_description_b18.keep Kh22 nin0
      replace F_location_b18 := F_location_b18.keep Kh22 nin0
      replace E_v145 := E_v145.keep Kh22
      replace E_v157 := E_v157.keep Kh22
      replace E_v169 := E_v169.keep Kh22
      refine Wp.eqS (S' := [(.ref v181), (.ref v169), (.ref v157), (.ref v145), (.ref b18), (.ref b18)]) rfl ?_
      have sz_v181 : h0.size ≤ v181 := Nat.le_trans zh22 sb_v181
      refine Wp.old fun hOc => ?_
      refine Wp.callI (a := b18) (W := 1) (argsL := [(.ref v145), (.ref v157), (.ref v169), (.ref v181)]) (rest := [(.ref b18)]) rfl (ctCD l Z a0 hw hE b18 v145 v157 v169 v181 h22 hOc (Nat.le_trans hO.1 sz_b18) E_b18 F_expression_b18 F_title_b18 F_description_b18 F_location_b18 E_v145 E_v157 E_v169 E_v181) rfl rfl (hw _ (List.mem_of_getElem? (i := 215) rfl)) (hw _ (List.mem_of_getElem? (i := 216) rfl)) (hw _ (List.mem_of_getElem? (i := 217) rfl)) (hw _ (List.mem_of_getElem? (i := 214) rfl)) (by decide) (lenOf pd__Ljava_lang_String_Ljava_lang_String_Ljava_lang_String_Ljava_lang_String__V rfl) at_184 rfl rfl rfl (Nat.le_of_eq rfl) (pc' := 187) rfl nofun (by intro x hx; simp only [List.mem_cons, List.not_mem_nil, or_false] at hx; rcases hx with rfl; exact (Or.inr sz_b18)) (by decide) (by decide) (k' := 24) (n' := 193) rfl rfl (by decide) (by decide) (fun vh23 h23 zh23 Kh23 qh23 => ?_)
      obtain rfl := qh23
      replace V_b1 := V_b1.keep Kh23 (ninS ne_b1_b18 nin0)
      replace E_b4 := E_b4.keep Kh23
      replace E_b6 := E_b6.keep Kh23
      replace M_b6 := M_b6.keep Kh23 (ninS ne_b6_b18 nin0)
      replace L_b6 := L_b6.keep Kh23 (ninS ne_b6_b18 nin0)
      replace Z_b6 := Z_b6.keep Kh23 (ninS ne_b6_b18 nin0)
      replace E_b18 := E_b18.keep Kh23
      replace E_v145 := E_v145.keep Kh23
      replace E_v157 := E_v157.keep Kh23
      replace E_v169 := E_v169.keep Kh23
      replace E_v181 := E_v181.keep Kh23
      refine Wp.eqS (S' := [(.ref b18)]) rfl ?_
      refine Wp.astore (l' := #[.val (.int p0), .val (.int p1), .val (.int p2), .val (.int p3), .val (.ref b1), .val (.ref b4), .val (.ref b6), .val (.int (0 : Int32)), .val (.int (1 : Int32)), .val (.ref b18), .unset]) at_187 (pc' := 189) rfl rfl rfl ?_
      refine Wp.new rfl (hw _ (List.mem_of_getElem? (i := 99) rfl)) (hw _ (List.mem_of_getElem? (i := 100) rfl)) (hw _ (List.mem_of_getElem? (i := 101) rfl)) at_189 (pc' := 192) rfl (k' := 25) (n' := 196) rfl rfl (by decide) (by decide) (fun h24 b24 g_b24 sz_b24 Xh24 E_b24 D_b24 => ?_)
      have ne_b1_b24 : b1 ≠ b24 := Nat.ne_of_lt (Nat.lt_of_lt_of_eq V_b1.lt g_b24.symm)
      have ne_b4_b24 : b4 ≠ b24 := Nat.ne_of_lt (Nat.lt_of_lt_of_eq E_b4.lt g_b24.symm)
      have ne_b6_b24 : b6 ≠ b24 := Nat.ne_of_lt (Nat.lt_of_lt_of_eq E_b6.lt g_b24.symm)
      have ne_b18_b24 : b18 ≠ b24 := Nat.ne_of_lt (Nat.lt_of_lt_of_eq E_b18.lt g_b24.symm)
      have ne_v145_b24 : v145 ≠ b24 := Nat.ne_of_lt (Nat.lt_of_lt_of_eq E_v145.lt g_b24.symm)
      have ne_v157_b24 : v157 ≠ b24 := Nat.ne_of_lt (Nat.lt_of_lt_of_eq E_v157.lt g_b24.symm)
      have ne_v169_b24 : v169 ≠ b24 := Nat.ne_of_lt (Nat.lt_of_lt_of_eq E_v169.lt g_b24.symm)
      have ne_v181_b24 : v181 ≠ b24 := Nat.ne_of_lt (Nat.lt_of_lt_of_eq E_v181.lt g_b24.symm)
      replace V_b1 := V_b1.ext Xh24
      replace E_b4 := E_b4.ext Xh24
      replace E_b6 := E_b6.ext Xh24
      replace M_b6 := M_b6.ext Xh24
      replace L_b6 := L_b6.ext Xh24
      replace Z_b6 := Z_b6.ext Xh24
      replace E_b18 := E_b18.ext Xh24
      replace E_v145 := E_v145.ext Xh24
      replace E_v157 := E_v157.ext Xh24
      replace E_v169 := E_v169.ext Xh24
      replace E_v181 := E_v181.ext Xh24
      have F_role_b24 : Fld Z h24 b24 "com/example/rootward/rootward/policy/Binding" "role" "Ljava/lang/String;" .null := D_b24 (Or.inr (hw _ (List.mem_of_getElem? (i := 115) rfl))) (ty := (.object "java/lang/String")) (by decide)
      have F_members_b24 : Fld Z h24 b24 "com/example/rootward/rootward/policy/Binding" "members" "Ljava/util/List;" .null := D_b24 (Or.inr (hw _ (List.mem_of_getElem? (i := 204) rfl))) (ty := (.object "java/util/List")) (by decide)
      have F_condition_b24 : Fld Z h24 b24 "com/example/rootward/rootward/policy/Binding" "condition" "Lcom/example/rootward/rootward/policy/Condition;" .null := D_b24 (Or.inr (hw _ (List.mem_of_getElem? (i := 206) rfl))) (ty := (.object "com/example/rootward/rootward/policy/Condition")) (by decide)
      clear D_b24
      refine Wp.dup at_192 (pc' := 193) rfl rfl ?_
      refine Wp.aload at_193 (pc' := 195) rfl rfl rfl ?_
      refine Wp.aload at_195 (pc' := 197) rfl rfl rfl ?_
      refine Wp.aload at_197 (pc' := 199) rfl rfl rfl ?_
      refine Wp.old fun hOc => ?_
      refine Wp.callI (a := b24) (W := 1) (argsL := [(.ref b4), (.ref b6), (.ref b18)]) (rest := [(.ref b24)]) rfl (ctBI_0r l Z a0 hw hE b24 b4 b18 b6 el h24 hOc (Nat.le_trans hO.1 sz_b24) E_b24 E_b4 F_role_b24 F_members_b24 F_condition_b24 ne_b6_b24  E_b6 Z_b6 hel) rfl rfl (hw _ (List.mem_of_getElem? (i := 102) rfl)) (hw _ (List.mem_of_getElem? (i := 103) rfl)) (hw _ (List.mem_of_getElem? (i := 104) rfl)) (hw _ (List.mem_of_getElem? (i := 101) rfl)) (by decide) (lenOf pd__Ljava_lang_String_Ljava_util_Collection_Lcom_example_rootward_rootward_policy_Condition__V rfl) at_199 rfl rfl rfl (Nat.le_of_eq rfl) (pc' := 202) rfl nofun (by intro x hx; simp only [List.mem_cons, List.not_mem_nil, or_false] at hx; rcases hx with rfl; exact (Or.inr sz_b24)) (by decide) (by decide) (k' := 30) (n' := 224) rfl rfl (by decide) (by decide) (fun vh25 h25 zh25 Kh25 qh25 => ?_)
      obtain ⟨rfl, C_b24⟩ := qh25
      replace V_b1 := V_b1.keep Kh25 (ninS ne_b1_b24 nin0)
      replace E_b4 := E_b4.keep Kh25
      replace E_b6 := E_b6.keep Kh25
      replace M_b6 := M_b6.keep Kh25 (ninS ne_b6_b24 nin0)
      replace L_b6 := L_b6.keep Kh25 (ninS ne_b6_b24 nin0)
      replace Z_b6 := Z_b6.keep Kh25 (ninS ne_b6_b24 nin0)
      replace E_b18 := E_b18.keep Kh25
      replace E_v145 := E_v145.keep Kh25
      replace E_v157 := E_v157.keep Kh25
      replace E_v169 := E_v169.keep Kh25
      replace E_v181 := E_v181.keep Kh25
      replace E_b24 := E_b24.keep Kh25
      refine Wp.eqS (S' := [(.ref b24)]) rfl ?_
      refine Wp.astore (l' := #[.val (.int p0), .val (.int p1), .val (.int p2), .val (.int p3), .val (.ref b1), .val (.ref b4), .val (.ref b6), .val (.int (0 : Int32)), .val (.int (1 : Int32)), .val (.ref b18), .val (.ref b24)]) at_202 (pc' := 204) rfl rfl rfl ?_
      refine Wp.aload at_204 (pc' := 206) rfl rfl rfl ?_
      refine Wp.old fun hOc => ?_
      refine Wp.callV (a := b24) (x' := (⟨"com/example/rootward/rootward/policy/Binding", "isConditional", "()Z"⟩ : MethodName)) (W := 0) (argsL := []) (rest := []) rfl (ctICr l Z a0 hw hE b24 b18 h25 hOc C_b24) (hw _ (List.mem_of_getElem? (i := 207) rfl)) (hw _ (List.mem_of_getElem? (i := 208) rfl)) (hw _ (List.mem_of_getElem? (i := 210) rfl)) (hw _ (List.mem_of_getElem? (i := 209) rfl)) (hw _ (List.mem_of_getElem? (i := 211) rfl)) (hw _ (List.mem_of_getElem? (i := 101) rfl)) (fun s hZ => nf_sel rfl (hw _ (List.mem_of_getElem? (i := 210) rfl)) s hZ rfl) E_b24 (by decide) (lenOf pd___Z rfl) at_206 rfl rfl rfl (Nat.le_of_eq rfl) (pc' := 209) rfl nofun nofun (by decide) (by decide) (k' := 30) (n' := 224) rfl rfl (by decide) (by decide) (fun vh26 h26 zh26 Kh26 qh26 => ?_)
      obtain rfl := qh26
      replace V_b1 := V_b1.keep Kh26 nin0
      replace E_b4 := E_b4.keep Kh26
      replace E_b6 := E_b6.keep Kh26
      replace M_b6 := M_b6.keep Kh26 nin0
      replace L_b6 := L_b6.keep Kh26 nin0
      replace Z_b6 := Z_b6.keep Kh26 nin0
      replace E_b18 := E_b18.keep Kh26
      replace E_v145 := E_v145.keep Kh26
      replace E_v157 := E_v157.keep Kh26
      replace E_v169 := E_v169.keep Kh26
      replace E_v181 := E_v181.keep Kh26
      replace E_b24 := E_b24.keep Kh26
      replace C_b24 := C_b24.keep Kh26 nin0
      refine Wp.eqS (S' := [(.int (1 : Int32))]) rfl ?_
      refine Wp.iload at_209 (pc' := 211) rfl rfl ?_
      refine Wp.icmp_ne (pc1 := 218) (pc' := 214) at_211 (by decide) (by decide) rfl (fun hc27 => by exact absurd hc27 (by decide)) (fun hc27 => ?_)
      refine Wp.iconst (x := (1 : Int32)) at_214 (pc' := 215) rfl rfl ?_
      refine Wp.goto (pc' := 219) at_215 (by decide) (by decide) ?_
      refine Wp.retN (x' := (1 : Int32)) (t := .boolean) rfl (by simp) rfl at_219 (by decide) (by decide) ?_
      rfl
  · rw [hl]
    refine Wp.istore (l' := #[.val (.int p0), .val (.int p1), .val (.int p2), .val (.int p3), .val (.ref b1), .val (.ref b4), .val (.ref b6), .val (.int (1 : Int32)), .unset, .unset, .unset]) at_51 (pc' := 53) rfl rfl ?_
    refine Wp.iload at_53 (pc' := 55) rfl rfl ?_
    refine Wp.iconst (x := (1 : Int32)) at_55 (pc' := 56) rfl rfl ?_
    refine Wp.icmp_lt (pc1 := 76) (pc' := 59) at_56 (by decide) (by decide) rfl (fun hc28 => by exact absurd hc28 (by decide)) (fun hc28 => ?_)
    refine Wp.aload at_59 (pc' := 61) rfl rfl rfl ?_
    refine Wp.iloadN at_61 (pc' := 62) rfl rfl ?_
    refine Wp.iconst (x := (2 : Int32)) at_62 (pc' := 63) rfl rfl ?_
    refine Wp.iushr at_63 (pc' := 64) rfl ?_
    refine Wp.sipush (x := (255 : Int32)) at_64 (pc' := 67) rfl rfl ?_
    refine Wp.iand at_67 (pc' := 68) rfl ?_
    refine Wp.i2c at_68 (pc' := 69) rfl ?_
    rw [i2c_mask]
    refine Wp.old fun hOc => ?_
    refine Wp.callS (W := 1) (argsL := [(.int (((p1.toUInt32 >>> ((2 : Int32) &&& 31).toUInt32).toInt32) &&& (255 : Int32)))]) (rest := [(.ref b6)]) rfl (ctVOF l Z a0 hw hE (((p1.toUInt32 >>> ((2 : Int32) &&& 31).toUInt32).toInt32) &&& (255 : Int32)) cz h7 hOc (own_255 _).1 hco hcz) (hw _ (List.mem_of_getElem? (i := 54) rfl)) (hw _ (List.mem_of_getElem? (i := 55) rfl)) (hw _ (List.mem_of_getElem? (i := 56) rfl)) (hw _ (List.mem_of_getElem? (i := 3) rfl)) (by decide) (lenOf pd__C_Ljava_lang_String_ rfl) at_69 rfl rfl rfl (Nat.le_of_eq rfl) (pc' := 72) rfl nofun nofun (by decide) (by decide) (k' := 9) (n' := 22) rfl rfl (by decide) (by decide) (fun vh29 h29 zh29 Kh29 qh29 => ?_)
    obtain ⟨v69, rfl, sb_v69, T_v69⟩ := qh29
    have E_v69 := T_v69.1
    clear T_v69
    have ne_b1_v69 : b1 ≠ v69 := Nat.ne_of_lt (Nat.lt_of_lt_of_le V_b1.lt sb_v69)
    have ne_b4_v69 : b4 ≠ v69 := Nat.ne_of_lt (Nat.lt_of_lt_of_le E_b4.lt sb_v69)
    have ne_b6_v69 : b6 ≠ v69 := Nat.ne_of_lt (Nat.lt_of_lt_of_le E_b6.lt sb_v69)
    replace V_b1 := V_b1.keep Kh29 nin0
    replace E_b4 := E_b4.keep Kh29
    replace E_b6 := E_b6.keep Kh29
    replace M_b6 := M_b6.keep Kh29 nin0
    replace L_b6 := L_b6.keep Kh29 nin0
    replace Z_b6 := Z_b6.keep Kh29 nin0
    refine Wp.eqS (S' := [(.ref v69), (.ref b6)]) rfl ?_
    have sz_v69 : h0.size ≤ v69 := Nat.le_trans zh29 sb_v69
    refine Wp.old fun hOc => ?_
    refine Wp.callV (a := b6) (x' := (⟨"java/util/ArrayList", "add", "(Ljava/lang/Object;)Z"⟩ : MethodName)) (W := 0) (argsL := [(.ref v69)]) (rest := []) rfl (ctA1_0 l Z a0 hw hE b6 v69 de kde 0 h29 hOc (V_de.ext hOc) (Nat.le_trans hO.1 sz_b6) E_b6 M_b6 L_b6 Z_b6 hde (Nat.ne_of_lt (Nat.lt_of_lt_of_le V_de.lt (Nat.le_trans hO.1 sz_b6))) E_v69) (hw _ (List.mem_of_getElem? (i := 68) rfl)) (hw _ (List.mem_of_getElem? (i := 69) rfl)) (hw _ (List.mem_of_getElem? (i := 71) rfl)) (hw _ (List.mem_of_getElem? (i := 70) rfl)) (hw _ (List.mem_of_getElem? (i := 72) rfl)) (hw _ (List.mem_of_getElem? (i := 32) rfl)) (fun s hZ => nf_sel rfl (hw _ (List.mem_of_getElem? (i := 71) rfl)) s hZ rfl) E_b6 (by decide) (lenOf pd__Ljava_lang_Object__Z rfl) at_72 rfl rfl rfl (Nat.le_of_eq rfl) (pc' := 75) rfl nofun (by intro x hx; simp only [List.mem_cons, List.not_mem_nil, or_false] at hx; rcases hx with rfl; exact (Or.inr sz_b6)) (by decide) (by decide) (k' := 10) (n' := 32) rfl rfl (by decide) (by decide) (fun vh30 h30 zh30 Kh30 qh30 => ?_)
    obtain ⟨rfl, d72, k_d72, sb_d72, O_d72, ⟨mc_d72, M_b6⟩, L_b6, Z_b6, V_d72, E_d72⟩ := qh30
    have ne_b1_d72 : b1 ≠ d72 := Nat.ne_of_lt (Nat.lt_of_lt_of_le V_b1.lt sb_d72)
    have ne_b4_d72 : b4 ≠ d72 := Nat.ne_of_lt (Nat.lt_of_lt_of_le E_b4.lt sb_d72)
    have ne_b6_d72 : b6 ≠ d72 := Nat.ne_of_lt (Nat.lt_of_lt_of_le E_b6.lt sb_d72)
    have ne_v69_d72 : v69 ≠ d72 := Nat.ne_of_lt (Nat.lt_of_lt_of_le E_v69.lt sb_d72)
    replace V_b1 := V_b1.keep Kh30 (ninS ne_b1_b6 nin0)
    replace E_b4 := E_b4.keep Kh30
    replace E_b6 := E_b6.keep Kh30
    replace E_v69 := E_v69.keep Kh30
    refine Wp.eqS (S' := [(.int (1 : Int32))]) rfl ?_
    have sz_d72 : h0.size ≤ d72 := Nat.le_trans zh30 sb_d72
    refine Wp.pop at_75 (pc' := 76) rfl rfl ?_
    refine Wp.iload at_76 (pc' := 78) rfl rfl ?_
    refine Wp.iconst (x := (2 : Int32)) at_78 (pc' := 79) rfl rfl ?_
    refine Wp.icmp_lt (pc1 := 100) (pc' := 82) at_79 (by decide) (by decide) rfl (fun hc31 => ?_) (fun hc31 => by exact absurd hc31 (by decide))
    refine Wp.iload at_100 (pc' := 102) rfl rfl ?_
    refine Wp.iconst (x := (3 : Int32)) at_102 (pc' := 103) rfl rfl ?_
    refine Wp.icmp_lt (pc1 := 114) (pc' := 106) at_103 (by decide) (by decide) rfl (fun hc32 => ?_) (fun hc32 => by exact absurd hc32 (by decide))
    refine Wp.iloadN at_114 (pc' := 115) rfl rfl ?_
    refine Wp.iconst (x := (1 : Int32)) at_115 (pc' := 116) rfl rfl ?_
    refine Wp.iand at_116 (pc' := 117) rfl ?_
    refine Wp.if_eq (pc1 := 124) (pc' := 120) at_117 (by decide) (by decide) rfl (fun hc33 => ?_) (fun hc33 => ?_)
    · have hc33 : (p2 &&& (1 : Int32)) = (0 : Int32) := hc33
      refine Wp.iconst (x := (0 : Int32)) at_124 (pc' := 125) rfl rfl ?_
      refine Wp.istore (l' := #[.val (.int p0), .val (.int p1), .val (.int p2), .val (.int p3), .val (.ref b1), .val (.ref b4), .val (.ref b6), .val (.int (1 : Int32)), .val (.int (0 : Int32)), .unset, .unset]) at_125 (pc' := 127) rfl rfl ?_
      refine Wp.aconstNull at_127 (pc' := 128) rfl ?_
      refine Wp.astore (l' := #[.val (.int p0), .val (.int p1), .val (.int p2), .val (.int p3), .val (.ref b1), .val (.ref b4), .val (.ref b6), .val (.int (1 : Int32)), .val (.int (0 : Int32)), .val .null, .unset]) at_128 (pc' := 130) rfl rfl rfl ?_
      refine Wp.iload at_130 (pc' := 132) rfl rfl ?_
      refine Wp.if_eq (pc1 := 189) (pc' := 135) at_132 (by decide) (by decide) rfl (fun hc34 => ?_) (fun hc34 => by exact absurd hc34 (by decide))
      refine Wp.new rfl (hw _ (List.mem_of_getElem? (i := 99) rfl)) (hw _ (List.mem_of_getElem? (i := 100) rfl)) (hw _ (List.mem_of_getElem? (i := 101) rfl)) at_189 (pc' := 192) rfl (k' := 11) (n' := 35) rfl rfl (by decide) (by decide) (fun h35 b35 g_b35 sz_b35 Xh35 E_b35 D_b35 => ?_)
      have ne_b1_b35 : b1 ≠ b35 := Nat.ne_of_lt (Nat.lt_of_lt_of_eq V_b1.lt g_b35.symm)
      have ne_b4_b35 : b4 ≠ b35 := Nat.ne_of_lt (Nat.lt_of_lt_of_eq E_b4.lt g_b35.symm)
      have ne_b6_b35 : b6 ≠ b35 := Nat.ne_of_lt (Nat.lt_of_lt_of_eq E_b6.lt g_b35.symm)
      have ne_v69_b35 : v69 ≠ b35 := Nat.ne_of_lt (Nat.lt_of_lt_of_eq E_v69.lt g_b35.symm)
      have ne_d72_b35 : d72 ≠ b35 := Nat.ne_of_lt (Nat.lt_of_lt_of_eq V_d72.lt g_b35.symm)
      replace V_b1 := V_b1.ext Xh35
      replace E_b4 := E_b4.ext Xh35
      replace E_b6 := E_b6.ext Xh35
      replace E_v69 := E_v69.ext Xh35
      replace M_b6 := M_b6.ext Xh35
      replace L_b6 := L_b6.ext Xh35
      replace Z_b6 := Z_b6.ext Xh35
      replace V_d72 := V_d72.ext Xh35
      replace E_d72 := E_d72.ext Xh35
      have F_role_b35 : Fld Z h35 b35 "com/example/rootward/rootward/policy/Binding" "role" "Ljava/lang/String;" .null := D_b35 (Or.inr (hw _ (List.mem_of_getElem? (i := 115) rfl))) (ty := (.object "java/lang/String")) (by decide)
      have F_members_b35 : Fld Z h35 b35 "com/example/rootward/rootward/policy/Binding" "members" "Ljava/util/List;" .null := D_b35 (Or.inr (hw _ (List.mem_of_getElem? (i := 204) rfl))) (ty := (.object "java/util/List")) (by decide)
      have F_condition_b35 : Fld Z h35 b35 "com/example/rootward/rootward/policy/Binding" "condition" "Lcom/example/rootward/rootward/policy/Condition;" .null := D_b35 (Or.inr (hw _ (List.mem_of_getElem? (i := 206) rfl))) (ty := (.object "com/example/rootward/rootward/policy/Condition")) (by decide)
      clear D_b35
      refine Wp.dup at_192 (pc' := 193) rfl rfl ?_
      refine Wp.aload at_193 (pc' := 195) rfl rfl rfl ?_
      refine Wp.aload at_195 (pc' := 197) rfl rfl rfl ?_
      refine Wp.aload at_197 (pc' := 199) rfl rfl rfl ?_
      refine Wp.old fun hOc => ?_
      refine Wp.callI (a := b35) (W := 1) (argsL := [(.ref b4), (.ref b6), .null]) (rest := [(.ref b35)]) rfl (ctBI_1n l Z a0 hw hE b35 b4 b6 d72 mr k_d72 v69 em h35 hOc (Nat.le_trans hO.1 sz_b35) E_b35 E_b4 F_role_b35 F_members_b35 F_condition_b35 ne_b6_b35 ne_d72_b35 E_b6 L_b6 Z_b6 hM E_d72 V_d72 E_v69 hem) rfl rfl (hw _ (List.mem_of_getElem? (i := 102) rfl)) (hw _ (List.mem_of_getElem? (i := 103) rfl)) (hw _ (List.mem_of_getElem? (i := 104) rfl)) (hw _ (List.mem_of_getElem? (i := 101) rfl)) (by decide) (lenOf pd__Ljava_lang_String_Ljava_util_Collection_Lcom_example_rootward_rootward_policy_Condition__V rfl) at_199 rfl rfl rfl (Nat.le_of_eq rfl) (pc' := 202) rfl nofun (by intro x hx; simp only [List.mem_cons, List.not_mem_nil, or_false] at hx; rcases hx with rfl; exact (Or.inr sz_b35)) (by decide) (by decide) (k' := 16) (n' := 63) rfl rfl (by decide) (by decide) (fun vh36 h36 zh36 Kh36 qh36 => ?_)
      obtain ⟨rfl, C_b35⟩ := qh36
      replace V_b1 := V_b1.keep Kh36 (ninS ne_b1_b35 nin0)
      replace E_b4 := E_b4.keep Kh36
      replace E_b6 := E_b6.keep Kh36
      replace E_v69 := E_v69.keep Kh36
      replace M_b6 := M_b6.keep Kh36 (ninS ne_b6_b35 nin0)
      replace L_b6 := L_b6.keep Kh36 (ninS ne_b6_b35 nin0)
      replace Z_b6 := Z_b6.keep Kh36 (ninS ne_b6_b35 nin0)
      replace V_d72 := V_d72.keep Kh36 (ninS ne_d72_b35 nin0)
      replace E_d72 := E_d72.keep Kh36
      replace E_b35 := E_b35.keep Kh36
      refine Wp.eqS (S' := [(.ref b35)]) rfl ?_
      refine Wp.astore (l' := #[.val (.int p0), .val (.int p1), .val (.int p2), .val (.int p3), .val (.ref b1), .val (.ref b4), .val (.ref b6), .val (.int (1 : Int32)), .val (.int (0 : Int32)), .val .null, .val (.ref b35)]) at_202 (pc' := 204) rfl rfl rfl ?_
      refine Wp.aload at_204 (pc' := 206) rfl rfl rfl ?_
      refine Wp.old fun hOc => ?_
      refine Wp.callV (a := b35) (x' := (⟨"com/example/rootward/rootward/policy/Binding", "isConditional", "()Z"⟩ : MethodName)) (W := 0) (argsL := []) (rest := []) rfl (ctICn l Z a0 hw hE b35 h36 hOc C_b35) (hw _ (List.mem_of_getElem? (i := 207) rfl)) (hw _ (List.mem_of_getElem? (i := 208) rfl)) (hw _ (List.mem_of_getElem? (i := 210) rfl)) (hw _ (List.mem_of_getElem? (i := 209) rfl)) (hw _ (List.mem_of_getElem? (i := 211) rfl)) (hw _ (List.mem_of_getElem? (i := 101) rfl)) (fun s hZ => nf_sel rfl (hw _ (List.mem_of_getElem? (i := 210) rfl)) s hZ rfl) E_b35 (by decide) (lenOf pd___Z rfl) at_206 rfl rfl rfl (Nat.le_of_eq rfl) (pc' := 209) rfl nofun nofun (by decide) (by decide) (k' := 16) (n' := 63) rfl rfl (by decide) (by decide) (fun vh37 h37 zh37 Kh37 qh37 => ?_)
      obtain rfl := qh37
      replace V_b1 := V_b1.keep Kh37 nin0
      replace E_b4 := E_b4.keep Kh37
      replace E_b6 := E_b6.keep Kh37
      replace E_v69 := E_v69.keep Kh37
      replace M_b6 := M_b6.keep Kh37 nin0
      replace L_b6 := L_b6.keep Kh37 nin0
      replace Z_b6 := Z_b6.keep Kh37 nin0
      replace V_d72 := V_d72.keep Kh37 nin0
      replace E_d72 := E_d72.keep Kh37
      replace E_b35 := E_b35.keep Kh37
      replace C_b35 := C_b35.keep Kh37 nin0
      refine Wp.eqS (S' := [(.int (0 : Int32))]) rfl ?_
      refine Wp.iload at_209 (pc' := 211) rfl rfl ?_
      refine Wp.icmp_ne (pc1 := 218) (pc' := 214) at_211 (by decide) (by decide) rfl (fun hc38 => by exact absurd hc38 (by decide)) (fun hc38 => ?_)
      refine Wp.iconst (x := (1 : Int32)) at_214 (pc' := 215) rfl rfl ?_
      refine Wp.goto (pc' := 219) at_215 (by decide) (by decide) ?_
      refine Wp.retN (x' := (1 : Int32)) (t := .boolean) rfl (by simp) rfl at_219 (by decide) (by decide) ?_
      rfl
    · have hc33 : ¬ ((p2 &&& (1 : Int32)) = (0 : Int32)) := hc33
      refine Wp.iconst (x := (1 : Int32)) at_120 (pc' := 121) rfl rfl ?_
      refine Wp.goto (pc' := 125) at_121 (by decide) (by decide) ?_
      refine Wp.istore (l' := #[.val (.int p0), .val (.int p1), .val (.int p2), .val (.int p3), .val (.ref b1), .val (.ref b4), .val (.ref b6), .val (.int (1 : Int32)), .val (.int (1 : Int32)), .unset, .unset]) at_125 (pc' := 127) rfl rfl ?_
      refine Wp.aconstNull at_127 (pc' := 128) rfl ?_
      refine Wp.astore (l' := #[.val (.int p0), .val (.int p1), .val (.int p2), .val (.int p3), .val (.ref b1), .val (.ref b4), .val (.ref b6), .val (.int (1 : Int32)), .val (.int (1 : Int32)), .val .null, .unset]) at_128 (pc' := 130) rfl rfl rfl ?_
      refine Wp.iload at_130 (pc' := 132) rfl rfl ?_
      refine Wp.if_eq (pc1 := 189) (pc' := 135) at_132 (by decide) (by decide) rfl (fun hc39 => by exact absurd hc39 (by decide)) (fun hc39 => ?_)
      refine Wp.new rfl (hw _ (List.mem_of_getElem? (i := 212) rfl)) (hw _ (List.mem_of_getElem? (i := 213) rfl)) (hw _ (List.mem_of_getElem? (i := 214) rfl)) at_135 (pc' := 138) rfl (k' := 11) (n' := 36) rfl rfl (by decide) (by decide) (fun h40 b40 g_b40 sz_b40 Xh40 E_b40 D_b40 => ?_)
      have ne_b1_b40 : b1 ≠ b40 := Nat.ne_of_lt (Nat.lt_of_lt_of_eq V_b1.lt g_b40.symm)
      have ne_b4_b40 : b4 ≠ b40 := Nat.ne_of_lt (Nat.lt_of_lt_of_eq E_b4.lt g_b40.symm)
      have ne_b6_b40 : b6 ≠ b40 := Nat.ne_of_lt (Nat.lt_of_lt_of_eq E_b6.lt g_b40.symm)
      have ne_v69_b40 : v69 ≠ b40 := Nat.ne_of_lt (Nat.lt_of_lt_of_eq E_v69.lt g_b40.symm)
      have ne_d72_b40 : d72 ≠ b40 := Nat.ne_of_lt (Nat.lt_of_lt_of_eq V_d72.lt g_b40.symm)
      replace V_b1 := V_b1.ext Xh40
      replace E_b4 := E_b4.ext Xh40
      replace E_b6 := E_b6.ext Xh40
      replace E_v69 := E_v69.ext Xh40
      replace M_b6 := M_b6.ext Xh40
      replace L_b6 := L_b6.ext Xh40
      replace Z_b6 := Z_b6.ext Xh40
      replace V_d72 := V_d72.ext Xh40
      replace E_d72 := E_d72.ext Xh40
      have F_expression_b40 : Fld Z h40 b40 "com/example/rootward/rootward/policy/Condition" "expression" "Ljava/lang/String;" .null := D_b40 (Or.inr (hw _ (List.mem_of_getElem? (i := 223) rfl))) (ty := (.object "java/lang/String")) (by decide)
      have F_title_b40 : Fld Z h40 b40 "com/example/rootward/rootward/policy/Condition" "title" "Ljava/lang/String;" .null := D_b40 (Or.inr (hw _ (List.mem_of_getElem? (i := 226) rfl))) (ty := (.object "java/lang/String")) (by decide)
      have F_description_b40 : Fld Z h40 b40 "com/example/rootward/rootward/policy/Condition" "description" "Ljava/lang/String;" .null := D_b40 (Or.inr (hw _ (List.mem_of_getElem? (i := 229) rfl))) (ty := (.object "java/lang/String")) (by decide)
      have F_location_b40 : Fld Z h40 b40 "com/example/rootward/rootward/policy/Condition" "location" "Ljava/lang/String;" .null := D_b40 (Or.inr (hw _ (List.mem_of_getElem? (i := 232) rfl))) (ty := (.object "java/lang/String")) (by decide)
      clear D_b40
      refine Wp.dup at_138 (pc' := 139) rfl rfl ?_
      refine Wp.iloadN at_139 (pc' := 140) rfl rfl ?_
      refine Wp.sipush (x := (255 : Int32)) at_140 (pc' := 143) rfl rfl ?_
      refine Wp.iand at_143 (pc' := 144) rfl ?_
      refine Wp.i2c at_144 (pc' := 145) rfl ?_
      rw [i2c_mask]
      refine Wp.old fun hOc => ?_
      refine Wp.callS (W := 2) (argsL := [(.int (p3 &&& (255 : Int32)))]) (rest := [(.ref b40), (.ref b40)]) rfl (ctVOF l Z a0 hw hE (p3 &&& (255 : Int32)) cz h40 hOc (own_255 _).1 hco hcz) (hw _ (List.mem_of_getElem? (i := 54) rfl)) (hw _ (List.mem_of_getElem? (i := 55) rfl)) (hw _ (List.mem_of_getElem? (i := 56) rfl)) (hw _ (List.mem_of_getElem? (i := 3) rfl)) (by decide) (lenOf pd__C_Ljava_lang_String_ rfl) at_145 rfl rfl rfl (Nat.le_of_eq rfl) (pc' := 148) rfl nofun nofun (by decide) (by decide) (k' := 13) (n' := 41) rfl rfl (by decide) (by decide) (fun vh41 h41 zh41 Kh41 qh41 => ?_)
      obtain ⟨v145, rfl, sb_v145, T_v145⟩ := qh41
      have E_v145 := T_v145.1
      clear T_v145
      have ne_b1_v145 : b1 ≠ v145 := Nat.ne_of_lt (Nat.lt_of_lt_of_le V_b1.lt sb_v145)
      have ne_b4_v145 : b4 ≠ v145 := Nat.ne_of_lt (Nat.lt_of_lt_of_le E_b4.lt sb_v145)
      have ne_b6_v145 : b6 ≠ v145 := Nat.ne_of_lt (Nat.lt_of_lt_of_le E_b6.lt sb_v145)
      have ne_v69_v145 : v69 ≠ v145 := Nat.ne_of_lt (Nat.lt_of_lt_of_le E_v69.lt sb_v145)
      have ne_d72_v145 : d72 ≠ v145 := Nat.ne_of_lt (Nat.lt_of_lt_of_le V_d72.lt sb_v145)
      have ne_b40_v145 : b40 ≠ v145 := Nat.ne_of_lt (Nat.lt_of_lt_of_le E_b40.lt sb_v145)
      replace V_b1 := V_b1.keep Kh41 nin0
      replace E_b4 := E_b4.keep Kh41
      replace E_b6 := E_b6.keep Kh41
      replace E_v69 := E_v69.keep Kh41
      replace M_b6 := M_b6.keep Kh41 nin0
      replace L_b6 := L_b6.keep Kh41 nin0
      replace Z_b6 := Z_b6.keep Kh41 nin0
      replace V_d72 := V_d72.keep Kh41 nin0
      replace E_d72 := E_d72.keep Kh41
      replace E_b40 := E_b40.keep Kh41
      replace F_expression_b40 := F_expression_b40.keep Kh41 nin0
      replace F_title_b40 := F_title_b40.keep Kh41 nin0
      replace F_description_b40 := F_description_b40.keep Kh41 nin0
      replace F_location_b40 := F_location_b40.keep Kh41 nin0
      refine Wp.eqS (S' := [(.ref v145), (.ref b40), (.ref b40)]) rfl ?_
      have sz_v145 : h0.size ≤ v145 := Nat.le_trans zh41 sb_v145
      refine Wp.iloadN at_148 (pc' := 149) rfl rfl ?_
      refine Wp.bipush (x := (8 : Int32)) at_149 (pc' := 151) rfl rfl ?_
      refine Wp.iushr at_151 (pc' := 152) rfl ?_
      refine Wp.sipush (x := (255 : Int32)) at_152 (pc' := 155) rfl rfl ?_
      refine Wp.iand at_155 (pc' := 156) rfl ?_
      refine Wp.i2c at_156 (pc' := 157) rfl ?_
      rw [i2c_mask]
      refine Wp.old fun hOc => ?_
      refine Wp.callS (W := 3) (argsL := [(.int (((p3.toUInt32 >>> ((8 : Int32) &&& 31).toUInt32).toInt32) &&& (255 : Int32)))]) (rest := [(.ref v145), (.ref b40), (.ref b40)]) rfl (ctVOF l Z a0 hw hE (((p3.toUInt32 >>> ((8 : Int32) &&& 31).toUInt32).toInt32) &&& (255 : Int32)) cz h41 hOc (own_255 _).1 hco hcz) (hw _ (List.mem_of_getElem? (i := 54) rfl)) (hw _ (List.mem_of_getElem? (i := 55) rfl)) (hw _ (List.mem_of_getElem? (i := 56) rfl)) (hw _ (List.mem_of_getElem? (i := 3) rfl)) (by decide) (lenOf pd__C_Ljava_lang_String_ rfl) at_157 rfl rfl rfl (Nat.le_of_eq rfl) (pc' := 160) rfl nofun nofun (by decide) (by decide) (k' := 15) (n' := 46) rfl rfl (by decide) (by decide) (fun vh42 h42 zh42 Kh42 qh42 => ?_)
      obtain ⟨v157, rfl, sb_v157, T_v157⟩ := qh42
      have E_v157 := T_v157.1
      clear T_v157
      have ne_b1_v157 : b1 ≠ v157 := Nat.ne_of_lt (Nat.lt_of_lt_of_le V_b1.lt sb_v157)
      have ne_b4_v157 : b4 ≠ v157 := Nat.ne_of_lt (Nat.lt_of_lt_of_le E_b4.lt sb_v157)
      have ne_b6_v157 : b6 ≠ v157 := Nat.ne_of_lt (Nat.lt_of_lt_of_le E_b6.lt sb_v157)
      have ne_v69_v157 : v69 ≠ v157 := Nat.ne_of_lt (Nat.lt_of_lt_of_le E_v69.lt sb_v157)
      have ne_d72_v157 : d72 ≠ v157 := Nat.ne_of_lt (Nat.lt_of_lt_of_le V_d72.lt sb_v157)
      have ne_b40_v157 : b40 ≠ v157 := Nat.ne_of_lt (Nat.lt_of_lt_of_le E_b40.lt sb_v157)
      have ne_v145_v157 : v145 ≠ v157 := Nat.ne_of_lt (Nat.lt_of_lt_of_le E_v145.lt sb_v157)
      replace V_b1 := V_b1.keep Kh42 nin0
      replace E_b4 := E_b4.keep Kh42
      replace E_b6 := E_b6.keep Kh42
      replace E_v69 := E_v69.keep Kh42
      replace M_b6 := M_b6.keep Kh42 nin0
      replace L_b6 := L_b6.keep Kh42 nin0
      replace Z_b6 := Z_b6.keep Kh42 nin0
      replace V_d72 := V_d72.keep Kh42 nin0
      replace E_d72 := E_d72.keep Kh42
      replace E_b40 := E_b40.keep Kh42
      replace F_expression_b40 := F_expression_b40.keep Kh42 nin0
      replace F_title_b40 := F_title_b40.keep Kh42 nin0
      replace F_description_b40 := F_description_b40.keep Kh42 nin0
      replace F_location_b40 := F_location_b40.keep Kh42 nin0
      replace E_v145 := E_v145.keep Kh42
      refine Wp.eqS (S' := [(.ref v157), (.ref v145), (.ref b40), (.ref b40)]) rfl ?_
      have sz_v157 : h0.size ≤ v157 := Nat.le_trans zh42 sb_v157
      refine Wp.iloadN at_160 (pc' := 161) rfl rfl ?_
      refine Wp.bipush (x := (16 : Int32)) at_161 (pc' := 163) rfl rfl ?_
      refine Wp.iushr at_163 (pc' := 164) rfl ?_
      refine Wp.sipush (x := (255 : Int32)) at_164 (pc' := 167) rfl rfl ?_
      refine Wp.iand at_167 (pc' := 168) rfl ?_
      refine Wp.i2c at_168 (pc' := 169) rfl ?_
      rw [i2c_mask]
      refine Wp.old fun hOc => ?_
      refine Wp.callS (W := 4) (argsL := [(.int (((p3.toUInt32 >>> ((16 : Int32) &&& 31).toUInt32).toInt32) &&& (255 : Int32)))]) (rest := [(.ref v157), (.ref v145), (.ref b40), (.ref b40)]) rfl (ctVOF l Z a0 hw hE (((p3.toUInt32 >>> ((16 : Int32) &&& 31).toUInt32).toInt32) &&& (255 : Int32)) cz h42 hOc (own_255 _).1 hco hcz) (hw _ (List.mem_of_getElem? (i := 54) rfl)) (hw _ (List.mem_of_getElem? (i := 55) rfl)) (hw _ (List.mem_of_getElem? (i := 56) rfl)) (hw _ (List.mem_of_getElem? (i := 3) rfl)) (by decide) (lenOf pd__C_Ljava_lang_String_ rfl) at_169 rfl rfl rfl (Nat.le_of_eq rfl) (pc' := 172) rfl nofun nofun (by decide) (by decide) (k' := 17) (n' := 51) rfl rfl (by decide) (by decide) (fun vh43 h43 zh43 Kh43 qh43 => ?_)
      obtain ⟨v169, rfl, sb_v169, T_v169⟩ := qh43
      have E_v169 := T_v169.1
      clear T_v169
      have ne_b1_v169 : b1 ≠ v169 := Nat.ne_of_lt (Nat.lt_of_lt_of_le V_b1.lt sb_v169)
      have ne_b4_v169 : b4 ≠ v169 := Nat.ne_of_lt (Nat.lt_of_lt_of_le E_b4.lt sb_v169)
      have ne_b6_v169 : b6 ≠ v169 := Nat.ne_of_lt (Nat.lt_of_lt_of_le E_b6.lt sb_v169)
      have ne_v69_v169 : v69 ≠ v169 := Nat.ne_of_lt (Nat.lt_of_lt_of_le E_v69.lt sb_v169)
      have ne_d72_v169 : d72 ≠ v169 := Nat.ne_of_lt (Nat.lt_of_lt_of_le V_d72.lt sb_v169)
      have ne_b40_v169 : b40 ≠ v169 := Nat.ne_of_lt (Nat.lt_of_lt_of_le E_b40.lt sb_v169)
      have ne_v145_v169 : v145 ≠ v169 := Nat.ne_of_lt (Nat.lt_of_lt_of_le E_v145.lt sb_v169)
      have ne_v157_v169 : v157 ≠ v169 := Nat.ne_of_lt (Nat.lt_of_lt_of_le E_v157.lt sb_v169)
      replace V_b1 := V_b1.keep Kh43 nin0
      replace E_b4 := E_b4.keep Kh43
      replace E_b6 := E_b6.keep Kh43
      replace E_v69 := E_v69.keep Kh43
      replace M_b6 := M_b6.keep Kh43 nin0
      replace L_b6 := L_b6.keep Kh43 nin0
      replace Z_b6 := Z_b6.keep Kh43 nin0
      replace V_d72 := V_d72.keep Kh43 nin0
      replace E_d72 := E_d72.keep Kh43
      replace E_b40 := E_b40.keep Kh43
      replace F_expression_b40 := F_expression_b40.keep Kh43 nin0
      replace F_title_b40 := F_title_b40.keep Kh43 nin0
      replace F_description_b40 := F_description_b40.keep Kh43 nin0
      replace F_location_b40 := F_location_b40.keep Kh43 nin0
      replace E_v145 := E_v145.keep Kh43
      replace E_v157 := E_v157.keep Kh43
      refine Wp.eqS (S' := [(.ref v169), (.ref v157), (.ref v145), (.ref b40), (.ref b40)]) rfl ?_
      have sz_v169 : h0.size ≤ v169 := Nat.le_trans zh43 sb_v169
      refine Wp.iloadN at_172 (pc' := 173) rfl rfl ?_
      refine Wp.bipush (x := (24 : Int32)) at_173 (pc' := 175) rfl rfl ?_
      refine Wp.iushr at_175 (pc' := 176) rfl ?_
      refine Wp.sipush (x := (255 : Int32)) at_176 (pc' := 179) rfl rfl ?_
      refine Wp.iand at_179 (pc' := 180) rfl ?_
      refine Wp.i2c at_180 (pc' := 181) rfl ?_
      rw [i2c_mask]
      refine Wp.old fun hOc => ?_
      refine Wp.callS (W := 5) (argsL := [(.int (((p3.toUInt32 >>> ((24 : Int32) &&& 31).toUInt32).toInt32) &&& (255 : Int32)))]) (rest := [(.ref v169), (.ref v157), (.ref v145), (.ref b40), (.ref b40)]) rfl (ctVOF l Z a0 hw hE (((p3.toUInt32 >>> ((24 : Int32) &&& 31).toUInt32).toInt32) &&& (255 : Int32)) cz h43 hOc (own_255 _).1 hco hcz) (hw _ (List.mem_of_getElem? (i := 54) rfl)) (hw _ (List.mem_of_getElem? (i := 55) rfl)) (hw _ (List.mem_of_getElem? (i := 56) rfl)) (hw _ (List.mem_of_getElem? (i := 3) rfl)) (by decide) (lenOf pd__C_Ljava_lang_String_ rfl) at_181 rfl rfl rfl (Nat.le_of_eq rfl) (pc' := 184) rfl nofun nofun (by decide) (by decide) (k' := 19) (n' := 56) rfl rfl (by decide) (by decide) (fun vh44 h44 zh44 Kh44 qh44 => ?_)
      obtain ⟨v181, rfl, sb_v181, T_v181⟩ := qh44
      have E_v181 := T_v181.1
      clear T_v181
      have ne_b1_v181 : b1 ≠ v181 := Nat.ne_of_lt (Nat.lt_of_lt_of_le V_b1.lt sb_v181)
      have ne_b4_v181 : b4 ≠ v181 := Nat.ne_of_lt (Nat.lt_of_lt_of_le E_b4.lt sb_v181)
      have ne_b6_v181 : b6 ≠ v181 := Nat.ne_of_lt (Nat.lt_of_lt_of_le E_b6.lt sb_v181)
      have ne_v69_v181 : v69 ≠ v181 := Nat.ne_of_lt (Nat.lt_of_lt_of_le E_v69.lt sb_v181)
      have ne_d72_v181 : d72 ≠ v181 := Nat.ne_of_lt (Nat.lt_of_lt_of_le V_d72.lt sb_v181)
      have ne_b40_v181 : b40 ≠ v181 := Nat.ne_of_lt (Nat.lt_of_lt_of_le E_b40.lt sb_v181)
      have ne_v145_v181 : v145 ≠ v181 := Nat.ne_of_lt (Nat.lt_of_lt_of_le E_v145.lt sb_v181)
      have ne_v157_v181 : v157 ≠ v181 := Nat.ne_of_lt (Nat.lt_of_lt_of_le E_v157.lt sb_v181)
      have ne_v169_v181 : v169 ≠ v181 := Nat.ne_of_lt (Nat.lt_of_lt_of_le E_v169.lt sb_v181)
      replace V_b1 := V_b1.keep Kh44 nin0
      replace E_b4 := E_b4.keep Kh44
      replace E_b6 := E_b6.keep Kh44
      replace E_v69 := E_v69.keep Kh44
      replace M_b6 := M_b6.keep Kh44 nin0
      replace L_b6 := L_b6.keep Kh44 nin0
      replace Z_b6 := Z_b6.keep Kh44 nin0
      replace V_d72 := V_d72.keep Kh44 nin0
      replace E_d72 := E_d72.keep Kh44
      replace E_b40 := E_b40.keep Kh44
      replace F_expression_b40 := F_expression_b40.keep Kh44 nin0
      replace F_title_b40 := F_title_b40.keep Kh44 nin0
      replace F_description_b40 := F_description_b40.keep Kh44 nin0
      replace F_location_b40 := F_location_b40.keep Kh44 nin0
      replace E_v145 := E_v145.keep Kh44
      replace E_v157 := E_v157.keep Kh44
      replace E_v169 := E_v169.keep Kh44
      refine Wp.eqS (S' := [(.ref v181), (.ref v169), (.ref v157), (.ref v145), (.ref b40), (.ref b40)]) rfl ?_
      have sz_v181 : h0.size ≤ v181 := Nat.le_trans zh44 sb_v181
      refine Wp.old fun hOc => ?_
      refine Wp.callI (a := b40) (W := 1) (argsL := [(.ref v145), (.ref v157), (.ref v169), (.ref v181)]) (rest := [(.ref b40)]) rfl (ctCD l Z a0 hw hE b40 v145 v157 v169 v181 h44 hOc (Nat.le_trans hO.1 sz_b40) E_b40 F_expression_b40 F_title_b40 F_description_b40 F_location_b40 E_v145 E_v157 E_v169 E_v181) rfl rfl (hw _ (List.mem_of_getElem? (i := 215) rfl)) (hw _ (List.mem_of_getElem? (i := 216) rfl)) (hw _ (List.mem_of_getElem? (i := 217) rfl)) (hw _ (List.mem_of_getElem? (i := 214) rfl)) (by decide) (lenOf pd__Ljava_lang_String_Ljava_lang_String_Ljava_lang_String_Ljava_lang_String__V rfl) at_184 rfl rfl rfl (Nat.le_of_eq rfl) (pc' := 187) rfl nofun (by intro x hx; simp only [List.mem_cons, List.not_mem_nil, or_false] at hx; rcases hx with rfl; exact (Or.inr sz_b40)) (by decide) (by decide) (k' := 27) (n' := 208) rfl rfl (by decide) (by decide) (fun vh45 h45 zh45 Kh45 qh45 => ?_)
      obtain rfl := qh45
      replace V_b1 := V_b1.keep Kh45 (ninS ne_b1_b40 nin0)
      replace E_b4 := E_b4.keep Kh45
      replace E_b6 := E_b6.keep Kh45
      replace E_v69 := E_v69.keep Kh45
      replace M_b6 := M_b6.keep Kh45 (ninS ne_b6_b40 nin0)
      replace L_b6 := L_b6.keep Kh45 (ninS ne_b6_b40 nin0)
      replace Z_b6 := Z_b6.keep Kh45 (ninS ne_b6_b40 nin0)
      replace V_d72 := V_d72.keep Kh45 (ninS ne_d72_b40 nin0)
      replace E_d72 := E_d72.keep Kh45
      replace E_b40 := E_b40.keep Kh45
      replace E_v145 := E_v145.keep Kh45
      replace E_v157 := E_v157.keep Kh45
      replace E_v169 := E_v169.keep Kh45
      replace E_v181 := E_v181.keep Kh45
      refine Wp.eqS (S' := [(.ref b40)]) rfl ?_
      refine Wp.astore (l' := #[.val (.int p0), .val (.int p1), .val (.int p2), .val (.int p3), .val (.ref b1), .val (.ref b4), .val (.ref b6), .val (.int (1 : Int32)), .val (.int (1 : Int32)), .val (.ref b40), .unset]) at_187 (pc' := 189) rfl rfl rfl ?_
      refine Wp.new rfl (hw _ (List.mem_of_getElem? (i := 99) rfl)) (hw _ (List.mem_of_getElem? (i := 100) rfl)) (hw _ (List.mem_of_getElem? (i := 101) rfl)) at_189 (pc' := 192) rfl (k' := 28) (n' := 211) rfl rfl (by decide) (by decide) (fun h46 b46 g_b46 sz_b46 Xh46 E_b46 D_b46 => ?_)
      have ne_b1_b46 : b1 ≠ b46 := Nat.ne_of_lt (Nat.lt_of_lt_of_eq V_b1.lt g_b46.symm)
      have ne_b4_b46 : b4 ≠ b46 := Nat.ne_of_lt (Nat.lt_of_lt_of_eq E_b4.lt g_b46.symm)
      have ne_b6_b46 : b6 ≠ b46 := Nat.ne_of_lt (Nat.lt_of_lt_of_eq E_b6.lt g_b46.symm)
      have ne_v69_b46 : v69 ≠ b46 := Nat.ne_of_lt (Nat.lt_of_lt_of_eq E_v69.lt g_b46.symm)
      have ne_d72_b46 : d72 ≠ b46 := Nat.ne_of_lt (Nat.lt_of_lt_of_eq V_d72.lt g_b46.symm)
      have ne_b40_b46 : b40 ≠ b46 := Nat.ne_of_lt (Nat.lt_of_lt_of_eq E_b40.lt g_b46.symm)
      have ne_v145_b46 : v145 ≠ b46 := Nat.ne_of_lt (Nat.lt_of_lt_of_eq E_v145.lt g_b46.symm)
      have ne_v157_b46 : v157 ≠ b46 := Nat.ne_of_lt (Nat.lt_of_lt_of_eq E_v157.lt g_b46.symm)
      have ne_v169_b46 : v169 ≠ b46 := Nat.ne_of_lt (Nat.lt_of_lt_of_eq E_v169.lt g_b46.symm)
      have ne_v181_b46 : v181 ≠ b46 := Nat.ne_of_lt (Nat.lt_of_lt_of_eq E_v181.lt g_b46.symm)
      replace V_b1 := V_b1.ext Xh46
      replace E_b4 := E_b4.ext Xh46
      replace E_b6 := E_b6.ext Xh46
      replace E_v69 := E_v69.ext Xh46
      replace M_b6 := M_b6.ext Xh46
      replace L_b6 := L_b6.ext Xh46
      replace Z_b6 := Z_b6.ext Xh46
      replace V_d72 := V_d72.ext Xh46
      replace E_d72 := E_d72.ext Xh46
      replace E_b40 := E_b40.ext Xh46
      replace E_v145 := E_v145.ext Xh46
      replace E_v157 := E_v157.ext Xh46
      replace E_v169 := E_v169.ext Xh46
      replace E_v181 := E_v181.ext Xh46
      have F_role_b46 : Fld Z h46 b46 "com/example/rootward/rootward/policy/Binding" "role" "Ljava/lang/String;" .null := D_b46 (Or.inr (hw _ (List.mem_of_getElem? (i := 115) rfl))) (ty := (.object "java/lang/String")) (by decide)
      have F_members_b46 : Fld Z h46 b46 "com/example/rootward/rootward/policy/Binding" "members" "Ljava/util/List;" .null := D_b46 (Or.inr (hw _ (List.mem_of_getElem? (i := 204) rfl))) (ty := (.object "java/util/List")) (by decide)
      have F_condition_b46 : Fld Z h46 b46 "com/example/rootward/rootward/policy/Binding" "condition" "Lcom/example/rootward/rootward/policy/Condition;" .null := D_b46 (Or.inr (hw _ (List.mem_of_getElem? (i := 206) rfl))) (ty := (.object "com/example/rootward/rootward/policy/Condition")) (by decide)
      clear D_b46
      refine Wp.dup at_192 (pc' := 193) rfl rfl ?_
      refine Wp.aload at_193 (pc' := 195) rfl rfl rfl ?_
      refine Wp.aload at_195 (pc' := 197) rfl rfl rfl ?_
      refine Wp.aload at_197 (pc' := 199) rfl rfl rfl ?_
      refine Wp.old fun hOc => ?_
      refine Wp.callI (a := b46) (W := 1) (argsL := [(.ref b4), (.ref b6), (.ref b40)]) (rest := [(.ref b46)]) rfl (ctBI_1r l Z a0 hw hE b46 b4 b40 b6 d72 mr k_d72 v69 em h46 hOc (Nat.le_trans hO.1 sz_b46) E_b46 E_b4 F_role_b46 F_members_b46 F_condition_b46 ne_b6_b46 ne_d72_b46 E_b6 L_b6 Z_b6 hM E_d72 V_d72 E_v69 hem) rfl rfl (hw _ (List.mem_of_getElem? (i := 102) rfl)) (hw _ (List.mem_of_getElem? (i := 103) rfl)) (hw _ (List.mem_of_getElem? (i := 104) rfl)) (hw _ (List.mem_of_getElem? (i := 101) rfl)) (by decide) (lenOf pd__Ljava_lang_String_Ljava_util_Collection_Lcom_example_rootward_rootward_policy_Condition__V rfl) at_199 rfl rfl rfl (Nat.le_of_eq rfl) (pc' := 202) rfl nofun (by intro x hx; simp only [List.mem_cons, List.not_mem_nil, or_false] at hx; rcases hx with rfl; exact (Or.inr sz_b46)) (by decide) (by decide) (k' := 33) (n' := 239) rfl rfl (by decide) (by decide) (fun vh47 h47 zh47 Kh47 qh47 => ?_)
      obtain ⟨rfl, C_b46⟩ := qh47
      replace V_b1 := V_b1.keep Kh47 (ninS ne_b1_b46 nin0)
      replace E_b4 := E_b4.keep Kh47
      replace E_b6 := E_b6.keep Kh47
      replace E_v69 := E_v69.keep Kh47
      replace M_b6 := M_b6.keep Kh47 (ninS ne_b6_b46 nin0)
      replace L_b6 := L_b6.keep Kh47 (ninS ne_b6_b46 nin0)
      replace Z_b6 := Z_b6.keep Kh47 (ninS ne_b6_b46 nin0)
      replace V_d72 := V_d72.keep Kh47 (ninS ne_d72_b46 nin0)
      replace E_d72 := E_d72.keep Kh47
      replace E_b40 := E_b40.keep Kh47
      replace E_v145 := E_v145.keep Kh47
      replace E_v157 := E_v157.keep Kh47
      replace E_v169 := E_v169.keep Kh47
      replace E_v181 := E_v181.keep Kh47
      replace E_b46 := E_b46.keep Kh47
      refine Wp.eqS (S' := [(.ref b46)]) rfl ?_
      refine Wp.astore (l' := #[.val (.int p0), .val (.int p1), .val (.int p2), .val (.int p3), .val (.ref b1), .val (.ref b4), .val (.ref b6), .val (.int (1 : Int32)), .val (.int (1 : Int32)), .val (.ref b40), .val (.ref b46)]) at_202 (pc' := 204) rfl rfl rfl ?_
      refine Wp.aload at_204 (pc' := 206) rfl rfl rfl ?_
      refine Wp.old fun hOc => ?_
      refine Wp.callV (a := b46) (x' := (⟨"com/example/rootward/rootward/policy/Binding", "isConditional", "()Z"⟩ : MethodName)) (W := 0) (argsL := []) (rest := []) rfl (ctICr l Z a0 hw hE b46 b40 h47 hOc C_b46) (hw _ (List.mem_of_getElem? (i := 207) rfl)) (hw _ (List.mem_of_getElem? (i := 208) rfl)) (hw _ (List.mem_of_getElem? (i := 210) rfl)) (hw _ (List.mem_of_getElem? (i := 209) rfl)) (hw _ (List.mem_of_getElem? (i := 211) rfl)) (hw _ (List.mem_of_getElem? (i := 101) rfl)) (fun s hZ => nf_sel rfl (hw _ (List.mem_of_getElem? (i := 210) rfl)) s hZ rfl) E_b46 (by decide) (lenOf pd___Z rfl) at_206 rfl rfl rfl (Nat.le_of_eq rfl) (pc' := 209) rfl nofun nofun (by decide) (by decide) (k' := 33) (n' := 239) rfl rfl (by decide) (by decide) (fun vh48 h48 zh48 Kh48 qh48 => ?_)
      obtain rfl := qh48
      replace V_b1 := V_b1.keep Kh48 nin0
      replace E_b4 := E_b4.keep Kh48
      replace E_b6 := E_b6.keep Kh48
      replace E_v69 := E_v69.keep Kh48
      replace M_b6 := M_b6.keep Kh48 nin0
      replace L_b6 := L_b6.keep Kh48 nin0
      replace Z_b6 := Z_b6.keep Kh48 nin0
      replace V_d72 := V_d72.keep Kh48 nin0
      replace E_d72 := E_d72.keep Kh48
      replace E_b40 := E_b40.keep Kh48
      replace E_v145 := E_v145.keep Kh48
      replace E_v157 := E_v157.keep Kh48
      replace E_v169 := E_v169.keep Kh48
      replace E_v181 := E_v181.keep Kh48
      replace E_b46 := E_b46.keep Kh48
      replace C_b46 := C_b46.keep Kh48 nin0
      refine Wp.eqS (S' := [(.int (1 : Int32))]) rfl ?_
      refine Wp.iload at_209 (pc' := 211) rfl rfl ?_
      refine Wp.icmp_ne (pc1 := 218) (pc' := 214) at_211 (by decide) (by decide) rfl (fun hc49 => by exact absurd hc49 (by decide)) (fun hc49 => ?_)
      refine Wp.iconst (x := (1 : Int32)) at_214 (pc' := 215) rfl rfl ?_
      refine Wp.goto (pc' := 219) at_215 (by decide) (by decide) ?_
      refine Wp.retN (x' := (1 : Int32)) (t := .boolean) rfl (by simp) rfl at_219 (by decide) (by decide) ?_
      rfl
  · rw [hl]
    refine Wp.istore (l' := #[.val (.int p0), .val (.int p1), .val (.int p2), .val (.int p3), .val (.ref b1), .val (.ref b4), .val (.ref b6), .val (.int (2 : Int32)), .unset, .unset, .unset]) at_51 (pc' := 53) rfl rfl ?_
    refine Wp.iload at_53 (pc' := 55) rfl rfl ?_
    refine Wp.iconst (x := (1 : Int32)) at_55 (pc' := 56) rfl rfl ?_
    refine Wp.icmp_lt (pc1 := 76) (pc' := 59) at_56 (by decide) (by decide) rfl (fun hc50 => by exact absurd hc50 (by decide)) (fun hc50 => ?_)
    refine Wp.aload at_59 (pc' := 61) rfl rfl rfl ?_
    refine Wp.iloadN at_61 (pc' := 62) rfl rfl ?_
    refine Wp.iconst (x := (2 : Int32)) at_62 (pc' := 63) rfl rfl ?_
    refine Wp.iushr at_63 (pc' := 64) rfl ?_
    refine Wp.sipush (x := (255 : Int32)) at_64 (pc' := 67) rfl rfl ?_
    refine Wp.iand at_67 (pc' := 68) rfl ?_
    refine Wp.i2c at_68 (pc' := 69) rfl ?_
    rw [i2c_mask]
    refine Wp.old fun hOc => ?_
    refine Wp.callS (W := 1) (argsL := [(.int (((p1.toUInt32 >>> ((2 : Int32) &&& 31).toUInt32).toInt32) &&& (255 : Int32)))]) (rest := [(.ref b6)]) rfl (ctVOF l Z a0 hw hE (((p1.toUInt32 >>> ((2 : Int32) &&& 31).toUInt32).toInt32) &&& (255 : Int32)) cz h7 hOc (own_255 _).1 hco hcz) (hw _ (List.mem_of_getElem? (i := 54) rfl)) (hw _ (List.mem_of_getElem? (i := 55) rfl)) (hw _ (List.mem_of_getElem? (i := 56) rfl)) (hw _ (List.mem_of_getElem? (i := 3) rfl)) (by decide) (lenOf pd__C_Ljava_lang_String_ rfl) at_69 rfl rfl rfl (Nat.le_of_eq rfl) (pc' := 72) rfl nofun nofun (by decide) (by decide) (k' := 9) (n' := 22) rfl rfl (by decide) (by decide) (fun vh51 h51 zh51 Kh51 qh51 => ?_)
    obtain ⟨v69, rfl, sb_v69, T_v69⟩ := qh51
    have E_v69 := T_v69.1
    clear T_v69
    have ne_b1_v69 : b1 ≠ v69 := Nat.ne_of_lt (Nat.lt_of_lt_of_le V_b1.lt sb_v69)
    have ne_b4_v69 : b4 ≠ v69 := Nat.ne_of_lt (Nat.lt_of_lt_of_le E_b4.lt sb_v69)
    have ne_b6_v69 : b6 ≠ v69 := Nat.ne_of_lt (Nat.lt_of_lt_of_le E_b6.lt sb_v69)
    replace V_b1 := V_b1.keep Kh51 nin0
    replace E_b4 := E_b4.keep Kh51
    replace E_b6 := E_b6.keep Kh51
    replace M_b6 := M_b6.keep Kh51 nin0
    replace L_b6 := L_b6.keep Kh51 nin0
    replace Z_b6 := Z_b6.keep Kh51 nin0
    refine Wp.eqS (S' := [(.ref v69), (.ref b6)]) rfl ?_
    have sz_v69 : h0.size ≤ v69 := Nat.le_trans zh51 sb_v69
    refine Wp.old fun hOc => ?_
    refine Wp.callV (a := b6) (x' := (⟨"java/util/ArrayList", "add", "(Ljava/lang/Object;)Z"⟩ : MethodName)) (W := 0) (argsL := [(.ref v69)]) (rest := []) rfl (ctA1_0 l Z a0 hw hE b6 v69 de kde 0 h51 hOc (V_de.ext hOc) (Nat.le_trans hO.1 sz_b6) E_b6 M_b6 L_b6 Z_b6 hde (Nat.ne_of_lt (Nat.lt_of_lt_of_le V_de.lt (Nat.le_trans hO.1 sz_b6))) E_v69) (hw _ (List.mem_of_getElem? (i := 68) rfl)) (hw _ (List.mem_of_getElem? (i := 69) rfl)) (hw _ (List.mem_of_getElem? (i := 71) rfl)) (hw _ (List.mem_of_getElem? (i := 70) rfl)) (hw _ (List.mem_of_getElem? (i := 72) rfl)) (hw _ (List.mem_of_getElem? (i := 32) rfl)) (fun s hZ => nf_sel rfl (hw _ (List.mem_of_getElem? (i := 71) rfl)) s hZ rfl) E_b6 (by decide) (lenOf pd__Ljava_lang_Object__Z rfl) at_72 rfl rfl rfl (Nat.le_of_eq rfl) (pc' := 75) rfl nofun (by intro x hx; simp only [List.mem_cons, List.not_mem_nil, or_false] at hx; rcases hx with rfl; exact (Or.inr sz_b6)) (by decide) (by decide) (k' := 10) (n' := 32) rfl rfl (by decide) (by decide) (fun vh52 h52 zh52 Kh52 qh52 => ?_)
    obtain ⟨rfl, d72, k_d72, sb_d72, O_d72, ⟨mc_d72, M_b6⟩, L_b6, Z_b6, V_d72, E_d72⟩ := qh52
    have ne_b1_d72 : b1 ≠ d72 := Nat.ne_of_lt (Nat.lt_of_lt_of_le V_b1.lt sb_d72)
    have ne_b4_d72 : b4 ≠ d72 := Nat.ne_of_lt (Nat.lt_of_lt_of_le E_b4.lt sb_d72)
    have ne_b6_d72 : b6 ≠ d72 := Nat.ne_of_lt (Nat.lt_of_lt_of_le E_b6.lt sb_d72)
    have ne_v69_d72 : v69 ≠ d72 := Nat.ne_of_lt (Nat.lt_of_lt_of_le E_v69.lt sb_d72)
    replace V_b1 := V_b1.keep Kh52 (ninS ne_b1_b6 nin0)
    replace E_b4 := E_b4.keep Kh52
    replace E_b6 := E_b6.keep Kh52
    replace E_v69 := E_v69.keep Kh52
    refine Wp.eqS (S' := [(.int (1 : Int32))]) rfl ?_
    have sz_d72 : h0.size ≤ d72 := Nat.le_trans zh52 sb_d72
    refine Wp.pop at_75 (pc' := 76) rfl rfl ?_
    refine Wp.iload at_76 (pc' := 78) rfl rfl ?_
    refine Wp.iconst (x := (2 : Int32)) at_78 (pc' := 79) rfl rfl ?_
    refine Wp.icmp_lt (pc1 := 100) (pc' := 82) at_79 (by decide) (by decide) rfl (fun hc53 => by exact absurd hc53 (by decide)) (fun hc53 => ?_)
    refine Wp.aload at_82 (pc' := 84) rfl rfl rfl ?_
    refine Wp.iloadN at_84 (pc' := 85) rfl rfl ?_
    refine Wp.bipush (x := (10 : Int32)) at_85 (pc' := 87) rfl rfl ?_
    refine Wp.iushr at_87 (pc' := 88) rfl ?_
    refine Wp.sipush (x := (255 : Int32)) at_88 (pc' := 91) rfl rfl ?_
    refine Wp.iand at_91 (pc' := 92) rfl ?_
    refine Wp.i2c at_92 (pc' := 93) rfl ?_
    rw [i2c_mask]
    refine Wp.old fun hOc => ?_
    refine Wp.callS (W := 1) (argsL := [(.int (((p1.toUInt32 >>> ((10 : Int32) &&& 31).toUInt32).toInt32) &&& (255 : Int32)))]) (rest := [(.ref b6)]) rfl (ctVOF l Z a0 hw hE (((p1.toUInt32 >>> ((10 : Int32) &&& 31).toUInt32).toInt32) &&& (255 : Int32)) cz h52 hOc (own_255 _).1 hco hcz) (hw _ (List.mem_of_getElem? (i := 54) rfl)) (hw _ (List.mem_of_getElem? (i := 55) rfl)) (hw _ (List.mem_of_getElem? (i := 56) rfl)) (hw _ (List.mem_of_getElem? (i := 3) rfl)) (by decide) (lenOf pd__C_Ljava_lang_String_ rfl) at_93 rfl rfl rfl (Nat.le_of_eq rfl) (pc' := 96) rfl nofun nofun (by decide) (by decide) (k' := 12) (n' := 37) rfl rfl (by decide) (by decide) (fun vh54 h54 zh54 Kh54 qh54 => ?_)
    obtain ⟨v93, rfl, sb_v93, T_v93⟩ := qh54
    have E_v93 := T_v93.1
    clear T_v93
    have ne_b1_v93 : b1 ≠ v93 := Nat.ne_of_lt (Nat.lt_of_lt_of_le V_b1.lt sb_v93)
    have ne_b4_v93 : b4 ≠ v93 := Nat.ne_of_lt (Nat.lt_of_lt_of_le E_b4.lt sb_v93)
    have ne_b6_v93 : b6 ≠ v93 := Nat.ne_of_lt (Nat.lt_of_lt_of_le E_b6.lt sb_v93)
    have ne_v69_v93 : v69 ≠ v93 := Nat.ne_of_lt (Nat.lt_of_lt_of_le E_v69.lt sb_v93)
    have ne_d72_v93 : d72 ≠ v93 := Nat.ne_of_lt (Nat.lt_of_lt_of_le V_d72.lt sb_v93)
    replace V_b1 := V_b1.keep Kh54 nin0
    replace E_b4 := E_b4.keep Kh54
    replace E_b6 := E_b6.keep Kh54
    replace E_v69 := E_v69.keep Kh54
    replace M_b6 := M_b6.keep Kh54 nin0
    replace L_b6 := L_b6.keep Kh54 nin0
    replace Z_b6 := Z_b6.keep Kh54 nin0
    replace V_d72 := V_d72.keep Kh54 nin0
    replace E_d72 := E_d72.keep Kh54
    refine Wp.eqS (S' := [(.ref v93), (.ref b6)]) rfl ?_
    have sz_v93 : h0.size ≤ v93 := Nat.le_trans zh54 sb_v93
    refine Wp.old fun hOc => ?_
    refine Wp.callV (a := b6) (x' := (⟨"java/util/ArrayList", "add", "(Ljava/lang/Object;)Z"⟩ : MethodName)) (W := 0) (argsL := [(.ref v93)]) (rest := []) rfl (ctA1_1 l Z a0 hw hE b6 v93 d72 k_d72 _ v69 h54 hOc (Nat.le_trans hO.1 sz_b6) (Nat.le_trans hO.1 sz_d72) E_b6 E_d72 O_d72 V_d72 M_b6 L_b6 Z_b6 ne_b6_d72 E_v93) (hw _ (List.mem_of_getElem? (i := 68) rfl)) (hw _ (List.mem_of_getElem? (i := 69) rfl)) (hw _ (List.mem_of_getElem? (i := 71) rfl)) (hw _ (List.mem_of_getElem? (i := 70) rfl)) (hw _ (List.mem_of_getElem? (i := 72) rfl)) (hw _ (List.mem_of_getElem? (i := 32) rfl)) (fun s hZ => nf_sel rfl (hw _ (List.mem_of_getElem? (i := 71) rfl)) s hZ rfl) E_b6 (by decide) (lenOf pd__Ljava_lang_Object__Z rfl) at_96 rfl rfl rfl (Nat.le_of_eq rfl) (pc' := 99) rfl nofun (by intro x hx; simp only [List.mem_cons, List.not_mem_nil, or_false] at hx; rcases hx with rfl | rfl <;> first | exact (Or.inr sz_b6) | exact (Or.inr sz_d72)) (by decide) (by decide) (k' := 12) (n' := 37) rfl rfl (by decide) (by decide) (fun vh55 h55 zh55 Kh55 qh55 => ?_)
    obtain ⟨rfl, ⟨mc_d721, M_b6⟩, L_b6, Z_b6, V_d72, -⟩ := qh55
    replace V_b1 := V_b1.keep Kh55 (ninS ne_b1_b6 (ninS ne_b1_d72 nin0))
    replace E_b4 := E_b4.keep Kh55
    replace E_b6 := E_b6.keep Kh55
    replace E_v69 := E_v69.keep Kh55
    replace E_d72 := E_d72.keep Kh55
    replace E_v93 := E_v93.keep Kh55
    refine Wp.eqS (S' := [(.int (1 : Int32))]) rfl ?_
    refine Wp.pop at_99 (pc' := 100) rfl rfl ?_
    refine Wp.iload at_100 (pc' := 102) rfl rfl ?_
    refine Wp.iconst (x := (3 : Int32)) at_102 (pc' := 103) rfl rfl ?_
    refine Wp.icmp_lt (pc1 := 114) (pc' := 106) at_103 (by decide) (by decide) rfl (fun hc56 => ?_) (fun hc56 => by exact absurd hc56 (by decide))
    refine Wp.iloadN at_114 (pc' := 115) rfl rfl ?_
    refine Wp.iconst (x := (1 : Int32)) at_115 (pc' := 116) rfl rfl ?_
    refine Wp.iand at_116 (pc' := 117) rfl ?_
    refine Wp.if_eq (pc1 := 124) (pc' := 120) at_117 (by decide) (by decide) rfl (fun hc57 => ?_) (fun hc57 => ?_)
    · have hc57 : (p2 &&& (1 : Int32)) = (0 : Int32) := hc57
      refine Wp.iconst (x := (0 : Int32)) at_124 (pc' := 125) rfl rfl ?_
      refine Wp.istore (l' := #[.val (.int p0), .val (.int p1), .val (.int p2), .val (.int p3), .val (.ref b1), .val (.ref b4), .val (.ref b6), .val (.int (2 : Int32)), .val (.int (0 : Int32)), .unset, .unset]) at_125 (pc' := 127) rfl rfl ?_
      refine Wp.aconstNull at_127 (pc' := 128) rfl ?_
      refine Wp.astore (l' := #[.val (.int p0), .val (.int p1), .val (.int p2), .val (.int p3), .val (.ref b1), .val (.ref b4), .val (.ref b6), .val (.int (2 : Int32)), .val (.int (0 : Int32)), .val .null, .unset]) at_128 (pc' := 130) rfl rfl rfl ?_
      refine Wp.iload at_130 (pc' := 132) rfl rfl ?_
      refine Wp.if_eq (pc1 := 189) (pc' := 135) at_132 (by decide) (by decide) rfl (fun hc58 => ?_) (fun hc58 => by exact absurd hc58 (by decide))
      refine Wp.new rfl (hw _ (List.mem_of_getElem? (i := 99) rfl)) (hw _ (List.mem_of_getElem? (i := 100) rfl)) (hw _ (List.mem_of_getElem? (i := 101) rfl)) at_189 (pc' := 192) rfl (k' := 13) (n' := 40) rfl rfl (by decide) (by decide) (fun h59 b59 g_b59 sz_b59 Xh59 E_b59 D_b59 => ?_)
      have ne_b1_b59 : b1 ≠ b59 := Nat.ne_of_lt (Nat.lt_of_lt_of_eq V_b1.lt g_b59.symm)
      have ne_b4_b59 : b4 ≠ b59 := Nat.ne_of_lt (Nat.lt_of_lt_of_eq E_b4.lt g_b59.symm)
      have ne_b6_b59 : b6 ≠ b59 := Nat.ne_of_lt (Nat.lt_of_lt_of_eq E_b6.lt g_b59.symm)
      have ne_v69_b59 : v69 ≠ b59 := Nat.ne_of_lt (Nat.lt_of_lt_of_eq E_v69.lt g_b59.symm)
      have ne_d72_b59 : d72 ≠ b59 := Nat.ne_of_lt (Nat.lt_of_lt_of_eq E_d72.lt g_b59.symm)
      have ne_v93_b59 : v93 ≠ b59 := Nat.ne_of_lt (Nat.lt_of_lt_of_eq E_v93.lt g_b59.symm)
      replace V_b1 := V_b1.ext Xh59
      replace E_b4 := E_b4.ext Xh59
      replace E_b6 := E_b6.ext Xh59
      replace E_v69 := E_v69.ext Xh59
      replace E_d72 := E_d72.ext Xh59
      replace E_v93 := E_v93.ext Xh59
      replace M_b6 := M_b6.ext Xh59
      replace L_b6 := L_b6.ext Xh59
      replace Z_b6 := Z_b6.ext Xh59
      replace V_d72 := V_d72.ext Xh59
      have F_role_b59 : Fld Z h59 b59 "com/example/rootward/rootward/policy/Binding" "role" "Ljava/lang/String;" .null := D_b59 (Or.inr (hw _ (List.mem_of_getElem? (i := 115) rfl))) (ty := (.object "java/lang/String")) (by decide)
      have F_members_b59 : Fld Z h59 b59 "com/example/rootward/rootward/policy/Binding" "members" "Ljava/util/List;" .null := D_b59 (Or.inr (hw _ (List.mem_of_getElem? (i := 204) rfl))) (ty := (.object "java/util/List")) (by decide)
      have F_condition_b59 : Fld Z h59 b59 "com/example/rootward/rootward/policy/Binding" "condition" "Lcom/example/rootward/rootward/policy/Condition;" .null := D_b59 (Or.inr (hw _ (List.mem_of_getElem? (i := 206) rfl))) (ty := (.object "com/example/rootward/rootward/policy/Condition")) (by decide)
      clear D_b59
      refine Wp.dup at_192 (pc' := 193) rfl rfl ?_
      refine Wp.aload at_193 (pc' := 195) rfl rfl rfl ?_
      refine Wp.aload at_195 (pc' := 197) rfl rfl rfl ?_
      refine Wp.aload at_197 (pc' := 199) rfl rfl rfl ?_
      refine Wp.old fun hOc => ?_
      refine Wp.callI (a := b59) (W := 1) (argsL := [(.ref b4), (.ref b6), .null]) (rest := [(.ref b59)]) rfl (ctBI_2n l Z a0 hw hE b59 b4 b6 d72 mr k_d72 v69 v93 em h59 hOc (Nat.le_trans hO.1 sz_b59) E_b59 E_b4 F_role_b59 F_members_b59 F_condition_b59 ne_b6_b59 ne_d72_b59 E_b6 L_b6 Z_b6 hM E_d72 V_d72 E_v69 E_v93 hem) rfl rfl (hw _ (List.mem_of_getElem? (i := 102) rfl)) (hw _ (List.mem_of_getElem? (i := 103) rfl)) (hw _ (List.mem_of_getElem? (i := 104) rfl)) (hw _ (List.mem_of_getElem? (i := 101) rfl)) (by decide) (lenOf pd__Ljava_lang_String_Ljava_util_Collection_Lcom_example_rootward_rootward_policy_Condition__V rfl) at_199 rfl rfl rfl (Nat.le_of_eq rfl) (pc' := 202) rfl nofun (by intro x hx; simp only [List.mem_cons, List.not_mem_nil, or_false] at hx; rcases hx with rfl; exact (Or.inr sz_b59)) (by decide) (by decide) (k' := 18) (n' := 68) rfl rfl (by decide) (by decide) (fun vh60 h60 zh60 Kh60 qh60 => ?_)
      obtain ⟨rfl, C_b59⟩ := qh60
      replace V_b1 := V_b1.keep Kh60 (ninS ne_b1_b59 nin0)
      replace E_b4 := E_b4.keep Kh60
      replace E_b6 := E_b6.keep Kh60
      replace E_v69 := E_v69.keep Kh60
      replace E_d72 := E_d72.keep Kh60
      replace E_v93 := E_v93.keep Kh60
      replace M_b6 := M_b6.keep Kh60 (ninS ne_b6_b59 nin0)
      replace L_b6 := L_b6.keep Kh60 (ninS ne_b6_b59 nin0)
      replace Z_b6 := Z_b6.keep Kh60 (ninS ne_b6_b59 nin0)
      replace V_d72 := V_d72.keep Kh60 (ninS ne_d72_b59 nin0)
      replace E_b59 := E_b59.keep Kh60
      refine Wp.eqS (S' := [(.ref b59)]) rfl ?_
      refine Wp.astore (l' := #[.val (.int p0), .val (.int p1), .val (.int p2), .val (.int p3), .val (.ref b1), .val (.ref b4), .val (.ref b6), .val (.int (2 : Int32)), .val (.int (0 : Int32)), .val .null, .val (.ref b59)]) at_202 (pc' := 204) rfl rfl rfl ?_
      refine Wp.aload at_204 (pc' := 206) rfl rfl rfl ?_
      refine Wp.old fun hOc => ?_
      refine Wp.callV (a := b59) (x' := (⟨"com/example/rootward/rootward/policy/Binding", "isConditional", "()Z"⟩ : MethodName)) (W := 0) (argsL := []) (rest := []) rfl (ctICn l Z a0 hw hE b59 h60 hOc C_b59) (hw _ (List.mem_of_getElem? (i := 207) rfl)) (hw _ (List.mem_of_getElem? (i := 208) rfl)) (hw _ (List.mem_of_getElem? (i := 210) rfl)) (hw _ (List.mem_of_getElem? (i := 209) rfl)) (hw _ (List.mem_of_getElem? (i := 211) rfl)) (hw _ (List.mem_of_getElem? (i := 101) rfl)) (fun s hZ => nf_sel rfl (hw _ (List.mem_of_getElem? (i := 210) rfl)) s hZ rfl) E_b59 (by decide) (lenOf pd___Z rfl) at_206 rfl rfl rfl (Nat.le_of_eq rfl) (pc' := 209) rfl nofun nofun (by decide) (by decide) (k' := 18) (n' := 68) rfl rfl (by decide) (by decide) (fun vh61 h61 zh61 Kh61 qh61 => ?_)
      obtain rfl := qh61
      replace V_b1 := V_b1.keep Kh61 nin0
      replace E_b4 := E_b4.keep Kh61
      replace E_b6 := E_b6.keep Kh61
      replace E_v69 := E_v69.keep Kh61
      replace E_d72 := E_d72.keep Kh61
      replace E_v93 := E_v93.keep Kh61
      replace M_b6 := M_b6.keep Kh61 nin0
      replace L_b6 := L_b6.keep Kh61 nin0
      replace Z_b6 := Z_b6.keep Kh61 nin0
      replace V_d72 := V_d72.keep Kh61 nin0
      replace E_b59 := E_b59.keep Kh61
      replace C_b59 := C_b59.keep Kh61 nin0
      refine Wp.eqS (S' := [(.int (0 : Int32))]) rfl ?_
      refine Wp.iload at_209 (pc' := 211) rfl rfl ?_
      refine Wp.icmp_ne (pc1 := 218) (pc' := 214) at_211 (by decide) (by decide) rfl (fun hc62 => by exact absurd hc62 (by decide)) (fun hc62 => ?_)
      refine Wp.iconst (x := (1 : Int32)) at_214 (pc' := 215) rfl rfl ?_
      refine Wp.goto (pc' := 219) at_215 (by decide) (by decide) ?_
      refine Wp.retN (x' := (1 : Int32)) (t := .boolean) rfl (by simp) rfl at_219 (by decide) (by decide) ?_
      rfl
    · have hc57 : ¬ ((p2 &&& (1 : Int32)) = (0 : Int32)) := hc57
      refine Wp.iconst (x := (1 : Int32)) at_120 (pc' := 121) rfl rfl ?_
      refine Wp.goto (pc' := 125) at_121 (by decide) (by decide) ?_
      refine Wp.istore (l' := #[.val (.int p0), .val (.int p1), .val (.int p2), .val (.int p3), .val (.ref b1), .val (.ref b4), .val (.ref b6), .val (.int (2 : Int32)), .val (.int (1 : Int32)), .unset, .unset]) at_125 (pc' := 127) rfl rfl ?_
      refine Wp.aconstNull at_127 (pc' := 128) rfl ?_
      refine Wp.astore (l' := #[.val (.int p0), .val (.int p1), .val (.int p2), .val (.int p3), .val (.ref b1), .val (.ref b4), .val (.ref b6), .val (.int (2 : Int32)), .val (.int (1 : Int32)), .val .null, .unset]) at_128 (pc' := 130) rfl rfl rfl ?_
      refine Wp.iload at_130 (pc' := 132) rfl rfl ?_
      refine Wp.if_eq (pc1 := 189) (pc' := 135) at_132 (by decide) (by decide) rfl (fun hc63 => by exact absurd hc63 (by decide)) (fun hc63 => ?_)
      refine Wp.new rfl (hw _ (List.mem_of_getElem? (i := 212) rfl)) (hw _ (List.mem_of_getElem? (i := 213) rfl)) (hw _ (List.mem_of_getElem? (i := 214) rfl)) at_135 (pc' := 138) rfl (k' := 13) (n' := 41) rfl rfl (by decide) (by decide) (fun h64 b64 g_b64 sz_b64 Xh64 E_b64 D_b64 => ?_)
      have ne_b1_b64 : b1 ≠ b64 := Nat.ne_of_lt (Nat.lt_of_lt_of_eq V_b1.lt g_b64.symm)
      have ne_b4_b64 : b4 ≠ b64 := Nat.ne_of_lt (Nat.lt_of_lt_of_eq E_b4.lt g_b64.symm)
      have ne_b6_b64 : b6 ≠ b64 := Nat.ne_of_lt (Nat.lt_of_lt_of_eq E_b6.lt g_b64.symm)
      have ne_v69_b64 : v69 ≠ b64 := Nat.ne_of_lt (Nat.lt_of_lt_of_eq E_v69.lt g_b64.symm)
      have ne_d72_b64 : d72 ≠ b64 := Nat.ne_of_lt (Nat.lt_of_lt_of_eq E_d72.lt g_b64.symm)
      have ne_v93_b64 : v93 ≠ b64 := Nat.ne_of_lt (Nat.lt_of_lt_of_eq E_v93.lt g_b64.symm)
      replace V_b1 := V_b1.ext Xh64
      replace E_b4 := E_b4.ext Xh64
      replace E_b6 := E_b6.ext Xh64
      replace E_v69 := E_v69.ext Xh64
      replace E_d72 := E_d72.ext Xh64
      replace E_v93 := E_v93.ext Xh64
      replace M_b6 := M_b6.ext Xh64
      replace L_b6 := L_b6.ext Xh64
      replace Z_b6 := Z_b6.ext Xh64
      replace V_d72 := V_d72.ext Xh64
      have F_expression_b64 : Fld Z h64 b64 "com/example/rootward/rootward/policy/Condition" "expression" "Ljava/lang/String;" .null := D_b64 (Or.inr (hw _ (List.mem_of_getElem? (i := 223) rfl))) (ty := (.object "java/lang/String")) (by decide)
      have F_title_b64 : Fld Z h64 b64 "com/example/rootward/rootward/policy/Condition" "title" "Ljava/lang/String;" .null := D_b64 (Or.inr (hw _ (List.mem_of_getElem? (i := 226) rfl))) (ty := (.object "java/lang/String")) (by decide)
      have F_description_b64 : Fld Z h64 b64 "com/example/rootward/rootward/policy/Condition" "description" "Ljava/lang/String;" .null := D_b64 (Or.inr (hw _ (List.mem_of_getElem? (i := 229) rfl))) (ty := (.object "java/lang/String")) (by decide)
      have F_location_b64 : Fld Z h64 b64 "com/example/rootward/rootward/policy/Condition" "location" "Ljava/lang/String;" .null := D_b64 (Or.inr (hw _ (List.mem_of_getElem? (i := 232) rfl))) (ty := (.object "java/lang/String")) (by decide)
      clear D_b64
      refine Wp.dup at_138 (pc' := 139) rfl rfl ?_
      refine Wp.iloadN at_139 (pc' := 140) rfl rfl ?_
      refine Wp.sipush (x := (255 : Int32)) at_140 (pc' := 143) rfl rfl ?_
      refine Wp.iand at_143 (pc' := 144) rfl ?_
      refine Wp.i2c at_144 (pc' := 145) rfl ?_
      rw [i2c_mask]
      refine Wp.old fun hOc => ?_
      refine Wp.callS (W := 2) (argsL := [(.int (p3 &&& (255 : Int32)))]) (rest := [(.ref b64), (.ref b64)]) rfl (ctVOF l Z a0 hw hE (p3 &&& (255 : Int32)) cz h64 hOc (own_255 _).1 hco hcz) (hw _ (List.mem_of_getElem? (i := 54) rfl)) (hw _ (List.mem_of_getElem? (i := 55) rfl)) (hw _ (List.mem_of_getElem? (i := 56) rfl)) (hw _ (List.mem_of_getElem? (i := 3) rfl)) (by decide) (lenOf pd__C_Ljava_lang_String_ rfl) at_145 rfl rfl rfl (Nat.le_of_eq rfl) (pc' := 148) rfl nofun nofun (by decide) (by decide) (k' := 15) (n' := 46) rfl rfl (by decide) (by decide) (fun vh65 h65 zh65 Kh65 qh65 => ?_)
      obtain ⟨v145, rfl, sb_v145, T_v145⟩ := qh65
      have E_v145 := T_v145.1
      clear T_v145
      have ne_b1_v145 : b1 ≠ v145 := Nat.ne_of_lt (Nat.lt_of_lt_of_le V_b1.lt sb_v145)
      have ne_b4_v145 : b4 ≠ v145 := Nat.ne_of_lt (Nat.lt_of_lt_of_le E_b4.lt sb_v145)
      have ne_b6_v145 : b6 ≠ v145 := Nat.ne_of_lt (Nat.lt_of_lt_of_le E_b6.lt sb_v145)
      have ne_v69_v145 : v69 ≠ v145 := Nat.ne_of_lt (Nat.lt_of_lt_of_le E_v69.lt sb_v145)
      have ne_d72_v145 : d72 ≠ v145 := Nat.ne_of_lt (Nat.lt_of_lt_of_le E_d72.lt sb_v145)
      have ne_v93_v145 : v93 ≠ v145 := Nat.ne_of_lt (Nat.lt_of_lt_of_le E_v93.lt sb_v145)
      have ne_b64_v145 : b64 ≠ v145 := Nat.ne_of_lt (Nat.lt_of_lt_of_le E_b64.lt sb_v145)
      replace V_b1 := V_b1.keep Kh65 nin0
      replace E_b4 := E_b4.keep Kh65
      replace E_b6 := E_b6.keep Kh65
      replace E_v69 := E_v69.keep Kh65
      replace E_d72 := E_d72.keep Kh65
      replace E_v93 := E_v93.keep Kh65
      replace M_b6 := M_b6.keep Kh65 nin0
      replace L_b6 := L_b6.keep Kh65 nin0
      replace Z_b6 := Z_b6.keep Kh65 nin0
      replace V_d72 := V_d72.keep Kh65 nin0
      replace E_b64 := E_b64.keep Kh65
      replace F_expression_b64 := F_expression_b64.keep Kh65 nin0
      replace F_title_b64 := F_title_b64.keep Kh65 nin0
      replace F_description_b64 := F_description_b64.keep Kh65 nin0
      replace F_location_b64 := F_location_b64.keep Kh65 nin0
      refine Wp.eqS (S' := [(.ref v145), (.ref b64), (.ref b64)]) rfl ?_
      have sz_v145 : h0.size ≤ v145 := Nat.le_trans zh65 sb_v145
      refine Wp.iloadN at_148 (pc' := 149) rfl rfl ?_
      refine Wp.bipush (x := (8 : Int32)) at_149 (pc' := 151) rfl rfl ?_
      refine Wp.iushr at_151 (pc' := 152) rfl ?_
      refine Wp.sipush (x := (255 : Int32)) at_152 (pc' := 155) rfl rfl ?_
      refine Wp.iand at_155 (pc' := 156) rfl ?_
      refine Wp.i2c at_156 (pc' := 157) rfl ?_
      rw [i2c_mask]
      refine Wp.old fun hOc => ?_
      refine Wp.callS (W := 3) (argsL := [(.int (((p3.toUInt32 >>> ((8 : Int32) &&& 31).toUInt32).toInt32) &&& (255 : Int32)))]) (rest := [(.ref v145), (.ref b64), (.ref b64)]) rfl (ctVOF l Z a0 hw hE (((p3.toUInt32 >>> ((8 : Int32) &&& 31).toUInt32).toInt32) &&& (255 : Int32)) cz h65 hOc (own_255 _).1 hco hcz) (hw _ (List.mem_of_getElem? (i := 54) rfl)) (hw _ (List.mem_of_getElem? (i := 55) rfl)) (hw _ (List.mem_of_getElem? (i := 56) rfl)) (hw _ (List.mem_of_getElem? (i := 3) rfl)) (by decide) (lenOf pd__C_Ljava_lang_String_ rfl) at_157 rfl rfl rfl (Nat.le_of_eq rfl) (pc' := 160) rfl nofun nofun (by decide) (by decide) (k' := 17) (n' := 51) rfl rfl (by decide) (by decide) (fun vh66 h66 zh66 Kh66 qh66 => ?_)
      obtain ⟨v157, rfl, sb_v157, T_v157⟩ := qh66
      have E_v157 := T_v157.1
      clear T_v157
      have ne_b1_v157 : b1 ≠ v157 := Nat.ne_of_lt (Nat.lt_of_lt_of_le V_b1.lt sb_v157)
      have ne_b4_v157 : b4 ≠ v157 := Nat.ne_of_lt (Nat.lt_of_lt_of_le E_b4.lt sb_v157)
      have ne_b6_v157 : b6 ≠ v157 := Nat.ne_of_lt (Nat.lt_of_lt_of_le E_b6.lt sb_v157)
      have ne_v69_v157 : v69 ≠ v157 := Nat.ne_of_lt (Nat.lt_of_lt_of_le E_v69.lt sb_v157)
      have ne_d72_v157 : d72 ≠ v157 := Nat.ne_of_lt (Nat.lt_of_lt_of_le E_d72.lt sb_v157)
      have ne_v93_v157 : v93 ≠ v157 := Nat.ne_of_lt (Nat.lt_of_lt_of_le E_v93.lt sb_v157)
      have ne_b64_v157 : b64 ≠ v157 := Nat.ne_of_lt (Nat.lt_of_lt_of_le E_b64.lt sb_v157)
      have ne_v145_v157 : v145 ≠ v157 := Nat.ne_of_lt (Nat.lt_of_lt_of_le E_v145.lt sb_v157)
      replace V_b1 := V_b1.keep Kh66 nin0
      replace E_b4 := E_b4.keep Kh66
      replace E_b6 := E_b6.keep Kh66
      replace E_v69 := E_v69.keep Kh66
      replace E_d72 := E_d72.keep Kh66
      replace E_v93 := E_v93.keep Kh66
      replace M_b6 := M_b6.keep Kh66 nin0
      replace L_b6 := L_b6.keep Kh66 nin0
      replace Z_b6 := Z_b6.keep Kh66 nin0
      replace V_d72 := V_d72.keep Kh66 nin0
      replace E_b64 := E_b64.keep Kh66
      replace F_expression_b64 := F_expression_b64.keep Kh66 nin0
      replace F_title_b64 := F_title_b64.keep Kh66 nin0
      replace F_description_b64 := F_description_b64.keep Kh66 nin0
      replace F_location_b64 := F_location_b64.keep Kh66 nin0
      replace E_v145 := E_v145.keep Kh66
      refine Wp.eqS (S' := [(.ref v157), (.ref v145), (.ref b64), (.ref b64)]) rfl ?_
      have sz_v157 : h0.size ≤ v157 := Nat.le_trans zh66 sb_v157
      refine Wp.iloadN at_160 (pc' := 161) rfl rfl ?_
      refine Wp.bipush (x := (16 : Int32)) at_161 (pc' := 163) rfl rfl ?_
      refine Wp.iushr at_163 (pc' := 164) rfl ?_
      refine Wp.sipush (x := (255 : Int32)) at_164 (pc' := 167) rfl rfl ?_
      refine Wp.iand at_167 (pc' := 168) rfl ?_
      refine Wp.i2c at_168 (pc' := 169) rfl ?_
      rw [i2c_mask]
      refine Wp.old fun hOc => ?_
      refine Wp.callS (W := 4) (argsL := [(.int (((p3.toUInt32 >>> ((16 : Int32) &&& 31).toUInt32).toInt32) &&& (255 : Int32)))]) (rest := [(.ref v157), (.ref v145), (.ref b64), (.ref b64)]) rfl (ctVOF l Z a0 hw hE (((p3.toUInt32 >>> ((16 : Int32) &&& 31).toUInt32).toInt32) &&& (255 : Int32)) cz h66 hOc (own_255 _).1 hco hcz) (hw _ (List.mem_of_getElem? (i := 54) rfl)) (hw _ (List.mem_of_getElem? (i := 55) rfl)) (hw _ (List.mem_of_getElem? (i := 56) rfl)) (hw _ (List.mem_of_getElem? (i := 3) rfl)) (by decide) (lenOf pd__C_Ljava_lang_String_ rfl) at_169 rfl rfl rfl (Nat.le_of_eq rfl) (pc' := 172) rfl nofun nofun (by decide) (by decide) (k' := 19) (n' := 56) rfl rfl (by decide) (by decide) (fun vh67 h67 zh67 Kh67 qh67 => ?_)
      obtain ⟨v169, rfl, sb_v169, T_v169⟩ := qh67
      have E_v169 := T_v169.1
      clear T_v169
      have ne_b1_v169 : b1 ≠ v169 := Nat.ne_of_lt (Nat.lt_of_lt_of_le V_b1.lt sb_v169)
      have ne_b4_v169 : b4 ≠ v169 := Nat.ne_of_lt (Nat.lt_of_lt_of_le E_b4.lt sb_v169)
      have ne_b6_v169 : b6 ≠ v169 := Nat.ne_of_lt (Nat.lt_of_lt_of_le E_b6.lt sb_v169)
      have ne_v69_v169 : v69 ≠ v169 := Nat.ne_of_lt (Nat.lt_of_lt_of_le E_v69.lt sb_v169)
      have ne_d72_v169 : d72 ≠ v169 := Nat.ne_of_lt (Nat.lt_of_lt_of_le E_d72.lt sb_v169)
      have ne_v93_v169 : v93 ≠ v169 := Nat.ne_of_lt (Nat.lt_of_lt_of_le E_v93.lt sb_v169)
      have ne_b64_v169 : b64 ≠ v169 := Nat.ne_of_lt (Nat.lt_of_lt_of_le E_b64.lt sb_v169)
      have ne_v145_v169 : v145 ≠ v169 := Nat.ne_of_lt (Nat.lt_of_lt_of_le E_v145.lt sb_v169)
      have ne_v157_v169 : v157 ≠ v169 := Nat.ne_of_lt (Nat.lt_of_lt_of_le E_v157.lt sb_v169)
      replace V_b1 := V_b1.keep Kh67 nin0
      replace E_b4 := E_b4.keep Kh67
      replace E_b6 := E_b6.keep Kh67
      replace E_v69 := E_v69.keep Kh67
      replace E_d72 := E_d72.keep Kh67
      replace E_v93 := E_v93.keep Kh67
      replace M_b6 := M_b6.keep Kh67 nin0
      replace L_b6 := L_b6.keep Kh67 nin0
      replace Z_b6 := Z_b6.keep Kh67 nin0
      replace V_d72 := V_d72.keep Kh67 nin0
      replace E_b64 := E_b64.keep Kh67
      replace F_expression_b64 := F_expression_b64.keep Kh67 nin0
      replace F_title_b64 := F_title_b64.keep Kh67 nin0
      replace F_description_b64 := F_description_b64.keep Kh67 nin0
      replace F_location_b64 := F_location_b64.keep Kh67 nin0
      replace E_v145 := E_v145.keep Kh67
      replace E_v157 := E_v157.keep Kh67
      refine Wp.eqS (S' := [(.ref v169), (.ref v157), (.ref v145), (.ref b64), (.ref b64)]) rfl ?_
      have sz_v169 : h0.size ≤ v169 := Nat.le_trans zh67 sb_v169
      refine Wp.iloadN at_172 (pc' := 173) rfl rfl ?_
      refine Wp.bipush (x := (24 : Int32)) at_173 (pc' := 175) rfl rfl ?_
      refine Wp.iushr at_175 (pc' := 176) rfl ?_
      refine Wp.sipush (x := (255 : Int32)) at_176 (pc' := 179) rfl rfl ?_
      refine Wp.iand at_179 (pc' := 180) rfl ?_
      refine Wp.i2c at_180 (pc' := 181) rfl ?_
      rw [i2c_mask]
      refine Wp.old fun hOc => ?_
      refine Wp.callS (W := 5) (argsL := [(.int (((p3.toUInt32 >>> ((24 : Int32) &&& 31).toUInt32).toInt32) &&& (255 : Int32)))]) (rest := [(.ref v169), (.ref v157), (.ref v145), (.ref b64), (.ref b64)]) rfl (ctVOF l Z a0 hw hE (((p3.toUInt32 >>> ((24 : Int32) &&& 31).toUInt32).toInt32) &&& (255 : Int32)) cz h67 hOc (own_255 _).1 hco hcz) (hw _ (List.mem_of_getElem? (i := 54) rfl)) (hw _ (List.mem_of_getElem? (i := 55) rfl)) (hw _ (List.mem_of_getElem? (i := 56) rfl)) (hw _ (List.mem_of_getElem? (i := 3) rfl)) (by decide) (lenOf pd__C_Ljava_lang_String_ rfl) at_181 rfl rfl rfl (Nat.le_of_eq rfl) (pc' := 184) rfl nofun nofun (by decide) (by decide) (k' := 21) (n' := 61) rfl rfl (by decide) (by decide) (fun vh68 h68 zh68 Kh68 qh68 => ?_)
      obtain ⟨v181, rfl, sb_v181, T_v181⟩ := qh68
      have E_v181 := T_v181.1
      clear T_v181
      have ne_b1_v181 : b1 ≠ v181 := Nat.ne_of_lt (Nat.lt_of_lt_of_le V_b1.lt sb_v181)
      have ne_b4_v181 : b4 ≠ v181 := Nat.ne_of_lt (Nat.lt_of_lt_of_le E_b4.lt sb_v181)
      have ne_b6_v181 : b6 ≠ v181 := Nat.ne_of_lt (Nat.lt_of_lt_of_le E_b6.lt sb_v181)
      have ne_v69_v181 : v69 ≠ v181 := Nat.ne_of_lt (Nat.lt_of_lt_of_le E_v69.lt sb_v181)
      have ne_d72_v181 : d72 ≠ v181 := Nat.ne_of_lt (Nat.lt_of_lt_of_le E_d72.lt sb_v181)
      have ne_v93_v181 : v93 ≠ v181 := Nat.ne_of_lt (Nat.lt_of_lt_of_le E_v93.lt sb_v181)
      have ne_b64_v181 : b64 ≠ v181 := Nat.ne_of_lt (Nat.lt_of_lt_of_le E_b64.lt sb_v181)
      have ne_v145_v181 : v145 ≠ v181 := Nat.ne_of_lt (Nat.lt_of_lt_of_le E_v145.lt sb_v181)
      have ne_v157_v181 : v157 ≠ v181 := Nat.ne_of_lt (Nat.lt_of_lt_of_le E_v157.lt sb_v181)
      have ne_v169_v181 : v169 ≠ v181 := Nat.ne_of_lt (Nat.lt_of_lt_of_le E_v169.lt sb_v181)
      replace V_b1 := V_b1.keep Kh68 nin0
      replace E_b4 := E_b4.keep Kh68
      replace E_b6 := E_b6.keep Kh68
      replace E_v69 := E_v69.keep Kh68
      replace E_d72 := E_d72.keep Kh68
      replace E_v93 := E_v93.keep Kh68
      replace M_b6 := M_b6.keep Kh68 nin0
      replace L_b6 := L_b6.keep Kh68 nin0
      replace Z_b6 := Z_b6.keep Kh68 nin0
      replace V_d72 := V_d72.keep Kh68 nin0
      replace E_b64 := E_b64.keep Kh68
      replace F_expression_b64 := F_expression_b64.keep Kh68 nin0
      replace F_title_b64 := F_title_b64.keep Kh68 nin0
      replace F_description_b64 := F_description_b64.keep Kh68 nin0
      replace F_location_b64 := F_location_b64.keep Kh68 nin0
      replace E_v145 := E_v145.keep Kh68
      replace E_v157 := E_v157.keep Kh68
      replace E_v169 := E_v169.keep Kh68
      refine Wp.eqS (S' := [(.ref v181), (.ref v169), (.ref v157), (.ref v145), (.ref b64), (.ref b64)]) rfl ?_
      have sz_v181 : h0.size ≤ v181 := Nat.le_trans zh68 sb_v181
      refine Wp.old fun hOc => ?_
      refine Wp.callI (a := b64) (W := 1) (argsL := [(.ref v145), (.ref v157), (.ref v169), (.ref v181)]) (rest := [(.ref b64)]) rfl (ctCD l Z a0 hw hE b64 v145 v157 v169 v181 h68 hOc (Nat.le_trans hO.1 sz_b64) E_b64 F_expression_b64 F_title_b64 F_description_b64 F_location_b64 E_v145 E_v157 E_v169 E_v181) rfl rfl (hw _ (List.mem_of_getElem? (i := 215) rfl)) (hw _ (List.mem_of_getElem? (i := 216) rfl)) (hw _ (List.mem_of_getElem? (i := 217) rfl)) (hw _ (List.mem_of_getElem? (i := 214) rfl)) (by decide) (lenOf pd__Ljava_lang_String_Ljava_lang_String_Ljava_lang_String_Ljava_lang_String__V rfl) at_184 rfl rfl rfl (Nat.le_of_eq rfl) (pc' := 187) rfl nofun (by intro x hx; simp only [List.mem_cons, List.not_mem_nil, or_false] at hx; rcases hx with rfl; exact (Or.inr sz_b64)) (by decide) (by decide) (k' := 29) (n' := 213) rfl rfl (by decide) (by decide) (fun vh69 h69 zh69 Kh69 qh69 => ?_)
      obtain rfl := qh69
      replace V_b1 := V_b1.keep Kh69 (ninS ne_b1_b64 nin0)
      replace E_b4 := E_b4.keep Kh69
      replace E_b6 := E_b6.keep Kh69
      replace E_v69 := E_v69.keep Kh69
      replace E_d72 := E_d72.keep Kh69
      replace E_v93 := E_v93.keep Kh69
      replace M_b6 := M_b6.keep Kh69 (ninS ne_b6_b64 nin0)
      replace L_b6 := L_b6.keep Kh69 (ninS ne_b6_b64 nin0)
      replace Z_b6 := Z_b6.keep Kh69 (ninS ne_b6_b64 nin0)
      replace V_d72 := V_d72.keep Kh69 (ninS ne_d72_b64 nin0)
      replace E_b64 := E_b64.keep Kh69
      replace E_v145 := E_v145.keep Kh69
      replace E_v157 := E_v157.keep Kh69
      replace E_v169 := E_v169.keep Kh69
      replace E_v181 := E_v181.keep Kh69
      refine Wp.eqS (S' := [(.ref b64)]) rfl ?_
      refine Wp.astore (l' := #[.val (.int p0), .val (.int p1), .val (.int p2), .val (.int p3), .val (.ref b1), .val (.ref b4), .val (.ref b6), .val (.int (2 : Int32)), .val (.int (1 : Int32)), .val (.ref b64), .unset]) at_187 (pc' := 189) rfl rfl rfl ?_
      refine Wp.new rfl (hw _ (List.mem_of_getElem? (i := 99) rfl)) (hw _ (List.mem_of_getElem? (i := 100) rfl)) (hw _ (List.mem_of_getElem? (i := 101) rfl)) at_189 (pc' := 192) rfl (k' := 30) (n' := 216) rfl rfl (by decide) (by decide) (fun h70 b70 g_b70 sz_b70 Xh70 E_b70 D_b70 => ?_)
      have ne_b1_b70 : b1 ≠ b70 := Nat.ne_of_lt (Nat.lt_of_lt_of_eq V_b1.lt g_b70.symm)
      have ne_b4_b70 : b4 ≠ b70 := Nat.ne_of_lt (Nat.lt_of_lt_of_eq E_b4.lt g_b70.symm)
      have ne_b6_b70 : b6 ≠ b70 := Nat.ne_of_lt (Nat.lt_of_lt_of_eq E_b6.lt g_b70.symm)
      have ne_v69_b70 : v69 ≠ b70 := Nat.ne_of_lt (Nat.lt_of_lt_of_eq E_v69.lt g_b70.symm)
      have ne_d72_b70 : d72 ≠ b70 := Nat.ne_of_lt (Nat.lt_of_lt_of_eq E_d72.lt g_b70.symm)
      have ne_v93_b70 : v93 ≠ b70 := Nat.ne_of_lt (Nat.lt_of_lt_of_eq E_v93.lt g_b70.symm)
      have ne_b64_b70 : b64 ≠ b70 := Nat.ne_of_lt (Nat.lt_of_lt_of_eq E_b64.lt g_b70.symm)
      have ne_v145_b70 : v145 ≠ b70 := Nat.ne_of_lt (Nat.lt_of_lt_of_eq E_v145.lt g_b70.symm)
      have ne_v157_b70 : v157 ≠ b70 := Nat.ne_of_lt (Nat.lt_of_lt_of_eq E_v157.lt g_b70.symm)
      have ne_v169_b70 : v169 ≠ b70 := Nat.ne_of_lt (Nat.lt_of_lt_of_eq E_v169.lt g_b70.symm)
      have ne_v181_b70 : v181 ≠ b70 := Nat.ne_of_lt (Nat.lt_of_lt_of_eq E_v181.lt g_b70.symm)
      replace V_b1 := V_b1.ext Xh70
      replace E_b4 := E_b4.ext Xh70
      replace E_b6 := E_b6.ext Xh70
      replace E_v69 := E_v69.ext Xh70
      replace E_d72 := E_d72.ext Xh70
      replace E_v93 := E_v93.ext Xh70
      replace M_b6 := M_b6.ext Xh70
      replace L_b6 := L_b6.ext Xh70
      replace Z_b6 := Z_b6.ext Xh70
      replace V_d72 := V_d72.ext Xh70
      replace E_b64 := E_b64.ext Xh70
      replace E_v145 := E_v145.ext Xh70
      replace E_v157 := E_v157.ext Xh70
      replace E_v169 := E_v169.ext Xh70
      replace E_v181 := E_v181.ext Xh70
      have F_role_b70 : Fld Z h70 b70 "com/example/rootward/rootward/policy/Binding" "role" "Ljava/lang/String;" .null := D_b70 (Or.inr (hw _ (List.mem_of_getElem? (i := 115) rfl))) (ty := (.object "java/lang/String")) (by decide)
      have F_members_b70 : Fld Z h70 b70 "com/example/rootward/rootward/policy/Binding" "members" "Ljava/util/List;" .null := D_b70 (Or.inr (hw _ (List.mem_of_getElem? (i := 204) rfl))) (ty := (.object "java/util/List")) (by decide)
      have F_condition_b70 : Fld Z h70 b70 "com/example/rootward/rootward/policy/Binding" "condition" "Lcom/example/rootward/rootward/policy/Condition;" .null := D_b70 (Or.inr (hw _ (List.mem_of_getElem? (i := 206) rfl))) (ty := (.object "com/example/rootward/rootward/policy/Condition")) (by decide)
      clear D_b70
      refine Wp.dup at_192 (pc' := 193) rfl rfl ?_
      refine Wp.aload at_193 (pc' := 195) rfl rfl rfl ?_
      refine Wp.aload at_195 (pc' := 197) rfl rfl rfl ?_
      refine Wp.aload at_197 (pc' := 199) rfl rfl rfl ?_
      refine Wp.old fun hOc => ?_
      refine Wp.callI (a := b70) (W := 1) (argsL := [(.ref b4), (.ref b6), (.ref b64)]) (rest := [(.ref b70)]) rfl (ctBI_2r l Z a0 hw hE b70 b4 b64 b6 d72 mr k_d72 v69 v93 em h70 hOc (Nat.le_trans hO.1 sz_b70) E_b70 E_b4 F_role_b70 F_members_b70 F_condition_b70 ne_b6_b70 ne_d72_b70 E_b6 L_b6 Z_b6 hM E_d72 V_d72 E_v69 E_v93 hem) rfl rfl (hw _ (List.mem_of_getElem? (i := 102) rfl)) (hw _ (List.mem_of_getElem? (i := 103) rfl)) (hw _ (List.mem_of_getElem? (i := 104) rfl)) (hw _ (List.mem_of_getElem? (i := 101) rfl)) (by decide) (lenOf pd__Ljava_lang_String_Ljava_util_Collection_Lcom_example_rootward_rootward_policy_Condition__V rfl) at_199 rfl rfl rfl (Nat.le_of_eq rfl) (pc' := 202) rfl nofun (by intro x hx; simp only [List.mem_cons, List.not_mem_nil, or_false] at hx; rcases hx with rfl; exact (Or.inr sz_b70)) (by decide) (by decide) (k' := 35) (n' := 244) rfl rfl (by decide) (by decide) (fun vh71 h71 zh71 Kh71 qh71 => ?_)
      obtain ⟨rfl, C_b70⟩ := qh71
      replace V_b1 := V_b1.keep Kh71 (ninS ne_b1_b70 nin0)
      replace E_b4 := E_b4.keep Kh71
      replace E_b6 := E_b6.keep Kh71
      replace E_v69 := E_v69.keep Kh71
      replace E_d72 := E_d72.keep Kh71
      replace E_v93 := E_v93.keep Kh71
      replace M_b6 := M_b6.keep Kh71 (ninS ne_b6_b70 nin0)
      replace L_b6 := L_b6.keep Kh71 (ninS ne_b6_b70 nin0)
      replace Z_b6 := Z_b6.keep Kh71 (ninS ne_b6_b70 nin0)
      replace V_d72 := V_d72.keep Kh71 (ninS ne_d72_b70 nin0)
      replace E_b64 := E_b64.keep Kh71
      replace E_v145 := E_v145.keep Kh71
      replace E_v157 := E_v157.keep Kh71
      replace E_v169 := E_v169.keep Kh71
      replace E_v181 := E_v181.keep Kh71
      replace E_b70 := E_b70.keep Kh71
      refine Wp.eqS (S' := [(.ref b70)]) rfl ?_
      refine Wp.astore (l' := #[.val (.int p0), .val (.int p1), .val (.int p2), .val (.int p3), .val (.ref b1), .val (.ref b4), .val (.ref b6), .val (.int (2 : Int32)), .val (.int (1 : Int32)), .val (.ref b64), .val (.ref b70)]) at_202 (pc' := 204) rfl rfl rfl ?_
      refine Wp.aload at_204 (pc' := 206) rfl rfl rfl ?_
      refine Wp.old fun hOc => ?_
      refine Wp.callV (a := b70) (x' := (⟨"com/example/rootward/rootward/policy/Binding", "isConditional", "()Z"⟩ : MethodName)) (W := 0) (argsL := []) (rest := []) rfl (ctICr l Z a0 hw hE b70 b64 h71 hOc C_b70) (hw _ (List.mem_of_getElem? (i := 207) rfl)) (hw _ (List.mem_of_getElem? (i := 208) rfl)) (hw _ (List.mem_of_getElem? (i := 210) rfl)) (hw _ (List.mem_of_getElem? (i := 209) rfl)) (hw _ (List.mem_of_getElem? (i := 211) rfl)) (hw _ (List.mem_of_getElem? (i := 101) rfl)) (fun s hZ => nf_sel rfl (hw _ (List.mem_of_getElem? (i := 210) rfl)) s hZ rfl) E_b70 (by decide) (lenOf pd___Z rfl) at_206 rfl rfl rfl (Nat.le_of_eq rfl) (pc' := 209) rfl nofun nofun (by decide) (by decide) (k' := 35) (n' := 244) rfl rfl (by decide) (by decide) (fun vh72 h72 zh72 Kh72 qh72 => ?_)
      obtain rfl := qh72
      replace V_b1 := V_b1.keep Kh72 nin0
      replace E_b4 := E_b4.keep Kh72
      replace E_b6 := E_b6.keep Kh72
      replace E_v69 := E_v69.keep Kh72
      replace E_d72 := E_d72.keep Kh72
      replace E_v93 := E_v93.keep Kh72
      replace M_b6 := M_b6.keep Kh72 nin0
      replace L_b6 := L_b6.keep Kh72 nin0
      replace Z_b6 := Z_b6.keep Kh72 nin0
      replace V_d72 := V_d72.keep Kh72 nin0
      replace E_b64 := E_b64.keep Kh72
      replace E_v145 := E_v145.keep Kh72
      replace E_v157 := E_v157.keep Kh72
      replace E_v169 := E_v169.keep Kh72
      replace E_v181 := E_v181.keep Kh72
      replace E_b70 := E_b70.keep Kh72
      replace C_b70 := C_b70.keep Kh72 nin0
      refine Wp.eqS (S' := [(.int (1 : Int32))]) rfl ?_
      refine Wp.iload at_209 (pc' := 211) rfl rfl ?_
      refine Wp.icmp_ne (pc1 := 218) (pc' := 214) at_211 (by decide) (by decide) rfl (fun hc73 => by exact absurd hc73 (by decide)) (fun hc73 => ?_)
      refine Wp.iconst (x := (1 : Int32)) at_214 (pc' := 215) rfl rfl ?_
      refine Wp.goto (pc' := 219) at_215 (by decide) (by decide) ?_
      refine Wp.retN (x' := (1 : Int32)) (t := .boolean) rfl (by simp) rfl at_219 (by decide) (by decide) ?_
      rfl
  · rw [hl]
    refine Wp.istore (l' := #[.val (.int p0), .val (.int p1), .val (.int p2), .val (.int p3), .val (.ref b1), .val (.ref b4), .val (.ref b6), .val (.int (3 : Int32)), .unset, .unset, .unset]) at_51 (pc' := 53) rfl rfl ?_
    refine Wp.iload at_53 (pc' := 55) rfl rfl ?_
    refine Wp.iconst (x := (1 : Int32)) at_55 (pc' := 56) rfl rfl ?_
    refine Wp.icmp_lt (pc1 := 76) (pc' := 59) at_56 (by decide) (by decide) rfl (fun hc74 => by exact absurd hc74 (by decide)) (fun hc74 => ?_)
    refine Wp.aload at_59 (pc' := 61) rfl rfl rfl ?_
    refine Wp.iloadN at_61 (pc' := 62) rfl rfl ?_
    refine Wp.iconst (x := (2 : Int32)) at_62 (pc' := 63) rfl rfl ?_
    refine Wp.iushr at_63 (pc' := 64) rfl ?_
    refine Wp.sipush (x := (255 : Int32)) at_64 (pc' := 67) rfl rfl ?_
    refine Wp.iand at_67 (pc' := 68) rfl ?_
    refine Wp.i2c at_68 (pc' := 69) rfl ?_
    rw [i2c_mask]
    refine Wp.old fun hOc => ?_
    refine Wp.callS (W := 1) (argsL := [(.int (((p1.toUInt32 >>> ((2 : Int32) &&& 31).toUInt32).toInt32) &&& (255 : Int32)))]) (rest := [(.ref b6)]) rfl (ctVOF l Z a0 hw hE (((p1.toUInt32 >>> ((2 : Int32) &&& 31).toUInt32).toInt32) &&& (255 : Int32)) cz h7 hOc (own_255 _).1 hco hcz) (hw _ (List.mem_of_getElem? (i := 54) rfl)) (hw _ (List.mem_of_getElem? (i := 55) rfl)) (hw _ (List.mem_of_getElem? (i := 56) rfl)) (hw _ (List.mem_of_getElem? (i := 3) rfl)) (by decide) (lenOf pd__C_Ljava_lang_String_ rfl) at_69 rfl rfl rfl (Nat.le_of_eq rfl) (pc' := 72) rfl nofun nofun (by decide) (by decide) (k' := 9) (n' := 22) rfl rfl (by decide) (by decide) (fun vh75 h75 zh75 Kh75 qh75 => ?_)
    obtain ⟨v69, rfl, sb_v69, T_v69⟩ := qh75
    have E_v69 := T_v69.1
    clear T_v69
    have ne_b1_v69 : b1 ≠ v69 := Nat.ne_of_lt (Nat.lt_of_lt_of_le V_b1.lt sb_v69)
    have ne_b4_v69 : b4 ≠ v69 := Nat.ne_of_lt (Nat.lt_of_lt_of_le E_b4.lt sb_v69)
    have ne_b6_v69 : b6 ≠ v69 := Nat.ne_of_lt (Nat.lt_of_lt_of_le E_b6.lt sb_v69)
    replace V_b1 := V_b1.keep Kh75 nin0
    replace E_b4 := E_b4.keep Kh75
    replace E_b6 := E_b6.keep Kh75
    replace M_b6 := M_b6.keep Kh75 nin0
    replace L_b6 := L_b6.keep Kh75 nin0
    replace Z_b6 := Z_b6.keep Kh75 nin0
    refine Wp.eqS (S' := [(.ref v69), (.ref b6)]) rfl ?_
    have sz_v69 : h0.size ≤ v69 := Nat.le_trans zh75 sb_v69
    refine Wp.old fun hOc => ?_
    refine Wp.callV (a := b6) (x' := (⟨"java/util/ArrayList", "add", "(Ljava/lang/Object;)Z"⟩ : MethodName)) (W := 0) (argsL := [(.ref v69)]) (rest := []) rfl (ctA1_0 l Z a0 hw hE b6 v69 de kde 0 h75 hOc (V_de.ext hOc) (Nat.le_trans hO.1 sz_b6) E_b6 M_b6 L_b6 Z_b6 hde (Nat.ne_of_lt (Nat.lt_of_lt_of_le V_de.lt (Nat.le_trans hO.1 sz_b6))) E_v69) (hw _ (List.mem_of_getElem? (i := 68) rfl)) (hw _ (List.mem_of_getElem? (i := 69) rfl)) (hw _ (List.mem_of_getElem? (i := 71) rfl)) (hw _ (List.mem_of_getElem? (i := 70) rfl)) (hw _ (List.mem_of_getElem? (i := 72) rfl)) (hw _ (List.mem_of_getElem? (i := 32) rfl)) (fun s hZ => nf_sel rfl (hw _ (List.mem_of_getElem? (i := 71) rfl)) s hZ rfl) E_b6 (by decide) (lenOf pd__Ljava_lang_Object__Z rfl) at_72 rfl rfl rfl (Nat.le_of_eq rfl) (pc' := 75) rfl nofun (by intro x hx; simp only [List.mem_cons, List.not_mem_nil, or_false] at hx; rcases hx with rfl; exact (Or.inr sz_b6)) (by decide) (by decide) (k' := 10) (n' := 32) rfl rfl (by decide) (by decide) (fun vh76 h76 zh76 Kh76 qh76 => ?_)
    obtain ⟨rfl, d72, k_d72, sb_d72, O_d72, ⟨mc_d72, M_b6⟩, L_b6, Z_b6, V_d72, E_d72⟩ := qh76
    have ne_b1_d72 : b1 ≠ d72 := Nat.ne_of_lt (Nat.lt_of_lt_of_le V_b1.lt sb_d72)
    have ne_b4_d72 : b4 ≠ d72 := Nat.ne_of_lt (Nat.lt_of_lt_of_le E_b4.lt sb_d72)
    have ne_b6_d72 : b6 ≠ d72 := Nat.ne_of_lt (Nat.lt_of_lt_of_le E_b6.lt sb_d72)
    have ne_v69_d72 : v69 ≠ d72 := Nat.ne_of_lt (Nat.lt_of_lt_of_le E_v69.lt sb_d72)
    replace V_b1 := V_b1.keep Kh76 (ninS ne_b1_b6 nin0)
    replace E_b4 := E_b4.keep Kh76
    replace E_b6 := E_b6.keep Kh76
    replace E_v69 := E_v69.keep Kh76
    refine Wp.eqS (S' := [(.int (1 : Int32))]) rfl ?_
    have sz_d72 : h0.size ≤ d72 := Nat.le_trans zh76 sb_d72
    refine Wp.pop at_75 (pc' := 76) rfl rfl ?_
    refine Wp.iload at_76 (pc' := 78) rfl rfl ?_
    refine Wp.iconst (x := (2 : Int32)) at_78 (pc' := 79) rfl rfl ?_
    refine Wp.icmp_lt (pc1 := 100) (pc' := 82) at_79 (by decide) (by decide) rfl (fun hc77 => by exact absurd hc77 (by decide)) (fun hc77 => ?_)
    refine Wp.aload at_82 (pc' := 84) rfl rfl rfl ?_
    refine Wp.iloadN at_84 (pc' := 85) rfl rfl ?_
    refine Wp.bipush (x := (10 : Int32)) at_85 (pc' := 87) rfl rfl ?_
    refine Wp.iushr at_87 (pc' := 88) rfl ?_
    refine Wp.sipush (x := (255 : Int32)) at_88 (pc' := 91) rfl rfl ?_
    refine Wp.iand at_91 (pc' := 92) rfl ?_
    refine Wp.i2c at_92 (pc' := 93) rfl ?_
    rw [i2c_mask]
    refine Wp.old fun hOc => ?_
    refine Wp.callS (W := 1) (argsL := [(.int (((p1.toUInt32 >>> ((10 : Int32) &&& 31).toUInt32).toInt32) &&& (255 : Int32)))]) (rest := [(.ref b6)]) rfl (ctVOF l Z a0 hw hE (((p1.toUInt32 >>> ((10 : Int32) &&& 31).toUInt32).toInt32) &&& (255 : Int32)) cz h76 hOc (own_255 _).1 hco hcz) (hw _ (List.mem_of_getElem? (i := 54) rfl)) (hw _ (List.mem_of_getElem? (i := 55) rfl)) (hw _ (List.mem_of_getElem? (i := 56) rfl)) (hw _ (List.mem_of_getElem? (i := 3) rfl)) (by decide) (lenOf pd__C_Ljava_lang_String_ rfl) at_93 rfl rfl rfl (Nat.le_of_eq rfl) (pc' := 96) rfl nofun nofun (by decide) (by decide) (k' := 12) (n' := 37) rfl rfl (by decide) (by decide) (fun vh78 h78 zh78 Kh78 qh78 => ?_)
    obtain ⟨v93, rfl, sb_v93, T_v93⟩ := qh78
    have E_v93 := T_v93.1
    clear T_v93
    have ne_b1_v93 : b1 ≠ v93 := Nat.ne_of_lt (Nat.lt_of_lt_of_le V_b1.lt sb_v93)
    have ne_b4_v93 : b4 ≠ v93 := Nat.ne_of_lt (Nat.lt_of_lt_of_le E_b4.lt sb_v93)
    have ne_b6_v93 : b6 ≠ v93 := Nat.ne_of_lt (Nat.lt_of_lt_of_le E_b6.lt sb_v93)
    have ne_v69_v93 : v69 ≠ v93 := Nat.ne_of_lt (Nat.lt_of_lt_of_le E_v69.lt sb_v93)
    have ne_d72_v93 : d72 ≠ v93 := Nat.ne_of_lt (Nat.lt_of_lt_of_le V_d72.lt sb_v93)
    replace V_b1 := V_b1.keep Kh78 nin0
    replace E_b4 := E_b4.keep Kh78
    replace E_b6 := E_b6.keep Kh78
    replace E_v69 := E_v69.keep Kh78
    replace M_b6 := M_b6.keep Kh78 nin0
    replace L_b6 := L_b6.keep Kh78 nin0
    replace Z_b6 := Z_b6.keep Kh78 nin0
    replace V_d72 := V_d72.keep Kh78 nin0
    replace E_d72 := E_d72.keep Kh78
    refine Wp.eqS (S' := [(.ref v93), (.ref b6)]) rfl ?_
    have sz_v93 : h0.size ≤ v93 := Nat.le_trans zh78 sb_v93
    refine Wp.old fun hOc => ?_
    refine Wp.callV (a := b6) (x' := (⟨"java/util/ArrayList", "add", "(Ljava/lang/Object;)Z"⟩ : MethodName)) (W := 0) (argsL := [(.ref v93)]) (rest := []) rfl (ctA1_1 l Z a0 hw hE b6 v93 d72 k_d72 _ v69 h78 hOc (Nat.le_trans hO.1 sz_b6) (Nat.le_trans hO.1 sz_d72) E_b6 E_d72 O_d72 V_d72 M_b6 L_b6 Z_b6 ne_b6_d72 E_v93) (hw _ (List.mem_of_getElem? (i := 68) rfl)) (hw _ (List.mem_of_getElem? (i := 69) rfl)) (hw _ (List.mem_of_getElem? (i := 71) rfl)) (hw _ (List.mem_of_getElem? (i := 70) rfl)) (hw _ (List.mem_of_getElem? (i := 72) rfl)) (hw _ (List.mem_of_getElem? (i := 32) rfl)) (fun s hZ => nf_sel rfl (hw _ (List.mem_of_getElem? (i := 71) rfl)) s hZ rfl) E_b6 (by decide) (lenOf pd__Ljava_lang_Object__Z rfl) at_96 rfl rfl rfl (Nat.le_of_eq rfl) (pc' := 99) rfl nofun (by intro x hx; simp only [List.mem_cons, List.not_mem_nil, or_false] at hx; rcases hx with rfl | rfl <;> first | exact (Or.inr sz_b6) | exact (Or.inr sz_d72)) (by decide) (by decide) (k' := 12) (n' := 37) rfl rfl (by decide) (by decide) (fun vh79 h79 zh79 Kh79 qh79 => ?_)
    obtain ⟨rfl, ⟨mc_d721, M_b6⟩, L_b6, Z_b6, V_d72, -⟩ := qh79
    replace V_b1 := V_b1.keep Kh79 (ninS ne_b1_b6 (ninS ne_b1_d72 nin0))
    replace E_b4 := E_b4.keep Kh79
    replace E_b6 := E_b6.keep Kh79
    replace E_v69 := E_v69.keep Kh79
    replace E_d72 := E_d72.keep Kh79
    replace E_v93 := E_v93.keep Kh79
    refine Wp.eqS (S' := [(.int (1 : Int32))]) rfl ?_
    refine Wp.pop at_99 (pc' := 100) rfl rfl ?_
    refine Wp.iload at_100 (pc' := 102) rfl rfl ?_
    refine Wp.iconst (x := (3 : Int32)) at_102 (pc' := 103) rfl rfl ?_
    refine Wp.icmp_lt (pc1 := 114) (pc' := 106) at_103 (by decide) (by decide) rfl (fun hc80 => by exact absurd hc80 (by decide)) (fun hc80 => ?_)
    refine Wp.aload at_106 (pc' := 108) rfl rfl rfl ?_
    refine Wp.aload at_108 (pc' := 110) rfl rfl rfl ?_
    refine Wp.old fun hOc => ?_
    refine Wp.callV (a := b6) (x' := (⟨"java/util/ArrayList", "add", "(Ljava/lang/Object;)Z"⟩ : MethodName)) (W := 0) (argsL := [(.ref b4)]) (rest := []) rfl (ctA1_2 l Z a0 hw hE b6 b4 d72 k_d72 _ v69 v93 h79 hOc (Nat.le_trans hO.1 sz_b6) (Nat.le_trans hO.1 sz_d72) E_b6 E_d72 O_d72 V_d72 M_b6 L_b6 Z_b6 ne_b6_d72 E_b4) (hw _ (List.mem_of_getElem? (i := 68) rfl)) (hw _ (List.mem_of_getElem? (i := 69) rfl)) (hw _ (List.mem_of_getElem? (i := 71) rfl)) (hw _ (List.mem_of_getElem? (i := 70) rfl)) (hw _ (List.mem_of_getElem? (i := 72) rfl)) (hw _ (List.mem_of_getElem? (i := 32) rfl)) (fun s hZ => nf_sel rfl (hw _ (List.mem_of_getElem? (i := 71) rfl)) s hZ rfl) E_b6 (by decide) (lenOf pd__Ljava_lang_Object__Z rfl) at_110 rfl rfl rfl (Nat.le_of_eq rfl) (pc' := 113) rfl nofun (by intro x hx; simp only [List.mem_cons, List.not_mem_nil, or_false] at hx; rcases hx with rfl | rfl <;> first | exact (Or.inr sz_b6) | exact (Or.inr sz_d72)) (by decide) (by decide) (k' := 12) (n' := 37) rfl rfl (by decide) (by decide) (fun vh81 h81 zh81 Kh81 qh81 => ?_)
    obtain ⟨rfl, ⟨mc_d722, M_b6⟩, L_b6, Z_b6, V_d72, -⟩ := qh81
    replace V_b1 := V_b1.keep Kh81 (ninS ne_b1_b6 (ninS ne_b1_d72 nin0))
    replace E_b4 := E_b4.keep Kh81
    replace E_b6 := E_b6.keep Kh81
    replace E_v69 := E_v69.keep Kh81
    replace E_d72 := E_d72.keep Kh81
    replace E_v93 := E_v93.keep Kh81
    refine Wp.eqS (S' := [(.int (1 : Int32))]) rfl ?_
    refine Wp.pop at_113 (pc' := 114) rfl rfl ?_
    refine Wp.iloadN at_114 (pc' := 115) rfl rfl ?_
    refine Wp.iconst (x := (1 : Int32)) at_115 (pc' := 116) rfl rfl ?_
    refine Wp.iand at_116 (pc' := 117) rfl ?_
    refine Wp.if_eq (pc1 := 124) (pc' := 120) at_117 (by decide) (by decide) rfl (fun hc82 => ?_) (fun hc82 => ?_)
    · have hc82 : (p2 &&& (1 : Int32)) = (0 : Int32) := hc82
      refine Wp.iconst (x := (0 : Int32)) at_124 (pc' := 125) rfl rfl ?_
      refine Wp.istore (l' := #[.val (.int p0), .val (.int p1), .val (.int p2), .val (.int p3), .val (.ref b1), .val (.ref b4), .val (.ref b6), .val (.int (3 : Int32)), .val (.int (0 : Int32)), .unset, .unset]) at_125 (pc' := 127) rfl rfl ?_
      refine Wp.aconstNull at_127 (pc' := 128) rfl ?_
      refine Wp.astore (l' := #[.val (.int p0), .val (.int p1), .val (.int p2), .val (.int p3), .val (.ref b1), .val (.ref b4), .val (.ref b6), .val (.int (3 : Int32)), .val (.int (0 : Int32)), .val .null, .unset]) at_128 (pc' := 130) rfl rfl rfl ?_
      refine Wp.iload at_130 (pc' := 132) rfl rfl ?_
      refine Wp.if_eq (pc1 := 189) (pc' := 135) at_132 (by decide) (by decide) rfl (fun hc83 => ?_) (fun hc83 => by exact absurd hc83 (by decide))
      refine Wp.new rfl (hw _ (List.mem_of_getElem? (i := 99) rfl)) (hw _ (List.mem_of_getElem? (i := 100) rfl)) (hw _ (List.mem_of_getElem? (i := 101) rfl)) at_189 (pc' := 192) rfl (k' := 13) (n' := 40) rfl rfl (by decide) (by decide) (fun h84 b84 g_b84 sz_b84 Xh84 E_b84 D_b84 => ?_)
      have ne_b1_b84 : b1 ≠ b84 := Nat.ne_of_lt (Nat.lt_of_lt_of_eq V_b1.lt g_b84.symm)
      have ne_b4_b84 : b4 ≠ b84 := Nat.ne_of_lt (Nat.lt_of_lt_of_eq E_b4.lt g_b84.symm)
      have ne_b6_b84 : b6 ≠ b84 := Nat.ne_of_lt (Nat.lt_of_lt_of_eq E_b6.lt g_b84.symm)
      have ne_v69_b84 : v69 ≠ b84 := Nat.ne_of_lt (Nat.lt_of_lt_of_eq E_v69.lt g_b84.symm)
      have ne_d72_b84 : d72 ≠ b84 := Nat.ne_of_lt (Nat.lt_of_lt_of_eq E_d72.lt g_b84.symm)
      have ne_v93_b84 : v93 ≠ b84 := Nat.ne_of_lt (Nat.lt_of_lt_of_eq E_v93.lt g_b84.symm)
      replace V_b1 := V_b1.ext Xh84
      replace E_b4 := E_b4.ext Xh84
      replace E_b6 := E_b6.ext Xh84
      replace E_v69 := E_v69.ext Xh84
      replace E_d72 := E_d72.ext Xh84
      replace E_v93 := E_v93.ext Xh84
      replace M_b6 := M_b6.ext Xh84
      replace L_b6 := L_b6.ext Xh84
      replace Z_b6 := Z_b6.ext Xh84
      replace V_d72 := V_d72.ext Xh84
      have F_role_b84 : Fld Z h84 b84 "com/example/rootward/rootward/policy/Binding" "role" "Ljava/lang/String;" .null := D_b84 (Or.inr (hw _ (List.mem_of_getElem? (i := 115) rfl))) (ty := (.object "java/lang/String")) (by decide)
      have F_members_b84 : Fld Z h84 b84 "com/example/rootward/rootward/policy/Binding" "members" "Ljava/util/List;" .null := D_b84 (Or.inr (hw _ (List.mem_of_getElem? (i := 204) rfl))) (ty := (.object "java/util/List")) (by decide)
      have F_condition_b84 : Fld Z h84 b84 "com/example/rootward/rootward/policy/Binding" "condition" "Lcom/example/rootward/rootward/policy/Condition;" .null := D_b84 (Or.inr (hw _ (List.mem_of_getElem? (i := 206) rfl))) (ty := (.object "com/example/rootward/rootward/policy/Condition")) (by decide)
      clear D_b84
      refine Wp.dup at_192 (pc' := 193) rfl rfl ?_
      refine Wp.aload at_193 (pc' := 195) rfl rfl rfl ?_
      refine Wp.aload at_195 (pc' := 197) rfl rfl rfl ?_
      refine Wp.aload at_197 (pc' := 199) rfl rfl rfl ?_
      refine Wp.old fun hOc => ?_
      refine Wp.callI (a := b84) (W := 1) (argsL := [(.ref b4), (.ref b6), .null]) (rest := [(.ref b84)]) rfl (ctBI_3n l Z a0 hw hE b84 b4 b6 d72 mr k_d72 v69 v93 b4 em h84 hOc (Nat.le_trans hO.1 sz_b84) E_b84 E_b4 F_role_b84 F_members_b84 F_condition_b84 ne_b6_b84 ne_d72_b84 E_b6 L_b6 Z_b6 hM E_d72 V_d72 E_v69 E_v93 E_b4 hem) rfl rfl (hw _ (List.mem_of_getElem? (i := 102) rfl)) (hw _ (List.mem_of_getElem? (i := 103) rfl)) (hw _ (List.mem_of_getElem? (i := 104) rfl)) (hw _ (List.mem_of_getElem? (i := 101) rfl)) (by decide) (lenOf pd__Ljava_lang_String_Ljava_util_Collection_Lcom_example_rootward_rootward_policy_Condition__V rfl) at_199 rfl rfl rfl (Nat.le_of_eq rfl) (pc' := 202) rfl nofun (by intro x hx; simp only [List.mem_cons, List.not_mem_nil, or_false] at hx; rcases hx with rfl; exact (Or.inr sz_b84)) (by decide) (by decide) (k' := 18) (n' := 68) rfl rfl (by decide) (by decide) (fun vh85 h85 zh85 Kh85 qh85 => ?_)
      obtain ⟨rfl, C_b84⟩ := qh85
      replace V_b1 := V_b1.keep Kh85 (ninS ne_b1_b84 nin0)
      replace E_b4 := E_b4.keep Kh85
      replace E_b6 := E_b6.keep Kh85
      replace E_v69 := E_v69.keep Kh85
      replace E_d72 := E_d72.keep Kh85
      replace E_v93 := E_v93.keep Kh85
      replace M_b6 := M_b6.keep Kh85 (ninS ne_b6_b84 nin0)
      replace L_b6 := L_b6.keep Kh85 (ninS ne_b6_b84 nin0)
      replace Z_b6 := Z_b6.keep Kh85 (ninS ne_b6_b84 nin0)
      replace V_d72 := V_d72.keep Kh85 (ninS ne_d72_b84 nin0)
      replace E_b84 := E_b84.keep Kh85
      refine Wp.eqS (S' := [(.ref b84)]) rfl ?_
      refine Wp.astore (l' := #[.val (.int p0), .val (.int p1), .val (.int p2), .val (.int p3), .val (.ref b1), .val (.ref b4), .val (.ref b6), .val (.int (3 : Int32)), .val (.int (0 : Int32)), .val .null, .val (.ref b84)]) at_202 (pc' := 204) rfl rfl rfl ?_
      refine Wp.aload at_204 (pc' := 206) rfl rfl rfl ?_
      refine Wp.old fun hOc => ?_
      refine Wp.callV (a := b84) (x' := (⟨"com/example/rootward/rootward/policy/Binding", "isConditional", "()Z"⟩ : MethodName)) (W := 0) (argsL := []) (rest := []) rfl (ctICn l Z a0 hw hE b84 h85 hOc C_b84) (hw _ (List.mem_of_getElem? (i := 207) rfl)) (hw _ (List.mem_of_getElem? (i := 208) rfl)) (hw _ (List.mem_of_getElem? (i := 210) rfl)) (hw _ (List.mem_of_getElem? (i := 209) rfl)) (hw _ (List.mem_of_getElem? (i := 211) rfl)) (hw _ (List.mem_of_getElem? (i := 101) rfl)) (fun s hZ => nf_sel rfl (hw _ (List.mem_of_getElem? (i := 210) rfl)) s hZ rfl) E_b84 (by decide) (lenOf pd___Z rfl) at_206 rfl rfl rfl (Nat.le_of_eq rfl) (pc' := 209) rfl nofun nofun (by decide) (by decide) (k' := 18) (n' := 68) rfl rfl (by decide) (by decide) (fun vh86 h86 zh86 Kh86 qh86 => ?_)
      obtain rfl := qh86
      replace V_b1 := V_b1.keep Kh86 nin0
      replace E_b4 := E_b4.keep Kh86
      replace E_b6 := E_b6.keep Kh86
      replace E_v69 := E_v69.keep Kh86
      replace E_d72 := E_d72.keep Kh86
      replace E_v93 := E_v93.keep Kh86
      replace M_b6 := M_b6.keep Kh86 nin0
      replace L_b6 := L_b6.keep Kh86 nin0
      replace Z_b6 := Z_b6.keep Kh86 nin0
      replace V_d72 := V_d72.keep Kh86 nin0
      replace E_b84 := E_b84.keep Kh86
      replace C_b84 := C_b84.keep Kh86 nin0
      refine Wp.eqS (S' := [(.int (0 : Int32))]) rfl ?_
      refine Wp.iload at_209 (pc' := 211) rfl rfl ?_
      refine Wp.icmp_ne (pc1 := 218) (pc' := 214) at_211 (by decide) (by decide) rfl (fun hc87 => by exact absurd hc87 (by decide)) (fun hc87 => ?_)
      refine Wp.iconst (x := (1 : Int32)) at_214 (pc' := 215) rfl rfl ?_
      refine Wp.goto (pc' := 219) at_215 (by decide) (by decide) ?_
      refine Wp.retN (x' := (1 : Int32)) (t := .boolean) rfl (by simp) rfl at_219 (by decide) (by decide) ?_
      rfl
    · have hc82 : ¬ ((p2 &&& (1 : Int32)) = (0 : Int32)) := hc82
      refine Wp.iconst (x := (1 : Int32)) at_120 (pc' := 121) rfl rfl ?_
      refine Wp.goto (pc' := 125) at_121 (by decide) (by decide) ?_
      refine Wp.istore (l' := #[.val (.int p0), .val (.int p1), .val (.int p2), .val (.int p3), .val (.ref b1), .val (.ref b4), .val (.ref b6), .val (.int (3 : Int32)), .val (.int (1 : Int32)), .unset, .unset]) at_125 (pc' := 127) rfl rfl ?_
      refine Wp.aconstNull at_127 (pc' := 128) rfl ?_
      refine Wp.astore (l' := #[.val (.int p0), .val (.int p1), .val (.int p2), .val (.int p3), .val (.ref b1), .val (.ref b4), .val (.ref b6), .val (.int (3 : Int32)), .val (.int (1 : Int32)), .val .null, .unset]) at_128 (pc' := 130) rfl rfl rfl ?_
      refine Wp.iload at_130 (pc' := 132) rfl rfl ?_
      refine Wp.if_eq (pc1 := 189) (pc' := 135) at_132 (by decide) (by decide) rfl (fun hc88 => by exact absurd hc88 (by decide)) (fun hc88 => ?_)
      refine Wp.new rfl (hw _ (List.mem_of_getElem? (i := 212) rfl)) (hw _ (List.mem_of_getElem? (i := 213) rfl)) (hw _ (List.mem_of_getElem? (i := 214) rfl)) at_135 (pc' := 138) rfl (k' := 13) (n' := 41) rfl rfl (by decide) (by decide) (fun h89 b89 g_b89 sz_b89 Xh89 E_b89 D_b89 => ?_)
      have ne_b1_b89 : b1 ≠ b89 := Nat.ne_of_lt (Nat.lt_of_lt_of_eq V_b1.lt g_b89.symm)
      have ne_b4_b89 : b4 ≠ b89 := Nat.ne_of_lt (Nat.lt_of_lt_of_eq E_b4.lt g_b89.symm)
      have ne_b6_b89 : b6 ≠ b89 := Nat.ne_of_lt (Nat.lt_of_lt_of_eq E_b6.lt g_b89.symm)
      have ne_v69_b89 : v69 ≠ b89 := Nat.ne_of_lt (Nat.lt_of_lt_of_eq E_v69.lt g_b89.symm)
      have ne_d72_b89 : d72 ≠ b89 := Nat.ne_of_lt (Nat.lt_of_lt_of_eq E_d72.lt g_b89.symm)
      have ne_v93_b89 : v93 ≠ b89 := Nat.ne_of_lt (Nat.lt_of_lt_of_eq E_v93.lt g_b89.symm)
      replace V_b1 := V_b1.ext Xh89
      replace E_b4 := E_b4.ext Xh89
      replace E_b6 := E_b6.ext Xh89
      replace E_v69 := E_v69.ext Xh89
      replace E_d72 := E_d72.ext Xh89
      replace E_v93 := E_v93.ext Xh89
      replace M_b6 := M_b6.ext Xh89
      replace L_b6 := L_b6.ext Xh89
      replace Z_b6 := Z_b6.ext Xh89
      replace V_d72 := V_d72.ext Xh89
      have F_expression_b89 : Fld Z h89 b89 "com/example/rootward/rootward/policy/Condition" "expression" "Ljava/lang/String;" .null := D_b89 (Or.inr (hw _ (List.mem_of_getElem? (i := 223) rfl))) (ty := (.object "java/lang/String")) (by decide)
      have F_title_b89 : Fld Z h89 b89 "com/example/rootward/rootward/policy/Condition" "title" "Ljava/lang/String;" .null := D_b89 (Or.inr (hw _ (List.mem_of_getElem? (i := 226) rfl))) (ty := (.object "java/lang/String")) (by decide)
      have F_description_b89 : Fld Z h89 b89 "com/example/rootward/rootward/policy/Condition" "description" "Ljava/lang/String;" .null := D_b89 (Or.inr (hw _ (List.mem_of_getElem? (i := 229) rfl))) (ty := (.object "java/lang/String")) (by decide)
      have F_location_b89 : Fld Z h89 b89 "com/example/rootward/rootward/policy/Condition" "location" "Ljava/lang/String;" .null := D_b89 (Or.inr (hw _ (List.mem_of_getElem? (i := 232) rfl))) (ty := (.object "java/lang/String")) (by decide)
      clear D_b89
      refine Wp.dup at_138 (pc' := 139) rfl rfl ?_
      refine Wp.iloadN at_139 (pc' := 140) rfl rfl ?_
      refine Wp.sipush (x := (255 : Int32)) at_140 (pc' := 143) rfl rfl ?_
      refine Wp.iand at_143 (pc' := 144) rfl ?_
      refine Wp.i2c at_144 (pc' := 145) rfl ?_
      rw [i2c_mask]
      refine Wp.old fun hOc => ?_
      refine Wp.callS (W := 2) (argsL := [(.int (p3 &&& (255 : Int32)))]) (rest := [(.ref b89), (.ref b89)]) rfl (ctVOF l Z a0 hw hE (p3 &&& (255 : Int32)) cz h89 hOc (own_255 _).1 hco hcz) (hw _ (List.mem_of_getElem? (i := 54) rfl)) (hw _ (List.mem_of_getElem? (i := 55) rfl)) (hw _ (List.mem_of_getElem? (i := 56) rfl)) (hw _ (List.mem_of_getElem? (i := 3) rfl)) (by decide) (lenOf pd__C_Ljava_lang_String_ rfl) at_145 rfl rfl rfl (Nat.le_of_eq rfl) (pc' := 148) rfl nofun nofun (by decide) (by decide) (k' := 15) (n' := 46) rfl rfl (by decide) (by decide) (fun vh90 h90 zh90 Kh90 qh90 => ?_)
      obtain ⟨v145, rfl, sb_v145, T_v145⟩ := qh90
      have E_v145 := T_v145.1
      clear T_v145
      have ne_b1_v145 : b1 ≠ v145 := Nat.ne_of_lt (Nat.lt_of_lt_of_le V_b1.lt sb_v145)
      have ne_b4_v145 : b4 ≠ v145 := Nat.ne_of_lt (Nat.lt_of_lt_of_le E_b4.lt sb_v145)
      have ne_b6_v145 : b6 ≠ v145 := Nat.ne_of_lt (Nat.lt_of_lt_of_le E_b6.lt sb_v145)
      have ne_v69_v145 : v69 ≠ v145 := Nat.ne_of_lt (Nat.lt_of_lt_of_le E_v69.lt sb_v145)
      have ne_d72_v145 : d72 ≠ v145 := Nat.ne_of_lt (Nat.lt_of_lt_of_le E_d72.lt sb_v145)
      have ne_v93_v145 : v93 ≠ v145 := Nat.ne_of_lt (Nat.lt_of_lt_of_le E_v93.lt sb_v145)
      have ne_b89_v145 : b89 ≠ v145 := Nat.ne_of_lt (Nat.lt_of_lt_of_le E_b89.lt sb_v145)
      replace V_b1 := V_b1.keep Kh90 nin0
      replace E_b4 := E_b4.keep Kh90
      replace E_b6 := E_b6.keep Kh90
      replace E_v69 := E_v69.keep Kh90
      replace E_d72 := E_d72.keep Kh90
      replace E_v93 := E_v93.keep Kh90
      replace M_b6 := M_b6.keep Kh90 nin0
      replace L_b6 := L_b6.keep Kh90 nin0
      replace Z_b6 := Z_b6.keep Kh90 nin0
      replace V_d72 := V_d72.keep Kh90 nin0
      replace E_b89 := E_b89.keep Kh90
      replace F_expression_b89 := F_expression_b89.keep Kh90 nin0
      replace F_title_b89 := F_title_b89.keep Kh90 nin0
      replace F_description_b89 := F_description_b89.keep Kh90 nin0
      replace F_location_b89 := F_location_b89.keep Kh90 nin0
      refine Wp.eqS (S' := [(.ref v145), (.ref b89), (.ref b89)]) rfl ?_
      have sz_v145 : h0.size ≤ v145 := Nat.le_trans zh90 sb_v145
      refine Wp.iloadN at_148 (pc' := 149) rfl rfl ?_
      refine Wp.bipush (x := (8 : Int32)) at_149 (pc' := 151) rfl rfl ?_
      refine Wp.iushr at_151 (pc' := 152) rfl ?_
      refine Wp.sipush (x := (255 : Int32)) at_152 (pc' := 155) rfl rfl ?_
      refine Wp.iand at_155 (pc' := 156) rfl ?_
      refine Wp.i2c at_156 (pc' := 157) rfl ?_
      rw [i2c_mask]
      refine Wp.old fun hOc => ?_
      refine Wp.callS (W := 3) (argsL := [(.int (((p3.toUInt32 >>> ((8 : Int32) &&& 31).toUInt32).toInt32) &&& (255 : Int32)))]) (rest := [(.ref v145), (.ref b89), (.ref b89)]) rfl (ctVOF l Z a0 hw hE (((p3.toUInt32 >>> ((8 : Int32) &&& 31).toUInt32).toInt32) &&& (255 : Int32)) cz h90 hOc (own_255 _).1 hco hcz) (hw _ (List.mem_of_getElem? (i := 54) rfl)) (hw _ (List.mem_of_getElem? (i := 55) rfl)) (hw _ (List.mem_of_getElem? (i := 56) rfl)) (hw _ (List.mem_of_getElem? (i := 3) rfl)) (by decide) (lenOf pd__C_Ljava_lang_String_ rfl) at_157 rfl rfl rfl (Nat.le_of_eq rfl) (pc' := 160) rfl nofun nofun (by decide) (by decide) (k' := 17) (n' := 51) rfl rfl (by decide) (by decide) (fun vh91 h91 zh91 Kh91 qh91 => ?_)
      obtain ⟨v157, rfl, sb_v157, T_v157⟩ := qh91
      have E_v157 := T_v157.1
      clear T_v157
      have ne_b1_v157 : b1 ≠ v157 := Nat.ne_of_lt (Nat.lt_of_lt_of_le V_b1.lt sb_v157)
      have ne_b4_v157 : b4 ≠ v157 := Nat.ne_of_lt (Nat.lt_of_lt_of_le E_b4.lt sb_v157)
      have ne_b6_v157 : b6 ≠ v157 := Nat.ne_of_lt (Nat.lt_of_lt_of_le E_b6.lt sb_v157)
      have ne_v69_v157 : v69 ≠ v157 := Nat.ne_of_lt (Nat.lt_of_lt_of_le E_v69.lt sb_v157)
      have ne_d72_v157 : d72 ≠ v157 := Nat.ne_of_lt (Nat.lt_of_lt_of_le E_d72.lt sb_v157)
      have ne_v93_v157 : v93 ≠ v157 := Nat.ne_of_lt (Nat.lt_of_lt_of_le E_v93.lt sb_v157)
      have ne_b89_v157 : b89 ≠ v157 := Nat.ne_of_lt (Nat.lt_of_lt_of_le E_b89.lt sb_v157)
      have ne_v145_v157 : v145 ≠ v157 := Nat.ne_of_lt (Nat.lt_of_lt_of_le E_v145.lt sb_v157)
      replace V_b1 := V_b1.keep Kh91 nin0
      replace E_b4 := E_b4.keep Kh91
      replace E_b6 := E_b6.keep Kh91
      replace E_v69 := E_v69.keep Kh91
      replace E_d72 := E_d72.keep Kh91
      replace E_v93 := E_v93.keep Kh91
      replace M_b6 := M_b6.keep Kh91 nin0
      replace L_b6 := L_b6.keep Kh91 nin0
      replace Z_b6 := Z_b6.keep Kh91 nin0
      replace V_d72 := V_d72.keep Kh91 nin0
      replace E_b89 := E_b89.keep Kh91
      replace F_expression_b89 := F_expression_b89.keep Kh91 nin0
      replace F_title_b89 := F_title_b89.keep Kh91 nin0
      replace F_description_b89 := F_description_b89.keep Kh91 nin0
      replace F_location_b89 := F_location_b89.keep Kh91 nin0
      replace E_v145 := E_v145.keep Kh91
      refine Wp.eqS (S' := [(.ref v157), (.ref v145), (.ref b89), (.ref b89)]) rfl ?_
      have sz_v157 : h0.size ≤ v157 := Nat.le_trans zh91 sb_v157
      refine Wp.iloadN at_160 (pc' := 161) rfl rfl ?_
      refine Wp.bipush (x := (16 : Int32)) at_161 (pc' := 163) rfl rfl ?_
      refine Wp.iushr at_163 (pc' := 164) rfl ?_
      refine Wp.sipush (x := (255 : Int32)) at_164 (pc' := 167) rfl rfl ?_
      refine Wp.iand at_167 (pc' := 168) rfl ?_
      refine Wp.i2c at_168 (pc' := 169) rfl ?_
      rw [i2c_mask]
      refine Wp.old fun hOc => ?_
      refine Wp.callS (W := 4) (argsL := [(.int (((p3.toUInt32 >>> ((16 : Int32) &&& 31).toUInt32).toInt32) &&& (255 : Int32)))]) (rest := [(.ref v157), (.ref v145), (.ref b89), (.ref b89)]) rfl (ctVOF l Z a0 hw hE (((p3.toUInt32 >>> ((16 : Int32) &&& 31).toUInt32).toInt32) &&& (255 : Int32)) cz h91 hOc (own_255 _).1 hco hcz) (hw _ (List.mem_of_getElem? (i := 54) rfl)) (hw _ (List.mem_of_getElem? (i := 55) rfl)) (hw _ (List.mem_of_getElem? (i := 56) rfl)) (hw _ (List.mem_of_getElem? (i := 3) rfl)) (by decide) (lenOf pd__C_Ljava_lang_String_ rfl) at_169 rfl rfl rfl (Nat.le_of_eq rfl) (pc' := 172) rfl nofun nofun (by decide) (by decide) (k' := 19) (n' := 56) rfl rfl (by decide) (by decide) (fun vh92 h92 zh92 Kh92 qh92 => ?_)
      obtain ⟨v169, rfl, sb_v169, T_v169⟩ := qh92
      have E_v169 := T_v169.1
      clear T_v169
      have ne_b1_v169 : b1 ≠ v169 := Nat.ne_of_lt (Nat.lt_of_lt_of_le V_b1.lt sb_v169)
      have ne_b4_v169 : b4 ≠ v169 := Nat.ne_of_lt (Nat.lt_of_lt_of_le E_b4.lt sb_v169)
      have ne_b6_v169 : b6 ≠ v169 := Nat.ne_of_lt (Nat.lt_of_lt_of_le E_b6.lt sb_v169)
      have ne_v69_v169 : v69 ≠ v169 := Nat.ne_of_lt (Nat.lt_of_lt_of_le E_v69.lt sb_v169)
      have ne_d72_v169 : d72 ≠ v169 := Nat.ne_of_lt (Nat.lt_of_lt_of_le E_d72.lt sb_v169)
      have ne_v93_v169 : v93 ≠ v169 := Nat.ne_of_lt (Nat.lt_of_lt_of_le E_v93.lt sb_v169)
      have ne_b89_v169 : b89 ≠ v169 := Nat.ne_of_lt (Nat.lt_of_lt_of_le E_b89.lt sb_v169)
      have ne_v145_v169 : v145 ≠ v169 := Nat.ne_of_lt (Nat.lt_of_lt_of_le E_v145.lt sb_v169)
      have ne_v157_v169 : v157 ≠ v169 := Nat.ne_of_lt (Nat.lt_of_lt_of_le E_v157.lt sb_v169)
      replace V_b1 := V_b1.keep Kh92 nin0
      replace E_b4 := E_b4.keep Kh92
      replace E_b6 := E_b6.keep Kh92
      replace E_v69 := E_v69.keep Kh92
      replace E_d72 := E_d72.keep Kh92
      replace E_v93 := E_v93.keep Kh92
      replace M_b6 := M_b6.keep Kh92 nin0
      replace L_b6 := L_b6.keep Kh92 nin0
      replace Z_b6 := Z_b6.keep Kh92 nin0
      replace V_d72 := V_d72.keep Kh92 nin0
      replace E_b89 := E_b89.keep Kh92
      replace F_expression_b89 := F_expression_b89.keep Kh92 nin0
      replace F_title_b89 := F_title_b89.keep Kh92 nin0
      replace F_description_b89 := F_description_b89.keep Kh92 nin0
      replace F_location_b89 := F_location_b89.keep Kh92 nin0
      replace E_v145 := E_v145.keep Kh92
      replace E_v157 := E_v157.keep Kh92
      refine Wp.eqS (S' := [(.ref v169), (.ref v157), (.ref v145), (.ref b89), (.ref b89)]) rfl ?_
      have sz_v169 : h0.size ≤ v169 := Nat.le_trans zh92 sb_v169
      refine Wp.iloadN at_172 (pc' := 173) rfl rfl ?_
      refine Wp.bipush (x := (24 : Int32)) at_173 (pc' := 175) rfl rfl ?_
      refine Wp.iushr at_175 (pc' := 176) rfl ?_
      refine Wp.sipush (x := (255 : Int32)) at_176 (pc' := 179) rfl rfl ?_
      refine Wp.iand at_179 (pc' := 180) rfl ?_
      refine Wp.i2c at_180 (pc' := 181) rfl ?_
      rw [i2c_mask]
      refine Wp.old fun hOc => ?_
      refine Wp.callS (W := 5) (argsL := [(.int (((p3.toUInt32 >>> ((24 : Int32) &&& 31).toUInt32).toInt32) &&& (255 : Int32)))]) (rest := [(.ref v169), (.ref v157), (.ref v145), (.ref b89), (.ref b89)]) rfl (ctVOF l Z a0 hw hE (((p3.toUInt32 >>> ((24 : Int32) &&& 31).toUInt32).toInt32) &&& (255 : Int32)) cz h92 hOc (own_255 _).1 hco hcz) (hw _ (List.mem_of_getElem? (i := 54) rfl)) (hw _ (List.mem_of_getElem? (i := 55) rfl)) (hw _ (List.mem_of_getElem? (i := 56) rfl)) (hw _ (List.mem_of_getElem? (i := 3) rfl)) (by decide) (lenOf pd__C_Ljava_lang_String_ rfl) at_181 rfl rfl rfl (Nat.le_of_eq rfl) (pc' := 184) rfl nofun nofun (by decide) (by decide) (k' := 21) (n' := 61) rfl rfl (by decide) (by decide) (fun vh93 h93 zh93 Kh93 qh93 => ?_)
      obtain ⟨v181, rfl, sb_v181, T_v181⟩ := qh93
      have E_v181 := T_v181.1
      clear T_v181
      have ne_b1_v181 : b1 ≠ v181 := Nat.ne_of_lt (Nat.lt_of_lt_of_le V_b1.lt sb_v181)
      have ne_b4_v181 : b4 ≠ v181 := Nat.ne_of_lt (Nat.lt_of_lt_of_le E_b4.lt sb_v181)
      have ne_b6_v181 : b6 ≠ v181 := Nat.ne_of_lt (Nat.lt_of_lt_of_le E_b6.lt sb_v181)
      have ne_v69_v181 : v69 ≠ v181 := Nat.ne_of_lt (Nat.lt_of_lt_of_le E_v69.lt sb_v181)
      have ne_d72_v181 : d72 ≠ v181 := Nat.ne_of_lt (Nat.lt_of_lt_of_le E_d72.lt sb_v181)
      have ne_v93_v181 : v93 ≠ v181 := Nat.ne_of_lt (Nat.lt_of_lt_of_le E_v93.lt sb_v181)
      have ne_b89_v181 : b89 ≠ v181 := Nat.ne_of_lt (Nat.lt_of_lt_of_le E_b89.lt sb_v181)
      have ne_v145_v181 : v145 ≠ v181 := Nat.ne_of_lt (Nat.lt_of_lt_of_le E_v145.lt sb_v181)
      have ne_v157_v181 : v157 ≠ v181 := Nat.ne_of_lt (Nat.lt_of_lt_of_le E_v157.lt sb_v181)
      have ne_v169_v181 : v169 ≠ v181 := Nat.ne_of_lt (Nat.lt_of_lt_of_le E_v169.lt sb_v181)
      replace V_b1 := V_b1.keep Kh93 nin0
      replace E_b4 := E_b4.keep Kh93
      replace E_b6 := E_b6.keep Kh93
      replace E_v69 := E_v69.keep Kh93
      replace E_d72 := E_d72.keep Kh93
      replace E_v93 := E_v93.keep Kh93
      replace M_b6 := M_b6.keep Kh93 nin0
      replace L_b6 := L_b6.keep Kh93 nin0
      replace Z_b6 := Z_b6.keep Kh93 nin0
      replace V_d72 := V_d72.keep Kh93 nin0
      replace E_b89 := E_b89.keep Kh93
      replace F_expression_b89 := F_expression_b89.keep Kh93 nin0
      replace F_title_b89 := F_title_b89.keep Kh93 nin0
      replace F_description_b89 := F_description_b89.keep Kh93 nin0
      replace F_location_b89 := F_location_b89.keep Kh93 nin0
      replace E_v145 := E_v145.keep Kh93
      replace E_v157 := E_v157.keep Kh93
      replace E_v169 := E_v169.keep Kh93
      refine Wp.eqS (S' := [(.ref v181), (.ref v169), (.ref v157), (.ref v145), (.ref b89), (.ref b89)]) rfl ?_
      have sz_v181 : h0.size ≤ v181 := Nat.le_trans zh93 sb_v181
      refine Wp.old fun hOc => ?_
      refine Wp.callI (a := b89) (W := 1) (argsL := [(.ref v145), (.ref v157), (.ref v169), (.ref v181)]) (rest := [(.ref b89)]) rfl (ctCD l Z a0 hw hE b89 v145 v157 v169 v181 h93 hOc (Nat.le_trans hO.1 sz_b89) E_b89 F_expression_b89 F_title_b89 F_description_b89 F_location_b89 E_v145 E_v157 E_v169 E_v181) rfl rfl (hw _ (List.mem_of_getElem? (i := 215) rfl)) (hw _ (List.mem_of_getElem? (i := 216) rfl)) (hw _ (List.mem_of_getElem? (i := 217) rfl)) (hw _ (List.mem_of_getElem? (i := 214) rfl)) (by decide) (lenOf pd__Ljava_lang_String_Ljava_lang_String_Ljava_lang_String_Ljava_lang_String__V rfl) at_184 rfl rfl rfl (Nat.le_of_eq rfl) (pc' := 187) rfl nofun (by intro x hx; simp only [List.mem_cons, List.not_mem_nil, or_false] at hx; rcases hx with rfl; exact (Or.inr sz_b89)) (by decide) (by decide) (k' := 29) (n' := 213) rfl rfl (by decide) (by decide) (fun vh94 h94 zh94 Kh94 qh94 => ?_)
      obtain rfl := qh94
      replace V_b1 := V_b1.keep Kh94 (ninS ne_b1_b89 nin0)
      replace E_b4 := E_b4.keep Kh94
      replace E_b6 := E_b6.keep Kh94
      replace E_v69 := E_v69.keep Kh94
      replace E_d72 := E_d72.keep Kh94
      replace E_v93 := E_v93.keep Kh94
      replace M_b6 := M_b6.keep Kh94 (ninS ne_b6_b89 nin0)
      replace L_b6 := L_b6.keep Kh94 (ninS ne_b6_b89 nin0)
      replace Z_b6 := Z_b6.keep Kh94 (ninS ne_b6_b89 nin0)
      replace V_d72 := V_d72.keep Kh94 (ninS ne_d72_b89 nin0)
      replace E_b89 := E_b89.keep Kh94
      replace E_v145 := E_v145.keep Kh94
      replace E_v157 := E_v157.keep Kh94
      replace E_v169 := E_v169.keep Kh94
      replace E_v181 := E_v181.keep Kh94
      refine Wp.eqS (S' := [(.ref b89)]) rfl ?_
      refine Wp.astore (l' := #[.val (.int p0), .val (.int p1), .val (.int p2), .val (.int p3), .val (.ref b1), .val (.ref b4), .val (.ref b6), .val (.int (3 : Int32)), .val (.int (1 : Int32)), .val (.ref b89), .unset]) at_187 (pc' := 189) rfl rfl rfl ?_
      refine Wp.new rfl (hw _ (List.mem_of_getElem? (i := 99) rfl)) (hw _ (List.mem_of_getElem? (i := 100) rfl)) (hw _ (List.mem_of_getElem? (i := 101) rfl)) at_189 (pc' := 192) rfl (k' := 30) (n' := 216) rfl rfl (by decide) (by decide) (fun h95 b95 g_b95 sz_b95 Xh95 E_b95 D_b95 => ?_)
      have ne_b1_b95 : b1 ≠ b95 := Nat.ne_of_lt (Nat.lt_of_lt_of_eq V_b1.lt g_b95.symm)
      have ne_b4_b95 : b4 ≠ b95 := Nat.ne_of_lt (Nat.lt_of_lt_of_eq E_b4.lt g_b95.symm)
      have ne_b6_b95 : b6 ≠ b95 := Nat.ne_of_lt (Nat.lt_of_lt_of_eq E_b6.lt g_b95.symm)
      have ne_v69_b95 : v69 ≠ b95 := Nat.ne_of_lt (Nat.lt_of_lt_of_eq E_v69.lt g_b95.symm)
      have ne_d72_b95 : d72 ≠ b95 := Nat.ne_of_lt (Nat.lt_of_lt_of_eq E_d72.lt g_b95.symm)
      have ne_v93_b95 : v93 ≠ b95 := Nat.ne_of_lt (Nat.lt_of_lt_of_eq E_v93.lt g_b95.symm)
      have ne_b89_b95 : b89 ≠ b95 := Nat.ne_of_lt (Nat.lt_of_lt_of_eq E_b89.lt g_b95.symm)
      have ne_v145_b95 : v145 ≠ b95 := Nat.ne_of_lt (Nat.lt_of_lt_of_eq E_v145.lt g_b95.symm)
      have ne_v157_b95 : v157 ≠ b95 := Nat.ne_of_lt (Nat.lt_of_lt_of_eq E_v157.lt g_b95.symm)
      have ne_v169_b95 : v169 ≠ b95 := Nat.ne_of_lt (Nat.lt_of_lt_of_eq E_v169.lt g_b95.symm)
      have ne_v181_b95 : v181 ≠ b95 := Nat.ne_of_lt (Nat.lt_of_lt_of_eq E_v181.lt g_b95.symm)
      replace V_b1 := V_b1.ext Xh95
      replace E_b4 := E_b4.ext Xh95
      replace E_b6 := E_b6.ext Xh95
      replace E_v69 := E_v69.ext Xh95
      replace E_d72 := E_d72.ext Xh95
      replace E_v93 := E_v93.ext Xh95
      replace M_b6 := M_b6.ext Xh95
      replace L_b6 := L_b6.ext Xh95
      replace Z_b6 := Z_b6.ext Xh95
      replace V_d72 := V_d72.ext Xh95
      replace E_b89 := E_b89.ext Xh95
      replace E_v145 := E_v145.ext Xh95
      replace E_v157 := E_v157.ext Xh95
      replace E_v169 := E_v169.ext Xh95
      replace E_v181 := E_v181.ext Xh95
      have F_role_b95 : Fld Z h95 b95 "com/example/rootward/rootward/policy/Binding" "role" "Ljava/lang/String;" .null := D_b95 (Or.inr (hw _ (List.mem_of_getElem? (i := 115) rfl))) (ty := (.object "java/lang/String")) (by decide)
      have F_members_b95 : Fld Z h95 b95 "com/example/rootward/rootward/policy/Binding" "members" "Ljava/util/List;" .null := D_b95 (Or.inr (hw _ (List.mem_of_getElem? (i := 204) rfl))) (ty := (.object "java/util/List")) (by decide)
      have F_condition_b95 : Fld Z h95 b95 "com/example/rootward/rootward/policy/Binding" "condition" "Lcom/example/rootward/rootward/policy/Condition;" .null := D_b95 (Or.inr (hw _ (List.mem_of_getElem? (i := 206) rfl))) (ty := (.object "com/example/rootward/rootward/policy/Condition")) (by decide)
      clear D_b95
      refine Wp.dup at_192 (pc' := 193) rfl rfl ?_
      refine Wp.aload at_193 (pc' := 195) rfl rfl rfl ?_
      refine Wp.aload at_195 (pc' := 197) rfl rfl rfl ?_
      refine Wp.aload at_197 (pc' := 199) rfl rfl rfl ?_
      refine Wp.old fun hOc => ?_
      refine Wp.callI (a := b95) (W := 1) (argsL := [(.ref b4), (.ref b6), (.ref b89)]) (rest := [(.ref b95)]) rfl (ctBI_3r l Z a0 hw hE b95 b4 b89 b6 d72 mr k_d72 v69 v93 b4 em h95 hOc (Nat.le_trans hO.1 sz_b95) E_b95 E_b4 F_role_b95 F_members_b95 F_condition_b95 ne_b6_b95 ne_d72_b95 E_b6 L_b6 Z_b6 hM E_d72 V_d72 E_v69 E_v93 E_b4 hem) rfl rfl (hw _ (List.mem_of_getElem? (i := 102) rfl)) (hw _ (List.mem_of_getElem? (i := 103) rfl)) (hw _ (List.mem_of_getElem? (i := 104) rfl)) (hw _ (List.mem_of_getElem? (i := 101) rfl)) (by decide) (lenOf pd__Ljava_lang_String_Ljava_util_Collection_Lcom_example_rootward_rootward_policy_Condition__V rfl) at_199 rfl rfl rfl (Nat.le_of_eq rfl) (pc' := 202) rfl nofun (by intro x hx; simp only [List.mem_cons, List.not_mem_nil, or_false] at hx; rcases hx with rfl; exact (Or.inr sz_b95)) (by decide) (by decide) (k' := 35) (n' := 244) rfl rfl (by decide) (by decide) (fun vh96 h96 zh96 Kh96 qh96 => ?_)
      obtain ⟨rfl, C_b95⟩ := qh96
      replace V_b1 := V_b1.keep Kh96 (ninS ne_b1_b95 nin0)
      replace E_b4 := E_b4.keep Kh96
      replace E_b6 := E_b6.keep Kh96
      replace E_v69 := E_v69.keep Kh96
      replace E_d72 := E_d72.keep Kh96
      replace E_v93 := E_v93.keep Kh96
      replace M_b6 := M_b6.keep Kh96 (ninS ne_b6_b95 nin0)
      replace L_b6 := L_b6.keep Kh96 (ninS ne_b6_b95 nin0)
      replace Z_b6 := Z_b6.keep Kh96 (ninS ne_b6_b95 nin0)
      replace V_d72 := V_d72.keep Kh96 (ninS ne_d72_b95 nin0)
      replace E_b89 := E_b89.keep Kh96
      replace E_v145 := E_v145.keep Kh96
      replace E_v157 := E_v157.keep Kh96
      replace E_v169 := E_v169.keep Kh96
      replace E_v181 := E_v181.keep Kh96
      replace E_b95 := E_b95.keep Kh96
      refine Wp.eqS (S' := [(.ref b95)]) rfl ?_
      refine Wp.astore (l' := #[.val (.int p0), .val (.int p1), .val (.int p2), .val (.int p3), .val (.ref b1), .val (.ref b4), .val (.ref b6), .val (.int (3 : Int32)), .val (.int (1 : Int32)), .val (.ref b89), .val (.ref b95)]) at_202 (pc' := 204) rfl rfl rfl ?_
      refine Wp.aload at_204 (pc' := 206) rfl rfl rfl ?_
      refine Wp.old fun hOc => ?_
      refine Wp.callV (a := b95) (x' := (⟨"com/example/rootward/rootward/policy/Binding", "isConditional", "()Z"⟩ : MethodName)) (W := 0) (argsL := []) (rest := []) rfl (ctICr l Z a0 hw hE b95 b89 h96 hOc C_b95) (hw _ (List.mem_of_getElem? (i := 207) rfl)) (hw _ (List.mem_of_getElem? (i := 208) rfl)) (hw _ (List.mem_of_getElem? (i := 210) rfl)) (hw _ (List.mem_of_getElem? (i := 209) rfl)) (hw _ (List.mem_of_getElem? (i := 211) rfl)) (hw _ (List.mem_of_getElem? (i := 101) rfl)) (fun s hZ => nf_sel rfl (hw _ (List.mem_of_getElem? (i := 210) rfl)) s hZ rfl) E_b95 (by decide) (lenOf pd___Z rfl) at_206 rfl rfl rfl (Nat.le_of_eq rfl) (pc' := 209) rfl nofun nofun (by decide) (by decide) (k' := 35) (n' := 244) rfl rfl (by decide) (by decide) (fun vh97 h97 zh97 Kh97 qh97 => ?_)
      obtain rfl := qh97
      replace V_b1 := V_b1.keep Kh97 nin0
      replace E_b4 := E_b4.keep Kh97
      replace E_b6 := E_b6.keep Kh97
      replace E_v69 := E_v69.keep Kh97
      replace E_d72 := E_d72.keep Kh97
      replace E_v93 := E_v93.keep Kh97
      replace M_b6 := M_b6.keep Kh97 nin0
      replace L_b6 := L_b6.keep Kh97 nin0
      replace Z_b6 := Z_b6.keep Kh97 nin0
      replace V_d72 := V_d72.keep Kh97 nin0
      replace E_b89 := E_b89.keep Kh97
      replace E_v145 := E_v145.keep Kh97
      replace E_v157 := E_v157.keep Kh97
      replace E_v169 := E_v169.keep Kh97
      replace E_v181 := E_v181.keep Kh97
      replace E_b95 := E_b95.keep Kh97
      replace C_b95 := C_b95.keep Kh97 nin0
      refine Wp.eqS (S' := [(.int (1 : Int32))]) rfl ?_
      refine Wp.iload at_209 (pc' := 211) rfl rfl ?_
      refine Wp.icmp_ne (pc1 := 218) (pc' := 214) at_211 (by decide) (by decide) rfl (fun hc98 => by exact absurd hc98 (by decide)) (fun hc98 => ?_)
      refine Wp.iconst (x := (1 : Int32)) at_214 (pc' := 215) rfl rfl ?_
      refine Wp.goto (pc' := 219) at_215 (by decide) (by decide) ?_
      refine Wp.retN (x' := (1 : Int32)) (t := .boolean) rfl (by simp) rfl at_219 (by decide) (by decide) ?_
      rfl
set_option maxRecDepth 65536 in
set_option maxHeartbeats 40000000 in
theorem comes_1 {Post : Tables → Env → Array Value → State → Outcome → State → Prop} (hpost : ∀ tb e args s v u, (limb_1_1.after args s (.returned v) u = true ∧ limb_1_2.after args s (.returned v) u = true ∧ True) → ReturnedEndW s (.returned v) u (Jvm.fieldLocs frame_1_writes args s ++ Jvm.arrayLocs frame_1_arrays args s ++ Jvm.staticLocs frame_1_statics s) 64 5376 → Post tb e args s (.returned v) u) :
    ArmFor flags0 classFile x code maxLocals ret World_1 tables_1 room_1 Calls_1 rest_1 Pre_1 Post := by
  intro l hfl _ _ p e ha hc hk s m args below hf hA hF happ hP
  obtain ⟨hcalls, hrest, hpre⟩ := hP
  obtain ⟨-, -, -, hnamed, -, -, -, hat⟩ := (Spec.applies_iff hf).mp happ
  obtain ⟨hg, hn⟩ := and_e (Cond.before_iff.mp (show (Jvm.Cond.and given_1 narrow_1).before args s = true from hpre))
  obtain ⟨gc, ga0⟩ := and_e hg
  obtain ⟨ga0, ga1⟩ := and_e ga0
  obtain ⟨ga1, ga2⟩ := and_e ga1
  obtain ⟨ga2, ga3⟩ := and_e ga2
  obtain ⟨w0, w1, w2, w3, rfl⟩ : ∃ w0 w1 w2 w3 : Value, args = #[w0, w1, w2, w3] := by
    have hs : args.size = 4 := by simpa [Cond.value, given_1] using gc
    obtain ⟨L⟩ := args
    match L, hs with
    | [w0, w1, w2, w3], _ => exact ⟨w0, w1, w2, w3, rfl⟩
  have hw := fun d (hd : d ∈ tables_1) => atoms_spec (ws := Jvm.Cond.code x code maxLocals ret :: tables_1) hat d (List.mem_cons_of_mem _ hd)
  obtain ⟨hsets, hown0⟩ := atoms_of _ (rest_1_c_eq ▸ (show rest_1_c.before _ s = true from hrest))
  obtain ⟨i0, ei0⟩ := is_v ga0
  obtain rfl : w0 = (.int i0) := Option.some.inj ei0
  obtain ⟨i1, ei1⟩ := is_v ga1
  obtain rfl : w1 = (.int i1) := Option.some.inj ei1
  obtain ⟨i2, ei2⟩ := is_v ga2
  obtain rfl : w2 = (.int i2) := Option.some.inj ei2
  obtain ⟨i3, ei3⟩ := is_v ga3
  obtain rfl : w3 = (.int i3) := Option.some.inj ei3
  have hn3 := not_v (Cond.before_iff.mp (hsets _ (List.mem_of_getElem? (i := 2) rfl)))
  obtain ⟨cz, ecz⟩ := is_v (Cond.before_iff.mp (hsets _ (List.mem_of_getElem? (i := 1) rfl)))
  have hco := Sta.start ecz (Or.inl (hsets _ (List.mem_of_getElem? (i := 0) rfl)))
  have hcz : ¬ cz = 0 := gotF (Cond.eq_ints ecz (Term.int_eval (0))) hn3
  obtain ⟨de, ede⟩ := arr_v (Cond.before_iff.mp (hsets _ (List.mem_of_getElem? (i := 15) rfl)))
  have hde := Sta.start ede (Or.inr ⟨(hw _ (List.mem_of_getElem? (i := 32) rfl)), (hsets _ (List.mem_of_getElem? (i := 11) rfl))⟩)
  obtain ⟨kde, V_de⟩ := arv_len0 ede (Cond.before_iff.mp (hsets _ (List.mem_of_getElem? (i := 15) rfl))) (Cond.before_iff.mp (hsets _ (List.mem_of_getElem? (i := 17) rfl)))
  obtain ⟨em, eem⟩ := exa_v (Cond.before_iff.mp (hsets _ (List.mem_of_getElem? (i := 27) rfl)))
  have hem := Sta.start eem (Or.inl (hsets _ (List.mem_of_getElem? (i := 26) rfl)))
  obtain ⟨el, eel⟩ := exa_v (Cond.before_iff.mp (hsets _ (List.mem_of_getElem? (i := 20) rfl)))
  have hel := Sta.start eel (Or.inl (hsets _ (List.mem_of_getElem? (i := 19) rfl)))
  obtain ⟨mc, mk, mr, mh⟩ := hcalls.1
  have hM : Mir s "[Ljava/lang/Object;" mr := ⟨mc, mk, mh⟩
  obtain ⟨n, o, h1, h2, h3, _, L, rfl, ⟨N, rfl⟩, -, hq⟩ := (ct0 l s _ hw EW.nil i0 i1 i2 i3 cz de em el mr kde s.heap ⟨Nat.le_refl _, fun _ _ q => q⟩ hco hcz hde V_de hem hel hM) p e ha hc hk s m _ below hf ((Spec.applies_iff_loose hf).mp happ).1 ⟨rfl, State.Warmed39.refl s, rfl, (fun p hp => nomatch hp), fun x hx => nomatch hx⟩ trivial
  refine ⟨n, _, h1, h2, h3, hpost _ _ _ _ _ _ ⟨Cond.after_iff.mpr rfl, Cond.after_iff.mpr (eq_i res_at (Term.int_eval (1)) rfl), trivial⟩ ⟨hq.1.1, hq.1.2.1, hq.1.2.2.1, (hq.1.2.2.2.sift fun y hy => Or.inr ((N y hy).resolve_left (fun q => nomatch q))).mono (by decide) (by decide)⟩⟩
theorem main_1_1 : Claimed_1_1 := comes_1 fun _ _ _ _ _ _ h hF => ⟨h.1, hF⟩
theorem main_1_2 : Claimed_1_2 := comes_1 fun _ _ _ _ _ _ h hF => ⟨h.2.1, hF⟩
end Jvm.Pilot.@@N@@
namespace Jvm.Pilot.@@N@@
open Jvm Jvm.ClassFile Sem Op Lib Jvm.Free Jvm.Stand Jvm.Pilot.@@N@@.Jvm.D
/-! MADE BY PROGRAM (witnessworld.py) out of the Statement's table words and the real class files: 40 classes; the members and pool entries that the words name. The judged class is class 1, her method 1. -/
namespace start1
open Jvm.ClassFile
def u (s : String) : CpInfo := .utf8 (stringToUtf16 s)
/-- a pool by its gaps: so many unusable entries, then the entry; so many at the end -/
def gap : Nat → List CpInfo → List CpInfo
  | 0, r => r
  | n + 1, r => .unusable :: gap n r
def poolList (es : List (Nat × CpInfo)) (last : Nat) : List CpInfo := es.foldr (fun e r => gap e.1 (e.2 :: r)) (gap last [])
def pool (es : List (Nat × CpInfo)) (last : Nat) : Array CpInfo := ⟨poolList es last⟩
def fileOf (pool : Array CpInfo) (this : Nat) (attrs : Array Attribute := #[]) (ms : Array MethodInfo := #[]) (fl : Nat := 33) (sup : Nat := 0) (ifs : Array Nat := #[]) (fds : Array FieldInfo := #[]) : ClassFile where
  minorVersion := 0
  majorVersion := 65
  constantPool := pool
  accessFlags := fl
  thisClass := this
  superClass := sup
  interfaces := ifs
  fields := fds
  methods := ms
  attributes := attrs
def plain (name : String) (sup : Option ClassId) : Class where
  name := name
  kind := .ordinary
  loader := none
  accessFlags := 33
  super := sup
  interfaces := #[]
  cf := none
  fields := #[]
  methods := #[]
  instanceTypes := #[]
  staticTypes := #[]
  resolved := #[]
  callSites := []
  init := .initialized
  statics := none
  mirror := none

def pool0 : Array CpInfo := pool [(5, u "<init>"), (0, u "()V"), (1, .class_ 10), (1, u "java/lang/Object"), (0, u "getClass"), (0, u "()Ljava/lang/Class;")] 111

def k0c0 : Code := { maxStack := 0, maxLocals := 1, code := object_method_1_code, exceptionTable := #[], attributes := #[] }
def k0m0 : Method := { name := "<init>", desc := "()V", sig := { parameters := [], returnType := none }, accessFlags := 1, code := some k0c0 }
def k0m1 : Method := { name := "getClass", desc := "()Ljava/lang/Class;", sig := { parameters := [], returnType := some (.object "java/lang/Class") }, accessFlags := 273, code := none }
/-- java/lang/Object -/
def k0 : Class := { plain "java/lang/Object" none with
  accessFlags := 33
  interfaces := #[]
  cf := some (fileOf pool0 8 #[] #[{ accessFlags := 1, nameIndex := 5, descriptorIndex := 6, attributes := #[] }, { accessFlags := 273, nameIndex := 11, descriptorIndex := 12, attributes := #[] }] 33 0 #[] #[])
  fields := #[]
  methods := #[k0m0, k0m1]
  instanceTypes := #[]
  staticTypes := #[]
  resolved := Array.replicate 124 none
  statics := none }

def pool1 : Array CpInfo := pool [(2, .class_ 4), (0, .nameAndType 5 6), (0, u "java/lang/Object"), (0, u "<init>"), (0, u "()V"), (0, .class_ 8), (0, u "java/lang/String"), (0, .methodref 7 10), (0, .nameAndType 5 11), (0, u "([C)V"), (0, .class_ 13), (0, u "java/util/ArrayList"), (0, .methodref 12 3), (0, .methodref 7 16), (0, .nameAndType 17 18), (0, u "valueOf"), (0, u "(C)Ljava/lang/String;"), (0, .methodref 12 20), (0, .nameAndType 21 22), (0, u "add"), (0, u "(Ljava/lang/Object;)Z"), (0, .class_ 24), (0, u "com/example/rootward/rootward/policy/Condition"), (0, .methodref 23 26), (0, .nameAndType 5 27), (0, u "(Ljava/lang/String;Ljava/lang/String;Ljava/lang/String;Ljava/lang/String;)V"), (0, .class_ 29), (0, u "com/example/rootward/rootward/policy/Binding"), (0, .methodref 28 31), (0, .nameAndType 5 32), (0, u "(Ljava/lang/String;Ljava/util/Collection;Lcom/example/rootward/rootward/policy/Condition;)V"), (0, .methodref 28 34), (0, .nameAndType 35 36), (0, u "isConditional"), (0, u "()Z"), (0, .class_ 38), (0, u "com/example/rootward/rootward/policy/BindingIsConditionalPinLaw"), (2, u "law"), (0, u "(IIII)Z")] 5

def k1m0 : Method := { name := "<init>", desc := "()V", sig := { parameters := [], returnType := none }, accessFlags := 2, code := none }
def k1c1 : Code := { maxStack := 7, maxLocals := 11, code := code, exceptionTable := #[], attributes := #[] }
def k1m1 : Method := { name := "law", desc := "(IIII)Z", sig := { parameters := [.int, .int, .int, .int], returnType := some .boolean }, accessFlags := 9, code := some k1c1 }
/-- com/example/rootward/rootward/policy/BindingIsConditionalPinLaw -/
def k1 : Class := { plain "com/example/rootward/rootward/policy/BindingIsConditionalPinLaw" (some 0) with
  accessFlags := 49
  interfaces := #[]
  cf := some (fileOf pool1 37 #[] #[{ accessFlags := 2, nameIndex := 5, descriptorIndex := 6, attributes := #[] }, { accessFlags := 9, nameIndex := 41, descriptorIndex := 42, attributes := #[] }] 49 2 #[] #[])
  fields := #[]
  methods := #[k1m0, k1m1]
  instanceTypes := #[]
  staticTypes := #[]
  resolved := Array.replicate 48 none
  statics := none }

def pool2 : Array CpInfo := pool [(1, .class_ 2), (0, u "java/io/Serializable"), (0, .class_ 4), (0, u "java/lang/Object")] 2

/-- java/io/Serializable -/
def k2 : Class := { plain "java/io/Serializable" (some 0) with
  accessFlags := 1537
  interfaces := #[]
  cf := some (fileOf pool2 1 #[] #[] 1537 3 #[] #[])
  fields := #[]
  methods := #[]
  instanceTypes := #[]
  staticTypes := #[]
  resolved := Array.replicate 7 none
  statics := none }

def pool3 : Array CpInfo := pool [(1, .class_ 2), (0, u "java/lang/Comparable"), (0, .class_ 4), (0, u "java/lang/Object")] 7

/-- java/lang/Comparable -/
def k3 : Class := { plain "java/lang/Comparable" (some 0) with
  accessFlags := 1537
  interfaces := #[]
  cf := some (fileOf pool3 1 #[] #[] 1537 3 #[] #[])
  fields := #[]
  methods := #[]
  instanceTypes := #[]
  staticTypes := #[]
  resolved := Array.replicate 12 none
  statics := none }

def pool4 : Array CpInfo := pool [(2, .class_ 4), (1, u "java/lang/CharSequence"), (42, .class_ 48), (0, u "java/lang/CharSequence$1CodePointIterator"), (10, .class_ 60), (0, u "java/lang/CharSequence$1CharIterator"), (5, .class_ 67), (0, u "java/lang/Object")] 63

/-- java/lang/CharSequence -/
def k4 : Class := { plain "java/lang/CharSequence" (some 0) with
  accessFlags := 1537
  interfaces := #[]
  cf := some (fileOf pool4 2 #[.nestMembers #[47, 59]] #[] 1537 66 #[] #[])
  fields := #[]
  methods := #[]
  instanceTypes := #[]
  staticTypes := #[]
  resolved := Array.replicate 131 none
  statics := none }

def pool5 : Array CpInfo := pool [(1, .class_ 2), (0, u "java/lang/constant/Constable"), (0, .class_ 4), (0, u "java/lang/Object")] 6

/-- java/lang/constant/Constable -/
def k5 : Class := { plain "java/lang/constant/Constable" (some 0) with
  accessFlags := 1537
  interfaces := #[]
  cf := some (fileOf pool5 1 #[] #[] 1537 3 #[] #[])
  fields := #[]
  methods := #[]
  instanceTypes := #[]
  staticTypes := #[]
  resolved := Array.replicate 11 none
  statics := none }

def pool6 : Array CpInfo := pool [(1, .class_ 2), (0, u "java/lang/constant/ConstantDesc"), (0, .class_ 4), (0, u "java/lang/Object")] 32

/-- java/lang/constant/ConstantDesc -/
def k6 : Class := { plain "java/lang/constant/ConstantDesc" (some 0) with
  accessFlags := 1537
  interfaces := #[]
  cf := some (fileOf pool6 1 #[] #[] 1537 3 #[] #[])
  fields := #[]
  methods := #[]
  instanceTypes := #[]
  staticTypes := #[]
  resolved := Array.replicate 37 none
  statics := none }

def pool7 : Array CpInfo := pool [(1, .methodref 2 3), (0, .class_ 4), (0, .nameAndType 5 6), (0, u "java/lang/Object"), (0, u "<init>"), (0, u "()V"), (2, .fieldref 10 11), (0, .class_ 12), (0, .nameAndType 13 14), (0, u "java/lang/String"), (0, u "value"), (0, u "[B"), (0, .fieldref 10 16), (0, .nameAndType 17 18), (0, u "coder"), (0, u "B"), (2, u "hash"), (0, u "I"), (2, u "hashIsZero"), (0, u "Z"), (0, .methodref 10 28), (0, .nameAndType 5 29), (0, u "([CIILjava/lang/Void;)V"), (8, .fieldref 10 39), (0, .nameAndType 40 26), (0, u "COMPACT_STRINGS"), (1, .class_ 44), (1, u "java/lang/StringUTF16"), (0, u "compress"), (1, .methodref 42 48), (0, .nameAndType 49 50), (0, u "coderFromArrayLen"), (0, u "([BI)B"), (2, u "toBytes"), (53, .class_ 109), (1, u "java/lang/StringLatin1"), (67, .methodref 42 178), (0, .nameAndType 45 179), (0, u "([CII)[B"), (29, .methodref 10 210), (0, .nameAndType 5 211), (0, u "([BB)V"), (157, u "(C)Z"), (205, .class_ 576), (0, u "java/lang/CharSequence"), (22, u "CASE_INSENSITIVE_ORDER"), (0, u "Ljava/util/Comparator;"), (181, u "valueOf"), (0, u "(C)Ljava/lang/String;"), (226, u "([C)V"), (4, .methodref 107 1016), (0, .nameAndType 1017 369), (0, u "canEncode"), (0, .methodref 107 1019), (0, .nameAndType 53 1020), (0, u "(C)[B"), (80, u "serialPersistentFields"), (0, u "[Ljava/io/ObjectStreamField;"), (0, .class_ 1104), (0, u "java/lang/String$CaseInsensitiveComparator"), (1, .class_ 1107), (0, u "java/io/Serializable"), (0, .class_ 1109), (0, u "java/lang/Comparable"), (0, .class_ 1111), (0, u "java/lang/constant/Constable"), (0, .class_ 1113), (0, u "java/lang/constant/ConstantDesc"), (2, u "serialVersionUID"), (0, u "J"), (3, u "REPL"), (0, u "C"), (2, u "LATIN1"), (1, u "UTF16")] 323

def k7m0 : Method := { name := "<init>", desc := "()V", sig := { parameters := [], returnType := none }, accessFlags := 1, code := none }
def k7c1 : Code := { maxStack := 5, maxLocals := 2, code := jdk_42_method_3_code, exceptionTable := #[], attributes := #[] }
def k7m1 : Method := { name := "<init>", desc := "([C)V", sig := { parameters := [(.array .char)], returnType := none }, accessFlags := 1, code := some k7c1 }
def k7c2 : Code := { maxStack := 4, maxLocals := 1, code := jdk_42_method_139_code, exceptionTable := #[], attributes := #[] }
def k7m2 : Method := { name := "valueOf", desc := "(C)Ljava/lang/String;", sig := { parameters := [.char], returnType := some (.object "java/lang/String") }, accessFlags := 9, code := some k7c2 }
def k7c3 : Code := { maxStack := 4, maxLocals := 6, code := jdk_42_method_149_code, exceptionTable := #[], attributes := #[] }
def k7m3 : Method := { name := "<init>", desc := "([CIILjava/lang/Void;)V", sig := { parameters := [(.array .char), .int, .int, (.object "java/lang/Void")], returnType := none }, accessFlags := 2, code := some k7c3 }
def k7c4 : Code := { maxStack := 2, maxLocals := 3, code := jdk_42_method_151_code, exceptionTable := #[], attributes := #[] }
def k7m4 : Method := { name := "<init>", desc := "([BB)V", sig := { parameters := [(.array .byte), .byte], returnType := none }, accessFlags := 0, code := some k7c4 }
/-- java/lang/String -/
def k7 : Class := { plain "java/lang/String" (some 0) with
  accessFlags := 49
  interfaces := #[2, 3, 4, 5, 6]
  cf := some (fileOf pool7 10 #[.nestMembers #[1103]] #[{ accessFlags := 1, nameIndex := 5, descriptorIndex := 6, attributes := #[] }, { accessFlags := 1, nameIndex := 5, descriptorIndex := 1010, attributes := #[] }, { accessFlags := 9, nameIndex := 782, descriptorIndex := 783, attributes := #[] }, { accessFlags := 2, nameIndex := 5, descriptorIndex := 29, attributes := #[] }, { accessFlags := 0, nameIndex := 5, descriptorIndex := 211, attributes := #[] }] 49 2 #[1106, 1108, 575, 1110, 1112] #[{ accessFlags := 18, nameIndex := 13, descriptorIndex := 14, attributes := #[] }, { accessFlags := 18, nameIndex := 17, descriptorIndex := 18, attributes := #[] }, { accessFlags := 2, nameIndex := 21, descriptorIndex := 22, attributes := #[] }, { accessFlags := 2, nameIndex := 25, descriptorIndex := 26, attributes := #[] }, { accessFlags := 26, nameIndex := 1116, descriptorIndex := 1117, attributes := #[] }, { accessFlags := 24, nameIndex := 40, descriptorIndex := 26, attributes := #[] }, { accessFlags := 26, nameIndex := 1101, descriptorIndex := 1102, attributes := #[] }, { accessFlags := 26, nameIndex := 1121, descriptorIndex := 1122, attributes := #[] }, { accessFlags := 25, nameIndex := 599, descriptorIndex := 600, attributes := #[] }, { accessFlags := 24, nameIndex := 1125, descriptorIndex := 18, attributes := #[] }, { accessFlags := 24, nameIndex := 1127, descriptorIndex := 18, attributes := #[] }])
  fields := #[{ name := "value", type := (.array .byte), accessFlags := 18, slot := 0, constantValue := 0 }, { name := "coder", type := .byte, accessFlags := 18, slot := 1, constantValue := 0 }, { name := "hash", type := .int, accessFlags := 2, slot := 2, constantValue := 0 }, { name := "hashIsZero", type := .boolean, accessFlags := 2, slot := 3, constantValue := 0 }, { name := "serialVersionUID", type := .long, accessFlags := 26, slot := 0, constantValue := 0 }, { name := "COMPACT_STRINGS", type := .boolean, accessFlags := 24, slot := 1, constantValue := 0 }, { name := "serialPersistentFields", type := (.array (.object "java/io/ObjectStreamField")), accessFlags := 26, slot := 2, constantValue := 0 }, { name := "REPL", type := .char, accessFlags := 26, slot := 3, constantValue := 0 }, { name := "CASE_INSENSITIVE_ORDER", type := (.object "java/util/Comparator"), accessFlags := 25, slot := 4, constantValue := 0 }, { name := "LATIN1", type := .byte, accessFlags := 24, slot := 5, constantValue := 0 }, { name := "UTF16", type := .byte, accessFlags := 24, slot := 6, constantValue := 0 }]
  methods := #[k7m0, k7m1, k7m2, k7m3, k7m4]
  instanceTypes := #[(.array .byte), .byte, .int, .boolean]
  staticTypes := #[.long, .boolean, (.array (.object "java/io/ObjectStreamField")), .char, (.object "java/util/Comparator"), .byte, .byte]
  resolved := Array.replicate 1451 none
  statics := some 0 }

def pool8 : Array CpInfo := pool [(6, .class_ 8), (1, u "java/lang/Object"), (0, u "<init>"), (0, u "()V"), (1, .class_ 14), (1, u "java/lang/StringUTF16"), (31, u "$assertionsDisabled"), (0, u "Z"), (13, u "HI_BYTE_SHIFT"), (0, u "I"), (2, u "LO_BYTE_SHIFT"), (49, .methodref 12 116), (0, .nameAndType 117 118), (0, u "compress"), (0, u "([CI[BII)I"), (3, u "([CII)[B"), (138, u "coderFromArrayLen"), (0, u "([BI)B"), (106, .class_ 371), (1, u "java/lang/StringUTF16$LinesSpliterator"), (58, u "MAX_LENGTH"), (196, .class_ 628), (0, u "java/lang/StringUTF16$CodePointsSpliterator"), (0, .class_ 630), (0, u "java/lang/StringUTF16$CharsSpliterator")] 4

def k8m0 : Method := { name := "<init>", desc := "()V", sig := { parameters := [], returnType := none }, accessFlags := 0, code := none }
def k8c1 : Code := { maxStack := 2, maxLocals := 2, code := jdk_52_method_15_code, exceptionTable := #[], attributes := #[] }
def k8m1 : Method := { name := "coderFromArrayLen", desc := "([BI)B", sig := { parameters := [(.array .byte), .int], returnType := some .byte }, accessFlags := 8, code := some k8c1 }
def k8c2 : Code := { maxStack := 5, maxLocals := 6, code := jdk_52_method_16_code, exceptionTable := #[], attributes := #[] }
def k8m2 : Method := { name := "compress", desc := "([CII)[B", sig := { parameters := [(.array .char), .int, .int], returnType := some (.array .byte) }, accessFlags := 9, code := some k8c2 }
def k8c3 : Code := { maxStack := 3, maxLocals := 7, code := jdk_52_method_21_code, exceptionTable := #[], attributes := #[] }
def k8m3 : Method := { name := "compress", desc := "([CI[BII)I", sig := { parameters := [(.array .char), .int, (.array .byte), .int, .int], returnType := some .int }, accessFlags := 9, code := some k8c3 }
/-- java/lang/StringUTF16 -/
def k8 : Class := { plain "java/lang/StringUTF16" (some 0) with
  accessFlags := 48
  interfaces := #[]
  cf := some (fileOf pool8 12 #[.nestMembers #[627, 629, 369]] #[{ accessFlags := 0, nameIndex := 9, descriptorIndex := 10, attributes := #[] }, { accessFlags := 8, nameIndex := 261, descriptorIndex := 262, attributes := #[] }, { accessFlags := 9, nameIndex := 117, descriptorIndex := 122, attributes := #[] }, { accessFlags := 9, nameIndex := 117, descriptorIndex := 118, attributes := #[] }] 48 6 #[] #[{ accessFlags := 26, nameIndex := 61, descriptorIndex := 62, attributes := #[] }, { accessFlags := 26, nameIndex := 65, descriptorIndex := 62, attributes := #[] }, { accessFlags := 24, nameIndex := 430, descriptorIndex := 62, attributes := #[] }, { accessFlags := 4120, nameIndex := 46, descriptorIndex := 47, attributes := #[] }])
  fields := #[{ name := "HI_BYTE_SHIFT", type := .int, accessFlags := 26, slot := 0, constantValue := 0 }, { name := "LO_BYTE_SHIFT", type := .int, accessFlags := 26, slot := 1, constantValue := 0 }, { name := "MAX_LENGTH", type := .int, accessFlags := 24, slot := 2, constantValue := 0 }, { name := "$assertionsDisabled", type := .boolean, accessFlags := 4120, slot := 3, constantValue := 0 }]
  methods := #[k8m0, k8m1, k8m2, k8m3]
  instanceTypes := #[]
  staticTypes := #[.int, .int, .int, .boolean]
  resolved := Array.replicate 635 none
  statics := none }

def pool9 : Array CpInfo := pool [(8, .class_ 10), (1, u "java/lang/Iterable"), (24, .class_ 36), (0, u "java/lang/Object")] 25

/-- java/lang/Iterable -/
def k9 : Class := { plain "java/lang/Iterable" (some 0) with
  accessFlags := 1537
  interfaces := #[]
  cf := some (fileOf pool9 8 #[] #[] 1537 35 #[] #[])
  fields := #[]
  methods := #[]
  instanceTypes := #[]
  staticTypes := #[]
  resolved := Array.replicate 62 none
  statics := none }

def pool10 : Array CpInfo := pool [(10, .class_ 12), (1, u "java/util/Collection"), (0, u "toArray"), (16, u "()Z"), (29, .class_ 61), (0, u "java/lang/Object"), (0, .class_ 63), (0, u "java/lang/Iterable"), (2, u "isEmpty"), (3, u "()[Ljava/lang/Object;")] 44

def k10m0 : Method := { name := "isEmpty", desc := "()Z", sig := { parameters := [], returnType := some .boolean }, accessFlags := 1025, code := none }
def k10m1 : Method := { name := "toArray", desc := "()[Ljava/lang/Object;", sig := { parameters := [], returnType := some (.array (.object "java/lang/Object")) }, accessFlags := 1025, code := none }
/-- java/util/Collection -/
def k10 : Class := { plain "java/util/Collection" (some 0) with
  accessFlags := 1537
  interfaces := #[9]
  cf := some (fileOf pool10 10 #[] #[{ accessFlags := 1025, nameIndex := 66, descriptorIndex := 30, attributes := #[] }, { accessFlags := 1025, nameIndex := 13, descriptorIndex := 70, attributes := #[] }] 1537 60 #[62] #[])
  fields := #[]
  methods := #[k10m0, k10m1]
  instanceTypes := #[]
  staticTypes := #[]
  resolved := Array.replicate 115 none
  statics := none }

def pool11 : Array CpInfo := pool [(1, .methodref 2 3), (0, .class_ 4), (0, .nameAndType 5 6), (0, u "java/lang/Object"), (0, u "<init>"), (0, u "()V"), (1, .class_ 10), (1, u "java/util/AbstractCollection"), (66, .class_ 78), (0, u "java/util/Collection")] 81

def k11c0 : Code := { maxStack := 1, maxLocals := 1, code := jdk_22_method_1_code, exceptionTable := #[], attributes := #[] }
def k11m0 : Method := { name := "<init>", desc := "()V", sig := { parameters := [], returnType := none }, accessFlags := 4, code := some k11c0 }
/-- java/util/AbstractCollection -/
def k11 : Class := { plain "java/util/AbstractCollection" (some 0) with
  accessFlags := 1057
  interfaces := #[10]
  cf := some (fileOf pool11 8 #[] #[{ accessFlags := 4, nameIndex := 5, descriptorIndex := 6, attributes := #[] }] 1057 2 #[77] #[])
  fields := #[]
  methods := #[k11m0]
  instanceTypes := #[]
  staticTypes := #[]
  resolved := Array.replicate 160 none
  statics := none }

def pool12 : Array CpInfo := pool [(8, .class_ 10), (1, u "java/util/SequencedCollection"), (15, .class_ 27), (0, u "java/lang/Object"), (0, .class_ 29), (0, u "java/util/Collection")] 27

/-- java/util/SequencedCollection -/
def k12 : Class := { plain "java/util/SequencedCollection" (some 0) with
  accessFlags := 1537
  interfaces := #[10]
  cf := some (fileOf pool12 8 #[] #[] 1537 26 #[28] #[])
  fields := #[]
  methods := #[]
  instanceTypes := #[]
  staticTypes := #[]
  resolved := Array.replicate 57 none
  statics := none }

def pool13 : Array CpInfo := pool [(8, .class_ 10), (1, u "java/util/List"), (20, u "(Ljava/lang/Object;)V"), (16, u "<init>"), (39, u "of"), (1, .fieldref 91 92), (0, .class_ 93), (0, .nameAndType 94 95), (0, u "java/util/ImmutableCollections"), (0, u "EMPTY_LIST"), (0, u "Ljava/util/ImmutableCollections$ListN;"), (0, .class_ 97), (0, u "java/util/ImmutableCollections$List12"), (0, .methodref 96 99), (0, .nameAndType 48 31), (0, .methodref 96 101), (0, .nameAndType 48 102), (0, u "(Ljava/lang/Object;Ljava/lang/Object;)V"), (0, .class_ 104), (0, u "java/lang/Object"), (3, u "([Ljava/lang/Object;)Ljava/util/List;"), (0, .methodref 91 110), (0, .nameAndType 111 108), (0, u "listFromArray"), (0, .methodref 91 113), (0, .nameAndType 114 115), (0, u "listCopy"), (0, u "(Ljava/util/Collection;)Ljava/util/List;"), (3, u "()Ljava/util/List;"), (0, .class_ 121), (0, u "java/util/SequencedCollection"), (112, u "copyOf")] 16

def k13c0 : Code := { maxStack := 1, maxLocals := 0, code := jdk_40_method_36_code, exceptionTable := #[], attributes := #[] }
def k13m0 : Method := { name := "of", desc := "()Ljava/util/List;", sig := { parameters := [], returnType := some (.object "java/util/List") }, accessFlags := 9, code := some k13c0 }
def k13c1 : Code := { maxStack := 5, maxLocals := 2, code := jdk_40_method_47_code, exceptionTable := #[], attributes := #[] }
def k13m1 : Method := { name := "of", desc := "([Ljava/lang/Object;)Ljava/util/List;", sig := { parameters := [(.array (.object "java/lang/Object"))], returnType := some (.object "java/util/List") }, accessFlags := 137, code := some k13c1 }
def k13c2 : Code := { maxStack := 1, maxLocals := 1, code := jdk_40_method_48_code, exceptionTable := #[], attributes := #[] }
def k13m2 : Method := { name := "copyOf", desc := "(Ljava/util/Collection;)Ljava/util/List;", sig := { parameters := [(.object "java/util/Collection")], returnType := some (.object "java/util/List") }, accessFlags := 9, code := some k13c2 }
/-- java/util/List -/
def k13 : Class := { plain "java/util/List" (some 0) with
  accessFlags := 1537
  interfaces := #[12]
  cf := some (fileOf pool13 8 #[] #[{ accessFlags := 9, nameIndex := 88, descriptorIndex := 119, attributes := #[] }, { accessFlags := 137, nameIndex := 88, descriptorIndex := 108, attributes := #[] }, { accessFlags := 9, nameIndex := 234, descriptorIndex := 115, attributes := #[] }] 1537 103 #[120] #[])
  fields := #[]
  methods := #[k13m0, k13m1, k13m2]
  instanceTypes := #[]
  staticTypes := #[]
  resolved := Array.replicate 251 none
  statics := none }

def pool14 : Array CpInfo := pool [(1, .methodref 2 3), (0, .class_ 4), (0, .nameAndType 5 6), (0, u "java/util/AbstractCollection"), (0, u "<init>"), (0, u "()V"), (0, .fieldref 8 9), (0, .class_ 10), (0, .nameAndType 11 12), (0, u "java/util/AbstractList"), (0, u "modCount"), (0, u "I"), (64, .class_ 78), (0, u "java/util/AbstractList$Itr"), (3, .class_ 83), (0, u "java/util/AbstractList$ListItr"), (9, .class_ 94), (0, u "java/util/AbstractList$RandomAccessSubList"), (3, .class_ 99), (0, u "java/util/AbstractList$SubList"), (33, .class_ 134), (0, u "java/util/List"), (73, .class_ 209), (0, u "java/util/AbstractList$SubList$1"), (0, .class_ 211), (0, u "java/util/AbstractList$RandomAccessSpliterator")] 6

def k14c0 : Code := { maxStack := 2, maxLocals := 1, code := jdk_39_method_1_code, exceptionTable := #[], attributes := #[] }
def k14m0 : Method := { name := "<init>", desc := "()V", sig := { parameters := [], returnType := none }, accessFlags := 4, code := some k14c0 }
/-- java/util/AbstractList -/
def k14 : Class := { plain "java/util/AbstractList" (some 11) with
  accessFlags := 1057
  interfaces := #[13]
  cf := some (fileOf pool14 8 #[.nestMembers #[93, 98, 208, 210, 82, 77]] #[{ accessFlags := 4, nameIndex := 5, descriptorIndex := 6, attributes := #[] }] 1057 2 #[133] #[{ accessFlags := 132, nameIndex := 11, descriptorIndex := 12, attributes := #[] }])
  fields := #[{ name := "modCount", type := .int, accessFlags := 132, slot := 0, constantValue := 0 }]
  methods := #[k14m0]
  instanceTypes := #[.int]
  staticTypes := #[]
  resolved := Array.replicate 218 none
  statics := none }

def pool15 : Array CpInfo := pool [(1, .class_ 2), (0, u "java/util/RandomAccess"), (0, .class_ 4), (0, u "java/lang/Object")] 2

/-- java/util/RandomAccess -/
def k15 : Class := { plain "java/util/RandomAccess" (some 0) with
  accessFlags := 1537
  interfaces := #[]
  cf := some (fileOf pool15 1 #[] #[] 1537 3 #[] #[])
  fields := #[]
  methods := #[]
  instanceTypes := #[]
  staticTypes := #[]
  resolved := Array.replicate 7 none
  statics := none }

def pool16 : Array CpInfo := pool [(1, .class_ 2), (0, u "java/lang/Cloneable"), (0, .class_ 4), (0, u "java/lang/Object")] 2

/-- java/lang/Cloneable -/
def k16 : Class := { plain "java/lang/Cloneable" (some 0) with
  accessFlags := 1537
  interfaces := #[]
  cf := some (fileOf pool16 1 #[] #[] 1537 3 #[] #[])
  fields := #[]
  methods := #[]
  instanceTypes := #[]
  staticTypes := #[]
  resolved := Array.replicate 7 none
  statics := none }

def pool17 : Array CpInfo := pool [(1, .methodref 2 3), (0, .class_ 4), (0, .nameAndType 5 6), (0, u "java/util/AbstractList"), (0, u "<init>"), (0, u "()V"), (0, .class_ 8), (0, u "java/lang/Object"), (0, .fieldref 10 11), (0, .class_ 12), (0, .nameAndType 13 14), (0, u "java/util/ArrayList"), (0, u "elementData"), (0, u "[Ljava/lang/Object;"), (2, u "EMPTY_ELEMENTDATA"), (21, .fieldref 10 40), (0, .nameAndType 41 14), (0, u "DEFAULTCAPACITY_EMPTY_ELEMENTDATA"), (4, u "toArray"), (0, u "()[Ljava/lang/Object;"), (0, .fieldref 10 49), (0, .nameAndType 50 51), (0, u "size"), (0, u "I"), (6, .class_ 60), (1, u "java/util/Arrays"), (0, u "copyOf"), (1, .fieldref 10 64), (0, .nameAndType 65 51), (0, u "modCount"), (0, .methodref 58 67), (0, .nameAndType 61 68), (0, u "([Ljava/lang/Object;I)[Ljava/lang/Object;"), (0, .methodref 10 70), (0, .nameAndType 71 72), (0, u "grow"), (0, u "(I)[Ljava/lang/Object;"), (6, .methodref 80 81), (0, .class_ 82), (0, .nameAndType 83 84), (0, u "java/lang/Math"), (0, u "max"), (0, u "(II)I"), (11, u "(Ljava/lang/Object;)Z"), (32, .methodref 10 130), (0, .nameAndType 71 47), (0, .methodref 10 132), (0, .nameAndType 133 134), (0, u "add"), (0, u "(Ljava/lang/Object;[Ljava/lang/Object;I)V"), (13, .class_ 149), (0, u "java/util/List"), (23, u "()Z"), (88, .class_ 263), (0, u "java/util/ArrayList$ListItr"), (3, .class_ 268), (0, u "java/util/ArrayList$Itr"), (7, .class_ 277), (0, u "java/util/ArrayList$SubList"), (12, .class_ 291), (0, u "java/util/ArrayList$ArrayListSpliterator"), (37, .class_ 330), (0, u "java/util/RandomAccess"), (0, .class_ 332), (0, u "java/lang/Cloneable"), (0, .class_ 334), (0, u "java/io/Serializable"), (0, u "serialVersionUID"), (0, u "J"), (3, u "DEFAULT_CAPACITY"), (22, u "isEmpty"), (136, .class_ 501), (0, u "java/util/ArrayList$SubList$2"), (0, .class_ 503), (0, u "java/util/ArrayList$SubList$1")] 5

def k17c0 : Code := { maxStack := 2, maxLocals := 1, code := jdk_38_method_2_code, exceptionTable := #[], attributes := #[] }
def k17m0 : Method := { name := "<init>", desc := "()V", sig := { parameters := [], returnType := none }, accessFlags := 1, code := some k17c0 }
def k17c1 : Code := { maxStack := 4, maxLocals := 4, code := jdk_38_method_6_code, exceptionTable := #[], attributes := #[] }
def k17m1 : Method := { name := "grow", desc := "(I)[Ljava/lang/Object;", sig := { parameters := [.int], returnType := some (.array (.object "java/lang/Object")) }, accessFlags := 2, code := some k17c1 }
def k17c2 : Code := { maxStack := 3, maxLocals := 1, code := jdk_38_method_7_code, exceptionTable := #[], attributes := #[] }
def k17m2 : Method := { name := "grow", desc := "()[Ljava/lang/Object;", sig := { parameters := [], returnType := some (.array (.object "java/lang/Object")) }, accessFlags := 2, code := some k17c2 }
def k17c3 : Code := { maxStack := 1, maxLocals := 1, code := jdk_38_method_9_code, exceptionTable := #[], attributes := #[] }
def k17m3 : Method := { name := "isEmpty", desc := "()Z", sig := { parameters := [], returnType := some .boolean }, accessFlags := 1, code := some k17c3 }
def k17c4 : Code := { maxStack := 2, maxLocals := 1, code := jdk_38_method_16_code, exceptionTable := #[], attributes := #[] }
def k17m4 : Method := { name := "toArray", desc := "()[Ljava/lang/Object;", sig := { parameters := [], returnType := some (.array (.object "java/lang/Object")) }, accessFlags := 1, code := some k17c4 }
def k17c5 : Code := { maxStack := 3, maxLocals := 4, code := jdk_38_method_24_code, exceptionTable := #[], attributes := #[] }
def k17m5 : Method := { name := "add", desc := "(Ljava/lang/Object;[Ljava/lang/Object;I)V", sig := { parameters := [(.object "java/lang/Object"), (.array (.object "java/lang/Object")), .int], returnType := none }, accessFlags := 2, code := some k17c5 }
def k17c6 : Code := { maxStack := 4, maxLocals := 2, code := jdk_38_method_25_code, exceptionTable := #[], attributes := #[] }
def k17m6 : Method := { name := "add", desc := "(Ljava/lang/Object;)Z", sig := { parameters := [(.object "java/lang/Object")], returnType := some .boolean }, accessFlags := 1, code := some k17c6 }
/-- java/util/ArrayList -/
def k17 : Class := { plain "java/util/ArrayList" (some 14) with
  accessFlags := 33
  interfaces := #[13, 15, 16, 2]
  cf := some (fileOf pool17 10 #[.nestMembers #[290, 276, 500, 502, 262, 267]] #[{ accessFlags := 1, nameIndex := 5, descriptorIndex := 6, attributes := #[] }, { accessFlags := 2, nameIndex := 71, descriptorIndex := 72, attributes := #[] }, { accessFlags := 2, nameIndex := 71, descriptorIndex := 47, attributes := #[] }, { accessFlags := 1, nameIndex := 363, descriptorIndex := 173, attributes := #[] }, { accessFlags := 1, nameIndex := 46, descriptorIndex := 47, attributes := #[] }, { accessFlags := 2, nameIndex := 133, descriptorIndex := 134, attributes := #[] }, { accessFlags := 1, nameIndex := 133, descriptorIndex := 96, attributes := #[] }] 33 2 #[148, 329, 331, 333] #[{ accessFlags := 26, nameIndex := 335, descriptorIndex := 336, attributes := #[] }, { accessFlags := 26, nameIndex := 340, descriptorIndex := 51, attributes := #[] }, { accessFlags := 26, nameIndex := 17, descriptorIndex := 14, attributes := #[] }, { accessFlags := 26, nameIndex := 41, descriptorIndex := 14, attributes := #[] }, { accessFlags := 128, nameIndex := 13, descriptorIndex := 14, attributes := #[] }, { accessFlags := 2, nameIndex := 50, descriptorIndex := 51, attributes := #[] }])
  fields := #[{ name := "serialVersionUID", type := .long, accessFlags := 26, slot := 0, constantValue := 0 }, { name := "DEFAULT_CAPACITY", type := .int, accessFlags := 26, slot := 1, constantValue := 0 }, { name := "EMPTY_ELEMENTDATA", type := (.array (.object "java/lang/Object")), accessFlags := 26, slot := 2, constantValue := 0 }, { name := "DEFAULTCAPACITY_EMPTY_ELEMENTDATA", type := (.array (.object "java/lang/Object")), accessFlags := 26, slot := 3, constantValue := 0 }, { name := "elementData", type := (.array (.object "java/lang/Object")), accessFlags := 128, slot := 1, constantValue := 0 }, { name := "size", type := .int, accessFlags := 2, slot := 2, constantValue := 0 }]
  methods := #[k17m0, k17m1, k17m2, k17m3, k17m4, k17m5, k17m6]
  instanceTypes := #[.int, (.array (.object "java/lang/Object")), .int]
  staticTypes := #[.long, .int, (.array (.object "java/lang/Object")), (.array (.object "java/lang/Object"))]
  resolved := Array.replicate 509 none
  statics := some 1 }

def pool18 : Array CpInfo := pool [(4, .class_ 6), (1, u "java/lang/Object"), (0, u "<init>"), (0, u "()V"), (5, .class_ 16), (1, u "java/lang/StringLatin1"), (73, u "canEncode"), (14, u "(C)Z"), (15, u "$assertionsDisabled"), (0, u "Z"), (98, .class_ 223), (1, u "java/lang/StringLatin1$LinesSpliterator"), (156, u "toBytes"), (1, u "(C)[B"), (7, .class_ 391), (0, u "java/lang/StringLatin1$CharsSpliterator")] 3

def k18m0 : Method := { name := "<init>", desc := "()V", sig := { parameters := [], returnType := none }, accessFlags := 0, code := none }
def k18c1 : Code := { maxStack := 2, maxLocals := 1, code := jdk_43_method_3_code, exceptionTable := #[], attributes := #[] }
def k18m1 : Method := { name := "canEncode", desc := "(C)Z", sig := { parameters := [.char], returnType := some .boolean }, accessFlags := 9, code := some k18c1 }
def k18c2 : Code := { maxStack := 4, maxLocals := 1, code := jdk_43_method_46_code, exceptionTable := #[], attributes := #[] }
def k18m2 : Method := { name := "toBytes", desc := "(C)[B", sig := { parameters := [.char], returnType := some (.array .byte) }, accessFlags := 9, code := some k18c2 }
/-- java/lang/StringLatin1 -/
def k18 : Class := { plain "java/lang/StringLatin1" (some 0) with
  accessFlags := 48
  interfaces := #[]
  cf := some (fileOf pool18 14 #[.nestMembers #[390, 221]] #[{ accessFlags := 0, nameIndex := 7, descriptorIndex := 8, attributes := #[] }, { accessFlags := 9, nameIndex := 90, descriptorIndex := 105, attributes := #[] }, { accessFlags := 9, nameIndex := 380, descriptorIndex := 382, attributes := #[] }] 48 4 #[] #[{ accessFlags := 4120, nameIndex := 121, descriptorIndex := 122, attributes := #[] }])
  fields := #[{ name := "$assertionsDisabled", type := .boolean, accessFlags := 4120, slot := 0, constantValue := 0 }]
  methods := #[k18m0, k18m1, k18m2]
  instanceTypes := #[]
  staticTypes := #[.boolean]
  resolved := Array.replicate 395 none
  statics := none }

def pool19 : Array CpInfo := pool [(1, .class_ 2), (0, u "java/lang/Math"), (1, .class_ 6), (1, u "java/lang/Object"), (0, u "<init>"), (0, u "()V"), (89, .class_ 100), (1, u "java/lang/Math$RandomNumberGeneratorHolder"), (71, u "negativeZeroFloatBits"), (0, u "J"), (2, u "negativeZeroDoubleBits"), (21, u "max"), (2, u "min"), (43, u "$assertionsDisabled"), (0, u "Z"), (88, u "(II)I"), (2, u "twoToTheDoubleScaleDown"), (0, u "D"), (4, u "twoToTheDoubleScaleUp"), (9, u "E"), (3, u "PI"), (2, u "TAU"), (2, u "DEGREES_TO_RADIANS"), (0, u "RADIANS_TO_DEGREES")] 94

def k19m0 : Method := { name := "<init>", desc := "()V", sig := { parameters := [], returnType := none }, accessFlags := 2, code := none }
def k19c1 : Code := { maxStack := 2, maxLocals := 2, code := jdk_29_method_65_code, exceptionTable := #[], attributes := #[] }
def k19m1 : Method := { name := "max", desc := "(II)I", sig := { parameters := [.int, .int], returnType := some .int }, accessFlags := 9, code := some k19c1 }
def k19c2 : Code := { maxStack := 2, maxLocals := 2, code := jdk_29_method_69_code, exceptionTable := #[], attributes := #[] }
def k19m2 : Method := { name := "min", desc := "(II)I", sig := { parameters := [.int, .int], returnType := some .int }, accessFlags := 9, code := some k19c2 }
/-- java/lang/Math -/
def k19 : Class := { plain "java/lang/Math" (some 0) with
  accessFlags := 49
  interfaces := #[]
  cf := some (fileOf pool19 1 #[.nestMembers #[98]] #[{ accessFlags := 2, nameIndex := 7, descriptorIndex := 8, attributes := #[] }, { accessFlags := 9, nameIndex := 198, descriptorIndex := 335, attributes := #[] }, { accessFlags := 9, nameIndex := 201, descriptorIndex := 335, attributes := #[] }] 49 4 #[] #[{ accessFlags := 25, nameIndex := 354, descriptorIndex := 339, attributes := #[] }, { accessFlags := 25, nameIndex := 358, descriptorIndex := 339, attributes := #[] }, { accessFlags := 25, nameIndex := 361, descriptorIndex := 339, attributes := #[] }, { accessFlags := 26, nameIndex := 364, descriptorIndex := 339, attributes := #[] }, { accessFlags := 26, nameIndex := 365, descriptorIndex := 339, attributes := #[] }, { accessFlags := 26, nameIndex := 172, descriptorIndex := 173, attributes := #[] }, { accessFlags := 26, nameIndex := 176, descriptorIndex := 173, attributes := #[] }, { accessFlags := 8, nameIndex := 344, descriptorIndex := 339, attributes := #[] }, { accessFlags := 8, nameIndex := 338, descriptorIndex := 339, attributes := #[] }, { accessFlags := 4120, nameIndex := 245, descriptorIndex := 246, attributes := #[] }])
  fields := #[{ name := "E", type := .double, accessFlags := 25, slot := 0, constantValue := 0 }, { name := "PI", type := .double, accessFlags := 25, slot := 1, constantValue := 0 }, { name := "TAU", type := .double, accessFlags := 25, slot := 2, constantValue := 0 }, { name := "DEGREES_TO_RADIANS", type := .double, accessFlags := 26, slot := 3, constantValue := 0 }, { name := "RADIANS_TO_DEGREES", type := .double, accessFlags := 26, slot := 4, constantValue := 0 }, { name := "negativeZeroFloatBits", type := .long, accessFlags := 26, slot := 5, constantValue := 0 }, { name := "negativeZeroDoubleBits", type := .long, accessFlags := 26, slot := 6, constantValue := 0 }, { name := "twoToTheDoubleScaleUp", type := .double, accessFlags := 8, slot := 7, constantValue := 0 }, { name := "twoToTheDoubleScaleDown", type := .double, accessFlags := 8, slot := 8, constantValue := 0 }, { name := "$assertionsDisabled", type := .boolean, accessFlags := 4120, slot := 9, constantValue := 0 }]
  methods := #[k19m0, k19m1, k19m2]
  instanceTypes := #[]
  staticTypes := #[.double, .double, .double, .double, .double, .long, .long, .double, .double, .boolean]
  resolved := Array.replicate 460 none
  statics := none }

def pool20 : Array CpInfo := pool [(1, .methodref 2 3), (0, .class_ 4), (0, .nameAndType 5 6), (0, u "java/lang/Object"), (0, u "<init>"), (0, u "()V"), (0, .string 8), (0, u "role"), (0, .methodref 10 11), (0, .class_ 12), (0, .nameAndType 13 14), (0, u "java/util/Objects"), (0, u "requireNonNull"), (0, u "(Ljava/lang/Object;Ljava/lang/String;)Ljava/lang/Object;"), (0, .class_ 16), (0, u "java/lang/String"), (0, .fieldref 18 19), (0, .class_ 20), (0, .nameAndType 8 21), (0, u "com/example/rootward/rootward/policy/Binding"), (0, u "Ljava/lang/String;"), (0, .interfaceMethodref 23 24), (0, .class_ 25), (0, .nameAndType 26 27), (0, u "java/util/List"), (0, u "copyOf"), (0, u "(Ljava/util/Collection;)Ljava/util/List;"), (0, .fieldref 18 29), (0, .nameAndType 30 31), (0, u "members"), (0, u "Ljava/util/List;"), (0, .fieldref 18 33), (0, .nameAndType 34 35), (0, u "condition"), (0, u "Lcom/example/rootward/rootward/policy/Condition;"), (16, u "(Ljava/lang/String;Ljava/util/Collection;Lcom/example/rootward/rootward/policy/Condition;)V"), (42, u "()Z"), (45, u "WITHCOND"), (3, u "DIGEST_BYTES"), (0, u "I"), (10, u "isConditional")] 20

def k20c0 : Code := { maxStack := 3, maxLocals := 4, code := prog_54_method_1_code, exceptionTable := #[], attributes := #[] }
def k20m0 : Method := { name := "<init>", desc := "(Ljava/lang/String;Ljava/util/Collection;Lcom/example/rootward/rootward/policy/Condition;)V", sig := { parameters := [(.object "java/lang/String"), (.object "java/util/Collection"), (.object "com/example/rootward/rootward/policy/Condition")], returnType := none }, accessFlags := 1, code := some k20c0 }
def k20c1 : Code := { maxStack := 1, maxLocals := 1, code := prog_54_method_5_code, exceptionTable := #[], attributes := #[] }
def k20m1 : Method := { name := "isConditional", desc := "()Z", sig := { parameters := [], returnType := some .boolean }, accessFlags := 1, code := some k20c1 }
/-- com/example/rootward/rootward/policy/Binding -/
def k20 : Class := { plain "com/example/rootward/rootward/policy/Binding" (some 0) with
  accessFlags := 33
  interfaces := #[]
  cf := some (fileOf pool20 18 #[] #[{ accessFlags := 1, nameIndex := 5, descriptorIndex := 52, attributes := #[] }, { accessFlags := 1, nameIndex := 157, descriptorIndex := 95, attributes := #[] }] 33 2 #[] #[{ accessFlags := 26, nameIndex := 141, descriptorIndex := 21, attributes := #[] }, { accessFlags := 26, nameIndex := 145, descriptorIndex := 146, attributes := #[] }, { accessFlags := 18, nameIndex := 8, descriptorIndex := 21, attributes := #[] }, { accessFlags := 18, nameIndex := 30, descriptorIndex := 31, attributes := #[] }, { accessFlags := 18, nameIndex := 34, descriptorIndex := 35, attributes := #[] }])
  fields := #[{ name := "WITHCOND", type := (.object "java/lang/String"), accessFlags := 26, slot := 0, constantValue := 0 }, { name := "DIGEST_BYTES", type := .int, accessFlags := 26, slot := 1, constantValue := 0 }, { name := "role", type := (.object "java/lang/String"), accessFlags := 18, slot := 0, constantValue := 0 }, { name := "members", type := (.object "java/util/List"), accessFlags := 18, slot := 1, constantValue := 0 }, { name := "condition", type := (.object "com/example/rootward/rootward/policy/Condition"), accessFlags := 18, slot := 2, constantValue := 0 }]
  methods := #[k20m0, k20m1]
  instanceTypes := #[(.object "java/lang/String"), (.object "java/util/List"), (.object "com/example/rootward/rootward/policy/Condition")]
  staticTypes := #[(.object "java/lang/String"), .int]
  resolved := Array.replicate 178 none
  statics := none }

def pool21 : Array CpInfo := pool [(2, .class_ 4), (1, u "java/lang/Object"), (0, u "<init>"), (0, u "()V"), (35, .class_ 44), (1, u "java/util/Objects"), (0, u "requireNonNull"), (0, u "(Ljava/lang/Object;)Ljava/lang/Object;"), (47, u "(Ljava/lang/Object;Ljava/lang/String;)Ljava/lang/Object;")] 89

def k21m0 : Method := { name := "<init>", desc := "()V", sig := { parameters := [], returnType := none }, accessFlags := 2, code := none }
def k21c1 : Code := { maxStack := 2, maxLocals := 1, code := jdk_31_method_10_code, exceptionTable := #[], attributes := #[] }
def k21m1 : Method := { name := "requireNonNull", desc := "(Ljava/lang/Object;)Ljava/lang/Object;", sig := { parameters := [(.object "java/lang/Object")], returnType := some (.object "java/lang/Object") }, accessFlags := 9, code := some k21c1 }
def k21c2 : Code := { maxStack := 3, maxLocals := 2, code := jdk_31_method_11_code, exceptionTable := #[], attributes := #[] }
def k21m2 : Method := { name := "requireNonNull", desc := "(Ljava/lang/Object;Ljava/lang/String;)Ljava/lang/Object;", sig := { parameters := [(.object "java/lang/Object"), (.object "java/lang/String")], returnType := some (.object "java/lang/Object") }, accessFlags := 9, code := some k21c2 }
/-- java/util/Objects -/
def k21 : Class := { plain "java/util/Objects" (some 0) with
  accessFlags := 49
  interfaces := #[]
  cf := some (fileOf pool21 42 #[] #[{ accessFlags := 2, nameIndex := 5, descriptorIndex := 6, attributes := #[] }, { accessFlags := 9, nameIndex := 45, descriptorIndex := 46, attributes := #[] }, { accessFlags := 9, nameIndex := 45, descriptorIndex := 94, attributes := #[] }] 49 2 #[] #[])
  fields := #[]
  methods := #[k21m0, k21m1, k21m2]
  instanceTypes := #[]
  staticTypes := #[]
  resolved := Array.replicate 184 none
  statics := none }

def pool22 : Array CpInfo := pool [(2, .class_ 4), (1, u "java/lang/Object"), (0, u "<init>"), (0, u "()V"), (3, .class_ 11), (0, u "java/util/ImmutableCollections$List12"), (0, .class_ 13), (0, u "java/util/ImmutableCollections$ListN"), (3, u "Z"), (0, .class_ 19), (0, u "java/util/List"), (0, .interfaceMethodref 21 22), (0, .class_ 23), (0, .nameAndType 24 25), (0, u "java/util/Collection"), (0, u "isEmpty"), (0, u "()Z"), (0, .interfaceMethodref 18 27), (0, .nameAndType 28 29), (0, u "of"), (0, u "()Ljava/util/List;"), (0, .interfaceMethodref 21 31), (0, .nameAndType 32 33), (0, u "toArray"), (0, u "()[Ljava/lang/Object;"), (0, .interfaceMethodref 18 35), (0, .nameAndType 28 36), (0, u "([Ljava/lang/Object;)Ljava/util/List;"), (0, .methodref 38 39), (0, .class_ 40), (0, .nameAndType 41 42), (0, u "java/util/Objects"), (0, u "requireNonNull"), (0, u "(Ljava/lang/Object;)Ljava/lang/Object;"), (0, .methodref 12 44), (0, .nameAndType 5 45), (0, u "([Ljava/lang/Object;Z)V"), (1, .class_ 49), (1, u "java/util/ImmutableCollections"), (0, u "$assertionsDisabled"), (5, u "[Ljava/lang/Object;"), (5, u "EMPTY_LIST"), (0, u "Ljava/util/ImmutableCollections$ListN;"), (8, u "EMPTY_LIST_NULLS"), (22, u "SALT32L"), (0, u "J"), (2, u "REVERSE"), (6, u "archivedObjects"), (2, u "EMPTY"), (0, u "Ljava/lang/Object;"), (0, .class_ 112), (0, u "java/util/ImmutableCollections$SetN"), (5, u "EMPTY_SET"), (0, u "Ljava/util/ImmutableCollections$SetN;"), (0, .class_ 121), (0, u "java/util/ImmutableCollections$MapN"), (3, u "EMPTY_MAP"), (0, u "Ljava/util/ImmutableCollections$MapN;"), (4, u "EXPAND_FACTOR"), (0, u "I"), (9, u "listCopy"), (0, u "(Ljava/util/Collection;)Ljava/util/List;"), (7, u "listFromArray"), (17, .class_ 170), (0, u "java/util/ImmutableCollections$MapN$MapNIterator"), (0, .class_ 172), (0, u "java/util/ImmutableCollections$MapN$1"), (0, .class_ 174), (0, u "java/util/ImmutableCollections$Map1"), (0, .class_ 176), (0, u "java/util/ImmutableCollections$AbstractImmutableMap"), (0, .class_ 178), (0, u "java/util/ImmutableCollections$SetN$SetNIterator"), (0, .class_ 180), (0, u "java/util/ImmutableCollections$Set12"), (0, .class_ 182), (0, u "java/util/ImmutableCollections$Set12$1"), (0, .class_ 184), (0, u "java/util/ImmutableCollections$AbstractImmutableSet"), (0, .class_ 186), (0, u "java/util/ImmutableCollections$SubList"), (0, .class_ 188), (0, u "java/util/ImmutableCollections$ListItr"), (0, .class_ 190), (0, u "java/util/ImmutableCollections$AbstractImmutableList"), (0, .class_ 192), (0, u "java/util/ImmutableCollections$AbstractImmutableCollection"), (0, .class_ 194), (0, u "java/util/ImmutableCollections$Access"), (0, .class_ 196), (0, u "java/util/ImmutableCollections$Access$1")] 16

def k22m0 : Method := { name := "<init>", desc := "()V", sig := { parameters := [], returnType := none }, accessFlags := 2, code := none }
def k22c1 : Code := { maxStack := 1, maxLocals := 2, code := jdk_56_method_3_code, exceptionTable := #[], attributes := #[] }
def k22m1 : Method := { name := "listCopy", desc := "(Ljava/util/Collection;)Ljava/util/List;", sig := { parameters := [(.object "java/util/Collection")], returnType := some (.object "java/util/List") }, accessFlags := 8, code := some k22c1 }
def k22c2 : Code := { maxStack := 4, maxLocals := 3, code := jdk_56_method_4_code, exceptionTable := #[], attributes := #[] }
def k22m2 : Method := { name := "listFromArray", desc := "([Ljava/lang/Object;)Ljava/util/List;", sig := { parameters := [(.array (.object "java/lang/Object"))], returnType := some (.object "java/util/List") }, accessFlags := 136, code := some k22c2 }
/-- java/util/ImmutableCollections -/
def k22 : Class := { plain "java/util/ImmutableCollections" (some 0) with
  accessFlags := 32
  interfaces := #[]
  cf := some (fileOf pool22 47 #[.nestMembers #[120, 169, 171, 173, 175, 111, 177, 179, 181, 183, 12, 10, 185, 187, 189, 191, 193, 195]] #[{ accessFlags := 2, nameIndex := 5, descriptorIndex := 6, attributes := #[] }, { accessFlags := 8, nameIndex := 142, descriptorIndex := 143, attributes := #[] }, { accessFlags := 136, nameIndex := 151, descriptorIndex := 36, attributes := #[] }] 32 2 #[] #[{ accessFlags := 26, nameIndex := 95, descriptorIndex := 96, attributes := #[] }, { accessFlags := 26, nameIndex := 99, descriptorIndex := 17, attributes := #[] }, { accessFlags := 10, nameIndex := 106, descriptorIndex := 56, attributes := #[] }, { accessFlags := 26, nameIndex := 109, descriptorIndex := 110, attributes := #[] }, { accessFlags := 24, nameIndex := 62, descriptorIndex := 63, attributes := #[] }, { accessFlags := 24, nameIndex := 72, descriptorIndex := 63, attributes := #[] }, { accessFlags := 24, nameIndex := 118, descriptorIndex := 119, attributes := #[] }, { accessFlags := 24, nameIndex := 125, descriptorIndex := 126, attributes := #[] }, { accessFlags := 24, nameIndex := 131, descriptorIndex := 132, attributes := #[] }, { accessFlags := 4120, nameIndex := 50, descriptorIndex := 17, attributes := #[] }])
  fields := #[{ name := "SALT32L", type := .long, accessFlags := 26, slot := 0, constantValue := 0 }, { name := "REVERSE", type := .boolean, accessFlags := 26, slot := 1, constantValue := 0 }, { name := "archivedObjects", type := (.array (.object "java/lang/Object")), accessFlags := 10, slot := 2, constantValue := 0 }, { name := "EMPTY", type := (.object "java/lang/Object"), accessFlags := 26, slot := 3, constantValue := 0 }, { name := "EMPTY_LIST", type := (.object "java/util/ImmutableCollections$ListN"), accessFlags := 24, slot := 4, constantValue := 0 }, { name := "EMPTY_LIST_NULLS", type := (.object "java/util/ImmutableCollections$ListN"), accessFlags := 24, slot := 5, constantValue := 0 }, { name := "EMPTY_SET", type := (.object "java/util/ImmutableCollections$SetN"), accessFlags := 24, slot := 6, constantValue := 0 }, { name := "EMPTY_MAP", type := (.object "java/util/ImmutableCollections$MapN"), accessFlags := 24, slot := 7, constantValue := 0 }, { name := "EXPAND_FACTOR", type := .int, accessFlags := 24, slot := 8, constantValue := 0 }, { name := "$assertionsDisabled", type := .boolean, accessFlags := 4120, slot := 9, constantValue := 0 }]
  methods := #[k22m0, k22m1, k22m2]
  instanceTypes := #[]
  staticTypes := #[.long, .boolean, (.array (.object "java/lang/Object")), (.object "java/lang/Object"), (.object "java/util/ImmutableCollections$ListN"), (.object "java/util/ImmutableCollections$ListN"), (.object "java/util/ImmutableCollections$SetN"), (.object "java/util/ImmutableCollections$MapN"), .int, .boolean]
  resolved := Array.replicate 213 none
  statics := some 2 }

def pool23 : Array CpInfo := pool [(1, .methodref 2 3), (0, .class_ 4), (0, .nameAndType 5 6), (0, u "java/util/AbstractCollection"), (0, u "<init>"), (0, u "()V"), (1, .class_ 10), (1, u "java/util/ImmutableCollections"), (2, .class_ 14), (0, u "java/util/ImmutableCollections$AbstractImmutableCollection")] 41

def k23c0 : Code := { maxStack := 1, maxLocals := 1, code := jdk_47_method_1_code, exceptionTable := #[], attributes := #[] }
def k23m0 : Method := { name := "<init>", desc := "()V", sig := { parameters := [], returnType := none }, accessFlags := 0, code := some k23c0 }
/-- java/util/ImmutableCollections$AbstractImmutableCollection -/
def k23 : Class := { plain "java/util/ImmutableCollections$AbstractImmutableCollection" (some 11) with
  accessFlags := 1056
  interfaces := #[]
  cf := some (fileOf pool23 13 #[.nestHost 8] #[{ accessFlags := 0, nameIndex := 5, descriptorIndex := 6, attributes := #[] }] 1056 2 #[] #[])
  fields := #[]
  methods := #[k23m0]
  instanceTypes := #[]
  staticTypes := #[]
  resolved := Array.replicate 56 none
  statics := none }

def pool24 : Array CpInfo := pool [(1, .methodref 2 3), (0, .class_ 4), (0, .nameAndType 5 6), (0, u "java/util/ImmutableCollections$AbstractImmutableCollection"), (0, u "<init>"), (0, u "()V"), (1, .class_ 10), (1, u "java/util/ImmutableCollections"), (3, .class_ 16), (1, u "java/util/ImmutableCollections$AbstractImmutableList"), (60, .class_ 78), (0, u "java/util/List"), (45, .class_ 125), (0, u "java/util/RandomAccess")] 70

def k24c0 : Code := { maxStack := 1, maxLocals := 1, code := jdk_46_method_1_code, exceptionTable := #[], attributes := #[] }
def k24m0 : Method := { name := "<init>", desc := "()V", sig := { parameters := [], returnType := none }, accessFlags := 0, code := some k24c0 }
/-- java/util/ImmutableCollections$AbstractImmutableList -/
def k24 : Class := { plain "java/util/ImmutableCollections$AbstractImmutableList" (some 23) with
  accessFlags := 1056
  interfaces := #[13, 15]
  cf := some (fileOf pool24 14 #[.nestHost 8] #[{ accessFlags := 0, nameIndex := 5, descriptorIndex := 6, attributes := #[] }] 1056 2 #[77, 124] #[])
  fields := #[]
  methods := #[k24m0]
  instanceTypes := #[]
  staticTypes := #[]
  resolved := Array.replicate 196 none
  statics := none }

def pool25 : Array CpInfo := pool [(1, .methodref 2 3), (0, .class_ 4), (0, .nameAndType 5 6), (0, u "java/util/ImmutableCollections$AbstractImmutableList"), (0, u "<init>"), (0, u "()V"), (0, .methodref 8 9), (0, .class_ 10), (0, .nameAndType 11 12), (0, u "java/util/Objects"), (0, u "requireNonNull"), (0, u "(Ljava/lang/Object;)Ljava/lang/Object;"), (0, .fieldref 14 15), (0, .class_ 16), (0, .nameAndType 17 18), (0, u "java/util/ImmutableCollections$List12"), (0, u "e0"), (0, u "Ljava/lang/Object;"), (0, .fieldref 20 21), (0, .class_ 22), (0, .nameAndType 23 18), (0, u "java/util/ImmutableCollections"), (0, u "EMPTY"), (0, .fieldref 14 25), (0, .nameAndType 26 18), (0, u "e1"), (43, .class_ 71), (0, u "java/io/Serializable"), (4, u "(Ljava/lang/Object;)V"), (8, u "(Ljava/lang/Object;Ljava/lang/Object;)V")] 39

def k25c0 : Code := { maxStack := 2, maxLocals := 2, code := jdk_44_method_1_code, exceptionTable := #[], attributes := #[] }
def k25m0 : Method := { name := "<init>", desc := "(Ljava/lang/Object;)V", sig := { parameters := [(.object "java/lang/Object")], returnType := none }, accessFlags := 0, code := some k25c0 }
def k25c1 : Code := { maxStack := 2, maxLocals := 3, code := jdk_44_method_2_code, exceptionTable := #[], attributes := #[] }
def k25m1 : Method := { name := "<init>", desc := "(Ljava/lang/Object;Ljava/lang/Object;)V", sig := { parameters := [(.object "java/lang/Object"), (.object "java/lang/Object")], returnType := none }, accessFlags := 0, code := some k25c1 }
/-- java/util/ImmutableCollections$List12 -/
def k25 : Class := { plain "java/util/ImmutableCollections$List12" (some 24) with
  accessFlags := 48
  interfaces := #[2]
  cf := some (fileOf pool25 14 #[.nestHost 20] #[{ accessFlags := 0, nameIndex := 5, descriptorIndex := 76, attributes := #[] }, { accessFlags := 0, nameIndex := 5, descriptorIndex := 85, attributes := #[] }] 48 2 #[70] #[{ accessFlags := 18, nameIndex := 17, descriptorIndex := 18, attributes := #[] }, { accessFlags := 18, nameIndex := 26, descriptorIndex := 18, attributes := #[] }])
  fields := #[{ name := "e0", type := (.object "java/lang/Object"), accessFlags := 18, slot := 0, constantValue := 0 }, { name := "e1", type := (.object "java/lang/Object"), accessFlags := 18, slot := 1, constantValue := 0 }]
  methods := #[k25m0, k25m1]
  instanceTypes := #[(.object "java/lang/Object"), (.object "java/lang/Object")]
  staticTypes := #[]
  resolved := Array.replicate 125 none
  statics := none }

def pool26 : Array CpInfo := pool [(1, .methodref 2 3), (0, .class_ 4), (0, .nameAndType 5 6), (0, u "java/util/ImmutableCollections$AbstractImmutableList"), (0, u "<init>"), (0, u "()V"), (0, .fieldref 8 9), (0, .class_ 10), (0, .nameAndType 11 12), (0, u "java/util/ImmutableCollections$ListN"), (0, u "elements"), (0, u "[Ljava/lang/Object;"), (0, .fieldref 8 14), (0, .nameAndType 15 16), (0, u "allowNulls"), (0, u "Z"), (42, .class_ 60), (0, u "java/io/Serializable"), (4, u "([Ljava/lang/Object;Z)V"), (48, .class_ 115), (0, u "java/util/ImmutableCollections")] 3

def k26c0 : Code := { maxStack := 2, maxLocals := 3, code := jdk_45_method_1_code, exceptionTable := #[], attributes := #[] }
def k26m0 : Method := { name := "<init>", desc := "([Ljava/lang/Object;Z)V", sig := { parameters := [(.array (.object "java/lang/Object")), .boolean], returnType := none }, accessFlags := 2, code := some k26c0 }
/-- java/util/ImmutableCollections$ListN -/
def k26 : Class := { plain "java/util/ImmutableCollections$ListN" (some 24) with
  accessFlags := 48
  interfaces := #[2]
  cf := some (fileOf pool26 8 #[.nestHost 114] #[{ accessFlags := 2, nameIndex := 5, descriptorIndex := 65, attributes := #[] }] 48 2 #[59] #[{ accessFlags := 18, nameIndex := 11, descriptorIndex := 12, attributes := #[] }, { accessFlags := 18, nameIndex := 15, descriptorIndex := 16, attributes := #[] }])
  fields := #[{ name := "elements", type := (.array (.object "java/lang/Object")), accessFlags := 18, slot := 0, constantValue := 0 }, { name := "allowNulls", type := .boolean, accessFlags := 18, slot := 1, constantValue := 0 }]
  methods := #[k26m0]
  instanceTypes := #[(.array (.object "java/lang/Object")), .boolean]
  staticTypes := #[]
  resolved := Array.replicate 119 none
  statics := none }

def pool27 : Array CpInfo := pool [(2, .class_ 4), (1, u "java/lang/Object"), (0, u "<init>"), (0, u "()V"), (7, .class_ 16), (1, u "java/util/Arrays"), (57, .class_ 76), (1, u "java/util/Arrays$NaturalOrder"), (9, .methodref 2 87), (0, .nameAndType 88 89), (0, u "getClass"), (0, u "()Ljava/lang/Class;"), (20, .class_ 111), (0, u "[Ljava/lang/Object;"), (1, .class_ 115), (1, u "java/util/Arrays$LegacyMergeSort"), (1, u "Z"), (32, .methodref 151 152), (0, .class_ 153), (0, .nameAndType 154 155), (0, u "java/lang/System"), (0, u "arraycopy"), (0, u "(Ljava/lang/Object;ILjava/lang/Object;II)V"), (144, .methodref 14 301), (0, .nameAndType 302 303), (0, u "copyOf"), (0, u "([Ljava/lang/Object;ILjava/lang/Class;)[Ljava/lang/Object;"), (0, .methodref 305 306), (0, .class_ 307), (0, .nameAndType 308 309), (0, u "java/lang/Math"), (0, u "min"), (0, u "(II)I"), (65, .class_ 376), (0, u "java/util/Arrays$ArrayList"), (68, u "$assertionsDisabled"), (269, u "MIN_ARRAY_SORT_GRAN"), (0, u "I"), (2, u "INSERTIONSORT_THRESHOLD"), (140, u "([Ljava/lang/Object;I)[Ljava/lang/Object;"), (114, .class_ 976), (0, u "java/util/Arrays$ArrayItr")] 52

def k27m0 : Method := { name := "<init>", desc := "()V", sig := { parameters := [], returnType := none }, accessFlags := 2, code := none }
def k27c1 : Code := { maxStack := 3, maxLocals := 2, code := jdk_65_method_119_code, exceptionTable := #[], attributes := #[] }
def k27m1 : Method := { name := "copyOf", desc := "([Ljava/lang/Object;I)[Ljava/lang/Object;", sig := { parameters := [(.array (.object "java/lang/Object")), .int], returnType := some (.array (.object "java/lang/Object")) }, accessFlags := 9, code := some k27c1 }
def k27c2 : Code := { maxStack := 6, maxLocals := 4, code := jdk_65_method_120_code, exceptionTable := #[], attributes := #[] }
def k27m2 : Method := { name := "copyOf", desc := "([Ljava/lang/Object;ILjava/lang/Class;)[Ljava/lang/Object;", sig := { parameters := [(.array (.object "java/lang/Object")), .int, (.object "java/lang/Class")], returnType := some (.array (.object "java/lang/Object")) }, accessFlags := 9, code := some k27c2 }
/-- java/util/Arrays -/
def k27 : Class := { plain "java/util/Arrays" (some 0) with
  accessFlags := 49
  interfaces := #[]
  cf := some (fileOf pool27 14 #[.nestMembers #[975, 375, 113, 74]] #[{ accessFlags := 2, nameIndex := 5, descriptorIndex := 6, attributes := #[] }, { accessFlags := 9, nameIndex := 302, descriptorIndex := 860, attributes := #[] }, { accessFlags := 9, nameIndex := 302, descriptorIndex := 303, attributes := #[] }] 49 2 #[] #[{ accessFlags := 26, nameIndex := 715, descriptorIndex := 716, attributes := #[] }, { accessFlags := 26, nameIndex := 719, descriptorIndex := 716, attributes := #[] }, { accessFlags := 4120, nameIndex := 445, descriptorIndex := 117, attributes := #[] }])
  fields := #[{ name := "MIN_ARRAY_SORT_GRAN", type := .int, accessFlags := 26, slot := 0, constantValue := 0 }, { name := "INSERTIONSORT_THRESHOLD", type := .int, accessFlags := 26, slot := 1, constantValue := 0 }, { name := "$assertionsDisabled", type := .boolean, accessFlags := 4120, slot := 2, constantValue := 0 }]
  methods := #[k27m0, k27m1, k27m2]
  instanceTypes := #[]
  staticTypes := #[.int, .int, .boolean]
  resolved := Array.replicate 1029 none
  statics := none }

def pool28 : Array CpInfo := pool [(2, .class_ 4), (1, u "java/lang/Object"), (0, u "<init>"), (0, u "()V"), (1, .class_ 10), (1, u "java/lang/System"), (0, u "allowSecurityManager"), (0, u "I"), (16, u "cons"), (0, u "Ljava/io/Console;"), (77, .class_ 110), (1, u "java/lang/System$CallersHolder"), (43, u "initialErrStream"), (0, u "Ljava/io/PrintStream;"), (19, u "security"), (0, u "Ljava/lang/SecurityManager;"), (31, .class_ 209), (0, u "java/lang/System$1"), (7, u "props"), (0, u "Ljava/util/Properties;"), (2, u "lineSeparator"), (0, u "Ljava/lang/String;"), (96, .class_ 321), (1, u "java/lang/System$LoggerFinder"), (5, .class_ 328), (0, u "java/lang/System$Logger"), (67, u "err"), (2, u "out"), (91, u "notSupportedJnuEncoding"), (15, u "in"), (17, u "initialIn"), (0, u "Ljava/io/InputStream;"), (35, u "bootLayer"), (0, u "Ljava/lang/ModuleLayer;"), (99, .class_ 664), (0, u "java/lang/System$2"), (9, u "NEVER"), (2, u "MAYBE"), (49, u "arraycopy"), (0, u "(Ljava/lang/Object;ILjava/lang/Object;II)V"), (72, .class_ 802), (0, u "java/lang/System$Logger$Level")] 31

def k28m0 : Method := { name := "<init>", desc := "()V", sig := { parameters := [], returnType := none }, accessFlags := 2, code := none }
def k28m1 : Method := { name := "arraycopy", desc := "(Ljava/lang/Object;ILjava/lang/Object;II)V", sig := { parameters := [(.object "java/lang/Object"), .int, (.object "java/lang/Object"), .int, .int], returnType := none }, accessFlags := 265, code := none }
/-- java/lang/System -/
def k28 : Class := { plain "java/lang/System" (some 0) with
  accessFlags := 49
  interfaces := #[]
  cf := some (fileOf pool28 8 #[.nestMembers #[319, 327, 801, 108, 663, 208]] #[{ accessFlags := 2, nameIndex := 5, descriptorIndex := 6, attributes := #[] }, { accessFlags := 265, nameIndex := 727, descriptorIndex := 728, attributes := #[] }] 49 2 #[] #[{ accessFlags := 25, nameIndex := 507, descriptorIndex := 526, attributes := #[] }, { accessFlags := 25, nameIndex := 399, descriptorIndex := 155, attributes := #[] }, { accessFlags := 25, nameIndex := 396, descriptorIndex := 155, attributes := #[] }, { accessFlags := 10, nameIndex := 525, descriptorIndex := 526, attributes := #[] }, { accessFlags := 26, nameIndex := 674, descriptorIndex := 12, attributes := #[] }, { accessFlags := 26, nameIndex := 677, descriptorIndex := 12, attributes := #[] }, { accessFlags := 10, nameIndex := 11, descriptorIndex := 12, attributes := #[] }, { accessFlags := 74, nameIndex := 175, descriptorIndex := 176, attributes := #[] }, { accessFlags := 10, nameIndex := 491, descriptorIndex := 222, attributes := #[] }, { accessFlags := 74, nameIndex := 29, descriptorIndex := 30, attributes := #[] }, { accessFlags := 74, nameIndex := 154, descriptorIndex := 155, attributes := #[] }, { accessFlags := 10, nameIndex := 217, descriptorIndex := 218, attributes := #[] }, { accessFlags := 10, nameIndex := 221, descriptorIndex := 222, attributes := #[] }, { accessFlags := 8, nameIndex := 562, descriptorIndex := 563, attributes := #[] }])
  fields := #[{ name := "in", type := (.object "java/io/InputStream"), accessFlags := 25, slot := 0, constantValue := 0 }, { name := "out", type := (.object "java/io/PrintStream"), accessFlags := 25, slot := 1, constantValue := 0 }, { name := "err", type := (.object "java/io/PrintStream"), accessFlags := 25, slot := 2, constantValue := 0 }, { name := "initialIn", type := (.object "java/io/InputStream"), accessFlags := 10, slot := 3, constantValue := 0 }, { name := "NEVER", type := .int, accessFlags := 26, slot := 4, constantValue := 0 }, { name := "MAYBE", type := .int, accessFlags := 26, slot := 5, constantValue := 0 }, { name := "allowSecurityManager", type := .int, accessFlags := 10, slot := 6, constantValue := 0 }, { name := "security", type := (.object "java/lang/SecurityManager"), accessFlags := 74, slot := 7, constantValue := 0 }, { name := "notSupportedJnuEncoding", type := (.object "java/lang/String"), accessFlags := 10, slot := 8, constantValue := 0 }, { name := "cons", type := (.object "java/io/Console"), accessFlags := 74, slot := 9, constantValue := 0 }, { name := "initialErrStream", type := (.object "java/io/PrintStream"), accessFlags := 74, slot := 10, constantValue := 0 }, { name := "props", type := (.object "java/util/Properties"), accessFlags := 10, slot := 11, constantValue := 0 }, { name := "lineSeparator", type := (.object "java/lang/String"), accessFlags := 10, slot := 12, constantValue := 0 }, { name := "bootLayer", type := (.object "java/lang/ModuleLayer"), accessFlags := 8, slot := 13, constantValue := 0 }]
  methods := #[k28m0, k28m1]
  instanceTypes := #[]
  staticTypes := #[(.object "java/io/InputStream"), (.object "java/io/PrintStream"), (.object "java/io/PrintStream"), (.object "java/io/InputStream"), .int, .int, .int, (.object "java/lang/SecurityManager"), (.object "java/lang/String"), (.object "java/io/Console"), (.object "java/io/PrintStream"), (.object "java/util/Properties"), (.object "java/lang/String"), (.object "java/lang/ModuleLayer")]
  resolved := Array.replicate 834 none
  statics := none }

def pool29 : Array CpInfo := pool [(1, .methodref 2 3), (0, .class_ 4), (0, .nameAndType 5 6), (0, u "java/lang/Object"), (0, u "<init>"), (0, u "()V"), (0, .string 8), (0, u "expression"), (0, .methodref 10 11), (0, .class_ 12), (0, .nameAndType 13 14), (0, u "java/util/Objects"), (0, u "requireNonNull"), (0, u "(Ljava/lang/Object;Ljava/lang/String;)Ljava/lang/Object;"), (0, .class_ 16), (0, u "java/lang/String"), (0, .fieldref 18 19), (0, .class_ 20), (0, .nameAndType 8 21), (0, u "com/example/rootward/rootward/policy/Condition"), (0, u "Ljava/lang/String;"), (0, .string 23), (0, u "title"), (0, .fieldref 18 25), (0, .nameAndType 23 21), (0, .string 27), (0, u "description"), (0, .fieldref 18 29), (0, .nameAndType 27 21), (0, .string 31), (0, u "location"), (0, .fieldref 18 33), (0, .nameAndType 31 21), (0, u "(Ljava/lang/String;Ljava/lang/String;Ljava/lang/String;Ljava/lang/String;)V")] 5

def k29c0 : Code := { maxStack := 3, maxLocals := 5, code := prog_56_method_1_code, exceptionTable := #[], attributes := #[] }
def k29m0 : Method := { name := "<init>", desc := "(Ljava/lang/String;Ljava/lang/String;Ljava/lang/String;Ljava/lang/String;)V", sig := { parameters := [(.object "java/lang/String"), (.object "java/lang/String"), (.object "java/lang/String"), (.object "java/lang/String")], returnType := none }, accessFlags := 1, code := some k29c0 }
/-- com/example/rootward/rootward/policy/Condition -/
def k29 : Class := { plain "com/example/rootward/rootward/policy/Condition" (some 0) with
  accessFlags := 33
  interfaces := #[]
  cf := some (fileOf pool29 18 #[] #[{ accessFlags := 1, nameIndex := 5, descriptorIndex := 34, attributes := #[] }] 33 2 #[] #[{ accessFlags := 18, nameIndex := 8, descriptorIndex := 21, attributes := #[] }, { accessFlags := 18, nameIndex := 23, descriptorIndex := 21, attributes := #[] }, { accessFlags := 18, nameIndex := 27, descriptorIndex := 21, attributes := #[] }, { accessFlags := 18, nameIndex := 31, descriptorIndex := 21, attributes := #[] }])
  fields := #[{ name := "expression", type := (.object "java/lang/String"), accessFlags := 18, slot := 0, constantValue := 0 }, { name := "title", type := (.object "java/lang/String"), accessFlags := 18, slot := 1, constantValue := 0 }, { name := "description", type := (.object "java/lang/String"), accessFlags := 18, slot := 2, constantValue := 0 }, { name := "location", type := (.object "java/lang/String"), accessFlags := 18, slot := 3, constantValue := 0 }]
  methods := #[k29m0]
  instanceTypes := #[(.object "java/lang/String"), (.object "java/lang/String"), (.object "java/lang/String"), (.object "java/lang/String")]
  staticTypes := #[]
  resolved := Array.replicate 40 none
  statics := none }

def pool30 : Array CpInfo := pool [(2, .class_ 4), (1, u "java/lang/Object"), (0, u "<init>"), (0, u "()V"), (17, .class_ 26), (1, u "jdk/internal/util/Preconditions"), (28, .class_ 56), (0, u "jdk/internal/util/Preconditions$4"), (57, .class_ 115), (0, u "jdk/internal/util/Preconditions$1"), (7, u "SIOOBE_FORMATTER"), (0, u "Ljava/util/function/BiFunction;"), (0, .class_ 126), (0, u "jdk/internal/util/Preconditions$2"), (3, u "AIOOBE_FORMATTER"), (0, .class_ 132), (0, u "jdk/internal/util/Preconditions$3"), (3, u "IOOBE_FORMATTER")] 57

def k30m0 : Method := { name := "<init>", desc := "()V", sig := { parameters := [], returnType := none }, accessFlags := 1, code := none }
/-- jdk/internal/util/Preconditions -/
def k30 : Class := { plain "jdk/internal/util/Preconditions" (some 0) with
  accessFlags := 33
  interfaces := #[]
  cf := some (fileOf pool30 24 #[.nestMembers #[55, 131, 125, 114]] #[{ accessFlags := 1, nameIndex := 5, descriptorIndex := 6, attributes := #[] }] 33 2 #[] #[{ accessFlags := 25, nameIndex := 123, descriptorIndex := 124, attributes := #[] }, { accessFlags := 25, nameIndex := 130, descriptorIndex := 124, attributes := #[] }, { accessFlags := 25, nameIndex := 136, descriptorIndex := 124, attributes := #[] }])
  fields := #[{ name := "SIOOBE_FORMATTER", type := (.object "java/util/function/BiFunction"), accessFlags := 25, slot := 0, constantValue := 0 }, { name := "AIOOBE_FORMATTER", type := (.object "java/util/function/BiFunction"), accessFlags := 25, slot := 1, constantValue := 0 }, { name := "IOOBE_FORMATTER", type := (.object "java/util/function/BiFunction"), accessFlags := 25, slot := 2, constantValue := 0 }]
  methods := #[k30m0]
  instanceTypes := #[]
  staticTypes := #[(.object "java/util/function/BiFunction"), (.object "java/util/function/BiFunction"), (.object "java/util/function/BiFunction")]
  resolved := Array.replicate 194 none
  statics := some 3 }

def pool31 : Array CpInfo := pool [(9, u "<init>"), (6, .class_ 18), (1, u "java/lang/Object"), (0, u "()V"), (1, .class_ 23), (1, u "jdk/internal/util/ArraysSupport"), (0, u "LOG2_ARRAY_LONG_INDEX_SCALE"), (0, u "I"), (2, u "U"), (0, u "Ljdk/internal/misc/Unsafe;"), (8, u "BIG_ENDIAN"), (0, u "Z"), (8, u "LOG2_BYTE_BIT_SIZE"), (4, u "LOG2_ARRAY_INT_INDEX_SCALE"), (54, u "JLA"), (0, u "Ljdk/internal/access/JavaLangAccess;"), (11, u "LOG2_ARRAY_BOOLEAN_INDEX_SCALE"), (9, u "LOG2_ARRAY_BYTE_INDEX_SCALE"), (5, u "LOG2_ARRAY_CHAR_INDEX_SCALE"), (5, u "LOG2_ARRAY_SHORT_INDEX_SCALE"), (18, u "LOG2_ARRAY_FLOAT_INDEX_SCALE"), (24, u "LOG2_ARRAY_DOUBLE_INDEX_SCALE"), (89, u "T_BOOLEAN"), (2, u "T_CHAR"), (1, u "T_FLOAT"), (1, u "T_DOUBLE"), (1, u "T_BYTE"), (1, u "T_SHORT"), (1, u "T_INT"), (1, u "T_LONG"), (1, u "SOFT_MAX_ARRAY_LENGTH")] 83

def k31m0 : Method := { name := "<init>", desc := "()V", sig := { parameters := [], returnType := none }, accessFlags := 2, code := none }
/-- jdk/internal/util/ArraysSupport -/
def k31 : Class := { plain "jdk/internal/util/ArraysSupport" (some 0) with
  accessFlags := 33
  interfaces := #[]
  cf := some (fileOf pool31 21 #[] #[{ accessFlags := 2, nameIndex := 9, descriptorIndex := 19, attributes := #[] }] 33 16 #[] #[{ accessFlags := 24, nameIndex := 28, descriptorIndex := 29, attributes := #[] }, { accessFlags := 26, nameIndex := 38, descriptorIndex := 39, attributes := #[] }, { accessFlags := 25, nameIndex := 121, descriptorIndex := 25, attributes := #[] }, { accessFlags := 25, nameIndex := 131, descriptorIndex := 25, attributes := #[] }, { accessFlags := 25, nameIndex := 137, descriptorIndex := 25, attributes := #[] }, { accessFlags := 25, nameIndex := 143, descriptorIndex := 25, attributes := #[] }, { accessFlags := 25, nameIndex := 53, descriptorIndex := 25, attributes := #[] }, { accessFlags := 25, nameIndex := 24, descriptorIndex := 25, attributes := #[] }, { accessFlags := 25, nameIndex := 162, descriptorIndex := 25, attributes := #[] }, { accessFlags := 25, nameIndex := 187, descriptorIndex := 25, attributes := #[] }, { accessFlags := 26, nameIndex := 48, descriptorIndex := 25, attributes := #[] }, { accessFlags := 25, nameIndex := 277, descriptorIndex := 25, attributes := #[] }, { accessFlags := 25, nameIndex := 280, descriptorIndex := 25, attributes := #[] }, { accessFlags := 25, nameIndex := 282, descriptorIndex := 25, attributes := #[] }, { accessFlags := 25, nameIndex := 284, descriptorIndex := 25, attributes := #[] }, { accessFlags := 25, nameIndex := 286, descriptorIndex := 25, attributes := #[] }, { accessFlags := 25, nameIndex := 288, descriptorIndex := 25, attributes := #[] }, { accessFlags := 25, nameIndex := 290, descriptorIndex := 25, attributes := #[] }, { accessFlags := 25, nameIndex := 292, descriptorIndex := 25, attributes := #[] }, { accessFlags := 26, nameIndex := 108, descriptorIndex := 109, attributes := #[] }, { accessFlags := 25, nameIndex := 294, descriptorIndex := 25, attributes := #[] }])
  fields := #[{ name := "U", type := (.object "jdk/internal/misc/Unsafe"), accessFlags := 24, slot := 0, constantValue := 0 }, { name := "BIG_ENDIAN", type := .boolean, accessFlags := 26, slot := 1, constantValue := 0 }, { name := "LOG2_ARRAY_BOOLEAN_INDEX_SCALE", type := .int, accessFlags := 25, slot := 2, constantValue := 0 }, { name := "LOG2_ARRAY_BYTE_INDEX_SCALE", type := .int, accessFlags := 25, slot := 3, constantValue := 0 }, { name := "LOG2_ARRAY_CHAR_INDEX_SCALE", type := .int, accessFlags := 25, slot := 4, constantValue := 0 }, { name := "LOG2_ARRAY_SHORT_INDEX_SCALE", type := .int, accessFlags := 25, slot := 5, constantValue := 0 }, { name := "LOG2_ARRAY_INT_INDEX_SCALE", type := .int, accessFlags := 25, slot := 6, constantValue := 0 }, { name := "LOG2_ARRAY_LONG_INDEX_SCALE", type := .int, accessFlags := 25, slot := 7, constantValue := 0 }, { name := "LOG2_ARRAY_FLOAT_INDEX_SCALE", type := .int, accessFlags := 25, slot := 8, constantValue := 0 }, { name := "LOG2_ARRAY_DOUBLE_INDEX_SCALE", type := .int, accessFlags := 25, slot := 9, constantValue := 0 }, { name := "LOG2_BYTE_BIT_SIZE", type := .int, accessFlags := 26, slot := 10, constantValue := 0 }, { name := "T_BOOLEAN", type := .int, accessFlags := 25, slot := 11, constantValue := 0 }, { name := "T_CHAR", type := .int, accessFlags := 25, slot := 12, constantValue := 0 }, { name := "T_FLOAT", type := .int, accessFlags := 25, slot := 13, constantValue := 0 }, { name := "T_DOUBLE", type := .int, accessFlags := 25, slot := 14, constantValue := 0 }, { name := "T_BYTE", type := .int, accessFlags := 25, slot := 15, constantValue := 0 }, { name := "T_SHORT", type := .int, accessFlags := 25, slot := 16, constantValue := 0 }, { name := "T_INT", type := .int, accessFlags := 25, slot := 17, constantValue := 0 }, { name := "T_LONG", type := .int, accessFlags := 25, slot := 18, constantValue := 0 }, { name := "JLA", type := (.object "jdk/internal/access/JavaLangAccess"), accessFlags := 26, slot := 19, constantValue := 0 }, { name := "SOFT_MAX_ARRAY_LENGTH", type := .int, accessFlags := 25, slot := 20, constantValue := 0 }]
  methods := #[k31m0]
  instanceTypes := #[]
  staticTypes := #[(.object "jdk/internal/misc/Unsafe"), .boolean, .int, .int, .int, .int, .int, .int, .int, .int, .int, .int, .int, .int, .int, .int, .int, .int, .int, (.object "jdk/internal/access/JavaLangAccess"), .int]
  resolved := Array.replicate 378 none
  statics := none }

def pool32 : Array CpInfo := pool [(1, .class_ 2), (0, u "java/lang/Class"), (0, .class_ 4), (0, u "java/lang/Object")] 0

/-- java/lang/Class -/
def k32 : Class := { plain "java/lang/Class" (some 0) with
  accessFlags := 49
  interfaces := #[]
  cf := some (fileOf pool32 1 #[] #[] 49 3 #[] #[])
  fields := #[]
  methods := #[]
  instanceTypes := #[]
  staticTypes := #[]
  resolved := Array.replicate 5 none
  statics := none }

/-- the primitive byte -/
def k33 : Class := { plain "byte" none with kind := .primitive 'B', accessFlags := 0x411 }
/-- [B -/
def k34 : Class := { plain "[B" (some 0) with kind := .array 33 .byte, interfaces := #[16, 2], accessFlags := 1041 }

/-- the primitive char -/
def k35 : Class := { plain "char" none with kind := .primitive 'C', accessFlags := 0x411 }
/-- [C -/
def k36 : Class := { plain "[C" (some 0) with kind := .array 35 .char, interfaces := #[16, 2], accessFlags := 1041 }

/-- the primitive int -/
def k37 : Class := { plain "int" none with kind := .primitive 'I', accessFlags := 0x411 }
/-- [I -/
def k38 : Class := { plain "[I" (some 0) with kind := .array 37 .int, interfaces := #[16, 2], accessFlags := 1041 }

/-- [Ljava/lang/Object; -/
def k39 : Class := { plain "[Ljava/lang/Object;" (some 0) with kind := .array 0 (.object "java/lang/Object"), interfaces := #[16, 2], accessFlags := 1041, mirror := some 4 }

def heap : Heap := #[{ cls := 7, slots := #[.long 0, .int 1, .null, .int 0, .null, .int 0, .int 0], vm := .statics 7 },
  { cls := 17, slots := #[.long 0, .int 0, .ref 7, .ref 8], vm := .statics 17 },
  { cls := 22, slots := #[.long 0, .int 0, .null, .ref 9, .ref 6, .null, .null, .null, .int 0, .int 1], vm := .statics 22 },
  { cls := 30, slots := #[.null, .null, .null], vm := .statics 30 },
  { cls := 32, slots := #[], vm := .mirror 39 },
  { cls := 39, slots := #[], vm := .none },
  { cls := 26, slots := #[.ref 5, .int 0], vm := .none },
  { cls := 39, slots := #[], vm := .none },
  { cls := 39, slots := #[], vm := .none },
  { cls := 0, slots := #[], vm := .none }]
def classes : Array Class := #[k0, k1, k2, k3, k4, k5, k6, k7, k8, k9, k10, k11, k12, k13, k14, k15, k16, k17, k18, k19, k20, k21, k22, k23, k24, k25, k26, k27, k28, k29, k30, k31, k32, k33, k34, k35, k36, k37, k38, k39]
def interned : List (Array UInt16 × Addr) := []
def slotsUsed : Nat := 26
def theMethod : MethodId := ⟨1, 1⟩
def args0 : Array Value := #[.int 5, .int 7, .int 3, .int 9]
def aboutOver (below : List Frame) : State where
  vm := { classes := classes, interned := interned.toArray }
  heap := heap
  slotsUsed := slotsUsed
  threads := #[{ frames := .invoking theMethod args0 :: below }]
def below0 : List Frame := [.native { method := ⟨0, 0⟩, args := #[] }]
def about1 : State := aboutOver below0
def p0 : Program := .bare "" "" ""
def e0 : Env := launch0.env 0 0 0
theorem w_frames : about1.frames = Frame.invoking theMethod args0 :: below0 := rfl
set_option maxRecDepth 65536 in
theorem w_args : argsFit about1.vm theMethod args0 = true := by decide +kernel
set_option maxRecDepth 65536 in
theorem w_heap : heapFits about1 = true := by decide +kernel
set_option maxRecDepth 65536 in
theorem w_runnable : about1.curStatus? = some .runnable := by decide +kernel
set_option maxRecDepth 65536 in
theorem w_alone : about1.alone = true := by decide +kernel
set_option maxRecDepth 65536 in
theorem w_named : about1.methodNamed? x = some theMethod := by decide +kernel
set_option maxRecDepth 65536 in
theorem w_hears : about1.hears theMethod below0 = true := by decide +kernel
set_option maxRecDepth 65536 in
theorem w_ripe : about1.ripe theMethod args0 below0 = true := by decide +kernel
theorem w_running : about1.status = .running := rfl
set_option maxRecDepth 65536 in
theorem w_room : about1.hasRoom e0.platform room_1 = true :=
  launch0.hasRoom_least _ room_1 (by decide +kernel) (by decide +kernel) (by decide +kernel) (by decide +kernel) (by decide +kernel) (by decide +kernel)
theorem allAtoms_all (ts : List Jvm.Cond) (a : Array Jvm.Value) (st : Jvm.State) : (allAtoms ts).before a st = ts.all (fun c => c.before a st) := by
  induction ts with
  | nil => rfl
  | cons c t ih =>
    show (Jvm.Cond.and c (allAtoms t)).before a st = _
    rw [Jvm.Cond.before_and, ih, List.all_cons]
def words1 : List Jvm.Cond := Jvm.Cond.code x code maxLocals ret :: tables_1
/-- a 'code' word, met by the world's own term for the bytes: nothing is compared byte by byte -/
theorem code_word {y : MethodName} {bytes : ByteArray} {mx : Nat} {rt : Option FieldType} {a : Array Value} {s : State} {m : MethodId} {meth : Method} {c : Code} (h1 : s.methodNamed? y = some m) (h2 : s.vm.method? m = some meth) (h3 : meth.code = some c) (h4 : c.code = bytes)
    (h5 : (c.maxLocals == mx && c.exceptionTable.isEmpty && decide (c.maxStack ≤ mostOperands) && decide (meth.sig.returnType = rt) && !meth.locks && decide (parseMethodDescriptor y.desc = some meth.sig)) = true) : (Jvm.Cond.code y bytes mx rt).before a s = true := by
  simp only [Bool.and_eq_true, beq_iff_eq, Bool.not_eq_true', decide_eq_true_eq] at h5
  obtain ⟨⟨⟨⟨⟨g1, g2⟩, g3⟩, g4⟩, g5⟩, g6⟩ := h5
  simp [Cond.before, Cond.holds, Cond.value, h1, h2, h3, h4, g1, g2, g3, g4, g5, g6]
def isCode : Jvm.Cond → Bool
  | .code _ _ _ _ => true
  | _ => false
theorem all_split {L : List Jvm.Cond} {P : Jvm.Cond → Bool} (h1 : L.all (fun c => isCode c || P c) = true) (h2 : ∀ c ∈ L.filter isCode, P c = true) : L.all P = true := by
  refine List.all_eq_true.mpr fun c hc => ?_
  have h := List.all_eq_true.mp h1 c hc
  rcases Bool.eq_false_or_eq_true (isCode c) with hi | hi
  · exact h2 c (List.mem_filter.mpr ⟨hc, hi⟩)
  · simpa [hi] using h
set_option maxRecDepth 65536 in
theorem w_c0 : (Jvm.Cond.code x code maxLocals ret).before args0 about1 = true := code_word (m := ⟨1, 1⟩) (meth := k1m1) (c := k1c1) (by decide +kernel) rfl rfl rfl (by decide +kernel)
set_option maxRecDepth 65536 in
theorem w_c1 : (Jvm.Cond.code ({ cls := "java/lang/String", name := "<init>", desc := "([C)V" } : Jvm.MethodName) jdk_42_method_3_code (2 : Nat) (Option.none : Option Jvm.ClassFile.FieldType)).before args0 about1 = true := code_word (m := ⟨7, 1⟩) (meth := k7m1) (c := k7c1) (by decide +kernel) rfl rfl rfl (by decide +kernel)
set_option maxRecDepth 65536 in
theorem w_c2 : (Jvm.Cond.code ({ cls := "java/lang/String", name := "<init>", desc := "([CIILjava/lang/Void;)V" } : Jvm.MethodName) jdk_42_method_149_code (6 : Nat) (Option.none : Option Jvm.ClassFile.FieldType)).before args0 about1 = true := code_word (m := ⟨7, 3⟩) (meth := k7m3) (c := k7c3) (by decide +kernel) rfl rfl rfl (by decide +kernel)
set_option maxRecDepth 65536 in
theorem w_c3 : (Jvm.Cond.code ({ cls := "java/lang/Object", name := "<init>", desc := "()V" } : Jvm.MethodName) object_method_1_code (1 : Nat) (Option.none : Option Jvm.ClassFile.FieldType)).before args0 about1 = true := code_word (m := ⟨0, 0⟩) (meth := k0m0) (c := k0c0) (by decide +kernel) rfl rfl rfl (by decide +kernel)
set_option maxRecDepth 65536 in
theorem w_c4 : (Jvm.Cond.code ({ cls := "java/lang/StringUTF16", name := "compress", desc := "([CII)[B" } : Jvm.MethodName) jdk_52_method_16_code (6 : Nat) (Option.some (Jvm.ClassFile.FieldType.array Jvm.ClassFile.FieldType.byte))).before args0 about1 = true := code_word (m := ⟨8, 2⟩) (meth := k8m2) (c := k8c2) (by decide +kernel) rfl rfl rfl (by decide +kernel)
set_option maxRecDepth 65536 in
theorem w_c5 : (Jvm.Cond.code ({ cls := "java/lang/StringUTF16", name := "compress", desc := "([CI[BII)I" } : Jvm.MethodName) jdk_52_method_21_code (7 : Nat) (Option.some Jvm.ClassFile.FieldType.int)).before args0 about1 = true := code_word (m := ⟨8, 3⟩) (meth := k8m3) (c := k8c3) (by decide +kernel) rfl rfl rfl (by decide +kernel)
set_option maxRecDepth 65536 in
theorem w_c6 : (Jvm.Cond.code ({ cls := "java/lang/StringUTF16", name := "coderFromArrayLen", desc := "([BI)B" } : Jvm.MethodName) jdk_52_method_15_code (2 : Nat) (Option.some Jvm.ClassFile.FieldType.byte)).before args0 about1 = true := code_word (m := ⟨8, 1⟩) (meth := k8m1) (c := k8c1) (by decide +kernel) rfl rfl rfl (by decide +kernel)
set_option maxRecDepth 65536 in
theorem w_c7 : (Jvm.Cond.code ({ cls := "java/util/ArrayList", name := "<init>", desc := "()V" } : Jvm.MethodName) jdk_38_method_2_code (1 : Nat) (Option.none : Option Jvm.ClassFile.FieldType)).before args0 about1 = true := code_word (m := ⟨17, 0⟩) (meth := k17m0) (c := k17c0) (by decide +kernel) rfl rfl rfl (by decide +kernel)
set_option maxRecDepth 65536 in
theorem w_c8 : (Jvm.Cond.code ({ cls := "java/util/AbstractList", name := "<init>", desc := "()V" } : Jvm.MethodName) jdk_39_method_1_code (1 : Nat) (Option.none : Option Jvm.ClassFile.FieldType)).before args0 about1 = true := code_word (m := ⟨14, 0⟩) (meth := k14m0) (c := k14c0) (by decide +kernel) rfl rfl rfl (by decide +kernel)
set_option maxRecDepth 65536 in
theorem w_c9 : (Jvm.Cond.code ({ cls := "java/util/AbstractCollection", name := "<init>", desc := "()V" } : Jvm.MethodName) jdk_22_method_1_code (1 : Nat) (Option.none : Option Jvm.ClassFile.FieldType)).before args0 about1 = true := code_word (m := ⟨11, 0⟩) (meth := k11m0) (c := k11c0) (by decide +kernel) rfl rfl rfl (by decide +kernel)
set_option maxRecDepth 65536 in
theorem w_c10 : (Jvm.Cond.code ({ cls := "java/lang/String", name := "valueOf", desc := "(C)Ljava/lang/String;" } : Jvm.MethodName) jdk_42_method_139_code (1 : Nat) (Option.some (Jvm.ClassFile.FieldType.object "java/lang/String"))).before args0 about1 = true := code_word (m := ⟨7, 2⟩) (meth := k7m2) (c := k7c2) (by decide +kernel) rfl rfl rfl (by decide +kernel)
set_option maxRecDepth 65536 in
theorem w_c11 : (Jvm.Cond.code ({ cls := "java/lang/StringLatin1", name := "canEncode", desc := "(C)Z" } : Jvm.MethodName) jdk_43_method_3_code (1 : Nat) (Option.some Jvm.ClassFile.FieldType.boolean)).before args0 about1 = true := code_word (m := ⟨18, 1⟩) (meth := k18m1) (c := k18c1) (by decide +kernel) rfl rfl rfl (by decide +kernel)
set_option maxRecDepth 65536 in
theorem w_c12 : (Jvm.Cond.code ({ cls := "java/lang/StringLatin1", name := "toBytes", desc := "(C)[B" } : Jvm.MethodName) jdk_43_method_46_code (1 : Nat) (Option.some (Jvm.ClassFile.FieldType.array Jvm.ClassFile.FieldType.byte))).before args0 about1 = true := code_word (m := ⟨18, 2⟩) (meth := k18m2) (c := k18c2) (by decide +kernel) rfl rfl rfl (by decide +kernel)
set_option maxRecDepth 65536 in
theorem w_c13 : (Jvm.Cond.code ({ cls := "java/lang/String", name := "<init>", desc := "([BB)V" } : Jvm.MethodName) jdk_42_method_151_code (3 : Nat) (Option.none : Option Jvm.ClassFile.FieldType)).before args0 about1 = true := code_word (m := ⟨7, 4⟩) (meth := k7m4) (c := k7c4) (by decide +kernel) rfl rfl rfl (by decide +kernel)
set_option maxRecDepth 65536 in
theorem w_c14 : (Jvm.Cond.code ({ cls := "java/util/ArrayList", name := "add", desc := "(Ljava/lang/Object;)Z" } : Jvm.MethodName) jdk_38_method_25_code (2 : Nat) (Option.some Jvm.ClassFile.FieldType.boolean)).before args0 about1 = true := code_word (m := ⟨17, 6⟩) (meth := k17m6) (c := k17c6) (by decide +kernel) rfl rfl rfl (by decide +kernel)
set_option maxRecDepth 65536 in
theorem w_c15 : (Jvm.Cond.code ({ cls := "java/util/ArrayList", name := "add", desc := "(Ljava/lang/Object;[Ljava/lang/Object;I)V" } : Jvm.MethodName) jdk_38_method_24_code (4 : Nat) (Option.none : Option Jvm.ClassFile.FieldType)).before args0 about1 = true := code_word (m := ⟨17, 5⟩) (meth := k17m5) (c := k17c5) (by decide +kernel) rfl rfl rfl (by decide +kernel)
set_option maxRecDepth 65536 in
theorem w_c16 : (Jvm.Cond.code ({ cls := "java/util/ArrayList", name := "grow", desc := "()[Ljava/lang/Object;" } : Jvm.MethodName) jdk_38_method_7_code (1 : Nat) (Option.some (Jvm.ClassFile.FieldType.array (Jvm.ClassFile.FieldType.object "java/lang/Object")))).before args0 about1 = true := code_word (m := ⟨17, 2⟩) (meth := k17m2) (c := k17c2) (by decide +kernel) rfl rfl rfl (by decide +kernel)
set_option maxRecDepth 65536 in
theorem w_c17 : (Jvm.Cond.code ({ cls := "java/util/ArrayList", name := "grow", desc := "(I)[Ljava/lang/Object;" } : Jvm.MethodName) jdk_38_method_6_code (4 : Nat) (Option.some (Jvm.ClassFile.FieldType.array (Jvm.ClassFile.FieldType.object "java/lang/Object")))).before args0 about1 = true := code_word (m := ⟨17, 1⟩) (meth := k17m1) (c := k17c1) (by decide +kernel) rfl rfl rfl (by decide +kernel)
set_option maxRecDepth 65536 in
theorem w_c18 : (Jvm.Cond.code ({ cls := "java/lang/Math", name := "max", desc := "(II)I" } : Jvm.MethodName) jdk_29_method_65_code (2 : Nat) (Option.some Jvm.ClassFile.FieldType.int)).before args0 about1 = true := code_word (m := ⟨19, 1⟩) (meth := k19m1) (c := k19c1) (by decide +kernel) rfl rfl rfl (by decide +kernel)
set_option maxRecDepth 65536 in
theorem w_c19 : (Jvm.Cond.code ({ cls := "com/example/rootward/rootward/policy/Binding", name := "<init>", desc := "(Ljava/lang/String;Ljava/util/Collection;Lcom/example/rootward/rootward/policy/Condition;)V" } : Jvm.MethodName) prog_54_method_1_code (4 : Nat) (Option.none : Option Jvm.ClassFile.FieldType)).before args0 about1 = true := code_word (m := ⟨20, 0⟩) (meth := k20m0) (c := k20c0) (by decide +kernel) rfl rfl rfl (by decide +kernel)
set_option maxRecDepth 65536 in
theorem w_c20 : (Jvm.Cond.code ({ cls := "java/util/Objects", name := "requireNonNull", desc := "(Ljava/lang/Object;Ljava/lang/String;)Ljava/lang/Object;" } : Jvm.MethodName) jdk_31_method_11_code (2 : Nat) (Option.some (Jvm.ClassFile.FieldType.object "java/lang/Object"))).before args0 about1 = true := code_word (m := ⟨21, 2⟩) (meth := k21m2) (c := k21c2) (by decide +kernel) rfl rfl rfl (by decide +kernel)
set_option maxRecDepth 65536 in
theorem w_c21 : (Jvm.Cond.code ({ cls := "java/util/List", name := "copyOf", desc := "(Ljava/util/Collection;)Ljava/util/List;" } : Jvm.MethodName) jdk_40_method_48_code (1 : Nat) (Option.some (Jvm.ClassFile.FieldType.object "java/util/List"))).before args0 about1 = true := code_word (m := ⟨13, 2⟩) (meth := k13m2) (c := k13c2) (by decide +kernel) rfl rfl rfl (by decide +kernel)
set_option maxRecDepth 65536 in
theorem w_c22 : (Jvm.Cond.code ({ cls := "java/util/ImmutableCollections", name := "listCopy", desc := "(Ljava/util/Collection;)Ljava/util/List;" } : Jvm.MethodName) jdk_56_method_3_code (2 : Nat) (Option.some (Jvm.ClassFile.FieldType.object "java/util/List"))).before args0 about1 = true := code_word (m := ⟨22, 1⟩) (meth := k22m1) (c := k22c1) (by decide +kernel) rfl rfl rfl (by decide +kernel)
set_option maxRecDepth 65536 in
theorem w_c23 : (Jvm.Cond.code ({ cls := "java/util/ArrayList", name := "isEmpty", desc := "()Z" } : Jvm.MethodName) jdk_38_method_9_code (1 : Nat) (Option.some Jvm.ClassFile.FieldType.boolean)).before args0 about1 = true := code_word (m := ⟨17, 3⟩) (meth := k17m3) (c := k17c3) (by decide +kernel) rfl rfl rfl (by decide +kernel)
set_option maxRecDepth 65536 in
theorem w_c24 : (Jvm.Cond.code ({ cls := "java/util/ArrayList", name := "toArray", desc := "()[Ljava/lang/Object;" } : Jvm.MethodName) jdk_38_method_16_code (1 : Nat) (Option.some (Jvm.ClassFile.FieldType.array (Jvm.ClassFile.FieldType.object "java/lang/Object")))).before args0 about1 = true := code_word (m := ⟨17, 4⟩) (meth := k17m4) (c := k17c4) (by decide +kernel) rfl rfl rfl (by decide +kernel)
set_option maxRecDepth 65536 in
theorem w_c25 : (Jvm.Cond.code ({ cls := "java/util/Arrays", name := "copyOf", desc := "([Ljava/lang/Object;I)[Ljava/lang/Object;" } : Jvm.MethodName) jdk_65_method_119_code (2 : Nat) (Option.some (Jvm.ClassFile.FieldType.array (Jvm.ClassFile.FieldType.object "java/lang/Object")))).before args0 about1 = true := code_word (m := ⟨27, 1⟩) (meth := k27m1) (c := k27c1) (by decide +kernel) rfl rfl rfl (by decide +kernel)
set_option maxRecDepth 65536 in
theorem w_c26 : (Jvm.Cond.code ({ cls := "java/util/Arrays", name := "copyOf", desc := "([Ljava/lang/Object;ILjava/lang/Class;)[Ljava/lang/Object;" } : Jvm.MethodName) jdk_65_method_120_code (4 : Nat) (Option.some (Jvm.ClassFile.FieldType.array (Jvm.ClassFile.FieldType.object "java/lang/Object")))).before args0 about1 = true := code_word (m := ⟨27, 2⟩) (meth := k27m2) (c := k27c2) (by decide +kernel) rfl rfl rfl (by decide +kernel)
set_option maxRecDepth 65536 in
theorem w_c27 : (Jvm.Cond.code ({ cls := "java/lang/Math", name := "min", desc := "(II)I" } : Jvm.MethodName) jdk_29_method_69_code (2 : Nat) (Option.some Jvm.ClassFile.FieldType.int)).before args0 about1 = true := code_word (m := ⟨19, 2⟩) (meth := k19m2) (c := k19c2) (by decide +kernel) rfl rfl rfl (by decide +kernel)
set_option maxRecDepth 65536 in
theorem w_c28 : (Jvm.Cond.code ({ cls := "java/util/List", name := "of", desc := "([Ljava/lang/Object;)Ljava/util/List;" } : Jvm.MethodName) jdk_40_method_47_code (2 : Nat) (Option.some (Jvm.ClassFile.FieldType.object "java/util/List"))).before args0 about1 = true := code_word (m := ⟨13, 1⟩) (meth := k13m1) (c := k13c1) (by decide +kernel) rfl rfl rfl (by decide +kernel)
set_option maxRecDepth 65536 in
theorem w_c29 : (Jvm.Cond.code ({ cls := "java/util/ImmutableCollections", name := "listFromArray", desc := "([Ljava/lang/Object;)Ljava/util/List;" } : Jvm.MethodName) jdk_56_method_4_code (3 : Nat) (Option.some (Jvm.ClassFile.FieldType.object "java/util/List"))).before args0 about1 = true := code_word (m := ⟨22, 2⟩) (meth := k22m2) (c := k22c2) (by decide +kernel) rfl rfl rfl (by decide +kernel)
set_option maxRecDepth 65536 in
theorem w_c30 : (Jvm.Cond.code ({ cls := "java/util/Objects", name := "requireNonNull", desc := "(Ljava/lang/Object;)Ljava/lang/Object;" } : Jvm.MethodName) jdk_31_method_10_code (1 : Nat) (Option.some (Jvm.ClassFile.FieldType.object "java/lang/Object"))).before args0 about1 = true := code_word (m := ⟨21, 1⟩) (meth := k21m1) (c := k21c1) (by decide +kernel) rfl rfl rfl (by decide +kernel)
set_option maxRecDepth 65536 in
theorem w_c31 : (Jvm.Cond.code ({ cls := "java/util/ImmutableCollections$ListN", name := "<init>", desc := "([Ljava/lang/Object;Z)V" } : Jvm.MethodName) jdk_45_method_1_code (3 : Nat) (Option.none : Option Jvm.ClassFile.FieldType)).before args0 about1 = true := code_word (m := ⟨26, 0⟩) (meth := k26m0) (c := k26c0) (by decide +kernel) rfl rfl rfl (by decide +kernel)
set_option maxRecDepth 65536 in
theorem w_c32 : (Jvm.Cond.code ({ cls := "java/util/ImmutableCollections$AbstractImmutableList", name := "<init>", desc := "()V" } : Jvm.MethodName) jdk_46_method_1_code (1 : Nat) (Option.none : Option Jvm.ClassFile.FieldType)).before args0 about1 = true := code_word (m := ⟨24, 0⟩) (meth := k24m0) (c := k24c0) (by decide +kernel) rfl rfl rfl (by decide +kernel)
set_option maxRecDepth 65536 in
theorem w_c33 : (Jvm.Cond.code ({ cls := "java/util/ImmutableCollections$AbstractImmutableCollection", name := "<init>", desc := "()V" } : Jvm.MethodName) jdk_47_method_1_code (1 : Nat) (Option.none : Option Jvm.ClassFile.FieldType)).before args0 about1 = true := code_word (m := ⟨23, 0⟩) (meth := k23m0) (c := k23c0) (by decide +kernel) rfl rfl rfl (by decide +kernel)
set_option maxRecDepth 65536 in
theorem w_c34 : (Jvm.Cond.code ({ cls := "com/example/rootward/rootward/policy/Binding", name := "isConditional", desc := "()Z" } : Jvm.MethodName) prog_54_method_5_code (1 : Nat) (Option.some Jvm.ClassFile.FieldType.boolean)).before args0 about1 = true := code_word (m := ⟨20, 1⟩) (meth := k20m1) (c := k20c1) (by decide +kernel) rfl rfl rfl (by decide +kernel)
set_option maxRecDepth 65536 in
theorem w_c35 : (Jvm.Cond.code ({ cls := "com/example/rootward/rootward/policy/Condition", name := "<init>", desc := "(Ljava/lang/String;Ljava/lang/String;Ljava/lang/String;Ljava/lang/String;)V" } : Jvm.MethodName) prog_56_method_1_code (5 : Nat) (Option.none : Option Jvm.ClassFile.FieldType)).before args0 about1 = true := code_word (m := ⟨29, 0⟩) (meth := k29m0) (c := k29c0) (by decide +kernel) rfl rfl rfl (by decide +kernel)
set_option maxRecDepth 65536 in
theorem w_c36 : (Jvm.Cond.code ({ cls := "java/util/ImmutableCollections$List12", name := "<init>", desc := "(Ljava/lang/Object;Ljava/lang/Object;)V" } : Jvm.MethodName) jdk_44_method_2_code (3 : Nat) (Option.none : Option Jvm.ClassFile.FieldType)).before args0 about1 = true := code_word (m := ⟨25, 1⟩) (meth := k25m1) (c := k25c1) (by decide +kernel) rfl rfl rfl (by decide +kernel)
set_option maxRecDepth 65536 in
theorem w_c37 : (Jvm.Cond.code ({ cls := "java/util/List", name := "of", desc := "()Ljava/util/List;" } : Jvm.MethodName) jdk_40_method_36_code (0 : Nat) (Option.some (Jvm.ClassFile.FieldType.object "java/util/List"))).before args0 about1 = true := code_word (m := ⟨13, 0⟩) (meth := k13m0) (c := k13c0) (by decide +kernel) rfl rfl rfl (by decide +kernel)
set_option maxRecDepth 65536 in
theorem w_c38 : (Jvm.Cond.code ({ cls := "java/util/ImmutableCollections$List12", name := "<init>", desc := "(Ljava/lang/Object;)V" } : Jvm.MethodName) jdk_44_method_1_code (2 : Nat) (Option.none : Option Jvm.ClassFile.FieldType)).before args0 about1 = true := code_word (m := ⟨25, 0⟩) (meth := k25m0) (c := k25c0) (by decide +kernel) rfl rfl rfl (by decide +kernel)
def codes1 : List Jvm.Cond := [Jvm.Cond.code x code maxLocals ret, Jvm.Cond.code ({ cls := "java/lang/String", name := "<init>", desc := "([C)V" } : Jvm.MethodName) jdk_42_method_3_code (2 : Nat) (Option.none : Option Jvm.ClassFile.FieldType), Jvm.Cond.code ({ cls := "java/lang/String", name := "<init>", desc := "([CIILjava/lang/Void;)V" } : Jvm.MethodName) jdk_42_method_149_code (6 : Nat) (Option.none : Option Jvm.ClassFile.FieldType), Jvm.Cond.code ({ cls := "java/lang/Object", name := "<init>", desc := "()V" } : Jvm.MethodName) object_method_1_code (1 : Nat) (Option.none : Option Jvm.ClassFile.FieldType), Jvm.Cond.code ({ cls := "java/lang/StringUTF16", name := "compress", desc := "([CII)[B" } : Jvm.MethodName) jdk_52_method_16_code (6 : Nat) (Option.some (Jvm.ClassFile.FieldType.array Jvm.ClassFile.FieldType.byte)), Jvm.Cond.code ({ cls := "java/lang/StringUTF16", name := "compress", desc := "([CI[BII)I" } : Jvm.MethodName) jdk_52_method_21_code (7 : Nat) (Option.some Jvm.ClassFile.FieldType.int), Jvm.Cond.code ({ cls := "java/lang/StringUTF16", name := "coderFromArrayLen", desc := "([BI)B" } : Jvm.MethodName) jdk_52_method_15_code (2 : Nat) (Option.some Jvm.ClassFile.FieldType.byte), Jvm.Cond.code ({ cls := "java/util/ArrayList", name := "<init>", desc := "()V" } : Jvm.MethodName) jdk_38_method_2_code (1 : Nat) (Option.none : Option Jvm.ClassFile.FieldType), Jvm.Cond.code ({ cls := "java/util/AbstractList", name := "<init>", desc := "()V" } : Jvm.MethodName) jdk_39_method_1_code (1 : Nat) (Option.none : Option Jvm.ClassFile.FieldType), Jvm.Cond.code ({ cls := "java/util/AbstractCollection", name := "<init>", desc := "()V" } : Jvm.MethodName) jdk_22_method_1_code (1 : Nat) (Option.none : Option Jvm.ClassFile.FieldType), Jvm.Cond.code ({ cls := "java/lang/String", name := "valueOf", desc := "(C)Ljava/lang/String;" } : Jvm.MethodName) jdk_42_method_139_code (1 : Nat) (Option.some (Jvm.ClassFile.FieldType.object "java/lang/String")), Jvm.Cond.code ({ cls := "java/lang/StringLatin1", name := "canEncode", desc := "(C)Z" } : Jvm.MethodName) jdk_43_method_3_code (1 : Nat) (Option.some Jvm.ClassFile.FieldType.boolean), Jvm.Cond.code ({ cls := "java/lang/StringLatin1", name := "toBytes", desc := "(C)[B" } : Jvm.MethodName) jdk_43_method_46_code (1 : Nat) (Option.some (Jvm.ClassFile.FieldType.array Jvm.ClassFile.FieldType.byte)), Jvm.Cond.code ({ cls := "java/lang/String", name := "<init>", desc := "([BB)V" } : Jvm.MethodName) jdk_42_method_151_code (3 : Nat) (Option.none : Option Jvm.ClassFile.FieldType), Jvm.Cond.code ({ cls := "java/util/ArrayList", name := "add", desc := "(Ljava/lang/Object;)Z" } : Jvm.MethodName) jdk_38_method_25_code (2 : Nat) (Option.some Jvm.ClassFile.FieldType.boolean), Jvm.Cond.code ({ cls := "java/util/ArrayList", name := "add", desc := "(Ljava/lang/Object;[Ljava/lang/Object;I)V" } : Jvm.MethodName) jdk_38_method_24_code (4 : Nat) (Option.none : Option Jvm.ClassFile.FieldType), Jvm.Cond.code ({ cls := "java/util/ArrayList", name := "grow", desc := "()[Ljava/lang/Object;" } : Jvm.MethodName) jdk_38_method_7_code (1 : Nat) (Option.some (Jvm.ClassFile.FieldType.array (Jvm.ClassFile.FieldType.object "java/lang/Object"))), Jvm.Cond.code ({ cls := "java/util/ArrayList", name := "grow", desc := "(I)[Ljava/lang/Object;" } : Jvm.MethodName) jdk_38_method_6_code (4 : Nat) (Option.some (Jvm.ClassFile.FieldType.array (Jvm.ClassFile.FieldType.object "java/lang/Object"))), Jvm.Cond.code ({ cls := "java/lang/Math", name := "max", desc := "(II)I" } : Jvm.MethodName) jdk_29_method_65_code (2 : Nat) (Option.some Jvm.ClassFile.FieldType.int), Jvm.Cond.code ({ cls := "com/example/rootward/rootward/policy/Binding", name := "<init>", desc := "(Ljava/lang/String;Ljava/util/Collection;Lcom/example/rootward/rootward/policy/Condition;)V" } : Jvm.MethodName) prog_54_method_1_code (4 : Nat) (Option.none : Option Jvm.ClassFile.FieldType), Jvm.Cond.code ({ cls := "java/util/Objects", name := "requireNonNull", desc := "(Ljava/lang/Object;Ljava/lang/String;)Ljava/lang/Object;" } : Jvm.MethodName) jdk_31_method_11_code (2 : Nat) (Option.some (Jvm.ClassFile.FieldType.object "java/lang/Object")), Jvm.Cond.code ({ cls := "java/util/List", name := "copyOf", desc := "(Ljava/util/Collection;)Ljava/util/List;" } : Jvm.MethodName) jdk_40_method_48_code (1 : Nat) (Option.some (Jvm.ClassFile.FieldType.object "java/util/List")), Jvm.Cond.code ({ cls := "java/util/ImmutableCollections", name := "listCopy", desc := "(Ljava/util/Collection;)Ljava/util/List;" } : Jvm.MethodName) jdk_56_method_3_code (2 : Nat) (Option.some (Jvm.ClassFile.FieldType.object "java/util/List")), Jvm.Cond.code ({ cls := "java/util/ArrayList", name := "isEmpty", desc := "()Z" } : Jvm.MethodName) jdk_38_method_9_code (1 : Nat) (Option.some Jvm.ClassFile.FieldType.boolean), Jvm.Cond.code ({ cls := "java/util/ArrayList", name := "toArray", desc := "()[Ljava/lang/Object;" } : Jvm.MethodName) jdk_38_method_16_code (1 : Nat) (Option.some (Jvm.ClassFile.FieldType.array (Jvm.ClassFile.FieldType.object "java/lang/Object"))), Jvm.Cond.code ({ cls := "java/util/Arrays", name := "copyOf", desc := "([Ljava/lang/Object;I)[Ljava/lang/Object;" } : Jvm.MethodName) jdk_65_method_119_code (2 : Nat) (Option.some (Jvm.ClassFile.FieldType.array (Jvm.ClassFile.FieldType.object "java/lang/Object"))), Jvm.Cond.code ({ cls := "java/util/Arrays", name := "copyOf", desc := "([Ljava/lang/Object;ILjava/lang/Class;)[Ljava/lang/Object;" } : Jvm.MethodName) jdk_65_method_120_code (4 : Nat) (Option.some (Jvm.ClassFile.FieldType.array (Jvm.ClassFile.FieldType.object "java/lang/Object"))), Jvm.Cond.code ({ cls := "java/lang/Math", name := "min", desc := "(II)I" } : Jvm.MethodName) jdk_29_method_69_code (2 : Nat) (Option.some Jvm.ClassFile.FieldType.int), Jvm.Cond.code ({ cls := "java/util/List", name := "of", desc := "([Ljava/lang/Object;)Ljava/util/List;" } : Jvm.MethodName) jdk_40_method_47_code (2 : Nat) (Option.some (Jvm.ClassFile.FieldType.object "java/util/List")), Jvm.Cond.code ({ cls := "java/util/ImmutableCollections", name := "listFromArray", desc := "([Ljava/lang/Object;)Ljava/util/List;" } : Jvm.MethodName) jdk_56_method_4_code (3 : Nat) (Option.some (Jvm.ClassFile.FieldType.object "java/util/List")), Jvm.Cond.code ({ cls := "java/util/Objects", name := "requireNonNull", desc := "(Ljava/lang/Object;)Ljava/lang/Object;" } : Jvm.MethodName) jdk_31_method_10_code (1 : Nat) (Option.some (Jvm.ClassFile.FieldType.object "java/lang/Object")), Jvm.Cond.code ({ cls := "java/util/ImmutableCollections$ListN", name := "<init>", desc := "([Ljava/lang/Object;Z)V" } : Jvm.MethodName) jdk_45_method_1_code (3 : Nat) (Option.none : Option Jvm.ClassFile.FieldType), Jvm.Cond.code ({ cls := "java/util/ImmutableCollections$AbstractImmutableList", name := "<init>", desc := "()V" } : Jvm.MethodName) jdk_46_method_1_code (1 : Nat) (Option.none : Option Jvm.ClassFile.FieldType), Jvm.Cond.code ({ cls := "java/util/ImmutableCollections$AbstractImmutableCollection", name := "<init>", desc := "()V" } : Jvm.MethodName) jdk_47_method_1_code (1 : Nat) (Option.none : Option Jvm.ClassFile.FieldType), Jvm.Cond.code ({ cls := "com/example/rootward/rootward/policy/Binding", name := "isConditional", desc := "()Z" } : Jvm.MethodName) prog_54_method_5_code (1 : Nat) (Option.some Jvm.ClassFile.FieldType.boolean), Jvm.Cond.code ({ cls := "com/example/rootward/rootward/policy/Condition", name := "<init>", desc := "(Ljava/lang/String;Ljava/lang/String;Ljava/lang/String;Ljava/lang/String;)V" } : Jvm.MethodName) prog_56_method_1_code (5 : Nat) (Option.none : Option Jvm.ClassFile.FieldType), Jvm.Cond.code ({ cls := "java/util/ImmutableCollections$List12", name := "<init>", desc := "(Ljava/lang/Object;Ljava/lang/Object;)V" } : Jvm.MethodName) jdk_44_method_2_code (3 : Nat) (Option.none : Option Jvm.ClassFile.FieldType), Jvm.Cond.code ({ cls := "java/util/List", name := "of", desc := "()Ljava/util/List;" } : Jvm.MethodName) jdk_40_method_36_code (0 : Nat) (Option.some (Jvm.ClassFile.FieldType.object "java/util/List")), Jvm.Cond.code ({ cls := "java/util/ImmutableCollections$List12", name := "<init>", desc := "(Ljava/lang/Object;)V" } : Jvm.MethodName) jdk_44_method_1_code (2 : Nat) (Option.none : Option Jvm.ClassFile.FieldType)]
set_option maxRecDepth 65536 in
theorem codes_eq : words1.filter isCode = codes1 := rfl
theorem w_codes : ∀ c ∈ words1.filter isCode, c.before args0 about1 = true := by
  rw [codes_eq]
  intro c hc
  simp only [codes1, List.mem_cons, List.not_mem_nil, or_false] at hc
  rcases hc with rfl | rfl | rfl | rfl | rfl | rfl | rfl | rfl | rfl | rfl | rfl | rfl | rfl | rfl | rfl | rfl | rfl | rfl | rfl | rfl | rfl | rfl | rfl | rfl | rfl | rfl | rfl | rfl | rfl | rfl | rfl | rfl | rfl | rfl | rfl | rfl | rfl | rfl | rfl
  · exact w_c0
  · exact w_c1
  · exact w_c2
  · exact w_c3
  · exact w_c4
  · exact w_c5
  · exact w_c6
  · exact w_c7
  · exact w_c8
  · exact w_c9
  · exact w_c10
  · exact w_c11
  · exact w_c12
  · exact w_c13
  · exact w_c14
  · exact w_c15
  · exact w_c16
  · exact w_c17
  · exact w_c18
  · exact w_c19
  · exact w_c20
  · exact w_c21
  · exact w_c22
  · exact w_c23
  · exact w_c24
  · exact w_c25
  · exact w_c26
  · exact w_c27
  · exact w_c28
  · exact w_c29
  · exact w_c30
  · exact w_c31
  · exact w_c32
  · exact w_c33
  · exact w_c34
  · exact w_c35
  · exact w_c36
  · exact w_c37
  · exact w_c38
set_option maxRecDepth 65536 in
theorem w_t1 : (words1.take 24).all (fun c => isCode c || c.before args0 about1) = true := by decide +kernel
set_option maxRecDepth 65536 in
theorem w_t2 : ((words1.drop 24).take 24).all (fun c => isCode c || c.before args0 about1) = true := by decide +kernel
set_option maxRecDepth 65536 in
theorem w_t3 : (((words1.drop 24).drop 24).take 24).all (fun c => isCode c || c.before args0 about1) = true := by decide +kernel
set_option maxRecDepth 65536 in
theorem w_t4 : ((((words1.drop 24).drop 24).drop 24).take 24).all (fun c => isCode c || c.before args0 about1) = true := by decide +kernel
set_option maxRecDepth 65536 in
theorem w_t5 : (((((words1.drop 24).drop 24).drop 24).drop 24).take 24).all (fun c => isCode c || c.before args0 about1) = true := by decide +kernel
set_option maxRecDepth 65536 in
theorem w_t6 : ((((((words1.drop 24).drop 24).drop 24).drop 24).drop 24).take 24).all (fun c => isCode c || c.before args0 about1) = true := by decide +kernel
set_option maxRecDepth 65536 in
theorem w_t7 : (((((((words1.drop 24).drop 24).drop 24).drop 24).drop 24).drop 24).take 24).all (fun c => isCode c || c.before args0 about1) = true := by decide +kernel
set_option maxRecDepth 65536 in
theorem w_t8 : ((((((((words1.drop 24).drop 24).drop 24).drop 24).drop 24).drop 24).drop 24).take 24).all (fun c => isCode c || c.before args0 about1) = true := by decide +kernel
set_option maxRecDepth 65536 in
theorem w_t9 : (((((((((words1.drop 24).drop 24).drop 24).drop 24).drop 24).drop 24).drop 24).drop 24).take 24).all (fun c => isCode c || c.before args0 about1) = true := by decide +kernel
set_option maxRecDepth 65536 in
theorem w_t10 : ((((((((((words1.drop 24).drop 24).drop 24).drop 24).drop 24).drop 24).drop 24).drop 24).drop 24).take 24).all (fun c => isCode c || c.before args0 about1) = true := by decide +kernel
set_option maxRecDepth 65536 in
theorem w_t11 : ((((((((((words1.drop 24).drop 24).drop 24).drop 24).drop 24).drop 24).drop 24).drop 24).drop 24).drop 24).all (fun c => isCode c || c.before args0 about1) = true := by decide +kernel
theorem w_tables : (allAtoms (Jvm.Cond.code x code maxLocals ret :: tables_1)).before args0 about1 = true := by
  rw [allAtoms_all]
  show words1.all (fun c => c.before args0 about1) = true
  refine all_split ?_ w_codes
  rw [← List.take_append_drop 24 words1, List.all_append, w_t1, ← List.take_append_drop 24 (words1.drop 24), List.all_append, w_t2, ← List.take_append_drop 24 ((words1.drop 24).drop 24), List.all_append, w_t3, ← List.take_append_drop 24 (((words1.drop 24).drop 24).drop 24), List.all_append, w_t4, ← List.take_append_drop 24 ((((words1.drop 24).drop 24).drop 24).drop 24), List.all_append, w_t5, ← List.take_append_drop 24 (((((words1.drop 24).drop 24).drop 24).drop 24).drop 24), List.all_append, w_t6, ← List.take_append_drop 24 ((((((words1.drop 24).drop 24).drop 24).drop 24).drop 24).drop 24), List.all_append, w_t7, ← List.take_append_drop 24 (((((((words1.drop 24).drop 24).drop 24).drop 24).drop 24).drop 24).drop 24), List.all_append, w_t8, ← List.take_append_drop 24 ((((((((words1.drop 24).drop 24).drop 24).drop 24).drop 24).drop 24).drop 24).drop 24), List.all_append, w_t9, ← List.take_append_drop 24 (((((((((words1.drop 24).drop 24).drop 24).drop 24).drop 24).drop 24).drop 24).drop 24).drop 24), List.all_append, w_t10, w_t11]
  rfl
set_option maxRecDepth 65536 in
theorem w_rest : rest_1_c.before args0 about1 = true := by decide +kernel
set_option maxRecDepth 65536 in
theorem w_case : (Jvm.Cond.and given_1 narrow_1).before args0 about1 = true := by decide +kernel
theorem w_applies : (headSpec (Jvm.Cond.code x code maxLocals ret :: tables_1) room_1).applies x e0.platform about1 = true :=
  (Spec.applies_iff w_frames).mpr ⟨w_running, w_runnable, w_alone, w_named, w_hears, w_ripe, w_room, w_tables⟩
theorem atStart : AtStart classFile x code maxLocals ret World_1 tables_1 room_1 Calls_1 rest_1 Pre_1 launch0 p0 e0 about1 theMethod args0 below0 :=
  ⟨lists_1, trivial, launch0.admits_env _ _ _, launch0.least_env, fairChoices_fair.cas, fairChoices_fair.clock, w_frames, w_args, w_heap, w_applies, ⟨⟨39, k39, 4, by decide +kernel, rfl, rfl, _, rfl, rfl⟩, trivial⟩, w_rest, w_case⟩
end start1
theorem witness_1 : WitnessClaimed_1 := ⟨start1.p0, start1.e0, start1.about1, start1.theMethod, start1.args0, start1.below0, start1.atStart⟩
end Jvm.Pilot.@@N@@
