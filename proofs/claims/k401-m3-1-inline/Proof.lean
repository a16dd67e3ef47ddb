import JvmDerived
import JvmDerived.Pilot.@@N@@Statement
import JvmDerived.Pilot.@@N@@Code
set_option linter.unusedVariables false
set_option linter.unusedSimpArgs false
namespace Jvm.OwnW
open Jvm Jvm.ClassFile Sem Op Lib Jvm.Free Jvm.Stand Jvm.LawKit Jvm.RoadKit
/-! A small logic of walks of its own: a store L (what is known of single cells), one rule an instruction. -/
abbrev Ent : Type := Addr × Bool × (Cell → Prop)
abbrev Store : Type := List Ent
abbrev Lay : Type := List (String × String × String)
def FldC (Z : State) (C n d : String) (v : Value) (cell : Cell) : Prop := ∃ (cf : ClassId) (k : Class) (i : Nat) (f : Field), Z.fieldFound? C n d = some (cf, k, i, f) ∧ f.isStatic = false ∧ cell.vm ≠ .unknown ∧ cell.vm.isStatics = false ∧ Z.vm.assignable cell.cls cf = true ∧ cell.slots[f.slot]? = some v
def ExaC (Z : State) (C : String) (cell : Cell) : Prop := ∃ k : Class, Z.vm.findClass C = some cell.cls ∧ Z.vm.classes[cell.cls]? = some k ∧ cell.vm.isStatics = false ∧ (k.kind = .ordinary → cell.slots.size = k.instanceTypes.size)
/-- an object of exactly the class C, the fields of lay hold vs -/
def OB (Z : State) (C : String) (lay : Lay) (vs : List Value) (c : Cell) : Prop := ExaC Z C c ∧ ∀ (j : Nat) (f : String × String × String) (v : Value), lay[j]? = some f → vs[j]? = some v → FldC Z f.1 f.2.1 f.2.2 v c
/-- an array of ty that holds vs -/
def AR (Z : State) (ty : FieldType) (vs : List Value) (c : Cell) : Prop := Z.isArrayOf c ty ∧ c.vm ≠ .unknown ∧ c.slots.toList = vs ∧ vs.length < 2 ^ 31
/-- an array of references over the class C -/
def RA (Z : State) (C : String) (vs : List Value) (c : Cell) : Prop := AR Z (.object C) vs c ∧ Ovr Z c.cls C
def Inv (Z : State) (EL : List (String × Nat)) (vm : Vm) (h : Heap) (L : Store) : Prop :=
  Ext Z.heap h ∧ CHv Z EL vm h ∧ (∀ o ∈ L, ∃ c : Cell, h[o.1]? = some c ∧ o.2.2 c) ∧ (∀ o ∈ L, o.2.1 = true → Z.heap.size ≤ o.1 ∧ Safe Z EL vm h o.1) ∧ L.Pairwise (fun o o' => (o.2.1 = true ∨ o'.2.1 = true) → o.1 ≠ o'.1)
section Facts
variable {Z : State} {EL : List (String × Nat)} {vm vm' : Vm} {h h' : Heap} {L L' L0 : Store} {a b : Addr} {C n d : String} {v w : Value} {c c' : Cell} {P P' : Cell → Prop} {lay : Lay} {vs : List Value} {j sl : Nat} {ty : FieldType} {a0 : Array Value} {fl : Bool}
theorem fld_of (hc : h[a]? = some c) (F : FldC Z C n d v c) : Fld Z h a C n d v := by obtain ⟨cf, k, i, f, r⟩ := F; exact ⟨c, cf, k, i, f, hc, r⟩
theorem of_fld (hc : h[a]? = some c) (F : Fld Z h a C n d v) : FldC Z C n d v c := by
  obtain ⟨c1, cf, k, i, f, h1, r⟩ := F
  cases hc.symm.trans h1
  exact ⟨cf, k, i, f, r⟩
theorem exa_of (hc : h[a]? = some c) (F : ExaC Z C c) : Exa Z h a C := by obtain ⟨k, r⟩ := F; exact ⟨c, k, hc, r⟩
theorem of_exa (hc : h[a]? = some c) (F : Exa Z h a C) : ExaC Z C c := by
  obtain ⟨c1, k, h1, r⟩ := F
  cases hc.symm.trans h1
  exact ⟨k, r⟩
theorem OB.exa (F : OB Z C lay vs c) (hc : h[a]? = some c) : Exa Z h a C := exa_of hc F.1
theorem OB.fld {f : String × String × String} (F : OB Z C lay vs c) (hc : h[a]? = some c) (hj : lay[j]? = some f) (hv : vs[j]? = some v) : Fld Z h a f.1 f.2.1 f.2.2 v := fld_of hc (F.2 j f v hj hv)
theorem AR.arr (F : AR Z ty vs c) (hc : h[a]? = some c) : Arr Z h a c ty := ⟨hc, F.1, F.2.1⟩
theorem AR.size (F : AR Z ty vs c) : c.slots.size = vs.length := by rw [← F.2.2.1]; simp
theorem AR.get (F : AR Z ty vs c) (hv : vs[j]? = some v) : c.slots[j]? = some v := by rw [← F.2.2.1] at hv; simpa using hv
theorem AR.set (F : AR Z ty vs c) (j : Nat) (v : Value) : AR Z ty (vs.set j v) (c.setSlot j v) :=
  ⟨F.1, F.2.1, by rw [← F.2.2.1]; simp [Cell.setSlot], by rw [List.length_set]; exact F.2.2.2⟩
theorem Inv.at_ (I : Inv Z EL vm h L) (m : (a, fl, P) ∈ L) : ∃ c : Cell, h[a]? = some c ∧ P c := I.2.2.1 _ m
theorem Inv.perm (p : L.Perm L') (I : Inv Z EL vm h L) : Inv Z EL vm h L' :=
  ⟨I.1, I.2.1, fun o ho => I.2.2.1 o (p.symm.subset ho), fun o ho => I.2.2.2.1 o (p.symm.subset ho), (p.pairwise_iff (fun {x y} q r => (q r.symm).symm)).mp I.2.2.2.2⟩
theorem Inv.sub (p : L'.Sublist L) (I : Inv Z EL vm h L) : Inv Z EL vm h L' :=
  ⟨I.1, I.2.1, fun o ho => I.2.2.1 o (p.subset ho), fun o ho => I.2.2.2.1 o (p.subset ho), I.2.2.2.2.sublist p⟩
theorem Inv.weak (hP : ∀ c, P c → P' c) (I : Inv Z EL vm h ((a, fl, P) :: L)) : Inv Z EL vm h ((a, fl, P') :: L) := by
  obtain ⟨h1, h2, h3, h4, h5⟩ := I
  rw [List.pairwise_cons] at h5
  refine ⟨h1, h2, fun o ho => ?_, fun o ho => ?_, List.pairwise_cons.mpr ⟨fun o ho q => h5.1 o ho q, h5.2⟩⟩
  · rcases List.mem_cons.mp ho with rfl | ho
    · obtain ⟨c, e1, e2⟩ := h3 (a, fl, P) (List.mem_cons_self ..); exact ⟨c, e1, hP c e2⟩
    · exact h3 o (List.mem_cons_of_mem _ ho)
  · rcases List.mem_cons.mp ho with rfl | ho
    · exact h4 (a, fl, P) (List.mem_cons_self ..)
    · exact h4 o (List.mem_cons_of_mem _ ho)
theorem Inv.lt (I : Inv Z EL vm h L) {o : Ent} (m : o ∈ L) : o.1 < h.size := by obtain ⟨c, e, -⟩ := I.2.2.1 o m; exact (Array.getElem?_eq_some_iff.mp e).1
/-- a new cell -/
theorem Inv.new (I : Inv Z EL vm h L) (E : Ext h h') (hc : h'[h.size]? = some c) (hP : P c) : Inv Z EL vm h' ((h.size, true, P) :: L) := by
  have I0 := I
  obtain ⟨h1, h2, h3, h4, h5⟩ := I
  refine ⟨⟨Nat.le_trans h1.1 E.1, fun x c q => E.2 x c (h1.2 x c q)⟩, h2.ext E, fun o ho => ?_, fun o ho q => ?_, List.pairwise_cons.mpr ⟨fun o ho _ q => ?_, h5⟩⟩
  · rcases List.mem_cons.mp ho with rfl | ho
    · exact ⟨c, hc, hP⟩
    · obtain ⟨c1, e1, e2⟩ := h3 o ho; exact ⟨c1, E.2 _ _ e1, e2⟩
  · rcases List.mem_cons.mp ho with rfl | ho
    · exact ⟨h1.1, Safe.ext E h2 (Safe.new (Nat.le_refl _))⟩
    · exact ⟨(h4 o ho q).1, Safe.ext E h2 (h4 o ho q).2⟩
  · have := I0.lt ho
    exact absurd q (Nat.ne_of_gt this)
/-- a write to the first -/
theorem Inv.wr (I : Inv Z EL vm h ((a, true, P) :: L)) (W : Wr h h' a sl v) (hP : ∀ c, h[a]? = some c → P c → P' (c.setSlot sl v)) : Inv Z EL vm h' ((a, true, P') :: L) := by
  have I0 := I
  obtain ⟨h1, h2, h3, h4, h5⟩ := I
  have hs := (h4 _ (List.mem_cons_self ..) rfl)
  rw [List.pairwise_cons] at h5
  have W0 := W
  obtain ⟨cell, e1, e2, e3, rfl⟩ := W
  refine ⟨⟨by simpa using h1.1, fun x c q => ?_⟩, h2.wr W0 hs.2, fun o ho => ?_, fun o ho q => ?_, List.pairwise_cons.mpr ⟨fun o ho q => h5.1 o ho q, h5.2⟩⟩
  · have hx : x < Z.heap.size := (Array.getElem?_eq_some_iff.mp q).1
    have hne : a ≠ x := fun e => by have := hs.1; rw [e] at this; exact absurd hx (Nat.not_lt.mpr this)
    rw [Array.getElem?_setIfInBounds_ne hne]; exact h1.2 x c q
  · rcases List.mem_cons.mp ho with rfl | ho
    · obtain ⟨c1, q1, q2⟩ := h3 (a, true, P) (List.mem_cons_self ..)
      cases e1.symm.trans q1
      exact ⟨_, Array.getElem?_setIfInBounds_self_of_lt (Array.getElem?_eq_some_iff.mp e1).1, hP _ e1 q2⟩
    · obtain ⟨c1, q1, q2⟩ := h3 o (List.mem_cons_of_mem _ ho)
      have hne : a ≠ o.1 := h5.1 o ho (Or.inl rfl)
      exact ⟨c1, by rw [Array.getElem?_setIfInBounds_ne hne]; exact q1, q2⟩
  · rcases List.mem_cons.mp ho with rfl | ho
    · exact ⟨hs.1, Safe.wr W0 hs.2 h2 hs.2⟩
    · have q2 := h4 o (List.mem_cons_of_mem _ ho) q
      exact ⟨q2.1, Safe.wr W0 hs.2 h2 q2.2⟩
/-- the tables go on -/
theorem Inv.later (I : Inv Z EL vm h L) (E : Ext h h') (A : CHr Z EL vm h vm' h') : Inv Z EL vm' h' L := by
  have I0 := I
  obtain ⟨h1, h2, h3, h4, h5⟩ := I
  refine ⟨⟨Nat.le_trans h1.1 E.1, fun x c q => E.2 x c (h1.2 x c q)⟩, A.1, fun o ho => ?_, fun o ho q => ?_, h5⟩
  · obtain ⟨c1, e1, e2⟩ := h3 o ho; exact ⟨c1, E.2 _ _ e1, e2⟩
  · exact ⟨(h4 o ho q).1, A.safe (I0.lt ho) (h4 o ho q).2⟩
/-- a cell that isn't written -/
theorem Inv.old (I : Inv Z EL vm h L) (hc : h[a]? = some c) (hP : P c) (hne : ∀ x, Z.heap.size ≤ x → Safe Z EL vm h x → x ≠ a) : Inv Z EL vm h ((a, false, P) :: L) := by
  obtain ⟨h1, h2, h3, h4, h5⟩ := I
  refine ⟨h1, h2, fun o ho => ?_, fun o ho q => ?_, List.pairwise_cons.mpr ⟨fun o ho q r => ?_, h5⟩⟩
  · rcases List.mem_cons.mp ho with rfl | ho
    · exact ⟨c, hc, hP⟩
    · exact h3 o ho
  · rcases List.mem_cons.mp ho with rfl | ho
    · cases q
    · exact h4 o ho q
  · rcases q with q | q
    · cases q
    · exact hne o.1 (h4 o ho q).1 (h4 o ho q).2 r.symm
theorem Inv.ne {o o' : Ent} (I : Inv Z EL vm h L) {i j : Nat} (hi : L[i]? = some o) (hj : L[j]? = some o') (hij : i < j) (hf : o.2.1 = true ∨ o'.2.1 = true) : o.1 ≠ o'.1 := by
  obtain ⟨h1, e1⟩ := List.getElem?_eq_some_iff.mp hi
  obtain ⟨h2, e2⟩ := List.getElem?_eq_some_iff.mp hj
  have := List.pairwise_iff_getElem.mp I.2.2.2.2 i j h1 h2 hij
  rw [e1, e2] at this
  exact this hf
/-- the slots of a layout are unlike -/
def LayOk (Z : State) (a0 : Array Value) (C : String) (lay : Lay) : Prop := (∀ f ∈ lay, Laid Z a0 C f.1 f.2.1 f.2.2) ∧ (lay.map (·.2.1)).Nodup ∧ ∀ f ∈ lay, ∃ t, parseFieldDescriptor f.2.2 = some t
theorem LayOk.ne {f f' : String × String × String} {j' : Nat} (K : LayOk Z a0 C lay) (hj : lay[j]? = some f) (hj' : lay[j']? = some f') (hne : j ≠ j') : RoadKit.slotOf Z f.1 f.2.1 f.2.2 ≠ RoadKit.slotOf Z f'.1 f'.2.1 f'.2.2 := by
  have m1 := List.mem_of_getElem? hj
  have m2 := List.mem_of_getElem? hj'
  obtain ⟨t1, q1⟩ := K.2.2 f m1
  obtain ⟨t2, q2⟩ := K.2.2 f' m2
  refine slot_ne (K.1 f m1) (K.1 f' m2) (fun e => ?_) q1 q2
  have n1 : (lay.map (·.2.1))[j]? = some f.2.1 := by simp [hj]
  have n2 : (lay.map (·.2.1))[j']? = some f'.2.1 := by simp [hj']
  obtain ⟨l1, g1⟩ := List.getElem?_eq_some_iff.mp n1
  obtain ⟨l2, g2⟩ := List.getElem?_eq_some_iff.mp n2
  have := List.pairwise_iff_getElem.mp (show (lay.map (·.2.1)).Pairwise (· ≠ ·) from K.2.1)
  rcases Nat.lt_or_gt_of_ne hne with q | q
  · exact this j j' l1 l2 q (by rw [g1, g2]; exact e)
  · exact this j' j l2 l1 q (by rw [g1, g2]; exact e.symm)
theorem OB.set {f : String × String × String} (K : LayOk Z a0 C lay) (F : OB Z C lay vs c) (hj : lay[j]? = some f) (hv : vs[j]? = some w) (v : Value) : OB Z C lay (vs.set j v) (c.setSlot (RoadKit.slotOf Z f.1 f.2.1 f.2.2) v) := by
  obtain ⟨⟨k, x1, x2, x3, x4⟩, F2⟩ := F
  have Fj := F2 j f w hj hv
  obtain ⟨cf, kf, i, fi, y1, y2, y3, y4, y5, y6⟩ := Fj
  have es : RoadKit.slotOf Z f.1 f.2.1 f.2.2 = fi.slot := by simp [RoadKit.slotOf, y1]
  refine ⟨⟨k, x1, x2, x3, fun q => by rw [sz_set]; exact x4 q⟩, fun j' f' v' h1 h2 => ?_⟩
  by_cases e : j = j'
  · subst e
    cases hj.symm.trans h1
    have hlt : j < vs.length := (List.getElem?_eq_some_iff.mp hv).1
    have : v' = v := by rw [List.getElem?_set_self hlt] at h2; exact (Option.some.inj h2).symm
    subst this
    have hsl := (Array.getElem?_eq_some_iff.mp y6).1
    exact ⟨cf, kf, i, fi, y1, y2, y3, y4, y5, by rw [es]; simp [Cell.setSlot, hsl]⟩
  · rw [List.getElem?_set_ne e] at h2
    obtain ⟨cf', kf', i', fi', z1, z2, z3, z4, z5, z6⟩ := F2 j' f' v' h1 h2
    have es' : RoadKit.slotOf Z f'.1 f'.2.1 f'.2.2 = fi'.slot := by simp [RoadKit.slotOf, z1]
    have hne := K.ne hj h1 e
    rw [es, es'] at hne
    exact ⟨cf', kf', i', fi', z1, z2, z3, z4, z5, by rw [es]; simp only [Cell.setSlot]; rw [Array.getElem?_setIfInBounds_ne hne]; exact z6⟩
end Facts
/-- the store with the entry o taken out -/
def Ex (L : Store) (o : Ent) (L0 : Store) : Prop := L.Perm (o :: L0)
theorem Ex.here {o : Ent} {L : Store} : Ex (o :: L) o L := List.Perm.refl _
theorem Ex.there {o x : Ent} {L L0 : Store} (h : Ex L o L0) : Ex (x :: L) o (x :: L0) := (List.Perm.cons x h).trans (List.Perm.swap o x L0)
/-- a local is written over -/
def LS1 (k : Nat) (v : Value) (Ls Ls' : List Slot) : Prop := v.category = 1 → storeLocals ⟨Ls⟩ k v = some ⟨Ls'⟩ ∧ ∃ o, Ls[k]? = some o ∧ One o ∧ Ls' = Ls.set k (.val v)
theorem LS1.of {Ls : List Slot} {i : Nat} {v : Value} {o : Slot} (hold : Ls[i]? = some o) (ho : One o) : LS1 i v Ls (Ls.set i (.val v)) := fun hv => by
  have q := XS.store1 (l := ⟨Ls⟩) (i := i) (v := v) (o := o) (by simpa using hold) ho hv
  exact ⟨by simpa using q, o, hold, ho, rfl⟩
theorem LS1.here {v : Value} {o : Slot} {Ls : List Slot} (ho : One o) : LS1 0 v (o :: Ls) (.val v :: Ls) := LS1.of (Ls := o :: Ls) (i := 0) rfl ho
theorem LS1.there {k : Nat} {v : Value} {x : Slot} {Ls Ls' : List Slot} (h : LS1 k v Ls Ls') : LS1 (k + 1) v (x :: Ls) (x :: Ls') := fun hv => by
  obtain ⟨-, o, h1, h2, rfl⟩ := h hv
  exact LS1.of (Ls := x :: Ls) (i := k + 1) (by simpa using h1) h2 hv
def LS2 (k : Nat) (v : Int64) (Ls Ls' : List Slot) : Prop := ∃ (A B : List Slot) (o1 o2 : Slot), Ls = A ++ o1 :: o2 :: B ∧ A.length = k ∧ ((One o1 ∧ One o2) ∨ ∃ x, o1 = .val (.long x) ∧ o2 = .second) ∧ Ls' = A ++ .val (.long v) :: .second :: B
theorem LS2.here {v : Int64} {o1 o2 : Slot} {Ls : List Slot} (ho : (One o1 ∧ One o2) ∨ ∃ x, o1 = .val (.long x) ∧ o2 = .second) : LS2 0 v (o1 :: o2 :: Ls) (.val (.long v) :: .second :: Ls) := ⟨[], Ls, o1, o2, rfl, rfl, ho, rfl⟩
theorem LS2.there {k : Nat} {v : Int64} {x : Slot} {Ls Ls' : List Slot} (h : LS2 k v Ls Ls') : LS2 (k + 1) v (x :: Ls) (x :: Ls') := by
  obtain ⟨A, B, o1, o2, rfl, h2, h3, rfl⟩ := h
  exact ⟨x :: A, B, o1, o2, rfl, by simp [h2], h3, rfl⟩
theorem LS2.store {k : Nat} {v : Int64} {Ls Ls' : List Slot} (h : LS2 k v Ls Ls') : storeLocals ⟨Ls⟩ k (.long v) = some ⟨Ls'⟩ := by
  obtain ⟨A, B, o1, o2, rfl, rfl, h3, rfl⟩ := h
  have hv : (Value.long v).category = 2 := rfl
  rcases h3 with ⟨h1 | ⟨w1, h1, g1⟩, h2 | ⟨w2, h2, g2⟩⟩ | ⟨x, h1, h2⟩
  · subst h1 h2; simp [storeLocals, storeSelf, setAt, hv]
  · subst h1 h2; simp [storeLocals, storeSelf, setAt, hv, g2]
  · subst h1 h2; simp [storeLocals, storeSelf, setAt, hv, g1]
  · subst h1 h2; simp [storeLocals, storeSelf, setAt, hv, g1, g2]
  · have hx : (Value.long x).category = 2 := rfl
    subst h1 h2; simp [storeLocals, storeSelf, setAt, hv, hx]
/-- the tables know the methods of the frames below -/
def KF (Z : State) (vm0 : Vm) (below : List Frame) (s : State) : Prop := vm0.MethodsKnown ∧ vm0.FramesKnown below ∧ Ext Z.heap s.heap
abbrev KC : Program → Env → List Frame → State → Array Value → Prop := fun _ _ bl st _ => st.vm.MethodsKnown ∧ st.vm.FramesKnown bl
section Kn
variable {p : Program} {l : Launch} {e : Env} {R : Room} {Z s : State} {m : MethodId} {args : Array Value} {below : List Frame} {meth : Method} {c : Code} {T : State} {locs : List Loc} {cells slots : Nat} {vm0 vm1 : Vm}
theorem KF.move (h : KF Z vm0 below s) (A : vm0.Alike vm1) : KF Z vm1 below s := ⟨Vm.MethodsKnown.alikeC A h.1, Vm.FramesKnown.alikeC A h.2.1, h.2.2⟩
theorem KF.start (h : KC p e below s args) (E : Ext Z.heap s.heap) : KF Z s.vm below s := ⟨h.1, h.2, E⟩
theorem KF.call (h : KF Z vm0 below s) (X : Stand p l e R (s.setVm vm0) m args below meth c T locs cells slots) {g : JFrame} (hg : g.method = m) {mk : MethodId} {a : Array Value} : KC p e (T.setTop g).frames (T.calling g mk a) a := known_frames X hg h.1 h.2.1
end Kn
/-- what is known of the frame and of those below -/
def KN (Z : State) (vm0 : Vm) (below : List Frame) (s : State) (y : MethodName) (m : MethodId) : Prop := KF Z vm0 below s ∧ (s.setVm vm0).methodNamed? y = some m
theorem KN.move {Z s : State} {vm0 vm1 : Vm} {below : List Frame} {y : MethodName} {m : MethodId} (h : KN Z vm0 below s y m) (A : vm0.Alike vm1) : KN Z vm1 below s y m := ⟨h.1.move A, (State.methodNamed?_setVm (s := s.setVm vm0) A y).trans h.2⟩
/-- THE WALK: from pc with these locals and this stack, the store L, cb cells and sb slots yet to be made, the body comes to its return, and Q holds there -/
def Wk (l : Launch) (Z : State) (a0 : Array Value) (EL : List (String × Nat)) (y : MethodName) (bytes : ByteArray) (mx : Nat) (ret : Option FieldType) (R : Room) (Q : Option Value → Store → Prop) (L : Store) (cb sb pc : Nat) (Ls : List Slot) (St : List Value) : Prop :=
  ∀ (p : Program) (e : Env) (s : State) (m : MethodId) (args : Array Value) (below : List Frame) (meth : Method) (c : Code) (T : State) (vm0 : Vm) (k0 : Nat) (locs : List Loc) (cells slots : Nat),
    p.tables.exec = Jvm.exec → c.code = bytes → c.maxLocals = mx → meth.sig.returnType = ret → meth.locks = false → meth.name = y.name → vm0.findClass y.cls = some m.cls → KN Z vm0 below s y m →
    Stand p l e R (s.setVm vm0) m args below meth c T locs cells slots → s.Since vm0 k0 → k0 ≤ T.heap.size → Z.Warmed39 vm0 → EW Z a0 EL → Inv Z EL vm0 T.heap L → Fr Z.heap.size locs → cells + cb ≤ R.cells → slots + sb ≤ R.slots →
    ∃ (fin : State) (v : Option Value) (Lc : List Loc) (L' : Store), Steps p.tables e below (T.setTop (mkF m pc ⟨Ls⟩ St)) fin ∧ fin.status = .running ∧ Ended fin below (.returned v) ∧ Q v L' ∧ Inv Z EL fin.vm fin.heap L' ∧ Fr Z.heap.size Lc ∧ ReturnedEndW s (.returned v) fin Lc R.cells R.slots
/-- THE CONTRACT of a body -/
def Ct (l : Launch) (Z : State) (EL : List (String × Nat)) (y : MethodName) (bytes : ByteArray) (mx : Nat) (ret : Option FieldType) (R : Room) (as' : Array Value) (L : Store) (Q : Option Value → Store → Prop) : Prop :=
  ∀ ws : List Jvm.Cond, MetFree l y (head1 (Jvm.Cond.code y bytes mx ret :: ws) R) (fun a U => a = as' ∧ Z.Warmed39 U.vm ∧ Inv Z EL U.vm U.heap L) KC (fun _ U o U' => ∃ v Lc L', o = .returned v ∧ Q v L' ∧ Inv Z EL U'.vm U'.heap L' ∧ Fr Z.heap.size Lc ∧ ReturnedEndW U o U' Lc R.cells R.slots)
theorem endMono {s t : State} {o : Outcome} {L : List Loc} {k n k' n' : Nat} (h : ReturnedEndW s o t L k n) (hk : k ≤ k') (hn : n ≤ n') : ReturnedEndW s o t L k' n' := ⟨h.1, h.2.1, h.2.2.1, h.2.2.2.mono hk hn⟩
section Rules
variable {l : Launch} {Z : State} {a0 : Array Value} {EL : List (String × Nat)} {y : MethodName} {bytes : ByteArray} {mx : Nat} {ret : Option FieldType} {R : Room} {Q Q' : Option Value → Store → Prop} {L L0 L' : Store} {cb sb pc q : Nat} {Ls Ls' : List Slot} {St rest : List Value}
theorem Wk.mono (k : Wk l Z a0 EL y bytes mx ret R Q L cb sb pc Ls St) {cb' sb' : Nat} (h1 : cb ≤ cb') (h2 : sb ≤ sb') : Wk l Z a0 EL y bytes mx ret R Q L cb' sb' pc Ls St := by
  intro p e s m args below meth c T vm0 k0 locs cells slots hx hby hmx hret hlk hnm hown hkn X hS hk hZ hE hI hF hc hs
  exact k p e s m args below meth c T vm0 k0 locs cells slots hx hby hmx hret hlk hnm hown hkn X hS hk hZ hE hI hF (Nat.le_trans (Nat.add_le_add_left h1 _) hc) (Nat.le_trans (Nat.add_le_add_left h2 _) hs)
theorem Wk.imp (hq : ∀ v L, Q v L → Q' v L) (k : Wk l Z a0 EL y bytes mx ret R Q L cb sb pc Ls St) : Wk l Z a0 EL y bytes mx ret R Q' L cb sb pc Ls St := by
  intro p e s m args below meth c T vm0 k0 locs cells slots hx hby hmx hret hlk hnm hown hkn X hS hk hZ hE hI hF hc hs
  obtain ⟨fin, v, Lc, L', h1, h2, h3, h4, r⟩ := k p e s m args below meth c T vm0 k0 locs cells slots hx hby hmx hret hlk hnm hown hkn X hS hk hZ hE hI hF hc hs
  exact ⟨fin, v, Lc, L', h1, h2, h3, hq _ _ h4, r⟩
theorem Wk.inv (hi : ∀ vm h, Inv Z EL vm h L → Inv Z EL vm h L') (k : Wk l Z a0 EL y bytes mx ret R Q L' cb sb pc Ls St) : Wk l Z a0 EL y bytes mx ret R Q L cb sb pc Ls St := by
  intro p e s m args below meth c T vm0 k0 locs cells slots hx hby hmx hret hlk hnm hown hkn X hS hk hZ hE hI hF hc hs
  exact k p e s m args below meth c T vm0 k0 locs cells slots hx hby hmx hret hlk hnm hown hkn X hS hk hZ hE (hi _ _ hI) hF hc hs
/-- the entry o comes to the front -/
theorem Wk.pull {o : Ent} (h : Ex L o L0) (k : Wk l Z a0 EL y bytes mx ret R Q (o :: L0) cb sb pc Ls St) : Wk l Z a0 EL y bytes mx ret R Q L cb sb pc Ls St := Wk.inv (fun _ _ I => I.perm h) k
theorem Wk.perm (h : L.Perm L') (k : Wk l Z a0 EL y bytes mx ret R Q L' cb sb pc Ls St) : Wk l Z a0 EL y bytes mx ret R Q L cb sb pc Ls St := Wk.inv (fun _ _ I => I.perm h) k
theorem Wk.sub (h : L'.Sublist L) (k : Wk l Z a0 EL y bytes mx ret R Q L' cb sb pc Ls St) : Wk l Z a0 EL y bytes mx ret R Q L cb sb pc Ls St := Wk.inv (fun _ _ I => I.sub h) k
theorem Wk.distinct {i j : Nat} {o o' : Ent} (hi : L[i]? = some o) (hj : L[j]? = some o') (hij : i < j) (hf : o.2.1 = true ∨ o'.2.1 = true) (k : o.1 ≠ o'.1 → Wk l Z a0 EL y bytes mx ret R Q L cb sb pc Ls St) : Wk l Z a0 EL y bytes mx ret R Q L cb sb pc Ls St := by
  intro p e s m args below meth c T vm0 k0 locs cells slots hx hby hmx hret hlk hnm hown hkn X hS hk hZ hE hI hF hc hs
  exact k (hI.ne hi hj hij hf) p e s m args below meth c T vm0 k0 locs cells slots hx hby hmx hret hlk hnm hown hkn X hS hk hZ hE hI hF hc hs
/-- an old object, known at the start -/
theorem Wk.old {a : Addr} {c0 : Cell} {P : Cell → Prop} (h0 : Z.heap[a]? = some c0) (hP : P c0) (k : Wk l Z a0 EL y bytes mx ret R Q ((a, false, P) :: L) cb sb pc Ls St) : Wk l Z a0 EL y bytes mx ret R Q L cb sb pc Ls St := by
  refine Wk.inv (fun vm h I => I.old (I.1.2 _ _ h0) hP fun x hx _ e => ?_) k
  subst e
  exact absurd (Array.getElem?_eq_some_iff.mp h0).1 (Nat.not_lt.mpr hx)
/-- one plain step -/
theorem Wk.pure {q : Nat} {Ls' : List Slot} {St' : List Value} (st : ∀ {p : Program} {e : Env} {below : List Frame} {T : State} {m : MethodId} {c : Code} {target : State}, At T m c below → p.tables.exec = Jvm.exec → c.code = bytes → Steps p.tables e below (T.setTop (mkF m q ⟨Ls'⟩ St')) target → Steps p.tables e below (T.setTop (mkF m pc ⟨Ls⟩ St)) target)
    (k : Wk l Z a0 EL y bytes mx ret R Q L cb sb q Ls' St') : Wk l Z a0 EL y bytes mx ret R Q L cb sb pc Ls St := by
  intro p e s m args below meth c T vm0 k0 locs cells slots hx hby hmx hret hlk hnm hown hkn X hS hk hZ hE hI hF hc hs
  obtain ⟨fin, v, Lc, L', h1, r⟩ := k p e s m args below meth c T vm0 k0 locs cells slots hx hby hmx hret hlk hnm hown hkn X hS hk hZ hE hI hF hc hs
  exact ⟨fin, v, Lc, L', st X.here hx hby h1, r⟩
theorem getL {k : Nat} {o : Slot} (h : Ls[k]? = some o) : (⟨Ls⟩ : Array Slot)[k]? = some o := by simpa using h
theorem Wk.iload_n {i : Fin 4} {u : Int32} (hd : decode bytes pc = .ok (.iload_n i, 1)) (hq : pc + 1 = q) (hl : Ls[i.val]? = some (.val (.int u))) (k : Wk l Z a0 EL y bytes mx ret R Q L cb sb q Ls (.int u :: St)) : Wk l Z a0 EL y bytes mx ret R Q L cb sb pc Ls (St) := by
  subst hq; exact Wk.pure (fun X hx hby r => XS.iloadN X hx rfl (hb hby hd) (getL hl) r) k
theorem Wk.iload {i : Nat} {u : Int32} (hd : decode bytes pc = .ok (.iload i, 2)) (hq : pc + 2 = q) (hl : Ls[i]? = some (.val (.int u))) (k : Wk l Z a0 EL y bytes mx ret R Q L cb sb q Ls (.int u :: St)) : Wk l Z a0 EL y bytes mx ret R Q L cb sb pc Ls (St) := by
  subst hq; exact Wk.pure (fun X hx hby r => XS.iload X hx rfl (hb hby hd) (getL hl) r) k
theorem Wk.aload_n {i : Fin 4} {u : Value} (hd : decode bytes pc = .ok (.aload_n i, 1)) (hq : pc + 1 = q) (hl : Ls[i.val]? = some (.val u)) (hr : u.isRef = true) (k : Wk l Z a0 EL y bytes mx ret R Q L cb sb q Ls (u :: St)) : Wk l Z a0 EL y bytes mx ret R Q L cb sb pc Ls (St) := by
  subst hq; exact Wk.pure (fun X hx hby r => XS.aloadN X hx rfl (hb hby hd) (getL hl) hr r) k
theorem Wk.aload {i : Nat} {u : Value} (hd : decode bytes pc = .ok (.aload i, 2)) (hq : pc + 2 = q) (hl : Ls[i]? = some (.val u)) (hr : u.isRef = true) (k : Wk l Z a0 EL y bytes mx ret R Q L cb sb q Ls (u :: St)) : Wk l Z a0 EL y bytes mx ret R Q L cb sb pc Ls (St) := by
  subst hq; exact Wk.pure (fun X hx hby r => XS.aload X hx rfl (hb hby hd) (getL hl) hr r) k
theorem Wk.lload_n {i : Fin 4} {u : Int64} (hd : decode bytes pc = .ok (.lload_n i, 1)) (hq : pc + 1 = q) (hl : Ls[i.val]? = some (.val (.long u))) (k : Wk l Z a0 EL y bytes mx ret R Q L cb sb q Ls (.long u :: St)) : Wk l Z a0 EL y bytes mx ret R Q L cb sb pc Ls (St) := by
  subst hq; exact Wk.pure (fun X hx hby r => XT.lloadN X hx rfl (hb hby hd) (getL hl) r) k
theorem Wk.lload {i : Nat} {u : Int64} (hd : decode bytes pc = .ok (.lload i, 2)) (hq : pc + 2 = q) (hl : Ls[i]? = some (.val (.long u))) (k : Wk l Z a0 EL y bytes mx ret R Q L cb sb q Ls (.long u :: St)) : Wk l Z a0 EL y bytes mx ret R Q L cb sb pc Ls (St) := by
  subst hq; exact Wk.pure (fun X hx hby r => XT.lload X hx rfl (hb hby hd) (getL hl) r) k
theorem Wk.istore_n {i : Fin 4} {u : Int32} (hd : decode bytes pc = .ok (.istore_n i, 1)) (hq : pc + 1 = q) (hl : LS1 i.val (.int u) Ls Ls') (k : Wk l Z a0 EL y bytes mx ret R Q L cb sb q Ls' (St)) : Wk l Z a0 EL y bytes mx ret R Q L cb sb pc Ls (.int u :: St) := by
  subst hq; exact Wk.pure (fun X hx hby r => XS.istoreN X hx rfl (hb hby hd) rfl (hl rfl).1 r) k
theorem Wk.istore {i : Nat} {u : Int32} (hd : decode bytes pc = .ok (.istore i, 2)) (hq : pc + 2 = q) (hl : LS1 i (.int u) Ls Ls') (k : Wk l Z a0 EL y bytes mx ret R Q L cb sb q Ls' (St)) : Wk l Z a0 EL y bytes mx ret R Q L cb sb pc Ls (.int u :: St) := by
  subst hq; exact Wk.pure (fun X hx hby r => XS.istore X hx rfl (hb hby hd) rfl (hl rfl).1 r) k
theorem Wk.astore_n {i : Fin 4} {u : Value} (hd : decode bytes pc = .ok (.astore_n i, 1)) (hq : pc + 1 = q) (hr : u.isRef = true) (hl : LS1 i.val u Ls Ls') (k : Wk l Z a0 EL y bytes mx ret R Q L cb sb q Ls' (St)) : Wk l Z a0 EL y bytes mx ret R Q L cb sb pc Ls (u :: St) := by
  subst hq; exact Wk.pure (fun X hx hby r => XS.astoreN X hx rfl (hb hby hd) rfl hr (hl (XT.cat1 hr)).1 r) k
theorem Wk.astore {i : Nat} {u : Value} (hd : decode bytes pc = .ok (.astore i, 2)) (hq : pc + 2 = q) (hr : u.isRef = true) (hl : LS1 i u Ls Ls') (k : Wk l Z a0 EL y bytes mx ret R Q L cb sb q Ls' (St)) : Wk l Z a0 EL y bytes mx ret R Q L cb sb pc Ls (u :: St) := by
  subst hq; exact Wk.pure (fun X hx hby r => XS.astore X hx rfl (hb hby hd) rfl hr (hl (XT.cat1 hr)).1 r) k
theorem Wk.lstore_n {i : Fin 4} {u : Int64} (hd : decode bytes pc = .ok (.lstore_n i, 1)) (hq : pc + 1 = q) (hl : LS2 i.val u Ls Ls') (k : Wk l Z a0 EL y bytes mx ret R Q L cb sb q Ls' (St)) : Wk l Z a0 EL y bytes mx ret R Q L cb sb pc Ls (.long u :: St) := by
  subst hq; exact Wk.pure (fun X hx hby r => XT.lstoreN X hx rfl (hb hby hd) rfl hl.store r) k
theorem Wk.lstore {i : Nat} {u : Int64} (hd : decode bytes pc = .ok (.lstore i, 2)) (hq : pc + 2 = q) (hl : LS2 i u Ls Ls') (k : Wk l Z a0 EL y bytes mx ret R Q L cb sb q Ls' (St)) : Wk l Z a0 EL y bytes mx ret R Q L cb sb pc Ls (.long u :: St) := by
  subst hq; exact Wk.pure (fun X hx hby r => XT.lstore X hx rfl (hb hby hd) rfl hl.store r) k
theorem Wk.iconst {i : Int} (u : Int32) (hd : decode bytes pc = .ok (.iconst i, 1)) (hq : pc + 1 = q) (hu : Int32.ofInt i = u) (k : Wk l Z a0 EL y bytes mx ret R Q L cb sb q Ls (.int u :: St)) : Wk l Z a0 EL y bytes mx ret R Q L cb sb pc Ls (St) := by
  subst hq; exact Wk.pure (fun X hx hby r => XS.iconst X hx rfl (hb hby hd) (by rw [hu]; exact r)) k
theorem Wk.bipush {i : Int} (u : Int32) (hd : decode bytes pc = .ok (.bipush i, 2)) (hq : pc + 2 = q) (hu : (Int8.ofInt i).toInt32 = u) (k : Wk l Z a0 EL y bytes mx ret R Q L cb sb q Ls (.int u :: St)) : Wk l Z a0 EL y bytes mx ret R Q L cb sb pc Ls (St) := by
  subst hq; exact Wk.pure (fun X hx hby r => XS.bipush X hx rfl (hb hby hd) (by rw [hu]; exact r)) k
theorem Wk.sipush {i : Int} (u : Int32) (hd : decode bytes pc = .ok (.sipush i, 3)) (hq : pc + 3 = q) (hu : (Int16.ofInt i).toInt32 = u) (k : Wk l Z a0 EL y bytes mx ret R Q L cb sb q Ls (.int u :: St)) : Wk l Z a0 EL y bytes mx ret R Q L cb sb pc Ls (St) := by
  subst hq; exact Wk.pure (fun X hx hby r => XS.sipush X hx rfl (hb hby hd) (by rw [hu]; exact r)) k
theorem Wk.lconst {i : Fin 2} (u : Int64) (hd : decode bytes pc = .ok (.lconst i, 1)) (hq : pc + 1 = q) (hu : Int64.ofNat i = u) (k : Wk l Z a0 EL y bytes mx ret R Q L cb sb q Ls (.long u :: St)) : Wk l Z a0 EL y bytes mx ret R Q L cb sb pc Ls (St) := by
  subst hq; exact Wk.pure (fun X hx hby r => XT.lconst X hx rfl (hb hby hd) (by rw [hu]; exact r)) k
theorem Wk.aconst_null  (hd : decode bytes pc = .ok (.aconst_null, 1)) (hq : pc + 1 = q) (k : Wk l Z a0 EL y bytes mx ret R Q L cb sb q Ls (.null :: St)) : Wk l Z a0 EL y bytes mx ret R Q L cb sb pc Ls (St) := by
  subst hq; exact Wk.pure (fun X hx hby r => XS.aconstNull X hx rfl (hb hby hd)  r) k
theorem Wk.iadd {u w : Int32} (hd : decode bytes pc = .ok (.iadd, 1)) (hq : pc + 1 = q) (k : Wk l Z a0 EL y bytes mx ret R Q L cb sb q Ls (.int (u + w) :: St)) : Wk l Z a0 EL y bytes mx ret R Q L cb sb pc Ls (.int w :: .int u :: St) := by
  subst hq; exact Wk.pure (fun X hx hby r => XS.iadd X hx rfl (hb hby hd) rfl r) k
theorem Wk.isub {u w : Int32} (hd : decode bytes pc = .ok (.isub, 1)) (hq : pc + 1 = q) (k : Wk l Z a0 EL y bytes mx ret R Q L cb sb q Ls (.int (u - w) :: St)) : Wk l Z a0 EL y bytes mx ret R Q L cb sb pc Ls (.int w :: .int u :: St) := by
  subst hq; exact Wk.pure (fun X hx hby r => XS.isub X hx rfl (hb hby hd) rfl r) k
theorem Wk.imul {u w : Int32} (hd : decode bytes pc = .ok (.imul, 1)) (hq : pc + 1 = q) (k : Wk l Z a0 EL y bytes mx ret R Q L cb sb q Ls (.int (u * w) :: St)) : Wk l Z a0 EL y bytes mx ret R Q L cb sb pc Ls (.int w :: .int u :: St) := by
  subst hq; exact Wk.pure (fun X hx hby r => XS.imul X hx rfl (hb hby hd) rfl r) k
theorem Wk.iand {u w : Int32} (hd : decode bytes pc = .ok (.iand, 1)) (hq : pc + 1 = q) (k : Wk l Z a0 EL y bytes mx ret R Q L cb sb q Ls (.int (u &&& w) :: St)) : Wk l Z a0 EL y bytes mx ret R Q L cb sb pc Ls (.int w :: .int u :: St) := by
  subst hq; exact Wk.pure (fun X hx hby r => XS.iand X hx rfl (hb hby hd) rfl r) k
theorem Wk.irem {u w : Int32} (hd : decode bytes pc = .ok (.irem, 1)) (hq : pc + 1 = q) (hy : w ≠ 0) (k : Wk l Z a0 EL y bytes mx ret R Q L cb sb q Ls (.int (u % w) :: St)) : Wk l Z a0 EL y bytes mx ret R Q L cb sb pc Ls (.int w :: .int u :: St) := by
  subst hq; exact Wk.pure (fun X hx hby r => XS.irem X hx rfl (hb hby hd) rfl hy (by rw [show u - u / w * w = u % w from irem_eq_mod u w]; exact r)) k
theorem Wk.idiv {u w : Int32} (hd : decode bytes pc = .ok (.idiv, 1)) (hq : pc + 1 = q) (hy : w ≠ 0) (k : Wk l Z a0 EL y bytes mx ret R Q L cb sb q Ls (.int (u / w) :: St)) : Wk l Z a0 EL y bytes mx ret R Q L cb sb pc Ls (.int w :: .int u :: St) := by
  subst hq; exact Wk.pure (fun X hx hby r => XS.idiv X hx rfl (hb hby hd) rfl hy r) k
theorem Wk.ineg {u : Int32} (hd : decode bytes pc = .ok (.ineg, 1)) (hq : pc + 1 = q) (k : Wk l Z a0 EL y bytes mx ret R Q L cb sb q Ls (.int (-u) :: St)) : Wk l Z a0 EL y bytes mx ret R Q L cb sb pc Ls (.int u :: St) := by
  subst hq; exact Wk.pure (fun X hx hby r => XS.ineg X hx rfl (hb hby hd) rfl r) k
theorem Wk.ior {u w : Int32} (hd : decode bytes pc = .ok (.ior, 1)) (hq : pc + 1 = q) (k : Wk l Z a0 EL y bytes mx ret R Q L cb sb q Ls (.int (u ||| w) :: St)) : Wk l Z a0 EL y bytes mx ret R Q L cb sb pc Ls (.int w :: .int u :: St) := by
  subst hq; exact Wk.pure (fun X hx hby r => XT.ior X hx rfl (hb hby hd) rfl r) k
theorem Wk.ixor {u w : Int32} (hd : decode bytes pc = .ok (.ixor, 1)) (hq : pc + 1 = q) (k : Wk l Z a0 EL y bytes mx ret R Q L cb sb q Ls (.int (u ^^^ w) :: St)) : Wk l Z a0 EL y bytes mx ret R Q L cb sb pc Ls (.int w :: .int u :: St) := by
  subst hq; exact Wk.pure (fun X hx hby r => XT.ixor X hx rfl (hb hby hd) rfl r) k
theorem Wk.ishl {u w : Int32} (hd : decode bytes pc = .ok (.ishl, 1)) (hq : pc + 1 = q) (k : Wk l Z a0 EL y bytes mx ret R Q L cb sb q Ls (.int (u <<< (w &&& 31)) :: St)) : Wk l Z a0 EL y bytes mx ret R Q L cb sb pc Ls (.int w :: .int u :: St) := by
  subst hq; exact Wk.pure (fun X hx hby r => XT.ishl X hx rfl (hb hby hd) rfl r) k
theorem Wk.ishr {u w : Int32} (hd : decode bytes pc = .ok (.ishr, 1)) (hq : pc + 1 = q) (k : Wk l Z a0 EL y bytes mx ret R Q L cb sb q Ls (.int (u >>> (w &&& 31)) :: St)) : Wk l Z a0 EL y bytes mx ret R Q L cb sb pc Ls (.int w :: .int u :: St) := by
  subst hq; exact Wk.pure (fun X hx hby r => XT.ishr X hx rfl (hb hby hd) rfl r) k
theorem Wk.iushr {u w : Int32} (hd : decode bytes pc = .ok (.iushr, 1)) (hq : pc + 1 = q) (k : Wk l Z a0 EL y bytes mx ret R Q L cb sb q Ls (.int (XT.ushr u w) :: St)) : Wk l Z a0 EL y bytes mx ret R Q L cb sb pc Ls (.int w :: .int u :: St) := by
  subst hq; exact Wk.pure (fun X hx hby r => XT.iushr X hx rfl (hb hby hd) rfl r) k
theorem Wk.ladd {u w : Int64} (hd : decode bytes pc = .ok (.ladd, 1)) (hq : pc + 1 = q) (k : Wk l Z a0 EL y bytes mx ret R Q L cb sb q Ls (.long (u + w) :: St)) : Wk l Z a0 EL y bytes mx ret R Q L cb sb pc Ls (.long w :: .long u :: St) := by
  subst hq; exact Wk.pure (fun X hx hby r => XT.ladd X hx rfl (hb hby hd) rfl r) k
theorem Wk.lsub {u w : Int64} (hd : decode bytes pc = .ok (.lsub, 1)) (hq : pc + 1 = q) (k : Wk l Z a0 EL y bytes mx ret R Q L cb sb q Ls (.long (u - w) :: St)) : Wk l Z a0 EL y bytes mx ret R Q L cb sb pc Ls (.long w :: .long u :: St) := by
  subst hq; exact Wk.pure (fun X hx hby r => XT.lsub X hx rfl (hb hby hd) rfl r) k
theorem Wk.lmul {u w : Int64} (hd : decode bytes pc = .ok (.lmul, 1)) (hq : pc + 1 = q) (k : Wk l Z a0 EL y bytes mx ret R Q L cb sb q Ls (.long (u * w) :: St)) : Wk l Z a0 EL y bytes mx ret R Q L cb sb pc Ls (.long w :: .long u :: St) := by
  subst hq; exact Wk.pure (fun X hx hby r => XT.lmul X hx rfl (hb hby hd) rfl r) k
theorem Wk.land {u w : Int64} (hd : decode bytes pc = .ok (.land, 1)) (hq : pc + 1 = q) (k : Wk l Z a0 EL y bytes mx ret R Q L cb sb q Ls (.long (u &&& w) :: St)) : Wk l Z a0 EL y bytes mx ret R Q L cb sb pc Ls (.long w :: .long u :: St) := by
  subst hq; exact Wk.pure (fun X hx hby r => XT.land X hx rfl (hb hby hd) rfl r) k
theorem Wk.ldiv {u w : Int64} (hd : decode bytes pc = .ok (.ldiv, 1)) (hq : pc + 1 = q) (hy : w ≠ 0) (k : Wk l Z a0 EL y bytes mx ret R Q L cb sb q Ls (.long (u / w) :: St)) : Wk l Z a0 EL y bytes mx ret R Q L cb sb pc Ls (.long w :: .long u :: St) := by
  subst hq; exact Wk.pure (fun X hx hby r => XT.ldiv X hx rfl (hb hby hd) rfl hy r) k
theorem Wk.lrem {u w : Int64} (hd : decode bytes pc = .ok (.lrem, 1)) (hq : pc + 1 = q) (hy : w ≠ 0) (k : Wk l Z a0 EL y bytes mx ret R Q L cb sb q Ls (.long (u % w) :: St)) : Wk l Z a0 EL y bytes mx ret R Q L cb sb pc Ls (.long w :: .long u :: St) := by
  subst hq; exact Wk.pure (fun X hx hby r => XT.lrem X hx rfl (hb hby hd) rfl hy (by rw [show u - u / w * w = u % w from lrem_mod u w]; exact r)) k
theorem Wk.i2l {u : Int32} (hd : decode bytes pc = .ok (.i2l, 1)) (hq : pc + 1 = q) (k : Wk l Z a0 EL y bytes mx ret R Q L cb sb q Ls (.long u.toInt64 :: St)) : Wk l Z a0 EL y bytes mx ret R Q L cb sb pc Ls (.int u :: St) := by
  subst hq; exact Wk.pure (fun X hx hby r => XT.i2l X hx rfl (hb hby hd) rfl r) k
theorem Wk.l2i {u : Int64} (hd : decode bytes pc = .ok (.l2i, 1)) (hq : pc + 1 = q) (k : Wk l Z a0 EL y bytes mx ret R Q L cb sb q Ls (.int u.toInt32 :: St)) : Wk l Z a0 EL y bytes mx ret R Q L cb sb pc Ls (.long u :: St) := by
  subst hq; exact Wk.pure (fun X hx hby r => XT.l2i X hx rfl (hb hby hd) rfl r) k
theorem Wk.i2b {u : Int32} (hd : decode bytes pc = .ok (.i2b, 1)) (hq : pc + 1 = q) (k : Wk l Z a0 EL y bytes mx ret R Q L cb sb q Ls (.int u.toInt8.toInt32 :: St)) : Wk l Z a0 EL y bytes mx ret R Q L cb sb pc Ls (.int u :: St) := by
  subst hq; exact Wk.pure (fun X hx hby r => XT.i2b X hx rfl (hb hby hd) rfl r) k
theorem Wk.i2c {u : Int32} (hd : decode bytes pc = .ok (.i2c, 1)) (hq : pc + 1 = q) (k : Wk l Z a0 EL y bytes mx ret R Q L cb sb q Ls (.int u.toUInt32.toUInt16.toUInt32.toInt32 :: St)) : Wk l Z a0 EL y bytes mx ret R Q L cb sb pc Ls (.int u :: St) := by
  subst hq; exact Wk.pure (fun X hx hby r => XT.i2c X hx rfl (hb hby hd) rfl r) k
theorem Wk.lcmp {u w : Int64} (hd : decode bytes pc = .ok (.lcmp, 1)) (hq : pc + 1 = q) (k : Wk l Z a0 EL y bytes mx ret R Q L cb sb q Ls (.int (XT.cmpL u w) :: St)) : Wk l Z a0 EL y bytes mx ret R Q L cb sb pc Ls (.long w :: .long u :: St) := by
  subst hq; exact Wk.pure (fun X hx hby r => XT.lcmp X hx rfl (hb hby hd) rfl r) k
theorem Wk.dup {u : Value} (hd : decode bytes pc = .ok (.dup, 1)) (hq : pc + 1 = q) (hc : u.category = 1) (k : Wk l Z a0 EL y bytes mx ret R Q L cb sb q Ls (u :: u :: St)) : Wk l Z a0 EL y bytes mx ret R Q L cb sb pc Ls (u :: St) := by
  subst hq; exact Wk.pure (fun X hx hby r => XS.dup X hx rfl (hb hby hd) rfl hc r) k
theorem Wk.pop {u : Value} (hd : decode bytes pc = .ok (.pop, 1)) (hq : pc + 1 = q) (hc : u.category = 1) (k : Wk l Z a0 EL y bytes mx ret R Q L cb sb q Ls (St)) : Wk l Z a0 EL y bytes mx ret R Q L cb sb pc Ls (u :: St) := by
  subst hq; exact Wk.pure (fun X hx hby r => XT.pop X hx rfl (hb hby hd) rfl hc r) k
theorem Wk.dup_x1 {u w : Value} (hd : decode bytes pc = .ok (.dup_x1, 1)) (hq : pc + 1 = q) (hc : u.category = 1) (hc' : w.category = 1) (k : Wk l Z a0 EL y bytes mx ret R Q L cb sb q Ls (u :: w :: u :: St)) : Wk l Z a0 EL y bytes mx ret R Q L cb sb pc Ls (u :: w :: St) := by
  subst hq; exact Wk.pure (fun X hx hby r => XT.dupX1 X hx rfl (hb hby hd) rfl hc hc' r) k
theorem Wk.iinc {i : Nat} {cst : Int} {u : Int32} (w : Int32) (hd : decode bytes pc = .ok (.iinc i cst, 3)) (hq : pc + 3 = q) (hu : Int32.ofInt cst = w) (hl : Ls[i]? = some (.val (.int u))) (hl' : LS1 i (.int (u + w)) Ls Ls') (k : Wk l Z a0 EL y bytes mx ret R Q L cb sb q Ls' (St)) : Wk l Z a0 EL y bytes mx ret R Q L cb sb pc Ls (St) := by
  subst hq; exact Wk.pure (fun X hx hby r => XS.iinc X hx rfl (hb hby hd) (getL hl) (by rw [hu]; exact (hl' rfl).1) r) k
theorem Wk.goto  {o : Int} (hd : decode bytes pc = .ok (.goto o, 3)) (ho : 0 ≤ (pc : Int) + o) (hq : ((pc : Int) + o).toNat = q) (k : Wk l Z a0 EL y bytes mx ret R Q L cb sb q Ls (St)) : Wk l Z a0 EL y bytes mx ret R Q L cb sb pc Ls (St) :=
  Wk.pure (fun X hx hby r => XS.goto X hx rfl rfl (hb hby hd)  ho hq r) k
theorem Wk.if_t {cd : ClassFile.Cond} {u : Int32} {o : Int} (hd : decode bytes pc = .ok (.ifCond cd o, 3)) (ho : 0 ≤ (pc : Int) + o) (hq : ((pc : Int) + o).toNat = q) (hc : ifCond.holds cd u = true) (k : Wk l Z a0 EL y bytes mx ret R Q L cb sb q Ls (St)) : Wk l Z a0 EL y bytes mx ret R Q L cb sb pc Ls (.int u :: St) :=
  Wk.pure (fun X hx hby r => XS.ifYes X hx rfl rfl (hb hby hd) rfl hc ho hq r) k
theorem Wk.if_f {cd : ClassFile.Cond} {o : Int} {u : Int32} (hd : decode bytes pc = .ok (.ifCond cd o, 3)) (hq : pc + 3 = q) (hc : ifCond.holds cd u = false) (k : Wk l Z a0 EL y bytes mx ret R Q L cb sb q Ls (St)) : Wk l Z a0 EL y bytes mx ret R Q L cb sb pc Ls (.int u :: St) := by
  subst hq; exact Wk.pure (fun X hx hby r => XS.ifNo X hx rfl (hb hby hd) rfl hc r) k
theorem Wk.icmp_t {cd : ClassFile.Cond} {u w : Int32} {o : Int} (hd : decode bytes pc = .ok (.if_icmp cd o, 3)) (ho : 0 ≤ (pc : Int) + o) (hq : ((pc : Int) + o).toNat = q) (hc : if_icmp.holds cd u w = true) (k : Wk l Z a0 EL y bytes mx ret R Q L cb sb q Ls (St)) : Wk l Z a0 EL y bytes mx ret R Q L cb sb pc Ls (.int w :: .int u :: St) :=
  Wk.pure (fun X hx hby r => XS.icmpYes X hx rfl rfl (hb hby hd) rfl hc ho hq r) k
theorem Wk.icmp_f {cd : ClassFile.Cond} {o : Int} {u w : Int32} (hd : decode bytes pc = .ok (.if_icmp cd o, 3)) (hq : pc + 3 = q) (hc : if_icmp.holds cd u w = false) (k : Wk l Z a0 EL y bytes mx ret R Q L cb sb q Ls (St)) : Wk l Z a0 EL y bytes mx ret R Q L cb sb pc Ls (.int w :: .int u :: St) := by
  subst hq; exact Wk.pure (fun X hx hby r => XS.icmpNo X hx rfl (hb hby hd) rfl hc r) k
theorem Wk.null_t  {o : Int} (hd : decode bytes pc = .ok (.ifnull o, 3)) (ho : 0 ≤ (pc : Int) + o) (hq : ((pc : Int) + o).toNat = q) (k : Wk l Z a0 EL y bytes mx ret R Q L cb sb q Ls (St)) : Wk l Z a0 EL y bytes mx ret R Q L cb sb pc Ls (.null :: St) :=
  Wk.pure (fun X hx hby r => XS.ifnullYes X hx rfl rfl (hb hby hd) rfl ho hq r) k
theorem Wk.null_f {o : Int} {u : Addr} (hd : decode bytes pc = .ok (.ifnull o, 3)) (hq : pc + 3 = q) (k : Wk l Z a0 EL y bytes mx ret R Q L cb sb q Ls (St)) : Wk l Z a0 EL y bytes mx ret R Q L cb sb pc Ls (.ref u :: St) := by
  subst hq; exact Wk.pure (fun X hx hby r => XS.ifnullNo X hx rfl (hb hby hd) rfl r) k
theorem Wk.nonnull_t {u : Addr} {o : Int} (hd : decode bytes pc = .ok (.ifnonnull o, 3)) (ho : 0 ≤ (pc : Int) + o) (hq : ((pc : Int) + o).toNat = q) (k : Wk l Z a0 EL y bytes mx ret R Q L cb sb q Ls (St)) : Wk l Z a0 EL y bytes mx ret R Q L cb sb pc Ls (.ref u :: St) :=
  Wk.pure (fun X hx hby r => XT.ifnonnullYes X hx rfl rfl (hb hby hd) rfl ho hq r) k
theorem Wk.nonnull_f {o : Int} (hd : decode bytes pc = .ok (.ifnonnull o, 3)) (hq : pc + 3 = q) (k : Wk l Z a0 EL y bytes mx ret R Q L cb sb q Ls (St)) : Wk l Z a0 EL y bytes mx ret R Q L cb sb pc Ls (.null :: St) := by
  subst hq; exact Wk.pure (fun X hx hby r => XT.ifnonnullNo X hx rfl (hb hby hd) rfl r) k
theorem Wk.acmp_t {cd : ClassFile.ACond} {u w : Value} {o : Int} (hd : decode bytes pc = .ok (.if_acmp cd o, 3)) (ho : 0 ≤ (pc : Int) + o) (hq : ((pc : Int) + o).toNat = q) (h1 : u.isRef = true) (h2 : w.isRef = true) (hc : XT.acmp cd u w = true) (k : Wk l Z a0 EL y bytes mx ret R Q L cb sb q Ls (St)) : Wk l Z a0 EL y bytes mx ret R Q L cb sb pc Ls (w :: u :: St) :=
  Wk.pure (fun X hx hby r => XT.acmpYes X hx rfl rfl (hb hby hd) rfl h1 h2 hc ho hq r) k
theorem Wk.acmp_f {cd : ClassFile.ACond} {o : Int} {u w : Value} (hd : decode bytes pc = .ok (.if_acmp cd o, 3)) (hq : pc + 3 = q) (h1 : u.isRef = true) (h2 : w.isRef = true) (hc : XT.acmp cd u w = false) (k : Wk l Z a0 EL y bytes mx ret R Q L cb sb q Ls (St)) : Wk l Z a0 EL y bytes mx ret R Q L cb sb pc Ls (w :: u :: St) := by
  subst hq; exact Wk.pure (fun X hx hby r => XT.acmpNo X hx rfl (hb hby hd) rfl h1 h2 hc r) k

/-- a step that reads the tables or the heap and leaves the heap -/
theorem Wk.same {Ls' : List Slot} {St' : List Value} (st : ∀ {p : Program} {e : Env} {s : State} {m : MethodId} {args : Array Value} {below : List Frame} {meth : Method} {c : Code} {T : State} {vm0 : Vm} {locs : List Loc} {cells slots : Nat}, p.tables.exec = Jvm.exec → c.code = bytes → c.maxLocals = mx → vm0.findClass y.cls = some m.cls → Z.Warmed39 vm0 → Inv Z EL vm0 T.heap L →
      Stand p l e R (s.setVm vm0) m args below meth c T locs cells slots → ∃ T', Stand p l e R (s.setVm vm0) m args below meth c T' locs cells slots ∧ T'.heap = T.heap ∧ ∀ target, Steps p.tables e below (T'.setTop (mkF m q ⟨Ls'⟩ St')) target → Steps p.tables e below (T.setTop (mkF m pc ⟨Ls⟩ St)) target)
    (k : Wk l Z a0 EL y bytes mx ret R Q L cb sb q Ls' St') : Wk l Z a0 EL y bytes mx ret R Q L cb sb pc Ls St := by
  intro p e s m args below meth c T vm0 k0 locs cells slots hx hby hmx hret hlk hnm hown hkn X hS hk hZ hE hI hF hc hs
  obtain ⟨T', X', e', st'⟩ := st hx hby hmx hown hZ hI X
  obtain ⟨fin, v, Lc, L', h1, r⟩ := k p e s m args below meth c T' vm0 k0 locs cells slots hx hby hmx hret hlk hnm hown hkn X' hS (by rw [e']; exact hk) hZ hE (by rw [e']; exact hI) hF hc hs
  exact ⟨fin, v, Lc, L', st' _ h1, r⟩
theorem Wk.getfield {i : Nat} (j : Nat) {a : Addr} {fl : Bool} {C R0 O n d : String} {lay : Lay} {vs : List Value} {v : Value} (hd : decode bytes pc = .ok (.getfield i, 3)) (hq : pc + 3 = q) (w : (Jvm.Cond.fieldLink y.cls i R0 n d).before a0 Z = true) (via : Via Z R0 O n d)
    (hm : (a, fl, OB Z C lay vs) ∈ L) (hj : lay[j]? = some (O, n, d)) (hv : vs[j]? = some v) (k : Wk l Z a0 EL y bytes mx ret R Q L cb sb q Ls (v :: St)) : Wk l Z a0 EL y bytes mx ret R Q L cb sb pc Ls (.ref a :: St) := by
  subst hq
  refine Wk.same (fun {p e s m args below meth c T vm0 locs cells slots} hx hby hmx hown hZ hI X => ?_) k
  obtain ⟨cl, e1, e2⟩ := hI.at_ hm
  exact getF X hx hZ hown (host := "") (Or.inl w) via rfl (e2.fld e1 hj hv) (g := mkF m pc ⟨Ls⟩ (.ref a :: St)) rfl rfl (hb hby hd)
theorem Wk.getstatic {i : Nat} {R0 O n d : String} {v : Value} (hd : decode bytes pc = .ok (.getstatic i, 3)) (hq : pc + 3 = q) (w : (Jvm.Cond.fieldLink y.cls i R0 n d).before a0 Z = true) (via : Via Z R0 O n d) (F : Sta Z Z.heap O n d v)
    (k : Wk l Z a0 EL y bytes mx ret R Q L cb sb q Ls (v :: St)) : Wk l Z a0 EL y bytes mx ret R Q L cb sb pc Ls St := by
  subst hq
  refine Wk.same (fun {p e s m args below meth c T vm0 locs cells slots} hx hby hmx hown hZ hI X => ?_) k
  exact getS (host := "") X hx hZ hown w via rfl (F.ext hI.1) (g := mkF m pc ⟨Ls⟩ St) rfl (hb hby hd)
theorem Wk.checkcast {i : Nat} {a : Addr} {fl : Bool} {C K : String} {lay : Lay} {vs : List Value} (hd : decode bytes pc = .ok (.checkcast i, 3)) (hq : pc + 3 = q) (w : (Jvm.Cond.classLink y.cls i K).before a0 Z = true) (hm : (a, fl, OB Z C lay vs) ∈ L) (wc : (Jvm.Cond.castable C K).before a0 Z = true)
    (k : Wk l Z a0 EL y bytes mx ret R Q L cb sb q Ls (.ref a :: St)) : Wk l Z a0 EL y bytes mx ret R Q L cb sb pc Ls (.ref a :: St) := by
  subst hq
  refine Wk.same (fun {p e s m args below meth c T vm0 locs cells slots} hx hby hmx hown hZ hI X => ?_) k
  obtain ⟨cl, e1, e2⟩ := hI.at_ hm
  exact castY X hx hZ hown w rfl (Ins.of_exa (e2.exa e1) wc) (g := mkF m pc ⟨Ls⟩ (.ref a :: St)) rfl rfl (hb hby hd)
theorem Wk.instanceof_t {i : Nat} {a : Addr} {fl : Bool} {C K : String} {lay : Lay} {vs : List Value} (hd : decode bytes pc = .ok (.instanceof i, 3)) (hq : pc + 3 = q) (w : (Jvm.Cond.classLink y.cls i K).before a0 Z = true) (hm : (a, fl, OB Z C lay vs) ∈ L) (wc : (Jvm.Cond.castable C K).before a0 Z = true)
    (k : Wk l Z a0 EL y bytes mx ret R Q L cb sb q Ls (.int 1 :: St)) : Wk l Z a0 EL y bytes mx ret R Q L cb sb pc Ls (.ref a :: St) := by
  subst hq
  refine Wk.same (fun {p e s m args below meth c T vm0 locs cells slots} hx hby hmx hown hZ hI X => ?_) k
  obtain ⟨cl, e1, e2⟩ := hI.at_ hm
  exact instY X hx hZ hown w rfl (Ins.of_exa (e2.exa e1) wc) (g := mkF m pc ⟨Ls⟩ (.ref a :: St)) rfl rfl (hb hby hd)
theorem Wk.instanceof_f {i : Nat} {a : Addr} {fl : Bool} {C K : String} {lay : Lay} {vs : List Value} (hd : decode bytes pc = .ok (.instanceof i, 3)) (hq : pc + 3 = q) (w : (Jvm.Cond.classLink y.cls i K).before a0 Z = true) (hm : (a, fl, OB Z C lay vs) ∈ L) (F : ∃ c t, Z.vm.findClass C = some c ∧ Z.vm.findClass K = some t ∧ Z.vm.assignable c t = false)
    (k : Wk l Z a0 EL y bytes mx ret R Q L cb sb q Ls (.int 0 :: St)) : Wk l Z a0 EL y bytes mx ret R Q L cb sb pc Ls (.ref a :: St) := by
  subst hq
  refine Wk.same (fun {p e s m args below meth c T vm0 locs cells slots} hx hby hmx hown hZ hI X => ?_) k
  obtain ⟨cl, e1, e2⟩ := hI.at_ hm
  exact instNo X hx hZ hown w rfl (e2.exa e1) F (g := mkF m pc ⟨Ls⟩ (.ref a :: St)) rfl rfl (hb hby hd)
theorem Wk.ldc_int {i : Nat} {u : Int32} (hd : decode bytes pc = .ok (.ldc i, 2)) (hq : pc + 2 = q) (w : (Jvm.Cond.constant y.cls i u).before a0 Z = true) (k : Wk l Z a0 EL y bytes mx ret R Q L cb sb q Ls (.int u :: St)) : Wk l Z a0 EL y bytes mx ret R Q L cb sb pc Ls St := by
  subst hq
  refine Wk.same (fun {p e s m args below meth c T vm0 locs cells slots} hx hby hmx hown hZ hI X => ?_) k
  exact ⟨T, X, rfl, fun target r => ldcI X hx hown (mv (s := s.setVm vm0) hZ w) (g := mkF m pc ⟨Ls⟩ St) rfl (hb hby hd) r⟩
theorem Wk.ldc2_w {i : Nat} {u : Int64} (hd : decode bytes pc = .ok (.ldc2_w i, 3)) (hq : pc + 3 = q) (w : (Jvm.Cond.constantLong y.cls i u).before a0 Z = true) (k : Wk l Z a0 EL y bytes mx ret R Q L cb sb q Ls (.long u :: St)) : Wk l Z a0 EL y bytes mx ret R Q L cb sb pc Ls St := by
  subst hq
  refine Wk.same (fun {p e s m args below meth c T vm0 locs cells slots} hx hby hmx hown hZ hI X => ?_) k
  exact ⟨T, X, rfl, fun target r => ldc2J X hx hown (mv (s := s.setVm vm0) hZ w) (g := mkF m pc ⟨Ls⟩ St) rfl (hb hby hd) r⟩
theorem Wk.objinit {i : Nat} {a : Addr} (W : Nat) (hd : decode bytes pc = .ok (.invokespecial i, 3)) (hq : pc + 3 = q) (w1 : (Jvm.Cond.methodLink y.cls i Lib.objectInit).before a0 Z = true) (w2 : (Jvm.Cond.instanceMethod Lib.objectInit).before a0 Z = true) (w3 : (Jvm.Cond.code Lib.objectInit ⟨#[0xb1]⟩ 1 none).before a0 Z = true)
    (hz : Ls.length = mx) (hf : 1 ≤ R.frames) (hW : (St.map fun v => v.category).sum = W) (hl : W + 12 ≤ R.locals) (k : Wk l Z a0 EL y bytes mx ret R Q L cb sb q Ls St) : Wk l Z a0 EL y bytes mx ret R Q L cb sb pc Ls (.ref a :: St) := by
  subst hq
  refine Wk.same (fun {p e s m args below meth c T vm0 locs cells slots} hx hby hmx hown hZ hI X => ?_) k
  exact initO X hx hZ hown w1 w2 w3 rfl (g := mkF m pc ⟨Ls⟩ (.ref a :: St)) rfl (by rw [hmx]; simpa using hz) rfl (hb hby hd) hf (W := W) (by show 2 * 0 + _ ≤ _; rw [hW]; omega) hl
theorem Wk.arraylength {a : Addr} {fl : Bool} {ty : FieldType} {vs : List Value} {u : Int32} (hd : decode bytes pc = .ok (.arraylength, 1)) (hq : pc + 1 = q) (hm : (a, fl, AR Z ty vs) ∈ L) (hu : vs.length.toInt32 = u) (k : Wk l Z a0 EL y bytes mx ret R Q L cb sb q Ls (.int u :: St)) : Wk l Z a0 EL y bytes mx ret R Q L cb sb pc Ls (.ref a :: St) := by
  subst hq
  refine Wk.same (fun {p e s m args below meth c T vm0 locs cells slots} hx hby hmx hown hZ hI X => ?_) k
  obtain ⟨cl, e1, e2⟩ := hI.at_ hm
  exact ⟨T, X, rfl, fun target r => X.arraylength hx e1 (State.isArrayOf_alike (T := s.setVm vm0) hZ.alike e2.1) (g := mkF m pc ⟨Ls⟩ (.ref a :: St)) rfl rfl (hb hby hd) target (by rw [e2.size, hu]; exact r)⟩
theorem inside {Z : State} {ty : FieldType} {vs : List Value} {c : Cell} {j : Int32} {i : Nat} {v : Value} (F : AR Z ty vs c) (hj : ¬ j < 0) (hi : j.toNatClampNeg = i) (hv : vs[i]? = some v) : ¬ (j < 0 ∨ c.slots.size ≤ j.toNatClampNeg) := by
  have := (List.getElem?_eq_some_iff.mp hv).1
  rw [F.size, hi]
  rintro (q | q)
  · exact hj q
  · omega
theorem Wk.caload {a : Addr} {fl : Bool} {vs : List Value} {j : Int32} (i : Nat) {v : Value} (hd : decode bytes pc = .ok (.caload, 1)) (hq : pc + 1 = q) (hm : (a, fl, AR Z .char vs) ∈ L) (hj : ¬ j < 0) (hi : j.toNatClampNeg = i) (hv : vs[i]? = some v) (k : Wk l Z a0 EL y bytes mx ret R Q L cb sb q Ls (v :: St)) : Wk l Z a0 EL y bytes mx ret R Q L cb sb pc Ls (.int j :: .ref a :: St) := by
  subst hq
  refine Wk.same (fun {p e s m args below meth c T vm0 locs cells slots} hx hby hmx hown hZ hI X => ?_) k
  obtain ⟨cl, e1, e2⟩ := hI.at_ hm
  exact ⟨T, X, rfl, fun target r => X.caload hx e1 (State.isArrayOf_alike (T := s.setVm vm0) hZ.alike e2.1) e2.2.1 (inside e2 hj hi hv) (by rw [hi]; exact e2.get hv) (g := mkF m pc ⟨Ls⟩ (.int j :: .ref a :: St)) rfl rfl (hb hby hd) target r⟩
theorem Wk.baload {a : Addr} {fl : Bool} {vs : List Value} {j : Int32} (i : Nat) {v : Value} (hd : decode bytes pc = .ok (.baload, 1)) (hq : pc + 1 = q) (hm : (a, fl, AR Z .byte vs) ∈ L) (hj : ¬ j < 0) (hi : j.toNatClampNeg = i) (hv : vs[i]? = some v) (k : Wk l Z a0 EL y bytes mx ret R Q L cb sb q Ls (v :: St)) : Wk l Z a0 EL y bytes mx ret R Q L cb sb pc Ls (.int j :: .ref a :: St) := by
  subst hq
  refine Wk.same (fun {p e s m args below meth c T vm0 locs cells slots} hx hby hmx hown hZ hI X => ?_) k
  obtain ⟨cl, e1, e2⟩ := hI.at_ hm
  exact ⟨T, X, rfl, fun target r => X.baloadBytes hx e1 (State.isArrayOf_alike (T := s.setVm vm0) hZ.alike e2.1) e2.2.1 (inside e2 hj hi hv) (by rw [hi]; exact e2.get hv) (g := mkF m pc ⟨Ls⟩ (.int j :: .ref a :: St)) rfl rfl (hb hby hd) target r⟩
theorem Wk.aaload {a : Addr} {fl : Bool} {C : String} {vs : List Value} {j : Int32} (i : Nat) {v : Value} (hd : decode bytes pc = .ok (.aaload, 1)) (hq : pc + 1 = q) (hm : (a, fl, RA Z C vs) ∈ L) (hj : ¬ j < 0) (hi : j.toNatClampNeg = i) (hv : vs[i]? = some v) (k : Wk l Z a0 EL y bytes mx ret R Q L cb sb q Ls (v :: St)) : Wk l Z a0 EL y bytes mx ret R Q L cb sb pc Ls (.int j :: .ref a :: St) := by
  subst hq
  refine Wk.same (fun {p e s m args below meth c T vm0 locs cells slots} hx hby hmx hown hZ hI X => ?_) k
  obtain ⟨cl, e1, e2⟩ := hI.at_ hm
  exact ⟨T, X, rfl, fun target r => X.aaload hx e1 (State.isArrayOf_alike (T := s.setVm vm0) hZ.alike e2.1.1) rfl e2.1.2.1 (inside e2.1 hj hi hv) (by rw [hi]; exact e2.1.get hv) (g := mkF m pc ⟨Ls⟩ (.int j :: .ref a :: St)) rfl rfl (hb hby hd) target r⟩
/-- a list with one place written over -/
def VS (j : Nat) (v : Value) (vs vs' : List Value) : Prop := vs.set j v = vs' ∧ j < vs.length
theorem VS.here {v o : Value} {vs : List Value} : VS 0 v (o :: vs) (v :: vs) := ⟨rfl, Nat.succ_pos _⟩
theorem VS.there {j : Nat} {v o : Value} {vs vs' : List Value} (h : VS j v vs vs') : VS (j + 1) v (o :: vs) (o :: vs') := ⟨by rw [List.set_cons_succ, h.1], Nat.succ_lt_succ h.2⟩
theorem VS.of {j : Nat} {v : Value} {vs : List Value} (h : j < vs.length) : VS j v vs (vs.set j v) := ⟨rfl, h⟩
/-- a step that writes a place of the entry a -/
theorem Wk.write {a : Addr} {P P' : Cell → Prop} {St' : List Value} (hm : Ex L (a, true, P) L0)
    (st : ∀ {p : Program} {e : Env} {s : State} {m : MethodId} {args : Array Value} {below : List Frame} {meth : Method} {c : Code} {T : State} {vm0 : Vm} {locs : List Loc} {cells slots : Nat}, p.tables.exec = Jvm.exec → c.code = bytes → c.maxLocals = mx → meth.name = y.name → vm0.findClass y.cls = some m.cls → Z.Warmed39 vm0 → Inv Z EL vm0 T.heap ((a, true, P) :: L0) →
      Stand p l e R (s.setVm vm0) m args below meth c T locs cells slots → ∃ T' h' sl v, Stand p l e R (s.setVm vm0) m args below meth c T' (locs ++ [⟨a, sl⟩]) cells slots ∧ T'.heap = h' ∧ Wr T.heap h' a sl v ∧ (∀ cl, T.heap[a]? = some cl → P cl → P' (cl.setSlot sl v)) ∧ ∀ target, Steps p.tables e below (T'.setTop (mkF m q ⟨Ls⟩ St')) target → Steps p.tables e below (T.setTop (mkF m pc ⟨Ls⟩ St)) target)
    (k : Wk l Z a0 EL y bytes mx ret R Q ((a, true, P') :: L0) cb sb q Ls St') : Wk l Z a0 EL y bytes mx ret R Q L cb sb pc Ls St := by
  refine Wk.pull hm ?_
  intro p e s m args below meth c T vm0 k0 locs cells slots hx hby hmx hret hlk hnm hown hkn X hS hk hZ hE hI hF hc hs
  obtain ⟨T', h', sl, v, X', rfl, W, hP, st'⟩ := st hx hby hmx hnm hown hZ hI X
  obtain ⟨fin, v, Lc, L', h1, r⟩ := k p e s m args below meth c T' vm0 k0 _ cells slots hx hby hmx hret hlk hnm hown hkn X' hS (by rw [W.size]; exact hk) hZ hE (hI.wr W hP) (Fr.snoc X' hF (hI.2.2.2.1 _ (List.mem_cons_self ..) rfl).1) hc hs
  exact ⟨fin, v, Lc, L', st' _ h1, r⟩
theorem Wk.putfield {i : Nat} (j : Nat) {kk : Nat} {a : Addr} {C R0 O n d : String} {lay : Lay} {vs vs' : List Value} {v : Value} {ty : FieldType} (hd : decode bytes pc = .ok (.putfield i, 3)) (hq : pc + 3 = q) (w : (Jvm.Cond.fieldLink y.cls i R0 n d).before a0 Z = true) (via : Via Z R0 O n d)
    (K : LayOk Z a0 C lay) (wi : (Jvm.Cond.instantiable C kk).before a0 Z = true) (hl : (Jvm.Cond.lays C O n d).before a0 Z = true ∨ ((Jvm.Cond.laysFinal C O n d).before a0 Z = true ∧ y.cls = O ∧ y.name = "<init>")) (hj : lay[j]? = some (O, n, d)) (hty : parseFieldDescriptor d = some ty) (hm : Ex L (a, true, OB Z C lay vs) L0) (hvs : VS j v vs vs') (hn : narrow ty v = v) (hf : fits ty v = true)
    (k : Wk l Z a0 EL y bytes mx ret R Q ((a, true, OB Z C lay vs') :: L0) cb sb q Ls St) : Wk l Z a0 EL y bytes mx ret R Q L cb sb pc Ls (v :: .ref a :: St) := by
  subst hq
  obtain ⟨rfl, hlt⟩ := hvs
  have hv : vs[j]? = some vs[j] := List.getElem?_eq_getElem hlt
  refine Wk.write hm (fun {p e s m args below meth c T vm0 locs cells slots} hx hby hmx hnm hown hZ hI X => ?_) k
  obtain ⟨cl, e1, e2⟩ := hI.at_ (List.mem_cons_self ..)
  obtain ⟨T', h', X', eh, W, st⟩ := putF X hx hZ hown (host := "") (Or.inl w) via rfl (e2.fld e1 hj hv) (e2.exa e1) (hl.imp id fun h => ⟨h.1, h.2.1, hnm.trans h.2.2⟩) wi hty hn hf (g := mkF m pc ⟨Ls⟩ (v :: .ref a :: St)) rfl rfl (hb hby hd)
  exact ⟨T', h', _, v, X', eh, W, fun cl' e3 e4 => OB.set K e4 hj hv v, st⟩
theorem Wk.castore {a : Addr} {vs vs' : List Value} {j u u' : Int32} (i : Nat) (hd : decode bytes pc = .ok (.castore, 1)) (hq : pc + 1 = q) (hm : Ex L (a, true, AR Z .char vs) L0) (hj : ¬ j < 0) (hi : j.toNatClampNeg = i) (hu : nar .char u = u') (hvs : VS i (.int u') vs vs')
    (k : Wk l Z a0 EL y bytes mx ret R Q ((a, true, AR Z .char vs') :: L0) cb sb q Ls St) : Wk l Z a0 EL y bytes mx ret R Q L cb sb pc Ls (.int u :: .int j :: .ref a :: St) := by
  subst hq hu
  obtain ⟨rfl, hlt⟩ := hvs
  refine Wk.write hm (fun {p e s m args below meth c T vm0 locs cells slots} hx hby hmx hnm hown hZ hI X => ?_) k
  obtain ⟨cl, e1, e2⟩ := hI.at_ (List.mem_cons_self ..)
  obtain ⟨T', h', X', eh, W, st⟩ := stC X hx hZ rfl (e2.arr e1) (inside e2 hj hi (List.getElem?_eq_getElem hlt)) (g := mkF m pc ⟨Ls⟩ (.int u :: .int j :: .ref a :: St)) rfl rfl (hb hby hd)
  exact ⟨T', h', _, _, X', eh, W, fun cl' e3 e4 => by rw [hi]; exact e4.set _ _, st⟩
theorem Wk.bastore {a : Addr} {vs vs' : List Value} {j u u' : Int32} (i : Nat) (hd : decode bytes pc = .ok (.bastore, 1)) (hq : pc + 1 = q) (hm : Ex L (a, true, AR Z .byte vs) L0) (hj : ¬ j < 0) (hi : j.toNatClampNeg = i) (hu : nar .byte u = u') (hvs : VS i (.int u') vs vs')
    (k : Wk l Z a0 EL y bytes mx ret R Q ((a, true, AR Z .byte vs') :: L0) cb sb q Ls St) : Wk l Z a0 EL y bytes mx ret R Q L cb sb pc Ls (.int u :: .int j :: .ref a :: St) := by
  subst hq hu
  obtain ⟨rfl, hlt⟩ := hvs
  refine Wk.write hm (fun {p e s m args below meth c T vm0 locs cells slots} hx hby hmx hnm hown hZ hI X => ?_) k
  obtain ⟨cl, e1, e2⟩ := hI.at_ (List.mem_cons_self ..)
  obtain ⟨T', h', X', eh, W, st⟩ := stB X hx hZ rfl (e2.arr e1) (inside e2 hj hi (List.getElem?_eq_getElem hlt)) (g := mkF m pc ⟨Ls⟩ (.int u :: .int j :: .ref a :: St)) rfl rfl (hb hby hd)
  exact ⟨T', h', _, _, X', eh, W, fun cl' e3 e4 => by rw [hi]; exact e4.set _ _, st⟩
theorem Wk.aastore {a b : Addr} {fl : Bool} {C D : String} {lay : Lay} {ws : List Value} {vs vs' : List Value} {j : Int32} (i : Nat) (hd : decode bytes pc = .ok (.aastore, 1)) (hq : pc + 1 = q) (hm : Ex L (a, true, RA Z C vs) L0) (ho : (b, fl, OB Z D lay ws) ∈ L0) (wc : (Jvm.Cond.castable D C).before a0 Z = true) (hj : ¬ j < 0) (hi : j.toNatClampNeg = i) (hvs : VS i (.ref b) vs vs')
    (k : Wk l Z a0 EL y bytes mx ret R Q ((a, true, RA Z C vs') :: L0) cb sb q Ls St) : Wk l Z a0 EL y bytes mx ret R Q L cb sb pc Ls (.ref b :: .int j :: .ref a :: St) := by
  subst hq
  obtain ⟨rfl, hlt⟩ := hvs
  refine Wk.write hm (fun {p e s m args below meth c T vm0 locs cells slots} hx hby hmx hnm hown hZ hI X => ?_) k
  obtain ⟨cl, e1, e2⟩ := hI.at_ (List.mem_cons_self ..)
  obtain ⟨cb, f1, f2⟩ := hI.at_ (List.mem_cons_of_mem _ ho)
  obtain ⟨T', h', X', eh, W, st⟩ := stR X hx hZ rfl (e2.1.arr e1) (inside e2.1 hj hi (List.getElem?_eq_getElem hlt)) rfl (Sto.of (e2.1.arr e1) e2.2 (Ins.of_exa (f2.exa f1) wc)) (g := mkF m pc ⟨Ls⟩ (.ref b :: .int j :: .ref a :: St)) rfl rfl (hb hby hd)
  exact ⟨T', h', _, _, X', eh, W, fun cl' e3 e4 => by rw [hi]; exact ⟨e4.1.set _ _, e4.2⟩, st⟩
/-- the first values of a layout's fields -/
abbrev Dv (lay : Lay) (dv : List Value) : Prop := lay.map (fun f => (parseFieldDescriptor f.2.2).map defaultValue) = dv.map some
theorem Wk.new {i n : Nat} {C : String} {lay : Lay} {dv : List Value} (hd : decode bytes pc = .ok (.new i, 3)) (hq : pc + 3 = q) (w : (Jvm.Cond.classLink y.cls i C).before a0 Z = true) (wi : (Jvm.Cond.instantiable C n).before a0 Z = true) (wz : (Jvm.Cond.initialized C).before a0 Z = true) (K : LayOk Z a0 C lay) (hdv : Dv lay dv)
    (hcb : 1 ≤ cb) (hsb : n ≤ sb) (k : ∀ a : Addr, Wk l Z a0 EL y bytes mx ret R Q ((a, true, OB Z C lay dv) :: L) (cb - 1) (sb - n) q Ls (.ref a :: St)) : Wk l Z a0 EL y bytes mx ret R Q L cb sb pc Ls St := by
  subst hq
  intro p e s m args below meth c T vm0 k0 locs cells slots hx hby hmx hret hlk hnm hown hkn X hS hk hZ hE hI hF hc hs
  obtain ⟨T', h', X', rfl, E, A, D, -, st⟩ := newO X hx hZ hown w wi wz rfl (g := mkF m pc ⟨Ls⟩ St) rfl (hb hby hd) (by omega) (by omega)
  obtain ⟨cl, kc, e1, e2⟩ := A
  have hP : OB Z C lay dv cl := by
    refine ⟨⟨kc, e2⟩, fun j f v h1 h2 => of_fld e1 ?_⟩
    have q1 : (lay.map (fun f => (parseFieldDescriptor f.2.2).map defaultValue))[j]? = some ((parseFieldDescriptor f.2.2).map defaultValue) := by simp [h1]
    rw [show lay.map (fun f => (parseFieldDescriptor f.2.2).map defaultValue) = dv.map some from hdv] at q1
    simp only [List.getElem?_map, h2, Option.map_some, Option.some.injEq] at q1
    cases hp : parseFieldDescriptor f.2.2 with
    | none => rw [hp] at q1; cases q1
    | some t =>
      rw [hp] at q1
      simp only [Option.map_some, Option.some.injEq] at q1
      rw [q1]
      exact D (K.1 f (List.mem_of_getElem? h1)) hp
  obtain ⟨fin, v, Lc, L', h1, r⟩ := k T.heap.size p e s m args below meth c T' vm0 k0 locs (cells + 1) (slots + n) hx hby hmx hret hlk hnm hown hkn X' hS (Nat.le_trans hk E.1) hZ hE (hI.new E e1 hP) hF (by omega) (by omega)
  exact ⟨fin, v, Lc, L', st _ h1, r⟩
theorem Wk.newarray {aty : ArrayType} {u : Int32} (ty : FieldType) (N : Nat) (vs0 : List Value) (hd : decode bytes pc = .ok (.newarray aty, 2)) (hq : pc + 2 = q) (hty : newarray.typeOf aty = ty) (h0 : List.replicate N (defaultValue ty) = vs0) (w : (Jvm.Cond.arrayClass ty).before a0 Z = true) (hu : ¬ u < 0) (hN : u.toNatClampNeg = N) (hbig : N ≤ 67108864) (hcb : 1 ≤ cb) (hsb : N ≤ sb)
    (k : ∀ a : Addr, Wk l Z a0 EL y bytes mx ret R Q ((a, true, AR Z ty vs0) :: L) (cb - 1) (sb - N) q Ls (.ref a :: St)) : Wk l Z a0 EL y bytes mx ret R Q L cb sb pc Ls (.int u :: St) := by
  subst hq hty h0
  intro p e s m args below meth c T vm0 k0 locs cells slots hx hby hmx hret hlk hnm hown hkn X hS hk hZ hE hI hF hc hs
  obtain ⟨T', h', cA, X', rfl, E, A, st⟩ := newP X hx hZ w rfl (g := mkF m pc ⟨Ls⟩ (.int u :: St)) rfl (hb hby hd) rfl hu (cap := N) (Nat.le_of_eq hN) (by omega) (by omega) (by omega)
  have hP : AR Z (newarray.typeOf aty) (List.replicate N (defaultValue (newarray.typeOf aty))) (newA cA (newarray.typeOf aty) u) := ⟨A.2.1, A.2.2, by simp [newA, hN], by simp; omega⟩
  obtain ⟨fin, v, Lc, L', h1, r⟩ := k T.heap.size p e s m args below meth c T' vm0 k0 locs (cells + 1) (slots + N) hx hby hmx hret hlk hnm hown hkn X' hS (Nat.le_trans hk E.1) hZ hE (hI.new E A.1 hP) hF (by omega) (by omega)
  exact ⟨fin, v, Lc, L', st _ h1, r⟩
theorem Wk.anewarray {i : Nat} {C : String} {u : Int32} (N : Nat) (vs0 : List Value) (hd : decode bytes pc = .ok (.anewarray i, 3)) (hq : pc + 3 = q) (w1 : (Jvm.Cond.classLink y.cls i C).before a0 Z = true) (h0 : List.replicate N Value.null = vs0) (w2 : (Jvm.Cond.arrayOver (.object C)).before a0 Z = true) (hu : ¬ u < 0) (hN : u.toNatClampNeg = N) (hbig : N ≤ 67108864) (hcb : 1 ≤ cb) (hsb : N ≤ sb)
    (k : ∀ a : Addr, Wk l Z a0 EL y bytes mx ret R Q ((a, true, RA Z C vs0) :: L) (cb - 1) (sb - N) q Ls (.ref a :: St)) : Wk l Z a0 EL y bytes mx ret R Q L cb sb pc Ls (.int u :: St) := by
  subst hq h0
  intro p e s m args below meth c T vm0 k0 locs cells slots hx hby hmx hret hlk hnm hown hkn X hS hk hZ hE hI hF hc hs
  obtain ⟨T', h', cA, X', rfl, E, A, O, st⟩ := newR X hx hZ hown w1 w2 rfl (g := mkF m pc ⟨Ls⟩ (.int u :: St)) rfl (hb hby hd) rfl hu (cap := N) (Nat.le_of_eq hN) (by omega) (by omega) (by omega)
  have hP : RA Z C (List.replicate N .null) (newA cA (.object C) u) := ⟨⟨A.2.1, A.2.2, by simp [newA, hN, defaultValue], by simp; omega⟩, O⟩
  obtain ⟨fin, v, Lc, L', h1, r⟩ := k T.heap.size p e s m args below meth c T' vm0 k0 locs (cells + 1) (slots + N) hx hby hmx hret hlk hnm hown hkn X' hS (Nat.le_trans hk E.1) hZ hE (hI.new E A.1 hP) hF (by omega) (by omega)
  exact ⟨fin, v, Lc, L', st _ h1, r⟩
/-- a String constant, opaque -/
theorem Wk.ldcO {i : Nat} {text : String} (n : Nat) (hd : decode bytes pc = .ok (.ldc i, 2)) (hq : pc + 2 = q) (w : (Jvm.Cond.stringLink y.cls i text).before a0 Z = true) (wS : ∀ a ∈ Bundle.stringAtoms, a.before a0 Z = true) (hn : 4 * text.toList.length ≤ n) (hbig : n ≤ 536870912) (hcb : 2 ≤ cb) (hsb : n + 4 ≤ sb)
    (k : ∀ a : Addr, Wk l Z a0 EL y bytes mx ret R Q L (cb - 2) (sb - (n + 4)) q Ls (.ref a :: St)) : Wk l Z a0 EL y bytes mx ret R Q L cb sb pc Ls St := by
  subst hq
  intro p e s m args below meth c T vm0 k0 locs cells slots hx hby hmx hret hlk hnm hown hkn X hS hk hZ hE hI hF hc hs
  obtain ⟨a, T', h', k1, X', rfl, E, hS', hk', hW', hown', hC, -, st⟩ := ldcOH X hx hZ hown w wS rfl hS hk hE hI.2.1 (g := mkF m pc ⟨Ls⟩ St) rfl (hb hby hd) hn hbig (by omega) (by omega)
  obtain ⟨fin, v, Lc, L', h1, r⟩ := k a p e s m args below meth c T' T'.vm k1 locs (cells + 2) (slots + (n + 4)) hx hby hmx hret hlk hnm hown' (KN.move hkn (hZ.alike.symm.trans hW'.alike)) X' hS' hk' hW' hE (hI.later E hC) hF (by omega) (by omega)
  exact ⟨fin, v, Lc, L', st _ h1, r⟩
def layS : Lay := [("java/lang/String", "value", "[B"), ("java/lang/String", "coder", "B")]
theorem ar_of_arv {Z : State} {h : Heap} {a : Addr} {k : ClassId} {ty : FieldType} {z : Int32} {vs : List Value} {d : Value} (A : Arv Z h a k ty z vs d) (hz : z.toNatClampNeg = vs.length) : ∃ c : Cell, h[a]? = some c ∧ AR Z ty vs c := by
  obtain ⟨c, A, -, h2, h3, H, -⟩ := A
  refine ⟨c, A.1, A.2.1, A.2.2, ?_, ?_⟩
  · apply List.ext_getElem?
    intro i
    rw [hz] at h2
    by_cases q : i < c.slots.size
    · have := H i q
      rw [Array.getElem?_toList, this]
      have q' : i < vs.length := by omega
      simp [List.getD, List.getElem?_eq_getElem q']
    · rw [Array.getElem?_toList, Array.getElem?_eq_none (by omega), List.getElem?_eq_none (by omega)]
  · rw [← hz]; exact (back32 h3).2
/-- a String constant, read -/
theorem Wk.ldcS {i : Nat} {text : String} (n : Nat) (vs : List Value) (z : Int32) (hd : decode bytes pc = .ok (.ldc i, 2)) (hq : pc + 2 = q) (w : (Jvm.Cond.stringLink y.cls i text).before a0 Z = true) (wS : ∀ a ∈ Bundle.stringAtoms, a.before a0 Z = true) (hmem : (y.cls, i) ∈ EL)
    (ht : (∀ c ∈ text.toList, c.toNat < 256) ∧ text.toList.map (fun c => Value.int (Jvm.Lit.byteI c.toNat.toUInt16)) = vs) (hz : ¬ z < 0) (hz' : z.toNatClampNeg = vs.length) (hn : 4 * text.toList.length ≤ n) (hbig : n ≤ 536870912) (hcb : 2 ≤ cb) (hsb : n + 4 ≤ sb)
    (k : ∀ a b : Addr, Wk l Z a0 EL y bytes mx ret R Q ((a, false, OB Z "java/lang/String" layS [.ref b, .int 0]) :: (b, false, AR Z .byte vs) :: L) (cb - 2) (sb - (n + 4)) q Ls (.ref a :: St)) : Wk l Z a0 EL y bytes mx ret R Q L cb sb pc Ls St := by
  subst hq
  intro p e s m args below meth c T vm0 k0 locs cells slots hx hby hmx hret hlk hnm hown hkn X hS hk hZ hE hI hF hc hs
  obtain ⟨a, T', h', k1, b, kb, X', rfl, E, hS', hk', hW', hown', x1, x2, x3, x4, -, -, hC, -, hne, st⟩ := ldcCH X hx hZ hown w wS rfl hS hk hE hmem hI.2.1 ht hz hz' (g := mkF m pc ⟨Ls⟩ St) rfl (hb hby hd) hn hbig (by omega) (by omega)
  have I1 := hI.later E hC
  obtain ⟨cB, b1, b2⟩ := ar_of_arv x4 hz'
  have I2 := I1.old b1 b2 (fun x _ hs => (hne x hs).2)
  obtain ⟨cl, kc, e1, e2⟩ := x1
  have I3 := I2.old (P := OB Z "java/lang/String" layS [.ref b, .int 0]) e1 ⟨⟨kc, e2⟩, fun j f v h1 h2 => by
    match j, h1, h2 with
    | 0, h1, h2 => cases h1; cases h2; exact of_fld e1 x3
    | 1, h1, h2 => cases h1; cases h2; exact of_fld e1 x2
    | j + 2, h1, _ => cases h1⟩ (fun x _ hs => (hne x hs).1)
  obtain ⟨fin, v, Lc, L', h1, r⟩ := k a b p e s m args below meth c T' T'.vm k1 locs (cells + 2) (slots + (n + 4)) hx hby hmx hret hlk hnm hown' (KN.move hkn (hZ.alike.symm.trans hW'.alike)) X' hS' hk' hW' hE I3 hF (by omega) (by omega)
  exact ⟨fin, v, Lc, L', st _ h1, r⟩
/-- what a value that is returned says; what a body that returns nothing says -/
def RV (Q : Value → Store → Prop) : Option Value → Store → Prop := fun v L => ∃ u, v = some u ∧ Q u L
def R0 (Q : Store → Prop) : Option Value → Store → Prop := fun v L => v = none ∧ Q L
theorem Wk.leave (v : Option Value) (hv : ret = none → v = none) (hQ : Q v L)
    (st : ∀ {p : Program} {e : Env} {s : State} {m : MethodId} {args : Array Value} {below : List Frame} {meth : Method} {c : Code} {T : State} {vm0 : Vm} {locs : List Loc} {cells slots : Nat} {fs : List Frame}, p.tables.exec = Jvm.exec → c.code = bytes → meth.sig.returnType = ret → Stand p l e R (s.setVm vm0) m args below meth c T locs cells slots →
      (∀ (f : JFrame) (acts : List Action), f.method = m → f.locked = none → f.entered = [] → (doReturn e (T.setTop f) acts v).1 = T.setFrames fs) → Steps p.tables e below (T.setTop (mkF m pc ⟨Ls⟩ St)) (T.setFrames fs)) : Wk l Z a0 EL y bytes mx ret R Q L cb sb pc Ls St := by
  intro p e s m args below meth c T vm0 k0 locs cells slots hx hby hmx hret hlk hnm hown hkn X hS hk hZ hE hI hF hc hs
  obtain ⟨fs, hr, hrun, hended, hW⟩ := X.leaveW hS hk (v := v) (fun h => hv (hret ▸ h)) hlk
  have A : CHr Z EL vm0 T.heap T.vm T.heap := CHv.at X hZ hE hI.2.1
  have I' : Inv Z EL T.vm T.heap L := hI.later ⟨Nat.le_refl _, fun _ _ q => q⟩ A
  exact ⟨T.setFrames fs, v, locs, L, st hx hby hret X hr, hrun, hended, hQ, I', hF, endMono hW (by omega) (by omega)⟩
theorem Wk.return_ (hd : decode bytes pc = .ok (.return_, 1)) (hr : ret = none) (hQ : Q none L) : Wk l Z a0 EL y bytes mx ret R Q L cb sb pc Ls [] :=
  Wk.leave none (fun _ => rfl) hQ fun hx hby hret X hl => X.returnOut hx (hret.trans hr) (hb hby hd) hl
theorem Wk.ireturn {t : FieldType} {u : Int32} (hd : decode bytes pc = .ok (.ireturn, 1)) (hr : ret = some t) (ht : t = .int ∨ t = .boolean ∨ t = .byte ∨ t = .char ∨ t = .short) (hn : narrow t (.int u) = .int u) (hQ : Q (some (.int u)) L) : Wk l Z a0 EL y bytes mx ret R Q L cb sb pc Ls (.int u :: St) :=
  Wk.leave (some (.int u)) (fun h => by rw [hr] at h; cases h) hQ fun hx hby hret X hl => retOut X hx (hret.trans hr) hn (Or.inl ⟨rfl, ht, u, rfl⟩) (hb hby hd) hl
theorem Wk.lreturn {u : Int64} (hd : decode bytes pc = .ok (.lreturn, 1)) (hr : ret = some .long) (hQ : Q (some (.long u)) L) : Wk l Z a0 EL y bytes mx ret R Q L cb sb pc Ls (.long u :: St) :=
  Wk.leave (some (.long u)) (fun h => by rw [hr] at h; cases h) hQ fun hx hby hret X hl => retOut X hx (hret.trans hr) rfl (Or.inr (Or.inl ⟨rfl, rfl, u, rfl⟩)) (hb hby hd) hl
theorem Wk.areturn {t : FieldType} {u : Value} (hd : decode bytes pc = .ok (.areturn, 1)) (hr : ret = some t) (ht : t.isReference = true) (hn : narrow t u = u) (hu : u.isRef = true) (hQ : Q (some u) L) : Wk l Z a0 EL y bytes mx ret R Q L cb sb pc Ls (u :: St) :=
  Wk.leave (some u) (fun h => by rw [hr] at h; cases h) hQ fun hx hby hret X hl => retOut X hx (hret.trans hr) hn (Or.inr (Or.inr (Or.inr (Or.inr ⟨rfl, ht, hu⟩)))) (hb hby hd) hl
theorem Ct.of {as' : Array Value} (hp : plainFor y = true) (he : ∀ m, entryFrame m as' mx = mkF m 0 ⟨Ls⟩ []) (hE : EW Z a0 EL) (k : Wk l Z a0 EL y bytes mx ret R Q L R.cells R.slots 0 Ls []) : Ct l Z EL y bytes mx ret R as' L Q := by
  intro ws
  refine MetFree.of_bodySF hp hisR ?_
  intro p e s m args below meth c s₁ Bd hml0 hP hK
  obtain ⟨rfl, hZ, hI⟩ := hP
  have hheap : s₁.heap = s.heap := by rw [Bd.state]; rfl
  have X0 : Stand p l e R (s.setVm s.vm) m args below meth c s₁ [] 0 0 := Stand.of_body Bd
  obtain ⟨fin, v, Lc, L', h1, h2, h3, h4, h5, h6, h7⟩ := k p e s m args below meth c s₁ s.vm s.heap.size [] 0 0 Bd.exec Bd.bytes hml0 Bd.returns Bd.notSynchronized (name_of_methodNamed Bd.named Bd.method).1 (findClass_of_methodNamed Bd.named) ⟨KF.start hK hI.1, Bd.named⟩ X0 ((State.WarmedH.refl s).since _) (by rw [hheap]; exact Nat.le_refl _) hZ hE (by rw [hheap]; exact hI) (Fr.nil _) (by omega) (by omega)
  exact ⟨fin, .returned v, castTop (he m) h1, h2, h3, v, Lc, L', rfl, h4, h5, h6, h7⟩
theorem Ct.imp {as' : Array Value} (hq : ∀ v L, Q v L → Q' v L) (h : Ct l Z EL y bytes mx ret R as' L Q) : Ct l Z EL y bytes mx ret R as' L Q' := by
  intro ws p e ha hc hk s m args below hf happ hP hK
  obtain ⟨n, o, h1, h2, h3, v, Lc, L', h4, h5, h6⟩ := h ws p e ha hc hk s m args below hf happ hP hK
  exact ⟨n, o, h1, h2, h3, v, Lc, L', h4, hq _ _ h5, h6⟩
theorem Ct.perm {as' : Array Value} (hp : L.Perm L') (h : Ct l Z EL y bytes mx ret R as' L' Q) : Ct l Z EL y bytes mx ret R as' L Q := by
  intro ws p e ha hc hk s m args below hf happ hP hK
  exact h ws p e ha hc hk s m args below hf happ ⟨hP.1, hP.2.1, hP.2.2.perm hp⟩ hK
section Call
variable {y' : MethodName} {b' : ByteArray} {mx' : Nat} {ret' : Option FieldType} {rm : Room} {as' : Array Value} {W len : Nat} {h : Heap} {p : Program} {e : Env} {below : List Frame} {s : State} {args : Array Value} {vm0 : Vm}
theorem Ct.back (hC : Ct l Z EL y' b' mx' ret' rm as' L Q') (hZ : Z.Warmed39 vm0) (hE : EW Z a0 EL) (hkf : KF Z vm0 below s) (hI : Inv Z EL vm0 h L) (wc : (Jvm.Cond.code y' b' mx' ret').before a0 Z = true) (wz : (Jvm.Cond.initialized y'.cls).before a0 Z = true) (hf : rm.frames + 1 ≤ R.frames) (hl : W + (mx' + 11) + rm.locals ≤ R.locals) :
    BackS l R p e below (s.setVm vm0) args y' len W (fun A a => a = as' ∧ A.U.heap = h ∧ A.cells + rm.cells ≤ R.cells ∧ A.slots + rm.slots ≤ R.slots)
      (fun A _ v B => ∃ Lc L', Q' v L' ∧ Inv Z EL B.U.vm B.U.heap L' ∧ Fr Z.heap.size Lc ∧ B.locs = A.locs ++ Lc ∧ B.cells = A.cells + rm.cells ∧ B.slots = A.slots + rm.slots) :=
  BackS.of_freeWG (bytes := b') (maxL := mx') (ret := ret') (E := fun _ _ o t Lc k n => k = rm.cells ∧ n = rm.slots ∧ Fr Z.heap.size Lc ∧ ∃ v L', o = .returned v ∧ Q' v L' ∧ Inv Z EL t.vm t.heap L') (hC []) hf hl
    (fun m meth c A a Y hp => have hU : Z.Warmed39 A.U.vm := wtrans (s := s.setVm vm0) hZ Y.warmed
      ⟨by show (Jvm.Cond.and _ .tt).before a A.U = true; rw [Cond.before_and, mv hU wc]; rfl, mv hU wc, mv hU wz, hp.2.2.1, hp.2.2.2⟩)
    (fun m meth c A a g mk Y hp => ⟨hp.1, wtrans (s := s.setVm vm0) hZ Y.warmed, by
      show Inv Z EL A.U.vm A.U.heap L
      rw [hp.2.1]; exact hI.later ⟨Nat.le_refl _, fun _ _ q => q⟩ (CHv.at Y hZ hE hI.2.1)⟩) (fun _ _ _ _ _ _ _ Y _ hg => KF.call hkf Y hg)
    (fun _ _ _ _ ⟨v, Lc, L', h1, h2, h3, h4, h5⟩ => ⟨Lc, _, _, h5, rfl, rfl, h4, v, L', h1, h2, h3⟩)
    (fun m meth c A a g mk v t Lc k n Y hp _ _ ⟨e1, e2, e3, v', L', e4, e5, e6⟩ => by
      cases e4; subst e1 e2
      exact ⟨Lc, L', e5, e6, e3, rfl, rfl, rfl⟩)
/-- A CALL, whichever -/
theorem Wk.call {St' : List Value} (hC : Ct l Z EL y' b' mx' ret' rm as' L Q') (wc : (Jvm.Cond.code y' b' mx' ret').before a0 Z = true) (wz : (Jvm.Cond.initialized y'.cls).before a0 Z = true) (hf : rm.frames + 1 ≤ R.frames) (hl : W + (mx' + 11) + rm.locals ≤ R.locals) (hcb : rm.cells ≤ cb) (hsb : rm.slots ≤ sb)
    (go : ∀ {p : Program} {e : Env} {s : State} {m : MethodId} {args : Array Value} {below : List Frame} {meth : Method} {c : Code} {T : State} {vm0 : Vm} {locs : List Loc} {cells slots : Nat} {Pre : Pt → Array Value → Prop} {Post : Pt → Array Value → Option Value → Pt → Prop}, p.tables.exec = Jvm.exec → c.code = bytes → c.maxLocals = mx → vm0.findClass y.cls = some m.cls → Z.Warmed39 vm0 → Inv Z EL vm0 T.heap L →
      Stand p l e R (s.setVm vm0) m args below meth c T locs cells slots → BackS l R p e below (s.setVm vm0) args y' len W Pre Post → (∀ vm₁, (s.setVm vm0).WarmedH vm₁ → Pre ⟨T.setVm vm₁, locs, cells, slots⟩ as') →
      ∃ (v : Option Value) (vm₁ : Vm) (B : Pt), (s.setVm vm0).WarmedH vm₁ ∧ Stand p l e R ((s.setVm vm0).setVm B.U.vm) m args below meth c B.U B.locs B.cells B.slots ∧ (s.setVm vm0).Since B.U.vm B.U.heap.size ∧ T.heap.size ≤ B.U.heap.size ∧ Post ⟨T.setVm vm₁, locs, cells, slots⟩ as' v B ∧ Steps p.tables e below (T.setTop (mkF m pc ⟨Ls⟩ St)) (B.U.setTop (mkF m q ⟨Ls⟩ (v.toList ++ St'))))
    (k : ∀ v L', Q' v L' → Wk l Z a0 EL y bytes mx ret R Q L' (cb - rm.cells) (sb - rm.slots) q Ls (v.toList ++ St')) : Wk l Z a0 EL y bytes mx ret R Q L cb sb pc Ls St := by
  intro p e s m args below meth c T vm0 k0 locs cells slots hx hby hmx hret hlk hnm hown hkn X hS hk hZ hE hI hF hc hs
  obtain ⟨v, vm₁, B, -, X', hS', hgr, ⟨Lc, L', q1, q2, q3, q4, q5, q6⟩, st⟩ := go hx hby hmx hown hZ hI X (Ct.back (len := len) hC hZ hE hkn.1 hI wc wz hf hl) (fun vm₁ _ => ⟨rfl, rfl, by show cells + _ ≤ _; omega, by show slots + _ ≤ _; omega⟩)
  obtain ⟨U, Lx, cx, sx⟩ := B
  dsimp only [Pt.U, Pt.locs, Pt.cells, Pt.slots] at X' hS' hgr q2 q4 q5 q6 st
  subst q4 q5 q6
  obtain ⟨fin, v, Lc', L'', h1, r⟩ := k v L' q1 p e s m args below meth c U U.vm U.heap.size _ _ _ hx hby hmx hret hlk hnm (by rw [hS'.1.alike.findClass]; exact hown) (KN.move hkn hS'.1.alike) X' (hS.trans hS' (Nat.le_trans hk hgr)) (Nat.le_refl _) (State.Warmed39.trans (t := s.setVm vm0) hZ hS'.1) hE q2 (hF.app q3) (by omega) (by omega)
  exact ⟨fin, v, Lc', L'', st.trans h1, r⟩
end Call
section Calls
variable {y' : MethodName} {b' : ByteArray} {mx' : Nat} {ret' : Option FieldType} {rm : Room} {i : Nat}
theorem Wk.static (argsL rest : List Value) (W : Nat) {na : Nat} (hd : decode bytes pc = .ok (.invokestatic i, 3)) (hq : pc + 3 = q) (w1 : (Jvm.Cond.methodLink y.cls i y').before a0 Z = true) (w2 : (Jvm.Cond.static y').before a0 Z = true) (wz : (Jvm.Cond.initialized y'.cls).before a0 Z = true) (wc : (Jvm.Cond.code y' b' mx' ret').before a0 Z = true) (har : XT.arity y'.desc = some na) (hy : y'.cls ≠ "java/lang/invoke/MethodHandle" ∧ y'.cls ≠ "java/lang/invoke/VarHandle")
    (hst : St = argsL.reverse ++ rest) (hna : argsL.length = na) (hW : (rest.map fun v => v.category).sum = W) (hz : Ls.length = mx) (hC : Ct l Z EL y' b' mx' ret' rm argsL.toArray L Q') (hf : rm.frames + 1 ≤ R.frames) (hl : W + (mx' + 11) + rm.locals ≤ R.locals) (hcb : rm.cells ≤ cb) (hsb : rm.slots ≤ sb)
    (k : ∀ v L', Q' v L' → Wk l Z a0 EL y bytes mx ret R Q L' (cb - rm.cells) (sb - rm.slots) q Ls (v.toList ++ rest)) : Wk l Z a0 EL y bytes mx ret R Q L cb sb pc Ls St := by
  subst hq hst
  refine Wk.call (len := 3) hC wc wz hf hl hcb hsb (fun {p e s m args below meth c T vm0 locs cells slots Pre Post} hx hby hmx hown hZ hI X hK hpre => ?_) k
  exact callSS X hx hown (mv (s := s.setVm vm0) hZ w1) (mv (s := s.setVm vm0) hZ w2) (mv (s := s.setVm vm0) hZ wz) (mv (s := s.setVm vm0) hZ wc) hy hK (g := mkF m pc ⟨Ls⟩ (argsL.reverse ++ rest)) rfl (by rw [hmx]; simpa using hz) (XT.arity_len har hna) rfl (by show 2 * 0 + _ ≤ _; rw [hW]; omega) (hb hby hd) hpre
theorem Wk.special {a : Addr} (argsL rest : List Value) (W : Nat) {na : Nat} (hd : decode bytes pc = .ok (.invokespecial i, 3)) (hq : pc + 3 = q) (hy1 : y'.name = "<init>") (w1 : (Jvm.Cond.methodLink y.cls i y').before a0 Z = true) (w2 : (Jvm.Cond.instanceMethod y').before a0 Z = true) (wz : (Jvm.Cond.initialized y'.cls).before a0 Z = true) (wc : (Jvm.Cond.code y' b' mx' none).before a0 Z = true) (har : XT.arity y'.desc = some na) (hy : y'.cls ≠ "java/lang/invoke/MethodHandle" ∧ y'.cls ≠ "java/lang/invoke/VarHandle")
    (hst : St = argsL.reverse ++ .ref a :: rest) (hna : argsL.length = na) (hW : (rest.map fun v => v.category).sum = W) (hz : Ls.length = mx) (hC : Ct l Z EL y' b' mx' none rm (.ref a :: argsL).toArray L Q') (hf : rm.frames + 1 ≤ R.frames) (hl : W + (mx' + 11) + rm.locals ≤ R.locals) (hcb : rm.cells ≤ cb) (hsb : rm.slots ≤ sb)
    (k : ∀ v L', Q' v L' → Wk l Z a0 EL y bytes mx ret R Q L' (cb - rm.cells) (sb - rm.slots) q Ls (v.toList ++ rest)) : Wk l Z a0 EL y bytes mx ret R Q L cb sb pc Ls St := by
  subst hq hst
  refine Wk.call (len := 3) hC wc wz hf hl hcb hsb (fun {p e s m args below meth c T vm0 locs cells slots Pre Post} hx hby hmx hown hZ hI X hK hpre => ?_) k
  exact X.specialBackS hx hy1 hown (mv (s := s.setVm vm0) hZ w1) (mv (s := s.setVm vm0) hZ w2) (mv (s := s.setVm vm0) hZ wc) hy hK (g := mkF m pc ⟨Ls⟩ (argsL.reverse ++ .ref a :: rest)) rfl (by rw [hmx]; simpa using hz) (Steps.refl _) (XT.arity_len har hna) rfl (by show 2 * 0 + _ ≤ _; rw [hW]; omega) (hb hby hd) hpre
theorem nfSel {y0 : MethodName} {C : String} (w : (Jvm.Cond.selects C y0 y0).before a0 Z = true) : ∀ s : State, Z.Warmed39 s.vm → NotFace s y0 := fun s hZ => notFace_of_selects (args := #[]) (mv hZ w)
theorem nfSup {y0 : MethodName} {S : String} (w : (Jvm.Cond.superclass y0.cls S).before a0 Z = true) : ∀ s : State, Z.Warmed39 s.vm → NotFace s y0 := fun s hZ => nf_super (args := #[]) (mv hZ w)
theorem nfTop {y0 : MethodName} (w : (Jvm.Cond.noSuperclass y0.cls).before a0 Z = true) : ∀ s : State, Z.Warmed39 s.vm → NotFace s y0 := fun s hZ => nf_top (args := #[]) (mv hZ w)
theorem Wk.virtual {a : Addr} {fl : Bool} {C : String} {lay : Lay} {vs : List Value} {y0 : MethodName} (argsL rest : List Value) (W : Nat) {na : Nat} (hd : decode bytes pc = .ok (.invokevirtual i, 3)) (hq : pc + 3 = q) (w1 : (Jvm.Cond.methodLink y.cls i y0).before a0 Z = true) (w2 : (Jvm.Cond.declares y0).before a0 Z = true) (w3 : (Jvm.Cond.selects C y0 y').before a0 Z = true) (w4 : (Jvm.Cond.instanceMethod y').before a0 Z = true) (wz : (Jvm.Cond.initialized y'.cls).before a0 Z = true) (wc : (Jvm.Cond.code y' b' mx' ret').before a0 Z = true)
    (har : XT.arity y0.desc = some na) (hy : y0.cls ≠ "java/lang/invoke/MethodHandle" ∧ y0.cls ≠ "java/lang/invoke/VarHandle") (nf : ∀ s : State, Z.Warmed39 s.vm → NotFace s y0) (hm : (a, fl, OB Z C lay vs) ∈ L)
    (hst : St = argsL.reverse ++ .ref a :: rest) (hna : argsL.length = na) (hW : (rest.map fun v => v.category).sum = W) (hz : Ls.length = mx) (hC : Ct l Z EL y' b' mx' ret' rm (.ref a :: argsL).toArray L Q') (hf : rm.frames + 1 ≤ R.frames) (hl : W + (mx' + 11) + rm.locals ≤ R.locals) (hcb : rm.cells ≤ cb) (hsb : rm.slots ≤ sb)
    (k : ∀ v L', Q' v L' → Wk l Z a0 EL y bytes mx ret R Q L' (cb - rm.cells) (sb - rm.slots) q Ls (v.toList ++ rest)) : Wk l Z a0 EL y bytes mx ret R Q L cb sb pc Ls St := by
  subst hq hst
  refine Wk.call (len := 3) hC wc wz hf hl hcb hsb (fun {p e s m args below meth c T vm0 locs cells slots Pre Post} hx hby hmx hown hZ hI X hK hpre => ?_) k
  obtain ⟨cl, e1, e2⟩ := hI.at_ hm
  obtain ⟨cq, kq, q1, -, q3⟩ := isOf (T := T) (s := s.setVm vm0) hZ rfl (e2.exa e1)
  exact X.virtualBackS hx hown (mv (s := s.setVm vm0) hZ w1) (mv (s := s.setVm vm0) hZ w2) (nf (s.setVm vm0) hZ) (mv (s := s.setVm vm0) hZ w3) (mv (s := s.setVm vm0) hZ w4) hy hK q1 q3 (g := mkF m pc ⟨Ls⟩ (argsL.reverse ++ .ref a :: rest)) rfl (by rw [hmx]; simpa using hz) (Steps.refl _) (XT.arity_len har hna) rfl (by show 2 * 0 + _ ≤ _; rw [hW]; omega) (hb hby hd) hpre
theorem Wk.interface {a : Addr} {fl : Bool} {C : String} {lay : Lay} {vs : List Value} {y0 : MethodName} {cnt : Nat} (argsL rest : List Value) (W : Nat) {na : Nat} (hd : decode bytes pc = .ok (.invokeinterface i cnt, 5)) (hq : pc + 5 = q) (w1 : (Jvm.Cond.methodLink y.cls i y0).before a0 Z = true) (w2 : (Jvm.Cond.declares y0).before a0 Z = true) (w5 : (Jvm.Cond.interfaceMethod y0.cls y0.cls y0.name y0.desc).before a0 Z = true) (hd5 : ((Jvm.Cond.interfaceMethod y0.cls y0.cls y0.name y0.desc).onTables && (Jvm.Cond.interfaceMethod y0.cls y0.cls y0.name y0.desc).keepsFace) = true) (w3 : (Jvm.Cond.selects C y0 y').before a0 Z = true) (w4 : (Jvm.Cond.instanceMethod y').before a0 Z = true) (w6 : (Jvm.Cond.publicMethod y').before a0 Z = true) (w7 : (Jvm.Cond.unhidden C y0.name y0.desc).before a0 Z = true) (w8 : (Jvm.Cond.castable C y0.cls).before a0 Z = true) (wz : (Jvm.Cond.initialized y'.cls).before a0 Z = true) (wc : (Jvm.Cond.code y' b' mx' ret').before a0 Z = true)
    (har : XT.arity y0.desc = some na) (hy : y0.cls ≠ "java/lang/invoke/MethodHandle" ∧ y0.cls ≠ "java/lang/invoke/VarHandle") (hm : (a, fl, OB Z C lay vs) ∈ L)
    (hst : St = argsL.reverse ++ .ref a :: rest) (hna : argsL.length = na) (hW : (rest.map fun v => v.category).sum = W) (hz : Ls.length = mx) (hC : Ct l Z EL y' b' mx' ret' rm (.ref a :: argsL).toArray L Q') (hf : rm.frames + 1 ≤ R.frames) (hl : W + (mx' + 11) + rm.locals ≤ R.locals) (hcb : rm.cells ≤ cb) (hsb : rm.slots ≤ sb)
    (k : ∀ v L', Q' v L' → Wk l Z a0 EL y bytes mx ret R Q L' (cb - rm.cells) (sb - rm.slots) q Ls (v.toList ++ rest)) : Wk l Z a0 EL y bytes mx ret R Q L cb sb pc Ls St := by
  subst hq hst
  refine Wk.call (len := 5) hC wc wz hf hl hcb hsb (fun {p e s m args below meth c T vm0 locs cells slots Pre Post} hx hby hmx hown hZ hI X hK hpre => ?_) k
  obtain ⟨cl, e1, e2⟩ := hI.at_ hm
  obtain ⟨cq, kq, q1, q2, q3⟩ := isOf (T := T) (s := s.setVm vm0) hZ rfl (e2.exa e1)
  exact X.interfaceBackS hx hown (mv (s := s.setVm vm0) hZ w1) (mv (s := s.setVm vm0) hZ w2) (mv (s := s.setVm vm0) hZ w5 hd5) (mv (s := s.setVm vm0) hZ w3) (mv (s := s.setVm vm0) hZ w4) (mv (s := s.setVm vm0) hZ w6) (mv (s := s.setVm vm0) hZ w7) (mv (s := s.setVm vm0) hZ w8) hy hK q1 q2 q3 (g := mkF m pc ⟨Ls⟩ (argsL.reverse ++ .ref a :: rest)) rfl (by rw [hmx]; simpa using hz) (Steps.refl _) (XT.arity_len har hna) rfl (by show 2 * 0 + _ ≤ _; rw [hW]; omega) (hb hby hd) hpre
end Calls
theorem kv {Q0 : Value → Store → Prop} (k : ∀ u L', Q0 u L' → Wk l Z a0 EL y bytes mx ret R Q L' cb sb q Ls (u :: rest)) : ∀ v L', RV Q0 v L' → Wk l Z a0 EL y bytes mx ret R Q L' cb sb q Ls (v.toList ++ rest) := by
  rintro _ L' ⟨u, rfl, h⟩; exact k u L' h
theorem k0 {Q0 : Store → Prop} (k : ∀ L', Q0 L' → Wk l Z a0 EL y bytes mx ret R Q L' cb sb q Ls rest) : ∀ v L', R0 Q0 v L' → Wk l Z a0 EL y bytes mx ret R Q L' cb sb q Ls (v.toList ++ rest) := by
  rintro _ L' ⟨rfl, h⟩; exact k L' h
end Rules
/-- a branch both ways -/
def cP : ClassFile.Cond → Int32 → Int32 → Prop
  | .eq, u, w => u = w
  | .ne, u, w => ¬ u = w
  | .lt, u, w => u < w
  | .ge, u, w => ¬ u < w
  | .gt, u, w => w < u
  | .le, u, w => ¬ w < u
def cneg : ClassFile.Cond → ClassFile.Cond
  | .eq => .ne
  | .ne => .eq
  | .lt => .ge
  | .ge => .lt
  | .gt => .le
  | .le => .gt
theorem icmp_of {cd : ClassFile.Cond} {u w : Int32} : (cP cd u w ∧ if_icmp.holds cd u w = true) ∨ (cP (cneg cd) u w ∧ if_icmp.holds cd u w = false) := by
  cases cd
  · by_cases h : u = w
    · exact Or.inl ⟨h, XT.ii_eq_t h⟩
    · exact Or.inr ⟨h, XT.ii_eq_f h⟩
  · by_cases h : u = w
    · exact Or.inr ⟨h, XT.ii_ne_f h⟩
    · exact Or.inl ⟨h, XT.ii_ne_t h⟩
  · by_cases h : u < w
    · exact Or.inl ⟨h, XT.ii_lt_t h⟩
    · exact Or.inr ⟨h, XT.ii_lt_f h⟩
  · by_cases h : u < w
    · exact Or.inr ⟨h, XT.ii_ge_f h⟩
    · exact Or.inl ⟨h, XT.ii_ge_t h⟩
  · by_cases h : w < u
    · exact Or.inl ⟨h, XT.ii_gt_t h⟩
    · exact Or.inr ⟨h, XT.ii_gt_f h⟩
  · by_cases h : w < u
    · exact Or.inr ⟨h, XT.ii_le_f h⟩
    · exact Or.inl ⟨h, XT.ii_le_t h⟩
theorem if_of {cd : ClassFile.Cond} {u : Int32} : (cP cd u 0 ∧ ifCond.holds cd u = true) ∨ (cP (cneg cd) u 0 ∧ ifCond.holds cd u = false) := by
  cases cd
  · by_cases h : u = 0
    · exact Or.inl ⟨h, XT.i0_eq_t h⟩
    · exact Or.inr ⟨h, XT.i0_eq_f h⟩
  · by_cases h : u = 0
    · exact Or.inr ⟨h, XT.i0_ne_f h⟩
    · exact Or.inl ⟨h, XT.i0_ne_t h⟩
  · by_cases h : u < 0
    · exact Or.inl ⟨h, XT.i0_lt_t h⟩
    · exact Or.inr ⟨h, XT.i0_lt_f h⟩
  · by_cases h : u < 0
    · exact Or.inr ⟨h, XT.i0_ge_f h⟩
    · exact Or.inl ⟨h, XT.i0_ge_t h⟩
  · by_cases h : 0 < u
    · exact Or.inl ⟨h, XT.i0_gt_t h⟩
    · exact Or.inr ⟨h, XT.i0_gt_f h⟩
  · by_cases h : 0 < u
    · exact Or.inr ⟨h, XT.i0_le_f h⟩
    · exact Or.inl ⟨h, XT.i0_le_t h⟩
section Rules2
variable {l : Launch} {Z : State} {a0 : Array Value} {EL : List (String × Nat)} {y : MethodName} {bytes : ByteArray} {mx : Nat} {ret : Option FieldType} {R : Room} {Q Q' : Option Value → Store → Prop} {L L0 L' : Store} {cb sb pc q q' : Nat} {Ls Ls' : List Slot} {St rest : List Value}
theorem Wk.icmp_s {cd : ClassFile.Cond} {u w : Int32} {o : Int} (hd : decode bytes pc = .ok (.if_icmp cd o, 3)) (ho : 0 ≤ (pc : Int) + o) (hq : ((pc : Int) + o).toNat = q) (hq' : pc + 3 = q') (k1 : cP cd u w → Wk l Z a0 EL y bytes mx ret R Q L cb sb q Ls St) (k2 : cP (cneg cd) u w → Wk l Z a0 EL y bytes mx ret R Q L cb sb q' Ls St) : Wk l Z a0 EL y bytes mx ret R Q L cb sb pc Ls (.int w :: .int u :: St) := by
  rcases icmp_of (cd := cd) (u := u) (w := w) with ⟨h, h'⟩ | ⟨h, h'⟩
  · exact Wk.icmp_t hd ho hq h' (k1 h)
  · exact Wk.icmp_f hd hq' h' (k2 h)
theorem Wk.if_s {cd : ClassFile.Cond} {u : Int32} {o : Int} (hd : decode bytes pc = .ok (.ifCond cd o, 3)) (ho : 0 ≤ (pc : Int) + o) (hq : ((pc : Int) + o).toNat = q) (hq' : pc + 3 = q') (k1 : cP cd u 0 → Wk l Z a0 EL y bytes mx ret R Q L cb sb q Ls St) (k2 : cP (cneg cd) u 0 → Wk l Z a0 EL y bytes mx ret R Q L cb sb q' Ls St) : Wk l Z a0 EL y bytes mx ret R Q L cb sb pc Ls (.int u :: St) := by
  rcases if_of (cd := cd) (u := u) with ⟨h, h'⟩ | ⟨h, h'⟩
  · exact Wk.if_t hd ho hq h' (k1 h)
  · exact Wk.if_f hd hq' h' (k2 h)
end Rules2
theorem Wk.know {l : Launch} {Z : State} {a0 : Array Value} {EL : List (String × Nat)} {y : MethodName} {bytes : ByteArray} {mx : Nat} {ret : Option FieldType} {R : Room} {Q : Option Value → Store → Prop} {L : Store} {cb sb pc : Nat} {Ls : List Slot} {St : List Value} {P : Prop} (hp : ∀ vm h, Inv Z EL vm h L → P) (k : P → Wk l Z a0 EL y bytes mx ret R Q L cb sb pc Ls St) : Wk l Z a0 EL y bytes mx ret R Q L cb sb pc Ls St := by
  intro p e s m args below meth c T vm0 k0 locs cells slots hx hby hmx hret hlk hnm hown hkn X hS hk hZ hE hI hF hc hs
  exact k (hp _ _ hI) p e s m args below meth c T vm0 k0 locs cells slots hx hby hmx hret hlk hnm hown hkn X hS hk hZ hE hI hF hc hs
theorem Inv.sameObj {Z : State} {EL : List (String × Nat)} {vm : Vm} {h : Heap} {L : Store} {a : Addr} {f f' : Bool} {C C' : String} {lay : Lay} {vs vs' : List Value} {j : Nat} {g : String × String × String} {v v' : Value} (I : Inv Z EL vm h L) (h1 : (a, f, OB Z C lay vs) ∈ L) (h2 : (a, f', OB Z C' lay vs') ∈ L) (hj : lay[j]? = some g) (hv : vs[j]? = some v) (hv' : vs'[j]? = some v') : v = v' := by
  obtain ⟨c, e1, e2⟩ := I.at_ h1
  obtain ⟨c', g1, g2⟩ := I.at_ h2
  cases e1.symm.trans g1
  obtain ⟨_, _, _, fi, x1, -, -, -, -, x6⟩ := e2.2 j g v hj hv
  obtain ⟨_, _, _, fi', y1, -, -, -, -, y6⟩ := g2.2 j g v' hj hv'
  cases x1.symm.trans y1
  exact Option.some.inj (x6.symm.trans y6)
theorem Inv.sameArr {Z : State} {EL : List (String × Nat)} {vm : Vm} {h : Heap} {L : Store} {a : Addr} {f f' : Bool} {ty ty' : FieldType} {vs vs' : List Value} (I : Inv Z EL vm h L) (h1 : (a, f, AR Z ty vs) ∈ L) (h2 : (a, f', AR Z ty' vs') ∈ L) : vs = vs' := by
  obtain ⟨c, e1, e2⟩ := I.at_ h1
  obtain ⟨c', g1, g2⟩ := I.at_ h2
  cases e1.symm.trans g1
  exact e2.2.2.1.symm.trans g2.2.2.1
theorem map_int_inj {xs ys : List Int32} (h : xs.map Value.int = ys.map Value.int) : xs = ys := (List.map_inj_right (fun a b e => by injection e)).mp h
theorem efOf {m : MethodId} {args : Array Value} {n : Nat} {Ls : List Slot} (h : Jvm.Sym.laidSlots args.toList ++ List.replicate (n - (Jvm.Sym.laidSlots args.toList).length) .unset = Ls) : entryFrame m args n = mkF m 0 ⟨Ls⟩ [] := by
  have : argsToLocals args n = ⟨Ls⟩ := Array.toList_inj.mp (by rw [Jvm.Sym.argsToLocals_toList]; exact h)
  unfold entryFrame
  rw [this]
theorem fitO {c : String} {v : Value} (h : v.isRef = true) : fits (.object c) v = true := by cases v <;> first | rfl | exact Bool.noConfusion h
theorem fitA {c : FieldType} {v : Value} (h : v.isRef = true) : fits (.array c) v = true := by cases v <;> first | rfl | exact Bool.noConfusion h
theorem narO {c : String} {v : Value} : narrow (.object c) v = v := by cases v <;> rfl
theorem narA {c : FieldType} {v : Value} : narrow (.array c) v = v := by cases v <;> rfl
theorem staOf {Z : State} {args a0 : Array Value} {C n d K : String} (h : (Jvm.Cond.exactly (Term.static C n d) K).value args Z none Z [] = some true) (hi : (Jvm.Cond.initialized C).before a0 Z = true) (hl : (Jvm.Cond.laysStatic C n d).before a0 Z = true) : ∃ a : Addr, Sta Z Z.heap C n d (.ref a) ∧ Exa Z Z.heap a K := by
  obtain ⟨a, ev⟩ := exa_v h
  exact ⟨a, Sta.start (args := args) ev (Or.inr ⟨hi, hl⟩), Exa.start ev h⟩
theorem compact {Z : State} {args : Array Value} (h1 : (Jvm.Cond.initializedFor "java/lang/String" "COMPACT_STRINGS" "Z").before args Z = true) (h2 : (Jvm.Cond.isInt (Term.static "java/lang/String" "COMPACT_STRINGS" "Z")).before args Z = true) (h3 : (Jvm.Cond.not (Jvm.Cond.eq (Term.static "java/lang/String" "COMPACT_STRINGS" "Z") (.int 0))).before args Z = true) : ∃ z, z ≠ (0 : Int32) ∧ Sta Z Z.heap "java/lang/String" "COMPACT_STRINGS" "Z" (.int z) := by
  obtain ⟨z, ev⟩ := is_v (Cond.before_iff.mp h2)
  refine ⟨z, fun e => ?_, Sta.start (args := args) ev (Or.inl h1)⟩
  have h := not_v (Cond.before_iff.mp h3)
  rw [eq_i ev (Term.int_eval 0) (by rw [e])] at h
  cases h
theorem staI {Z : State} {args : Array Value} {C n d : String} {z : Int32} (h1 : (Jvm.Cond.initializedFor C n d).before args Z = true) (h2 : (Jvm.Cond.eq (Term.static C n d) (.int z)).before args Z = true) : Sta Z Z.heap C n d (.int z) := by
  have h := Cond.before_iff.mp h2
  obtain ⟨x, y, ex, ey, kx, -⟩ := cmp_v (Or.inl h)
  cases (Term.int_eval z).symm.trans ey
  have e : x = .int z := by
    have q := h
    cases x with
    | int w =>
      simp only [Jvm.Cond.value, ex, Term.int_eval, Option.some.injEq, decide_eq_true_eq] at q
      rw [q]
    | long _ => obtain ⟨_, kx⟩ := kx; cases kx
    | float _ => obtain ⟨_, kx⟩ := kx; cases kx
    | double _ => obtain ⟨_, kx⟩ := kx; cases kx
    | _ => exact Bool.noConfusion kx.2
  subst e
  exact Sta.start (args := args) ex (Or.inl h1)
theorem nar8 (x : Int32) : nar .byte x.toInt8.toInt32 = x.toInt8.toInt32 := by simp [nar]
/-! numbers -/
theorem nchar_mask (x : Int32) : nar .char (x &&& 255) = x &&& 255 := i2c_mask x
theorem mask_lat (x : Int32) : 0 ≤ (x &&& 255).toInt ∧ (x &&& 255).toInt < 256 := by
  have := c_and x 255 (by decide)
  have e : (255 : Int32).toInt = 255 := by decide
  omega
theorem remR (x : Int32) (k : Int32) (d : Int) (hx : 0 ≤ x.toInt) (hd : k.toInt = d) (hk : 0 < d) : 0 ≤ (x % k).toInt ∧ (x % k).toInt < d := by
  have := (c_iremV x k).1 hx (by omega)
  omega
theorem maskR (x : Int32) : 0 ≤ (x &&& 2147483647).toInt := (c_and x 2147483647 (by decide)).1
theorem lit32 {x : Int32} {n : Int} (h : x.toInt = n) (m : Int32) (hm : m.toInt = n) : x = m := Int32.toInt_inj.mp (h.trans hm.symm)
theorem rem4 (x : Int32) : (x &&& 2147483647) % 4 = 0 ∨ (x &&& 2147483647) % 4 = 1 ∨ (x &&& 2147483647) % 4 = 2 ∨ (x &&& 2147483647) % 4 = 3 := by
  have h := remR (x &&& 2147483647) 4 4 (maskR x) (by decide) (by decide)
  generalize (x &&& 2147483647) % 4 = r at *
  have h4 : r.toInt = 0 ∨ r.toInt = 1 ∨ r.toInt = 2 ∨ r.toInt = 3 := by omega
  rcases h4 with h | h | h | h
  · exact Or.inl (lit32 h 0 (by decide))
  · exact Or.inr (Or.inl (lit32 h 1 (by decide)))
  · exact Or.inr (Or.inr (Or.inl (lit32 h 2 (by decide))))
  · exact Or.inr (Or.inr (Or.inr (lit32 h 3 (by decide))))
theorem pw0 : ((2 ^ 0 : Nat) : Int) = 1 := rfl
theorem pw1 : ((2 ^ 1 : Nat) : Int) = 2 := rfl
theorem pw8 : ((2 ^ 8 : Nat) : Int) = 256 := rfl
theorem pw31 : ((2 ^ 31 : Nat) : Int) = 2147483648 := rfl
theorem n32 {n : Nat} (h : n < 2 ^ 31) : n.toInt32.toInt = n := len_toInt h
theorem n32_nn {n : Nat} (h : n < 2 ^ 31) : ¬ n.toInt32 < 0 := by rw [Int32.lt_iff_toInt_lt, n32 h]; show ¬ (n : Int) < 0; omega
theorem n32_nat {n : Nat} (h : n < 2 ^ 31) : n.toInt32.toNatClampNeg = n := by simp only [Int32.toNatClampNeg, n32 h]; rfl
theorem n32_lt {i n : Nat} (hi : i < 2 ^ 31) (hn : n < 2 ^ 31) : i.toInt32 < n.toInt32 ↔ i < n := by rw [Int32.lt_iff_toInt_lt, n32 hi, n32 hn]; omega
theorem n32_inj {i n : Nat} (hi : i < 2 ^ 31) (hn : n < 2 ^ 31) : i.toInt32 = n.toInt32 ↔ i = n := by rw [← Int32.toInt_inj, n32 hi, n32 hn]; omega
theorem n32_succ (i : Nat) : i.toInt32 + 1 = (i + 1).toInt32 := (Int32.ofNat_add i 1).symm
end Jvm.OwnW
namespace Jvm.OwnW
open Jvm Jvm.ClassFile Sem Op Lib Jvm.Free Jvm.Stand Jvm.LawKit Jvm.RoadKit
theorem Inv.keep {Z : State} {EL : List (String × Nat)} {vm : Vm} {h h' : Heap} {L : Store} {b : Addr} {P P' : Cell → Prop} {c : Cell} (I : Inv Z EL vm h ((b, true, P) :: L)) (K : Keep h h' [b]) (hc : h'[b]? = some c) (hP : P' c) : Inv Z EL vm h' ((b, true, P') :: L) := by
  obtain ⟨h1, h2, h3, h4, h5⟩ := I
  have hs := (h4 _ (List.mem_cons_self ..) rfl)
  have hsafe : ∀ x ∈ [b], Safe Z EL vm h x := fun x hx => by cases List.mem_singleton.mp hx; exact hs.2
  rw [List.pairwise_cons] at h5
  refine ⟨⟨Nat.le_trans h1.1 K.1, fun x c q => K.2.1 x c (h1.2 x c q) fun hx => ?_⟩, h2.keep K hsafe, fun o ho => ?_, fun o ho q => ?_, List.pairwise_cons.mpr ⟨fun o ho q => h5.1 o ho q, h5.2⟩⟩
  · cases List.mem_singleton.mp hx
    exact absurd (Array.getElem?_eq_some_iff.mp q).1 (Nat.not_lt.mpr hs.1)
  · rcases List.mem_cons.mp ho with rfl | ho
    · exact ⟨c, hc, hP⟩
    · obtain ⟨c1, q1, q2⟩ := h3 o (List.mem_cons_of_mem _ ho)
      exact ⟨c1, K.2.1 _ _ q1 fun hx => h5.1 o ho (Or.inl rfl) (List.mem_singleton.mp hx).symm, q2⟩
  · rcases List.mem_cons.mp ho with rfl | ho
    · exact ⟨hs.1, Safe.keep K hsafe h2 hs.2⟩
    · have q2 := h4 o (List.mem_cons_of_mem _ ho) q
      exact ⟨q2.1, Safe.keep K hsafe h2 q2.2⟩
theorem arv_of_ar {Z : State} {h : Heap} {a : Addr} {ty : FieldType} {vs : List Value} {c : Cell} (d : Value) (hc : h[a]? = some c) (A : AR Z ty vs c) (hf : ∀ v ∈ vs, fits ty v = true) : Arv Z h a c.cls ty vs.length.toInt32 vs d := by
  refine ⟨c, A.arr hc, rfl, by rw [A.size, n32_nat A.2.2.2], n32_nn A.2.2.2, fun k hk => ?_, fun i hi => ?_⟩
  · rw [A.size] at hk
    rw [A.get (List.getElem?_eq_getElem hk), List.getD_eq_getElem?_getD, List.getElem?_eq_getElem hk]; rfl
  · rw [A.size] at hi
    rw [List.getD_eq_getElem?_getD, List.getElem?_eq_getElem hi]
    exact hf _ (List.getElem_mem hi)
theorem range_take {vs : List Value} {s n : Nat} {d : Value} (h : s + n ≤ vs.length) : ((List.range n).map fun i => vs.getD (s + i) d) = (vs.drop s).take n := by
  apply List.ext_getElem
  · simp; omega
  · intro i h1 h2
    simp only [List.length_map, List.length_range] at h1
    have : s + i < vs.length := by omega
    simp [List.getD_eq_getElem?_getD, List.getElem?_eq_getElem this]
section Rules4
variable {l : Launch} {Z : State} {a0 : Array Value} {EL : List (String × Nat)} {y : MethodName} {bytes : ByteArray} {mx : Nat} {ret : Option FieldType} {R : Room} {Q Q' : Option Value → Store → Prop} {L L0 L' : Store} {cb sb pc q q' : Nat} {Ls Ls' : List Slot} {St rest : List Value}
/-- System.arraycopy between two byte arrays -/
theorem Wk.arraycopyB {i : Nat} (W sN dN nN : Nat) (vs' : List Value) {sp dp nn : Int32} {a b : Addr} {fa : Bool} {va vd : List Value} (hd : decode bytes pc = .ok (.invokestatic i, 3)) (hq : pc + 3 = q) (w1 : (Jvm.Cond.methodLink y.cls i Jvm.Stand.acN).before a0 Z = true) (w2 : (Jvm.Cond.native Jvm.Stand.acN).before a0 Z = true) (w3 : (Jvm.Cond.static Jvm.Stand.acN).before a0 Z = true) (w4 : (Jvm.Cond.initialized "java/lang/System").before a0 Z = true)
    (hm : Ex L (b, true, AR Z .byte vd) L0) (ha : (a, fa, AR Z .byte va) ∈ L0) (hfa : ∀ v ∈ va, fits .byte v = true) (hfd : ∀ v ∈ vd, fits .byte v = true) (h1 : ¬ sp < 0 ∧ sp.toNatClampNeg = sN) (h2 : ¬ dp < 0 ∧ dp.toNatClampNeg = dN) (h3 : ¬ nn < 0 ∧ nn.toNatClampNeg = nN) (h4 : sN + nN ≤ va.length) (h5 : dN + nN ≤ vd.length) (hv : vd.take dN ++ (va.drop sN).take nN ++ vd.drop (dN + nN) = vs')
    (hz : Ls.length = mx) (hf : 1 ≤ R.frames) (hW : (St.map fun v => v.category).sum = W) (hlo : W + (nativeFrameWords "java/lang/System" "arraycopy" 5 + 11) ≤ R.locals) (k : Wk l Z a0 EL y bytes mx ret R Q ((b, true, AR Z .byte vs') :: L0) cb sb q Ls St) : Wk l Z a0 EL y bytes mx ret R Q L cb sb pc Ls (.int nn :: .int dp :: .ref b :: .int sp :: .ref a :: St) := by
  subst hq hv
  obtain ⟨h1, rfl⟩ := h1
  obtain ⟨h2, rfl⟩ := h2
  obtain ⟨h3, rfl⟩ := h3
  refine Wk.pull hm ?_
  intro p e s m args below meth c T vm0 k0 locs cells slots hx hby hmx hret hlk hnm hown hkn X hS hk hZ hE hI hF hc hs
  obtain ⟨cd, d1, d2⟩ := hI.at_ (List.mem_cons_self ..)
  obtain ⟨cs, s1, s2⟩ := hI.at_ (List.mem_cons_of_mem _ ha)
  have A := arv_of_ar (.int 0) s1 s2 hfa
  have B := arv_of_ar (.int 0) d1 d2 hfd
  have la := n32_nat s2.2.2.2
  have ld := n32_nat d2.2.2.2
  obtain ⟨T', h', L2, X', rfl, N, K, B', st⟩ := cpA X hx hZ hown w1 w2 w3 w4 rfl A B (Or.inl ⟨rfl, rfl⟩) h1 h2 h3 (by rw [la]; exact h4) (by rw [ld]; exact h5) (range_take h4).symm h5 hF (hI.2.2.2.1 _ (List.mem_cons_self ..) rfl).1 (g := mkF m pc ⟨Ls⟩ (.int nn :: .int dp :: .ref b :: .int sp :: .ref a :: St)) rfl (by rw [hmx]; simpa using hz) rfl (hb hby hd) hf (W := W) (by show 2 * 0 + _ ≤ _; rw [hW]; omega) hlo
  obtain ⟨c', e1, e2⟩ := ar_of_arv B' (by rw [ld]; simp; omega)
  obtain ⟨fin, v, Lc, L', q1, r⟩ := k p e s m args below meth c T' vm0 k0 L2 cells slots hx hby hmx hret hlk hnm hown hkn X' hS (Nat.le_trans hk K.1) hZ hE (hI.keep K e1 e2) N hc hs
  exact ⟨fin, v, Lc, L', st _ q1, r⟩
end Rules4
end Jvm.OwnW
namespace Jvm.OwnW
open Jvm Jvm.ClassFile Sem Op Lib Jvm.Free Jvm.Stand Jvm.LawKit Jvm.RoadKit
theorem selOwn {Z : State} {a0 : Array Value} {y0 : MethodName} {C : String} (hy : y0.cls ≠ "java/lang/invoke/MethodHandle" ∧ y0.cls ≠ "java/lang/invoke/VarHandle") (w : (Jvm.Cond.selects C y0 y0).before a0 Z = true) (wp : (Jvm.Cond.privateMethod y0).before a0 Z = true) : (Jvm.Cond.selects y0.cls y0 y0).before a0 Z = true := by
  obtain ⟨c, r, m, -, q2, q3, -, k, q5, q6⟩ := Cond.selects_spec w
  have hf := State.methodFound?_of_named q3 hy
  have hc := findClass_of_methodNamed q3
  have hp := Cond.privateMethod_at wp
  cases hm : Z.vm.method? m with
  | none => simp [Cond.before, Cond.holds, Cond.value, q3, hm] at wp
  | some meth =>
    have hs : selectMethod {} Z.vm m.cls m = .method m := selectMethod_private hm (hp m meth q3 hm)
    simp [Cond.before, Cond.holds, Cond.value, hc, hf, q3, hs, q5, q6]
theorem nfCls {Z : State} {a0 : Array Value} {y0 y1 : MethodName} {C : String} (he : y1.cls = y0.cls) (w : (Jvm.Cond.selects C y1 y1).before a0 Z = true) : ∀ s : State, Z.Warmed39 s.vm → NotFace s y0 := fun s hZ r0 h0 => by
  obtain ⟨c, r, m, -, -, q3, -, k, q5, q6⟩ := Cond.selects_spec (mv (args := #[]) (s := s) hZ w)
  have h1 := findClass_of_methodNamed q3
  have h2 := findClass_of_methodNamed h0
  rw [he] at h1
  exact ⟨k, by rw [← Option.some.inj (h1.symm.trans h2)]; exact q5, q6⟩
theorem sameOwn {Z : State} {a0 : Array Value} {y0 : MethodName} (hy : y0.cls ≠ "java/lang/invoke/MethodHandle" ∧ y0.cls ≠ "java/lang/invoke/VarHandle") (wi : (Jvm.Cond.instanceMethod y0).before a0 Z = true) (nf : ∀ s : State, Z.Warmed39 s.vm → NotFace s y0) : (Jvm.Cond.sameMethod y0.cls y0.cls y0.name y0.desc).before a0 Z = true := by
  obtain ⟨mk, meth, hn, -, -, -⟩ := Cond.instanceMethod_spec wi
  have hf := State.methodFound?_of_named hn hy
  have hc := findClass_of_methodNamed hn
  obtain ⟨k, h1, h2⟩ := nf Z (State.Warmed39.refl Z) mk hn
  have hn' : Z.methodNamed? ⟨y0.cls, y0.name, y0.desc⟩ = some mk := hn
  simp [Cond.before, Cond.holds, Cond.value, hc, hf, hn', h1, h2]
section Rules5
variable {l : Launch} {Z : State} {a0 : Array Value} {EL : List (String × Nat)} {y : MethodName} {bytes : ByteArray} {mx : Nat} {ret : Option FieldType} {R : Room} {Q Q' : Option Value → Store → Prop} {L L0 L' : Store} {cb sb pc q q' : Nat} {Ls Ls' : List Slot} {St rest : List Value} {y' : MethodName} {b' : ByteArray} {mx' : Nat} {ret' : Option FieldType} {rm : Room} {i : Nat}
/-- a private method of the receiver's class or of one above -/
theorem Wk.priv {a : Addr} {fl : Bool} {C C' : String} {lay : Lay} {vs : List Value} (argsL rest : List Value) (W : Nat) {na : Nat} (hd : decode bytes pc = .ok (.invokevirtual i, 3)) (hq : pc + 3 = q) (w1 : (Jvm.Cond.methodLink y.cls i y').before a0 Z = true) (w4 : (Jvm.Cond.instanceMethod y').before a0 Z = true) (w3 : (Jvm.Cond.selects C' y' y').before a0 Z = true) (w5 : (Jvm.Cond.privateMethod y').before a0 Z = true) (wz : (Jvm.Cond.initialized y'.cls).before a0 Z = true) (wc : (Jvm.Cond.code y' b' mx' ret').before a0 Z = true)
    (har : XT.arity y'.desc = some na) (hy : y'.cls ≠ "java/lang/invoke/MethodHandle" ∧ y'.cls ≠ "java/lang/invoke/VarHandle") (hm : (a, fl, OB Z C lay vs) ∈ L)
    (hst : St = argsL.reverse ++ .ref a :: rest) (hna : argsL.length = na) (hW : (rest.map fun v => v.category).sum = W) (hz : Ls.length = mx) (hC : Ct l Z EL y' b' mx' ret' rm (.ref a :: argsL).toArray L Q') (hf : rm.frames + 1 ≤ R.frames) (hl : W + (mx' + 11) + rm.locals ≤ R.locals) (hcb : rm.cells ≤ cb) (hsb : rm.slots ≤ sb)
    (k : ∀ v L', Q' v L' → Wk l Z a0 EL y bytes mx ret R Q L' (cb - rm.cells) (sb - rm.slots) q Ls (v.toList ++ rest)) : Wk l Z a0 EL y bytes mx ret R Q L cb sb pc Ls St := by
  subst hq hst
  refine Wk.call (len := 3) hC wc wz hf hl hcb hsb (fun {p e s m args below meth c T vm0 locs cells slots Pre Post} hx hby hmx hown hZ hI X hK hpre => ?_) k
  obtain ⟨cl, e1, e2⟩ := hI.at_ hm
  have hob : ∀ q, cl.vm ≠ .statics q := fun q e => by
    obtain ⟨_, _, _, x3, _⟩ := e2.1
    rw [e] at x3; cases x3
  exact X.privateBackS hx hown (mv (s := s.setVm vm0) hZ w1) (mv (s := s.setVm vm0) hZ w4) (mv (s := s.setVm vm0) hZ (selOwn hy w3 w5)) (Cond.privateMethod_at (args := args) (mv (s := s.setVm vm0) hZ w5)) (mv (s := s.setVm vm0) hZ wc) hy hK (g := mkF m pc ⟨Ls⟩ (argsL.reverse ++ .ref a :: rest)) rfl (by rw [hmx]; simpa using hz) (Steps.refl _) e1 hob (XT.arity_len har hna) rfl (by show 2 * 0 + _ ≤ _; rw [hW]; omega) (hb hby hd) hpre
/-- a method of the class above -/
theorem Wk.up {a : Addr} {fl : Bool} {C K : String} {lay : Lay} {vs : List Value} (argsL rest : List Value) (W : Nat) {na : Nat} (hd : decode bytes pc = .ok (.invokespecial i, 3)) (hq : pc + 3 = q) (w1 : (Jvm.Cond.methodLink y.cls i y').before a0 Z = true) (w2 : (Jvm.Cond.instanceMethod y').before a0 Z = true) (w3 : (Jvm.Cond.superclass y.cls y'.cls).before a0 Z = true) (hn : y'.name ≠ "<init>") (wk : (Jvm.Cond.castable C K).before a0 Z = true) (wz : (Jvm.Cond.initialized y'.cls).before a0 Z = true) (wc : (Jvm.Cond.code y' b' mx' ret').before a0 Z = true)
    (har : XT.arity y'.desc = some na) (hy : y'.cls ≠ "java/lang/invoke/MethodHandle" ∧ y'.cls ≠ "java/lang/invoke/VarHandle") (nf : ∀ s : State, Z.Warmed39 s.vm → NotFace s y') (hm : (a, fl, OB Z C lay vs) ∈ L)
    (hst : St = argsL.reverse ++ .ref a :: rest) (hna : argsL.length = na) (hW : (rest.map fun v => v.category).sum = W) (hz : Ls.length = mx) (hC : Ct l Z EL y' b' mx' ret' rm (.ref a :: argsL).toArray L Q') (hf : rm.frames + 1 ≤ R.frames) (hl : W + (mx' + 11) + rm.locals ≤ R.locals) (hcb : rm.cells ≤ cb) (hsb : rm.slots ≤ sb)
    (k : ∀ v L', Q' v L' → Wk l Z a0 EL y bytes mx ret R Q L' (cb - rm.cells) (sb - rm.slots) q Ls (v.toList ++ rest)) : Wk l Z a0 EL y bytes mx ret R Q L cb sb pc Ls St := by
  subst hq hst
  refine Wk.call (len := 3) hC wc wz hf hl hcb hsb (fun {p e s m args below meth c T vm0 locs cells slots Pre Post} hx hby hmx hown hZ hI X hK hpre => ?_) k
  obtain ⟨cl, e1, e2⟩ := hI.at_ hm
  exact superBackS X hx hZ hown w1 (sameOwn hy w2 nf) w2 w3 hn hK rfl (Ins.of_exa (e2.exa e1) wk) (g := mkF m pc ⟨Ls⟩ (argsL.reverse ++ .ref a :: rest)) rfl (by rw [hmx]; simpa using hz) wc (XT.arity_len har hna) rfl (by show 2 * 0 + _ ≤ _; rw [hW]; omega) (hb hby hd) hpre
/-- a cell of the start, read only -/
theorem Wk.oldC {a : Addr} {c0 : Cell} {P : Cell → Prop} (hc : Z.heap[a]? = some c0) (hP : P c0) (k : Wk l Z a0 EL y bytes mx ret R Q ((a, false, P) :: L) cb sb pc Ls St) : Wk l Z a0 EL y bytes mx ret R Q L cb sb pc Ls St := by
  intro p e s m args below meth c T vm0 k0 locs cells slots hx hby hmx hret hlk hnm hown hkn X hS hk hZ hE hI hF hcc hs
  have hlt : a < Z.heap.size := (Array.getElem?_eq_some_iff.mp hc).1
  exact k p e s m args below meth c T vm0 k0 locs cells slots hx hby hmx hret hlk hnm hown hkn X hS hk hZ hE (hI.old (hI.1.2 _ _ hc) hP (fun x hx' _ e => by subst e; exact absurd hlt (Nat.not_lt.mpr hx'))) hF hcc hs
theorem Wk.instanceof_null {i : Nat} (hd : decode bytes pc = .ok (.instanceof i, 3)) (hq : pc + 3 = q) (k : Wk l Z a0 EL y bytes mx ret R Q L cb sb q Ls (.int 0 :: St)) : Wk l Z a0 EL y bytes mx ret R Q L cb sb pc Ls (.null :: St) := by
  subst hq
  refine Wk.same (fun {p e s m args below meth c T vm0 locs cells slots} hx hby hmx hown hZ hI X => ?_) k
  exact ⟨T, X, rfl, X.instanceofNull hx (g := mkF m pc ⟨Ls⟩ (.null :: St)) rfl rfl (hb hby hd)⟩
end Rules5
/-- no object of the class C, right below the root S, is one of K -/
theorem noSub {Z : State} {a0 : Array Value} {C S K : String} {n : Nat} (w : (Jvm.Cond.superclass C S).before a0 Z = true) (wr : (Jvm.Cond.noSuperclass S).before a0 Z = true) (wi : (Jvm.Cond.instantiable K n).before a0 Z = true) (hCK : C ≠ K) (hSK : S ≠ K) : ∃ c t, Z.vm.findClass C = some c ∧ Z.vm.findClass K = some t ∧ Z.vm.assignable c t = false := by
  obtain ⟨t, kt, g0, g2, g5, g7, -, -⟩ := Cond.instantiable_spec wi
  obtain ⟨o, ko, r1, r2, r3, -, -⟩ := Cond.noSuperclass_spec wr
  have ne0 := ids_ne r1 g0 hSK
  have ns0 : NS Z S K := ⟨o, t, r1, g0, fun fuel => by
    cases fuel with
    | zero => rfl
    | succ f => simp [Vm.isSubclassAux, ne0, r2, r3]⟩
  obtain ⟨c, t', h0, g0', n3⟩ := NS.step w ns0 hCK
  cases g0.symm.trans g0'
  obtain ⟨p, k, kp, h1, h2, h3, h4, h5, -, h7⟩ := Cond.superclass_spec h0 w
  have ne := ids_ne h0 g0 hCK
  have g7' := (Bool.or_eq_false_iff.mp g7).1
  refine ⟨c, t, h0, g0, ?_⟩
  show Z.vm.assignableAux (255 + 1) c t = false
  simp [Vm.assignableAux, ne, h2, g2, h5, g5, g7', Vm.isSubclass, n3]
end Jvm.OwnW
namespace Jvm.OwnW
open Jvm Jvm.ClassFile Sem Op Lib Jvm.Free Jvm.Stand Jvm.LawKit Jvm.RoadKit
theorem eqI {Z : State} {args : Array Value} {t : Term} {z : Int32} (h2 : (Jvm.Cond.eq t (.int z)).before args Z = true) : t.eval args Z none [] Z = some (.int z) := by
  have h := Cond.before_iff.mp h2
  obtain ⟨x, y, ex, ey, kx, -⟩ := cmp_v (Or.inl h)
  cases (Term.int_eval z).symm.trans ey
  have e : x = .int z := by
    have q := h
    cases x with
    | int w =>
      simp only [Jvm.Cond.value, ex, Term.int_eval, Option.some.injEq, decide_eq_true_eq] at q
      rw [q]
    | long _ => obtain ⟨_, kx⟩ := kx; cases kx
    | float _ => obtain ⟨_, kx⟩ := kx; cases kx
    | double _ => obtain ⟨_, kx⟩ := kx; cases kx
    | _ => exact Bool.noConfusion kx.2
  rw [ex, e]
theorem arr0 {Z : State} {args : Array Value} {t : Term} {ty : FieldType} (h1 : (Jvm.Cond.arrayOf t ty).before args Z = true) (h2 : (Jvm.Cond.eq (Term.length t) (.int 0)).before args Z = true) : ∃ (a : Addr) (c : Cell), t.eval args Z none [] Z = some (.ref a) ∧ Z.heap[a]? = some c ∧ AR Z ty [] c := by
  have hl := eqI h2
  obtain ⟨a, cell, ev, hat, -⟩ := Term.length_spec hl
  obtain ⟨c, A⟩ := Arr.start ev (Cond.before_iff.mp h1)
  have hc : Z.heap[a]? = some cell := by
    simp only [State.arrayAt?, Option.bind_eq_bind, Option.bind_eq_some_iff] at hat
    obtain ⟨c1, e1, k1, -, e2⟩ := hat
    split at e2
    · cases e2
    · split at e2
      · cases e2; exact e1
      · cases e2
  cases A.1.symm.trans hc
  have hz : cell.slots.size = 0 := by
    simp only [Term.eval, ev, Option.bind_eq_bind, Option.bind_some, hat] at hl
    split at hl
    · rename_i hlt
      have q : cell.slots.size.toInt32 = (0 : Nat).toInt32 := by injection hl with q; injection q
      exact (n32_inj (by omega) (by decide)).mp q
    · cases hl
  exact ⟨a, cell, ev, hc, A.2.1, A.2.2, List.eq_nil_of_length_eq_zero (by simpa using hz), by decide⟩
section Rules6
variable {l : Launch} {Z : State} {a0 : Array Value} {EL : List (String × Nat)} {y : MethodName} {bytes : ByteArray} {mx : Nat} {ret : Option FieldType} {R : Room} {Q Q' : Option Value → Store → Prop} {L L0 L' : Store} {cb sb pc q q' : Nat} {Ls Ls' : List Slot} {St rest : List Value} {y' : MethodName} {b' : ByteArray} {mx' : Nat} {ret' : Option FieldType} {rm : Room} {i : Nat}
theorem Wk.tsw_in {dflt low high : Int} {offs : Array Int} {len : Nat} {o : Int} {u : Int32} (hd : decode bytes pc = .ok (.tableswitch dflt low high offs, len)) (hin : ¬ (u.toInt < low ∨ u.toInt > high)) (hoff : offs[(u.toInt - low).toNat]? = some o) (ho : 0 ≤ (pc : Int) + o) (hp : ((pc : Int) + o).toNat = q) (k : Wk l Z a0 EL y bytes mx ret R Q L cb sb q Ls St) : Wk l Z a0 EL y bytes mx ret R Q L cb sb pc Ls (.int u :: St) :=
  Wk.pure (fun X hx hby r => XS.tswIn X hx rfl rfl (hb hby hd) rfl hin hoff ho hp r) k
theorem Wk.tsw_out {dflt low high : Int} {offs : Array Int} {len : Nat} {u : Int32} (hd : decode bytes pc = .ok (.tableswitch dflt low high offs, len)) (hout : u.toInt < low ∨ u.toInt > high) (ho : 0 ≤ (pc : Int) + dflt) (hp : ((pc : Int) + dflt).toNat = q) (k : Wk l Z a0 EL y bytes mx ret R Q L cb sb q Ls St) : Wk l Z a0 EL y bytes mx ret R Q L cb sb pc Ls (.int u :: St) :=
  Wk.pure (fun X hx hby r => XS.tswOut X hx rfl rfl (hb hby hd) rfl hout ho hp r) k
theorem Wk.getstaticN {i : Nat} {R0 O n d host : String} {v : Value} (hd : decode bytes pc = .ok (.getstatic i, 3)) (hq : pc + 3 = q) (w : (Jvm.Cond.fieldLinkNest y.cls i R0 n d host).before a0 Z = true) (via : Via Z R0 O n d) (F : Sta Z Z.heap O n d v)
    (k : Wk l Z a0 EL y bytes mx ret R Q L cb sb q Ls (v :: St)) : Wk l Z a0 EL y bytes mx ret R Q L cb sb pc Ls St := by
  subst hq
  refine Wk.same (fun {p e s m args below meth c T vm0 locs cells slots} hx hby hmx hown hZ hI X => ?_) k
  exact getS2 (host := host) X hx hZ hown (Or.inr w) via rfl (F.ext hI.1) (g := mkF m pc ⟨Ls⟩ St) rfl (hb hby hd)
theorem Wk.arraylengthR {a : Addr} {fl : Bool} {C : String} {vs : List Value} {u : Int32} (hd : decode bytes pc = .ok (.arraylength, 1)) (hq : pc + 1 = q) (hm : (a, fl, RA Z C vs) ∈ L) (hu : vs.length.toInt32 = u) (k : Wk l Z a0 EL y bytes mx ret R Q L cb sb q Ls (.int u :: St)) : Wk l Z a0 EL y bytes mx ret R Q L cb sb pc Ls (.ref a :: St) := by
  subst hq
  refine Wk.same (fun {p e s m args below meth c T vm0 locs cells slots} hx hby hmx hown hZ hI X => ?_) k
  obtain ⟨cl, e1, e2⟩ := hI.at_ hm
  exact ⟨T, X, rfl, fun target r => X.arraylength hx e1 (State.isArrayOf_alike (T := s.setVm vm0) hZ.alike e2.1.1) (g := mkF m pc ⟨Ls⟩ (.ref a :: St)) rfl rfl (hb hby hd) target (by rw [e2.1.size, hu]; exact r)⟩
theorem mvNM {Z s : State} {a0 args : Array Value} {own host : String} {x : MethodName} {index : Nat} (hZ : Z.Warmed39 s.vm) (w : (Jvm.Cond.methodLinkNest own index x host).before a0 Z = true) : (Jvm.Cond.methodLinkNest own index x host).before args s = true := (Cond.methodLinkNest_wide hZ w :)
theorem Wk.specialN {a : Addr} {host : String} (argsL rest : List Value) (W : Nat) {na : Nat} (hd : decode bytes pc = .ok (.invokespecial i, 3)) (hq : pc + 3 = q) (hy1 : y'.name = "<init>") (w1 : (Jvm.Cond.methodLinkNest y.cls i y' host).before a0 Z = true) (w2 : (Jvm.Cond.instanceMethod y').before a0 Z = true) (wz : (Jvm.Cond.initialized y'.cls).before a0 Z = true) (wc : (Jvm.Cond.code y' b' mx' none).before a0 Z = true) (har : XT.arity y'.desc = some na) (hy : y'.cls ≠ "java/lang/invoke/MethodHandle" ∧ y'.cls ≠ "java/lang/invoke/VarHandle")
    (hst : St = argsL.reverse ++ .ref a :: rest) (hna : argsL.length = na) (hW : (rest.map fun v => v.category).sum = W) (hz : Ls.length = mx) (hC : Ct l Z EL y' b' mx' none rm (.ref a :: argsL).toArray L Q') (hf : rm.frames + 1 ≤ R.frames) (hl : W + (mx' + 11) + rm.locals ≤ R.locals) (hcb : rm.cells ≤ cb) (hsb : rm.slots ≤ sb)
    (k : ∀ v L', Q' v L' → Wk l Z a0 EL y bytes mx ret R Q L' (cb - rm.cells) (sb - rm.slots) q Ls (v.toList ++ rest)) : Wk l Z a0 EL y bytes mx ret R Q L cb sb pc Ls St := by
  subst hq hst
  refine Wk.call (len := 3) hC wc wz hf hl hcb hsb (fun {p e s m args below meth c T vm0 locs cells slots Pre Post} hx hby hmx hown hZ hI X hK hpre => ?_) k
  exact X.specialBackNestS hx hy1 hown (mvNM (s := s.setVm vm0) hZ w1) (mv (s := s.setVm vm0) hZ w2) (mv (s := s.setVm vm0) hZ wc) hy hK (g := mkF m pc ⟨Ls⟩ (argsL.reverse ++ .ref a :: rest)) rfl (by rw [hmx]; simpa using hz) (Steps.refl _) (XT.arity_len har hna) rfl (by show 2 * 0 + _ ≤ _; rw [hW]; omega) (hb hby hd) hpre
/-- a made cell is none of the start -/
theorem Wk.apart {a b : Addr} {P : Cell → Prop} (hm : (a, true, P) ∈ L) (hlt : b < Z.heap.size) (k : a ≠ b → Wk l Z a0 EL y bytes mx ret R Q L cb sb pc Ls St) : Wk l Z a0 EL y bytes mx ret R Q L cb sb pc Ls St :=
  Wk.know (fun vm h I e => by have := (I.2.2.2.1 _ hm rfl).1; subst e; exact absurd hlt (Nat.not_lt.mpr this)) k
end Rules6
end Jvm.OwnW
namespace Jvm.OwnW
open Jvm Jvm.ClassFile Sem Op Lib Jvm.Free Jvm.Stand Jvm.LawKit Jvm.RoadKit Jvm.Free.Exc
/-- a byte array whose class is known -/
def BA (Z : State) (vs : List Value) (c : Cell) : Prop := AR Z .byte vs c ∧ ExaC Z "[B" c
/-- an object that nobody has locked -/
def NX (Z : State) (C : String) (lay : Lay) (vs : List Value) (c : Cell) : Prop := OB Z C lay vs c ∧ c.vm = .none ∧ c.monitor = {}
section RulesK
variable {l : Launch} {Z : State} {a0 : Array Value} {EL : List (String × Nat)} {y : MethodName} {bytes : ByteArray} {mx : Nat} {ret : Option FieldType} {R : Room} {Q Q' : Option Value → Store → Prop} {L L0 L' : Store} {cb sb pc q q' : Nat} {Ls Ls' : List Slot} {St rest : List Value}
theorem Wk.weak {a : Addr} {fl : Bool} {P P' : Cell → Prop} (hm : Ex L (a, fl, P) L0) (h : ∀ c, P c → P' c) (k : Wk l Z a0 EL y bytes mx ret R Q ((a, fl, P') :: L0) cb sb pc Ls St) : Wk l Z a0 EL y bytes mx ret R Q L cb sb pc Ls St :=
  Wk.pull hm (Wk.inv (fun _ _ I => I.weak h) k)
theorem Wk.newarrayE {u : Int32} (N : Nat) (vs0 : List Value) (hd : decode bytes pc = .ok (.newarray .byte, 2)) (hq : pc + 2 = q) (h0 : List.replicate N (Value.int 0) = vs0) (w : (Jvm.Cond.arrayClass .byte).before a0 Z = true) (hu : ¬ u < 0) (hN : u.toNatClampNeg = N) (hbig : N ≤ 67108864) (hcb : 1 ≤ cb) (hsb : N ≤ sb)
    (k : ∀ a : Addr, Wk l Z a0 EL y bytes mx ret R Q ((a, true, BA Z vs0) :: L) (cb - 1) (sb - N) q Ls (.ref a :: St)) : Wk l Z a0 EL y bytes mx ret R Q L cb sb pc Ls (.int u :: St) := by
  subst hq h0
  intro p e s m args below meth c T vm0 k0 locs cells slots hx hby hmx hret hlk hnm hown hkn X hS hk hZ hE hI hF hc hs
  obtain ⟨T', h', cA, X', rfl, E, A, EX, st⟩ := newPE X hx hZ (aty := .byte) w rfl (g := mkF m pc ⟨Ls⟩ (.int u :: St)) rfl (hb hby hd) rfl hu (cap := N) (Nat.le_of_eq hN) (by omega) (by omega) (by omega) (ad := "[B") (by decide)
  have hP : BA Z (List.replicate N (.int 0)) (newA cA (newarray.typeOf .byte) u) := ⟨⟨A.2.1, A.2.2, by simp [newA, hN]; exact Or.inr rfl, by simp; omega⟩, of_exa A.1 EX⟩
  obtain ⟨fin, v, Lc, L', h1, r⟩ := k T.heap.size p e s m args below meth c T' vm0 k0 locs (cells + 1) (slots + N) hx hby hmx hret hlk hnm hown hkn X' hS (Nat.le_trans hk E.1) hZ hE (hI.new E A.1 hP) hF (by omega) (by omega)
  exact ⟨fin, v, Lc, L', st _ h1, r⟩
theorem Wk.arraylengthE {a : Addr} {fl : Bool} {vs : List Value} {u : Int32} (hd : decode bytes pc = .ok (.arraylength, 1)) (hq : pc + 1 = q) (hm : (a, fl, BA Z vs) ∈ L) (hu : vs.length.toInt32 = u) (k : Wk l Z a0 EL y bytes mx ret R Q L cb sb q Ls (.int u :: St)) : Wk l Z a0 EL y bytes mx ret R Q L cb sb pc Ls (.ref a :: St) := by
  subst hq
  refine Wk.same (fun {p e s m args below meth c T vm0 locs cells slots} hx hby hmx hown hZ hI X => ?_) k
  obtain ⟨cl, e1, e2⟩ := hI.at_ hm
  exact ⟨T, X, rfl, fun target r => X.arraylength hx e1 (State.isArrayOf_alike (T := s.setVm vm0) hZ.alike e2.1.1) (g := mkF m pc ⟨Ls⟩ (.ref a :: St)) rfl rfl (hb hby hd) target (by rw [e2.1.size, hu]; exact r)⟩
theorem Wk.checkcastE {i : Nat} {a : Addr} {fl : Bool} {K : String} {vs : List Value} (hd : decode bytes pc = .ok (.checkcast i, 3)) (hq : pc + 3 = q) (w : (Jvm.Cond.classLink y.cls i K).before a0 Z = true) (hm : (a, fl, BA Z vs) ∈ L) (wc : (Jvm.Cond.castable "[B" K).before a0 Z = true)
    (k : Wk l Z a0 EL y bytes mx ret R Q L cb sb q Ls (.ref a :: St)) : Wk l Z a0 EL y bytes mx ret R Q L cb sb pc Ls (.ref a :: St) := by
  subst hq
  refine Wk.same (fun {p e s m args below meth c T vm0 locs cells slots} hx hby hmx hown hZ hI X => ?_) k
  obtain ⟨cl, e1, e2⟩ := hI.at_ hm
  exact castY X hx hZ hown w rfl (Ins.of_exa (exa_of e1 e2.2) wc) (g := mkF m pc ⟨Ls⟩ (.ref a :: St)) rfl rfl (hb hby hd)
theorem Wk.arraycopyE {i : Nat} (W sN dN nN : Nat) (vs' : List Value) {sp dp nn : Int32} {a b : Addr} {fa : Bool} {va vd : List Value} (hd : decode bytes pc = .ok (.invokestatic i, 3)) (hq : pc + 3 = q) (w1 : (Jvm.Cond.methodLink y.cls i Jvm.Stand.acN).before a0 Z = true) (w2 : (Jvm.Cond.native Jvm.Stand.acN).before a0 Z = true) (w3 : (Jvm.Cond.static Jvm.Stand.acN).before a0 Z = true) (w4 : (Jvm.Cond.initialized "java/lang/System").before a0 Z = true)
    (hm : Ex L (b, true, BA Z vd) L0) (ha : (a, fa, AR Z .byte va) ∈ L0) (hfa : ∀ v ∈ va, fits .byte v = true) (hfd : ∀ v ∈ vd, fits .byte v = true) (h1 : ¬ sp < 0 ∧ sp.toNatClampNeg = sN) (h2 : ¬ dp < 0 ∧ dp.toNatClampNeg = dN) (h3 : ¬ nn < 0 ∧ nn.toNatClampNeg = nN) (h4 : sN + nN ≤ va.length) (h5 : dN + nN ≤ vd.length) (hv : vd.take dN ++ (va.drop sN).take nN ++ vd.drop (dN + nN) = vs')
    (hz : Ls.length = mx) (hf : 1 ≤ R.frames) (hW : (St.map fun v => v.category).sum = W) (hlo : W + (nativeFrameWords "java/lang/System" "arraycopy" 5 + 11) ≤ R.locals) (k : Wk l Z a0 EL y bytes mx ret R Q ((b, true, BA Z vs') :: L0) cb sb q Ls St) : Wk l Z a0 EL y bytes mx ret R Q L cb sb pc Ls (.int nn :: .int dp :: .ref b :: .int sp :: .ref a :: St) := by
  subst hq hv
  obtain ⟨h1, rfl⟩ := h1
  obtain ⟨h2, rfl⟩ := h2
  obtain ⟨h3, rfl⟩ := h3
  refine Wk.pull hm ?_
  intro p e s m args below meth c T vm0 k0 locs cells slots hx hby hmx hret hlk hnm hown hkn X hS hk hZ hE hI hF hc hs
  obtain ⟨cd, d1, d2, dx⟩ := hI.at_ (List.mem_cons_self ..)
  obtain ⟨cs, s1, s2⟩ := hI.at_ (List.mem_cons_of_mem _ ha)
  have A := arv_of_ar (.int 0) s1 s2 hfa
  have B := arv_of_ar (.int 0) d1 d2 hfd
  have la := n32_nat s2.2.2.2
  have ld := n32_nat d2.2.2.2
  obtain ⟨T', h', L2, X', rfl, N, K, B', st⟩ := cpA X hx hZ hown w1 w2 w3 w4 rfl A B (Or.inl ⟨rfl, rfl⟩) h1 h2 h3 (by rw [la]; exact h4) (by rw [ld]; exact h5) (range_take h4).symm h5 hF (hI.2.2.2.1 _ (List.mem_cons_self ..) rfl).1 (g := mkF m pc ⟨Ls⟩ (.int nn :: .int dp :: .ref b :: .int sp :: .ref a :: St)) rfl (by rw [hmx]; simpa using hz) rfl (hb hby hd) hf (W := W) (by show 2 * 0 + _ ≤ _; rw [hW]; omega) hlo
  obtain ⟨c', e1, e2⟩ := ar_of_arv B' (by rw [ld]; simp; omega)
  have ex' : ExaC Z "[B" c' := by
    obtain ⟨c2, q1, q2, q3, q4⟩ := K.2.2 b cd d1
    cases e1.symm.trans q1
    obtain ⟨kk, x1, x2, x3, x4⟩ := dx
    exact ⟨kk, by rw [q2]; exact x1, by rw [q2]; exact x2, by rw [q3]; exact x3, fun z => by rw [q4]; exact x4 z⟩
  obtain ⟨fin, v, Lc, L', q1, r⟩ := k p e s m args below meth c T' vm0 k0 L2 cells slots hx hby hmx hret hlk hnm hown hkn X' hS (Nat.le_trans hk K.1) hZ hE (hI.keep K e1 ⟨e2, ex'⟩) N hc hs
  exact ⟨fin, v, Lc, L', st _ q1, r⟩
theorem Wk.cloneE {i : Nat} (W N : Nat) {a : Addr} {fl : Bool} {vs : List Value} (hd : decode bytes pc = .ok (.invokevirtual i, 3)) (hq : pc + 3 = q) (w1 : (Jvm.Cond.methodLink y.cls i ⟨"[B", "clone", "()Ljava/lang/Object;"⟩).before a0 Z = true) (w2 : (Jvm.Cond.sameMethod "[B" "java/lang/Object" "clone" "()Ljava/lang/Object;").before a0 Z = true) (w3 : (Jvm.Cond.native ⟨"java/lang/Object", "clone", "()Ljava/lang/Object;"⟩).before a0 Z = true)
    (w4 : (Jvm.Cond.instanceMethod ⟨"java/lang/Object", "clone", "()Ljava/lang/Object;"⟩).before a0 Z = true) (w5 : (Jvm.Cond.selects "[B" ⟨"[B", "clone", "()Ljava/lang/Object;"⟩ ⟨"java/lang/Object", "clone", "()Ljava/lang/Object;"⟩).before a0 Z = true) (w6 : (Jvm.Cond.castable "[B" "java/lang/Cloneable").before a0 Z = true)
    (hm : (a, fl, BA Z vs) ∈ L) (hfit : ∀ v ∈ vs, fits .byte v = true) (hN : vs.length ≤ N) (hz : Ls.length = mx) (hf : 1 ≤ R.frames) (hW : (St.map fun v => v.category).sum = W) (hlo : W + 14 ≤ R.locals) (hcb : 1 ≤ cb) (hsb : N ≤ sb)
    (k : ∀ b : Addr, Wk l Z a0 EL y bytes mx ret R Q ((b, true, BA Z vs) :: L) (cb - 1) (sb - N) q Ls (.ref b :: St)) : Wk l Z a0 EL y bytes mx ret R Q L cb sb pc Ls (.ref a :: St) := by
  subst hq
  intro p e s m args below meth c T vm0 k0 locs cells slots hx hby hmx hret hlk hnm hown hkn X hS hk hZ hE hI hF hc hs
  obtain ⟨cl, e1, e2, ex⟩ := hI.at_ hm
  have A := e2.arr e1
  have FC : FitC Z cl := fitC_of A fun j hj v hv => by
    have hv' : vs[j]? = some v := by rw [← e2.2.2.1]; simpa using hv
    exact hfit v (List.mem_of_getElem? hv')
  obtain ⟨T', h', X', rfl, E, A', EX, st⟩ := cloneA X hx hZ hown w1 w2 w3 w4 w5 w6 rfl A (exa_of e1 ex) FC (g := mkF m pc ⟨Ls⟩ (.ref a :: St)) rfl (by rw [hmx]; simpa using hz) rfl (hb hby hd) hf (W := W) (cap := N) (by show 2 * 0 + _ ≤ _; rw [hW]; omega) hlo (by rw [e2.size]; exact hN) (by omega) (by omega)
  have hP : BA Z vs (cloneOf cl) := ⟨⟨A'.2.1, A'.2.2, e2.2.2.1, e2.2.2.2⟩, of_exa A'.1 EX⟩
  obtain ⟨fin, v, Lc, L', h1, r⟩ := k T.heap.size p e s m args below meth c T' vm0 k0 locs (cells + 1) (slots + N) hx hby hmx hret hlk hnm hown hkn X' hS (Nat.le_trans hk E.1) hZ hE (hI.new E A'.1 hP) hF (by omega) (by omega)
  exact ⟨fin, v, Lc, L', st _ h1, r⟩
theorem Wk.newX {i n : Nat} {C : String} {lay : Lay} {dv : List Value} (hd : decode bytes pc = .ok (.new i, 3)) (hq : pc + 3 = q) (w : (Jvm.Cond.classLink y.cls i C).before a0 Z = true) (wi : (Jvm.Cond.instantiable C n).before a0 Z = true) (wz : (Jvm.Cond.initialized C).before a0 Z = true) (K : LayOk Z a0 C lay) (hdv : Dv lay dv)
    (hcb : 1 ≤ cb) (hsb : n ≤ sb) (k : ∀ a : Addr, Wk l Z a0 EL y bytes mx ret R Q ((a, true, NX Z C lay dv) :: L) (cb - 1) (sb - n) q Ls (.ref a :: St)) : Wk l Z a0 EL y bytes mx ret R Q L cb sb pc Ls St := by
  subst hq
  intro p e s m args below meth c T vm0 k0 locs cells slots hx hby hmx hret hlk hnm hown hkn X hS hk hZ hE hI hF hc hs
  obtain ⟨T', h', X', rfl, E, A, D, U, st⟩ := newO X hx hZ hown w wi wz rfl (g := mkF m pc ⟨Ls⟩ St) rfl (hb hby hd) (by omega) (by omega)
  obtain ⟨cl, kc, e1, e2⟩ := A
  obtain ⟨cl', u1, u2, u3⟩ := U
  cases e1.symm.trans u1
  have hP : NX Z C lay dv cl := by
    refine ⟨⟨⟨kc, e2⟩, fun j f v h1 h2 => of_fld e1 ?_⟩, u2, u3⟩
    have q1 : (lay.map (fun f => (parseFieldDescriptor f.2.2).map defaultValue))[j]? = some ((parseFieldDescriptor f.2.2).map defaultValue) := by simp [h1]
    rw [show lay.map (fun f => (parseFieldDescriptor f.2.2).map defaultValue) = dv.map some from hdv] at q1
    simp only [List.getElem?_map, h2, Option.map_some, Option.some.injEq] at q1
    cases hp : parseFieldDescriptor f.2.2 with
    | none => rw [hp] at q1; cases q1
    | some t =>
      rw [hp] at q1
      simp only [Option.map_some, Option.some.injEq] at q1
      rw [q1]
      exact D (K.1 f (List.mem_of_getElem? h1)) hp
  obtain ⟨fin, v, Lc, L', h1, r⟩ := k T.heap.size p e s m args below meth c T' vm0 k0 locs (cells + 1) (slots + n) hx hby hmx hret hlk hnm hown hkn X' hS (Nat.le_trans hk E.1) hZ hE (hI.new E e1 hP) hF (by omega) (by omega)
  exact ⟨fin, v, Lc, L', st _ h1, r⟩
end RulesK
end Jvm.OwnW
namespace Jvm.OwnW
open Jvm Jvm.ClassFile Sem Op Lib Jvm.Free Jvm.Stand Jvm.LawKit Jvm.RoadKit Jvm.Free.Exc Bundle LibCode.Throwable
/-- the words by which Throwable's fillInStackTrace is called on an object of exactly rc; the fields' layout is asked of rc alone -/
def fillW (rc : String) : List Jvm.Cond := [.initialized tN, .superclass tN "java/lang/Object", .instanceMethod tFill, .codeSync tFill Fill.code 1 (some (.object tN)), .instanceMethod tFill0, .native tFill0, .instanceMethod oInit, .code oInit ⟨#[0xb1]⟩ 1 none,
  .methodLink tN 1 oInit, .methodLink tN 27 tFill, .methodLink tN 202 tFill0, .fieldLink tN 7 tN "cause" thD, .fieldLink tN 17 tN "stackTrace" steD, .fieldLink tN 24 tN "suppressedExceptions" listD, .fieldLink tN 198 tN "backtrace" obD,
  .lays rc tN "cause" thD, .lays rc tN "stackTrace" steD, .lays rc tN "suppressedExceptions" listD, .lays rc tN "detailMessage" msgD, .lays rc tN "backtrace" obD, .lays rc tN "depth" "I",
  .fieldLink tN 13 tN "UNASSIGNED_STACK" steD, .laysStatic tN "UNASSIGNED_STACK" steD, .fieldLink tN 20 tN "SUPPRESSED_SENTINEL" listD, .laysStatic tN "SUPPRESSED_SENTINEL" listD,
  .declares tFill, .selects rc tFill0 tFill0, .selects rc tFill tFill, .arrayOver (.object "java/lang/Object"), .soleField tN "backtrace", .soleField tN "depth"]
def ThrTies (s : State) (T : ThrowableC) : Prop :=
  s.vm.findClass tN = some T.cT ∧ s.methodNamed? tFill = some T.fill ∧ s.methodNamed? tFill0 = some T.fill0 ∧ s.fieldFound? tN "stackTrace" steD = some (T.cT, T.kT, T.i17, T.fStack) ∧ s.fieldFound? tN "UNASSIGNED_STACK" steD = some (T.cT, T.kT, T.i13, T.fUnassigned) ∧ T.fStack.name = "stackTrace" ∧ T.fStack.type = .array (.object "java/lang/StackTraceElement")
theorem thr_rec {args : Array Value} {s : State} {pl : Platform} {rc : String} (ho : pl.frameOwnsMonitors = true) (hf : pl.finalization = false) (hp : pl.magicAccessors = ({} : Platform).magicAccessors) (w : ∀ d ∈ fillW rc, d.before args s = true) : ∃ T : ThrowableC, T.Links pl s ∧ ThrTies s T := by
  have g : ∀ d, d ∈ fillW rc → d.holds args s none s [] = true := fun d hd => w d hd
  -- the native method, and by it the class
  obtain ⟨⟨c, j0⟩, n0, a1, a2, a3, a4, a5, a6⟩ := Cond.native_spec (g (.native tFill0) (by simp [fillW]))
  have fc : s.vm.findClass tN = some c := findClass_of_methodNamed a1
  obtain ⟨k, kc, kn⟩ := Vm.findClass_spec fc
  obtain ⟨-, k', -, -, kc', -, -, -, -, kni⟩ := Cond.superclass_spec fc (g (.superclass tN "java/lang/Object") (by simp [fillW]))
  cases kc.symm.trans kc'
  -- fillInStackTrace()
  obtain ⟨jF, mF, b1, b2, b3, b4, b5, -, -⟩ := Cond.ownMethod (x := tFill) fc kc (g (.instanceMethod tFill) (by simp [fillW]))
  obtain ⟨mF', cF, b6, b7, b8, b9, b10, b11, -, b12⟩ := Cond.codeSync_spec b1 (g (.codeSync tFill Fill.code 1 (some (.object tN))) (by simp [fillW]))
  cases b2.symm.trans b6
  obtain ⟨j0', n0', d1, d2, d3, d4, d5, d6, d7⟩ := Cond.ownMethod (x := tFill0) fc kc (g (.instanceMethod tFill0) (by simp [fillW]))
  cases a1.symm.trans d1
  cases a2.symm.trans d2
  -- Object's constructor
  obtain ⟨mO, nO, o1, o2, o3, o4⟩ := Cond.instanceMethod_spec (g (.instanceMethod oInit) (by simp [fillW]))
  obtain ⟨nO', cO, o5, o6, o7, -, -, o9, -, o10⟩ := Cond.code_spec o1 (g (.code oInit ⟨#[0xb1]⟩ 1 none) (by simp [fillW]))
  cases o2.symm.trans o5
  obtain ⟨kO, o11, o12⟩ := Vm.findClass_spec (findClass_of_methodNamed o1)
  obtain ⟨o13, o14⟩ := name_of_methodNamed o1 o2
  -- the entries of methods
  obtain ⟨x1, y1, cf, l1, r1, f1, p1⟩ := Cond.linkedMethod fc kc o1 (g (.methodLink tN 1 oInit) (by simp [fillW])) pl hp
  obtain ⟨x2, y2, cf2, l2, r2, f2, p2⟩ := Cond.linkedMethod fc kc b1 (g (.methodLink tN 27 tFill) (by simp [fillW])) pl hp
  cases f1.symm.trans f2
  obtain ⟨x3, y3, cf3, l3, r3, f3, p3⟩ := Cond.linkedMethod fc kc a1 (g (.methodLink tN 202 tFill0) (by simp [fillW])) pl hp
  cases f1.symm.trans f3
  -- the entries of fields
  obtain ⟨u1, i1, fC, c1, c2, c3, c4, c5, -, -, -⟩ := Cond.ownField (C' := rc) (t := .object tN) fc kc (by decide +kernel) (g (.fieldLink tN 7 tN "cause" thD) (by simp [fillW])) (g (.lays rc tN "cause" thD) (by simp [fillW])) pl hp
  obtain ⟨u2, i2, fS, s1, s2, s3, s4, s5, s6, s7, s8⟩ := Cond.ownField (C' := rc) (t := .array (.object "java/lang/StackTraceElement")) fc kc (by decide +kernel) (g (.fieldLink tN 17 tN "stackTrace" steD) (by simp [fillW])) (g (.lays rc tN "stackTrace" steD) (by simp [fillW])) pl hp
  obtain ⟨u3, i3, fP, q1, q2, q3, q4, q5, q6, q7, q8⟩ := Cond.ownField (C' := rc) (t := .object "java/util/List") fc kc (by decide +kernel) (g (.fieldLink tN 24 tN "suppressedExceptions" listD) (by simp [fillW])) (g (.lays rc tN "suppressedExceptions" listD) (by simp [fillW])) pl hp
  obtain ⟨u4, i4, fU, aS, cS, t1, t2, t3, t4, -, -, t5, t6, t7, -, -, t8⟩ := Cond.ownStatic (t := .array (.object "java/lang/StackTraceElement")) fc kc (by decide +kernel) (g (.fieldLink tN 13 tN "UNASSIGNED_STACK" steD) (by simp [fillW])) (g (.laysStatic tN "UNASSIGNED_STACK" steD) (by simp [fillW])) pl hp
  obtain ⟨u5, i5, fN, -, -, v1, v2, v3, v4, -, -, -, -, -, -, -, -⟩ := Cond.ownStatic (t := .object "java/util/List") fc kc (by decide +kernel) (g (.fieldLink tN 20 tN "SUPPRESSED_SENTINEL" listD) (by simp [fillW])) (g (.laysStatic tN "SUPPRESSED_SENTINEL" listD) (by simp [fillW])) pl hp
  obtain ⟨cX, kX, -, -, iM, fM, x1', x2', -, m4, m5, -⟩ := Cond.lays_spec (g (.lays rc tN "detailMessage" msgD) (by simp [fillW]))
  -- two fields lie apart, in rc's layout
  obtain ⟨-, e1, z1, z2⟩ := Cond.laysAt x1' x2' s8 (g (.lays rc tN "stackTrace" steD) (by simp [fillW]))
  obtain ⟨-, e2, z3, z4⟩ := Cond.laysAt x1' x2' q8 (g (.lays rc tN "suppressedExceptions" listD) (by simp [fillW]))
  have apart := Cond.laysApart z1 z3 z2 z4 (by rw [s6, q6]; decide)
  -- the descriptors
  have pF : mF.sig.parameters = [] := by
    have h : (parseMethodDescriptor tFill.desc).map (·.parameters) = some [] := by decide +kernel
    rw [b12] at h; simpa using h
  have p0 : n0.sig.parameters = [.int] := by
    have h : (parseMethodDescriptor tFill0.desc).map (·.parameters) = some [.int] := by decide +kernel
    rw [a6] at h; simpa using h
  have pO : nO.sig.parameters.length = 0 := by
    have h : (parseMethodDescriptor oInit.desc).map (·.parameters.length) = some 0 := by decide +kernel
    rw [o10] at h; simpa using h
  refine ⟨{ cT := c, kT := k, cO := c, aS := aS, fillIdx := jF, fill0Idx := j0, initSIdx := jF, obj := mO, kObj := kO, methFill := mF, methFill0 := n0, methInitS := mF, methObj := nO, codeFill := cF, codeInitS := cF, codeObj := cO, fBack := fC, fDepth := fC, fStack := fS, fCause := fC, fSupp := fP, fMsg := fM, fUnassigned := fU, fSentinel := fN, cfT := cf, ci1 := x1, n1 := y1, ci27 := x2, n27 := y2, ci202 := x3, n202 := y3, ci7 := u1, i7 := i1, ci13 := u4, i13 := i4, ci17 := u2, i17 := i2, ci20 := u5, i20 := i5, ci24 := u3, i24 := i3 }, ?_, ⟨fc, b1, a1, s8, t8, s6, s7⟩⟩
  refine { owns := ho, noFinalization := hf, cls := kc, name := kn, boot := Vm.findClass_boot fc kc, notInterface := kni, initialized := Cond.initialized_spec fc kc (g (.initialized tN) (by simp [fillW])), statics := t5, fillAt := b3, fillCode := b7, fillBytes := b8, fillLocals := b9, fillLocks := b11, fillStatic := b4, fillAbstract := b5, fillReturns := b10, fillParams := pF, fill0At := d3, fill0Name := d6, fill0Desc := d7, fill0Params := p0, fill0Static := d4, fill0Native := a3, fill0Code := a4, fill0Locks := a5, fill0Abstract := d5, stackInstance := s4, stackNotFinal := s5, unassignedStatic := t4, objClass := o11, objClassName := o12, objMethod := o2, objName := o13, objStatic := o3, objAbstract := o4, objFound := ?_, objParams := pO, objCode := o6, objBytes := o7, objLocks := o9, causeInstance := c4, causeNotFinal := c5, sentinelStatic := v4, suppInstance := q4, suppNotFinal := q5, msgInstance := m4, msgNotFinal := m5, stackApartSupp := apart, file := f1, mlink1 := l1, mright1 := r1, pool1 := p1, mlink27 := l2, mright27 := r2, pool27 := p2, mlink202 := l3, mright202 := r3, pool202 := p3, link7 := c1, right7 := c2, at7 := c3, link13 := t1, right13 := t2, at13 := t3, link17 := s1, right17 := s2, at17 := s3, link20 := v1, right20 := v2, at20 := v3, link24 := q1, right24 := q2, at24 := q3 }
  rw [o14]; exact lookupSpecial_of_named o1 o2 o3
theorem fillW_ok {rc : String} : (fillW rc).all xOk = true := rfl
section RulesF
variable {l : Launch} {Z : State} {a0 : Array Value} {EL : List (String × Nat)} {y : MethodName} {bytes : ByteArray} {mx : Nat} {ret : Option FieldType} {R : Room} {Q Q' : Option Value → Store → Prop} {L L0 L' : Store} {cb sb pc q q' : Nat} {Ls Ls' : List Slot} {St rest : List Value}
/-- fillInStackTrace, called in Throwable's own code on an object that nobody has locked -/
theorem Wk.fillX {rc : String} {n : Nat} {lay lay' : Lay} {vs : List Value} {a u : Addr} {mv : Value} (W jb js jm : Nat) (hl : l.stackTraces = true) (hd : decode bytes pc = .ok (.invokevirtual 27, 3)) (hq : pc + 3 = q) (hy : y.cls = tN) (w : ∀ d ∈ fillW rc, d.before a0 Z = true) (wi : (Jvm.Cond.instantiable rc n).before a0 Z = true) (F : Sta Z Z.heap tN "UNASSIGNED_STACK" steD (.ref u))
    (hm : Ex L (a, true, NX Z rc lay vs) L0) (hjb : lay[jb]? = some (tN, "backtrace", obD)) (hvb : vs[jb]? = some .null) (hjs : lay[js]? = some (tN, "stackTrace", steD)) (hvs : vs[js]? = some (.ref u)) (hjm : lay[jm]? = some (tN, "detailMessage", msgD)) (hvm : vs[jm]? = some mv)
    (hlay : [(tN, "detailMessage", msgD)] = lay') (hz : Ls.length = mx) (hf : 3 ≤ R.frames) (hW : (St.map fun v => v.category).sum = W) (hlo : W + 42 ≤ R.locals) (hcb : 1 ≤ cb) (hsb : 2752 ≤ sb)
    (k : Wk l Z a0 EL y bytes mx ret R Q ((a, true, OB Z rc lay' [mv]) :: L0) (cb - 1) (sb - 2752) q Ls (.ref a :: St)) : Wk l Z a0 EL y bytes mx ret R Q L cb sb pc Ls (.ref a :: St) := by
  subst hq hlay
  refine Wk.pull hm ?_
  intro p e s m args below meth c T vm0 k0 locs cells slots hx hby hmx hret hlk hnm hown hkn X hS hk hZ hE hI hF hc hs
  obtain ⟨cl, e1, e2, u2, u3⟩ := hI.at_ (List.mem_cons_self ..)
  have hal := hZ.alike
  have ok := List.all_eq_true.mp (fillW_ok (rc := rc))
  have wS : ∀ d ∈ fillW rc, d.before args (s.setVm vm0) = true := fun d hd => mvX (s := s.setVm vm0) (ThS.ext hkn.1.2.2 ThS.start) hZ (ok d hd) (w d hd)
  have g : ∀ d, d ∈ fillW rc → d.holds args (s.setVm vm0) none (s.setVm vm0) [] = true := fun d hd => wS d hd
  have htr : e.platform.stackTraces = true := by rw [X.admits.platform]; exact hl
  have hpl : e.platform.magicAccessors = ({} : Platform).magicAccessors := by rw [X.admits.platform]
  obtain ⟨TR, LK, ti1, ti2, ti3, ti4, ti5, ti6, ti7⟩ := thr_rec (pl := e.platform) (by rw [X.admits.platform]) (by rw [X.admits.platform]) hpl wS
  -- the object's class
  obtain ⟨kZ, y1, y2, y3, y4⟩ := e2.1
  obtain ⟨ct, kt, i1, i2, i3, -⟩ := Cond.instantiable_spec wi
  cases y1.symm.trans i1
  cases y2.symm.trans i2
  have hfound : (s.setVm vm0).vm.findClass rc = some cl.cls := by show vm0.findClass rc = _; rw [hal.findClass]; exact y1
  obtain ⟨kX, kx1, kx2⟩ := hal.2.2 _ _ y2
  have kx1' : (s.setVm vm0).vm.classes[cl.cls]? = some kX := kx1
  have hord : kX.kind = .ordinary := by rw [kx2]; exact i3
  have hsz : cl.slots.size = kX.instanceTypes.size := by rw [kx2]; exact y4 i3
  -- the fields
  obtain ⟨ci, ib, fB, g1, g2, g3, g4, -, g5, g6, g7⟩ := Cond.ownField (C' := rc) (t := .object "java/lang/Object") ti1 LK.cls (by decide +kernel) (g (.fieldLink tN 198 tN "backtrace" obD) (by simp [fillW])) (g (.lays rc tN "backtrace" obD) (by simp [fillW])) e.platform hpl
  obtain ⟨-, -, cD, kD, iD, fD, -, -, h1, h2, -, -, -, -⟩ := Cond.lays_spec (g (.lays rc tN "depth" "I") (by simp [fillW]))
  cases (Cond.lays_declared (g (.lays rc tN "depth" "I") (by simp [fillW])) h1).symm.trans ti1
  obtain ⟨h3, h4⟩ := State.fieldFound?_spec h1
  cases h3.symm.trans LK.cls
  obtain ⟨h5, h6⟩ := State.fieldFound?_type h1 (t := .int) (by decide +kernel)
  obtain ⟨-, -, cM, kM, iM, fM, -, -, m1, -, -, -, -, -⟩ := Cond.lays_spec (g (.lays rc tN "detailMessage" msgD) (by simp [fillW]))
  have nM : fM.name = "detailMessage" := (State.fieldFound?_type m1 (t := .object "java/lang/String") (by decide +kernel)).1
  have hfb := Cond.soleField_find ti1 LK.cls (g (.soleField tN "backtrace") (by simp [fillW])) g3 g5 g4
  have hfd := Cond.soleField_find ti1 LK.cls (g (.soleField tN "depth") (by simp [fillW])) h4 h5 h2
  obtain ⟨comp, cO, kO, -, -, hkO, hkindO, hO⟩ := Cond.arrayOver_spec (wS (.arrayOver (.object "java/lang/Object")) (by simp [fillW]))
  obtain ⟨tyS, dS, z1, z2⟩ := Cond.laysAt hfound kx1' ti4 (g (.lays rc tN "stackTrace" steD) (by simp [fillW]))
  obtain ⟨tyB, dB, z3, z4⟩ := Cond.laysAt hfound kx1' g7 (g (.lays rc tN "backtrace" obD) (by simp [fillW]))
  obtain ⟨tyD, dD, z5, z6⟩ := Cond.laysAt hfound kx1' h1 (g (.lays rc tN "depth" "I") (by simp [fillW]))
  obtain ⟨tyM, dM, z7, z8⟩ := Cond.laysAt hfound kx1' m1 (g (.lays rc tN "detailMessage" msgD) (by simp [fillW]))
  have mB := Cond.laysApart z7 z3 z8 z4 (by rw [nM, g5]; decide)
  have mD := Cond.laysApart z7 z5 z8 z6 (by rw [nM, h5]; decide)
  have mS := Cond.laysApart z7 z1 z8 z2 (by rw [nM, ti6]; decide)
  have tk : ∀ {f : Field} {v : Value}, kX.instanceTypes[f.slot]? = some f.type → fits f.type v = true → Jvm.Takes (s.setVm vm0) cl f v := fun {f v} r1 r2 => by
    obtain ⟨q1, q2⟩ := Takes.of_laid (v := v) kx1' hord r1 r2
    exact ⟨by rw [hsz]; simpa using q1, by rw [u2]; exact q2⟩
  -- what the slots hold
  have fof : ∀ {nm ds : String} {v : Value} {cc : ClassId} {kk : Class} {ii : Nat} {ff : Field} {j : Nat}, lay[j]? = some (tN, nm, ds) → vs[j]? = some v → (s.setVm vm0).fieldFound? tN nm ds = some (cc, kk, ii, ff) → cl.slots[ff.slot]? = some v := fun {nm ds v cc kk ii ff j} r1 r2 r3 => by
    obtain ⟨cf1, k1, i1', f1, b1, -, -, -, -, b6⟩ := e2.2 j _ _ r1 r2
    obtain ⟨k1', b7, -⟩ := State.fieldFound?_setVm (s := Z) hal b1
    have b8 : (s.setVm vm0).fieldFound? tN nm ds = some (cf1, k1', i1', f1) := b7
    cases r3.symm.trans b8
    exact b6
  obtain ⟨cfU, iU, kU, fU, st, cS, v1, -, -, v4, v5, v6, v7⟩ := F
  obtain ⟨kU', v8, v9⟩ := State.fieldFound?_setVm (s := Z) hal v1
  have v8' : (s.setVm vm0).fieldFound? tN "UNASSIGNED_STACK" steD = some (cfU, kU', iU, fU) := v8
  have v10 : kU'.statics = some st := by rw [v9]; exact v4
  cases v8'.symm.trans ti5
  have hst : st = TR.aS := Option.some.inj (v10.symm.trans LK.statics)
  subst hst
  have hcS : T.heap[TR.aS]? = some cS := hI.1.2 _ _ v5
  have hge : Z.heap.size ≤ a := (hI.2.2.2.1 _ (List.mem_cons_self ..) rfl).1
  have hneS : TR.aS ≠ a := fun z => absurd (Array.getElem?_eq_some_iff.mp v5).1 (Nat.not_lt.mpr (by rw [z]; exact hge))
  have hsel0 : selectMethod e.platform (s.setVm vm0).vm cl.cls TR.fill0 = .method TR.fill0 := by
    obtain ⟨c2, r2, m2, q1, q2, q3, q4, -⟩ := Cond.selects_spec (g (.selects rc tFill0 tFill0) (by simp [fillW]))
    cases q1.symm.trans hfound
    cases q2.symm.trans (State.methodFound?_of_named ti3 (by decide))
    cases q3.symm.trans ti3
    rw [Launch.admits_selectMethod X.admits]; exact q4
  have hSE := wS (.selects rc tFill tFill) (by simp [fillW])
  obtain ⟨v6', vm6, ⟨T6, L6, c6, n6⟩, -, X6, ⟨hv6, vmF, lines, hli, -, hU, hL6, hc6, hn6⟩, come⟩ := X.virtualBack hx (own := tN) (C := rc) (index := 27) (y := tFill) (z := tFill) (by rw [← hy]; exact hown) (wS (.methodLink tN 27 tFill) (by simp [fillW])) (wS (.declares tFill) (by simp [fillW])) (notFace_of_selects hSE) hSE (wS (.instanceMethod tFill) (by simp [fillW])) (by decide)
    (Jvm.Free.Str.fillPays (l := l) (W := W) hx htr TR LK ti2 (u0 := ⟨.ref u, rfl⟩) (by simp) (self := a) (cell := cl) (cellS := cS) (fun _ => by rw [u2]; simp) (by rw [u2]; simp) (by rw [u3]) (by rw [u3]) (fof hjs hvs ti4) hsel0 hneS (fun z => by rw [z] at v6; cases v6) v7 (tk tyS (by rw [ti7]; rfl))
      ⟨{ ci198 := ci, i198 := ib, fBack := fB }, ⟨g1, g2, g3, g4⟩, fof hjb hvb g7⟩ hkn.1.1 hkn.1.2.1 ti1 hO hkO hkindO hfb hfd (fun x => tk tyB (by rw [g6]; rfl)) (fun x => tk tyD (by rw [h6]; rfl)) (by omega) (by omega))
    (b := a) (cB := cl.cls) hfound ⟨cl, e1, rfl, by rw [u2]; rfl⟩ (g := mkF m pc ⟨Ls⟩ (.ref a :: St)) rfl (by rw [hmx]; simpa using hz) (Steps.refl _) (argsL := []) (rest := St)
    (fun sig h => by rw [show parseMethodDescriptor tFill.desc = some ⟨[], some (.object tN)⟩ from by decide +kernel] at h; rw [← Option.some.inj h]; rfl) rfl (by show 2 * 0 + _ ≤ _; rw [hW]; omega) (hb hby hd)
    (fun vmx hWx => ⟨rfl, by show cells + 1 ≤ R.cells; omega, by show slots + 2752 ≤ R.slots; omega, e1, hcS⟩)
  dsimp only [Pt.U, Pt.locs, Pt.cells, Pt.slots] at X6 hU hL6 hc6 hn6 come
  subst hv6 hL6 hc6 hn6
  have hlt : a < T.heap.size := (Array.getElem?_eq_some_iff.mp e1).1
  generalize hFC : Jvm.Free.Str.filledOn TR.toThrowableT fB fD cl ⟨.ref u, rfl⟩ (T.setVm vm6).heap.size lines.length.toInt32 = FC at hU
  have fcc : FC.cls = cl.cls ∧ FC.vm = cl.vm ∧ FC.slots.size = cl.slots.size ∧ FC.slots[fM.slot]? = cl.slots[fM.slot]? := by
    subst hFC
    refine ⟨rfl, rfl, by simp [Jvm.Free.Str.filledOn, Cell.setSlot], by simp [Jvm.Free.Str.filledOn, Cell.setSlot, Array.getElem?_setIfInBounds, mB.symm, mD.symm, mS.symm]⟩
  have hhp : T6.heap = (T.heap.push (traceHolder cO lines)).setIfInBounds a FC := by rw [hU]; rfl
  have hat : ∀ x, x ≠ a → ∀ cx, T.heap[x]? = some cx → T6.heap[x]? = some cx := fun x hxa cx hcx => by
    rw [hhp, Array.getElem?_setIfInBounds_ne (Ne.symm hxa), Array.getElem?_push_lt (Array.getElem?_eq_some_iff.mp hcx).1]
    exact congrArg some (Array.getElem?_eq_some_iff.mp hcx).2
  have hself : T6.heap[a]? = some FC := by
    rw [hhp]; simp [Array.getElem?_setIfInBounds]; exact Nat.lt_succ_of_lt hlt
  have K : Keep T.heap T6.heap [a] := by
    refine ⟨by rw [hhp]; simp, fun x cx hcx hn => hat x (fun z => hn (by rw [z]; exact List.mem_cons_self)) cx hcx, fun x cx hcx => ?_⟩
    by_cases hxa : x = a
    · subst hxa
      cases e1.symm.trans hcx
      exact ⟨FC, hself, fcc.1, fcc.2.1, fcc.2.2.1⟩
    · exact ⟨cx, hat x hxa cx hcx, rfl, rfl, rfl⟩
  have hP : OB Z rc [(tN, "detailMessage", msgD)] [mv] FC := by
    refine ⟨⟨_, by rw [fcc.1]; exact y1, by rw [fcc.1]; exact y2, by rw [fcc.2.1]; exact y3, fun z => by rw [fcc.2.2.1]; exact y4 z⟩, fun j f v hj hv => ?_⟩
    cases j with
    | zero =>
      cases hj; cases hv
      obtain ⟨cf1, k1, i1', f1, b1, b2, b3, b4, b5, b6⟩ := e2.2 jm _ _ hjm hvm
      obtain ⟨k1', b7, -⟩ := State.fieldFound?_setVm (s := Z) hal b1
      have b8 : (s.setVm vm0).fieldFound? tN "detailMessage" msgD = some (cf1, k1', i1', f1) := b7
      cases m1.symm.trans b8
      exact ⟨_, k1, _, _, b1, b2, by rw [fcc.2.1]; exact b3, by rw [fcc.2.1]; exact b4, by rw [fcc.1]; exact b5, by rw [fcc.2.2.2]; exact b6⟩
    | succ j => exact nomatch hv
  have h32 := traceHolder_size_le cO hli
  obtain ⟨fin, v, Lc, L', q1, r⟩ := k p e s m args below meth c T6 vm0 k0 _ (cells + 1) _ hx hby hmx hret hlk hnm hown hkn X6 hS (Nat.le_trans hk K.1) hZ hE (hI.keep K hself hP) (hF.app (fun z hz' => by simp only [List.mem_cons, List.not_mem_nil, or_false] at hz'; rcases hz' with rfl | rfl | rfl <;> exact hge)) (by omega) (by omega)
  exact ⟨fin, v, Lc, L', come.trans q1, r⟩
/-- a field's write into an object that nobody has locked -/
theorem Wk.putfieldX {i : Nat} (j : Nat) {kk : Nat} {a : Addr} {C R0 O n d : String} {lay : Lay} {vs vs' : List Value} {v : Value} {ty : FieldType} (hd : decode bytes pc = .ok (.putfield i, 3)) (hq : pc + 3 = q) (w : (Jvm.Cond.fieldLink y.cls i R0 n d).before a0 Z = true) (via : Via Z R0 O n d)
    (K : LayOk Z a0 C lay) (wi : (Jvm.Cond.instantiable C kk).before a0 Z = true) (hl : (Jvm.Cond.lays C O n d).before a0 Z = true ∨ ((Jvm.Cond.laysFinal C O n d).before a0 Z = true ∧ y.cls = O ∧ y.name = "<init>")) (hj : lay[j]? = some (O, n, d)) (hty : parseFieldDescriptor d = some ty) (hm : Ex L (a, true, NX Z C lay vs) L0) (hvs : VS j v vs vs') (hn : narrow ty v = v) (hf : fits ty v = true)
    (k : Wk l Z a0 EL y bytes mx ret R Q ((a, true, NX Z C lay vs') :: L0) cb sb q Ls St) : Wk l Z a0 EL y bytes mx ret R Q L cb sb pc Ls (v :: .ref a :: St) := by
  subst hq
  obtain ⟨rfl, hlt⟩ := hvs
  have hv : vs[j]? = some vs[j] := List.getElem?_eq_getElem hlt
  refine Wk.write hm (fun {p e s m args below meth c T vm0 locs cells slots} hx hby hmx hnm hown hZ hI X => ?_) k
  obtain ⟨cl, e1, e2⟩ := hI.at_ (List.mem_cons_self ..)
  obtain ⟨T', h', X', eh, W, st⟩ := putF X hx hZ hown (host := "") (Or.inl w) via rfl (e2.1.fld e1 hj hv) (e2.1.exa e1) (hl.imp id fun h => ⟨h.1, h.2.1, hnm.trans h.2.2⟩) wi hty hn hf (g := mkF m pc ⟨Ls⟩ (v :: .ref a :: St)) rfl rfl (hb hby hd)
  exact ⟨T', h', _, v, X', eh, W, fun cl' e3 e4 => ⟨OB.set K e4.1 hj hv v, e4.2.1, e4.2.2⟩, st⟩
/-- a method that the entry's class has from above -/
theorem Wk.virtualUp {i : Nat} {y' y0 : MethodName} {b' : ByteArray} {mx' : Nat} {ret' : Option FieldType} {rm : Room} {a : Addr} {fl : Bool} {C : String} {lay : Lay} {vs : List Value} {owner : String} (argsL rest : List Value) (W : Nat) {na : Nat} (hd : decode bytes pc = .ok (.invokevirtual i, 3)) (hq : pc + 3 = q) (w1 : (Jvm.Cond.methodLink y.cls i y0).before a0 Z = true) (w0 : (Jvm.Cond.sameMethod y0.cls owner y0.name y0.desc).before a0 Z = true) (w2 : (Jvm.Cond.declares ⟨owner, y0.name, y0.desc⟩).before a0 Z = true) (w3 : (Jvm.Cond.selects C y0 y').before a0 Z = true) (w4 : (Jvm.Cond.instanceMethod y').before a0 Z = true) (wz : (Jvm.Cond.initialized y'.cls).before a0 Z = true) (wc : (Jvm.Cond.code y' b' mx' ret').before a0 Z = true)
    (har : XT.arity y0.desc = some na) (hy : owner ≠ "java/lang/invoke/MethodHandle" ∧ owner ≠ "java/lang/invoke/VarHandle") (hm : (a, fl, OB Z C lay vs) ∈ L)
    (hst : St = argsL.reverse ++ .ref a :: rest) (hna : argsL.length = na) (hW : (rest.map fun v => v.category).sum = W) (hz : Ls.length = mx) (hC : Ct l Z EL y' b' mx' ret' rm (.ref a :: argsL).toArray L Q') (hf : rm.frames + 1 ≤ R.frames) (hl : W + (mx' + 11) + rm.locals ≤ R.locals) (hcb : rm.cells ≤ cb) (hsb : rm.slots ≤ sb)
    (k : ∀ v L', Q' v L' → Wk l Z a0 EL y bytes mx ret R Q L' (cb - rm.cells) (sb - rm.slots) q Ls (v.toList ++ rest)) : Wk l Z a0 EL y bytes mx ret R Q L cb sb pc Ls St := by
  subst hq hst
  refine Wk.call (len := 3) hC wc wz hf hl hcb hsb (fun {p e s m args below meth c T vm0 locs cells slots Pre Post} hx hby hmx hown hZ hI X hK hpre => ?_) k
  obtain ⟨cl, e1, e2⟩ := hI.at_ hm
  obtain ⟨cq, kq, q1, -, q3⟩ := isOf (T := T) (s := s.setVm vm0) hZ rfl (e2.exa e1)
  exact X.virtualBackUpS hx hown (mv (s := s.setVm vm0) hZ w1) (mv (s := s.setVm vm0) hZ w0) (mv (s := s.setVm vm0) hZ w2) hy (mv (s := s.setVm vm0) hZ w3) (mv (s := s.setVm vm0) hZ w4) hK q1 q3 (g := mkF m pc ⟨Ls⟩ (argsL.reverse ++ .ref a :: rest)) rfl (by rw [hmx]; simpa using hz) (Steps.refl _) (XT.arity_len har hna) rfl (by show 2 * 0 + _ ≤ _; rw [hW]; omega) (hb hby hd) hpre
end RulesF
end Jvm.OwnW
@@BLOCK:TracedD.lean.txt@@
namespace Jvm.Pilot.@@N@@
open Jvm Jvm.ClassFile Sem Op Lib Jvm.Free Jvm.Stand Jvm.LawKit Jvm.RoadKit Jvm.OwnW Bundle Jvm.Pilot.@@N@@.Jvm.D
abbrev EL0 : List (String × Nat) := consts_1
theorem wS {Z : State} {a0 : Array Value} (hw : ∀ d ∈ tables_1, d.before a0 Z = true) : ∀ a ∈ Bundle.stringAtoms, a.before a0 Z = true := by
  intro a ha
  simp only [Bundle.stringAtoms, Bundle.sN, List.mem_cons, List.not_mem_nil, or_false] at ha
  rcases ha with rfl | rfl | rfl | rfl | rfl | rfl | rfl
  · exact (hw _ (List.mem_of_getElem? (i := 6) rfl))
  · exact (hw _ (List.mem_of_getElem? (i := 5) rfl))
  · exact (hw _ (List.mem_of_getElem? (i := 19) rfl))
  · exact (hw _ (List.mem_of_getElem? (i := 20) rfl))
  · exact (hw _ (List.mem_of_getElem? (i := 21) rfl))
  · exact (hw _ (List.mem_of_getElem? (i := 22) rfl))
  · exact (hw _ (List.mem_of_getElem? (i := 23) rfl))
theorem d0_3 : decode jdk_52_method_21_code 3 = .ok (.iload 5, 2) := by decide +kernel
theorem d0_5 : decode jdk_52_method_21_code 5 = .ok (.iload 4, 2) := by decide +kernel
theorem d0_7 : decode jdk_52_method_21_code 7 = .ok (.if_icmp .ge 37, 3) := by decide +kernel
theorem d0_44 : decode jdk_52_method_21_code 44 = .ok (.iload 4, 2) := by decide +kernel
theorem d0_46 : decode jdk_52_method_21_code 46 = .ok (.ireturn, 1) := by decide +kernel
theorem d0_10 : decode jdk_52_method_21_code 10 = .ok (.aload_n 0, 1) := by decide +kernel
theorem d0_11 : decode jdk_52_method_21_code 11 = .ok (.iload_n 1, 1) := by decide +kernel
theorem d0_12 : decode jdk_52_method_21_code 12 = .ok (.caload, 1) := by decide +kernel
theorem d0_13 : decode jdk_52_method_21_code 13 = .ok (.istore 6, 2) := by decide +kernel
theorem d0_15 : decode jdk_52_method_21_code 15 = .ok (.iload 6, 2) := by decide +kernel
theorem d0_17 : decode jdk_52_method_21_code 17 = .ok (.sipush 255, 3) := by decide +kernel
theorem d0_20 : decode jdk_52_method_21_code 20 = .ok (.if_icmp .le 6, 3) := by decide +kernel
theorem d0_26 : decode jdk_52_method_21_code 26 = .ok (.aload_n 2, 1) := by decide +kernel
theorem d0_27 : decode jdk_52_method_21_code 27 = .ok (.iload_n 3, 1) := by decide +kernel
theorem d0_28 : decode jdk_52_method_21_code 28 = .ok (.iload 6, 2) := by decide +kernel
theorem d0_30 : decode jdk_52_method_21_code 30 = .ok (.i2b, 1) := by decide +kernel
theorem d0_31 : decode jdk_52_method_21_code 31 = .ok (.bastore, 1) := by decide +kernel
theorem d0_32 : decode jdk_52_method_21_code 32 = .ok (.iinc 1 1, 3) := by decide +kernel
theorem d0_35 : decode jdk_52_method_21_code 35 = .ok (.iinc 3 1, 3) := by decide +kernel
theorem d0_38 : decode jdk_52_method_21_code 38 = .ok (.iinc 5 1, 3) := by decide +kernel
theorem d0_41 : decode jdk_52_method_21_code 41 = .ok (.goto (-38), 3) := by decide +kernel
theorem ef_ririi_7 (m : MethodId) (x0 : Addr) (x1 : Int32) (x2 : Addr) (x3 : Int32) (x4 : Int32) : entryFrame m #[(.ref x0), (.int x1), (.ref x2), (.int x3), (.int x4)] 7 = mkF m 0 ⟨[.val (.ref x0), .val (.int x1), .val (.ref x2), .val (.int x3), .val (.int x4), .unset, .unset]⟩ [] := by exact efOf rfl
theorem pn_0 : plainName "java/lang/StringUTF16" = true := by first | (simp [plainName, overriddenIn]; done) | decide +kernel
theorem d0_0 : decode jdk_52_method_21_code 0 = .ok (.iconst 0, 1) := by decide +kernel
theorem d0_1 : decode jdk_52_method_21_code 1 = .ok (.istore 5, 2) := by decide +kernel
theorem ef_ri_2 (m : MethodId) (x0 : Addr) (x1 : Int32) : entryFrame m #[(.ref x0), (.int x1)] 2 = mkF m 0 ⟨[.val (.ref x0), .val (.int x1)]⟩ [] := by exact efOf rfl
theorem d1_0 : decode jdk_52_method_15_code 0 = .ok (.iload_n 1, 1) := by decide +kernel
theorem d1_1 : decode jdk_52_method_15_code 1 = .ok (.aload_n 0, 1) := by decide +kernel
theorem d1_2 : decode jdk_52_method_15_code 2 = .ok (.arraylength, 1) := by decide +kernel
theorem d1_3 : decode jdk_52_method_15_code 3 = .ok (.isub, 1) := by decide +kernel
theorem d1_4 : decode jdk_52_method_15_code 4 = .ok (.bipush 31, 2) := by decide +kernel
theorem d1_6 : decode jdk_52_method_15_code 6 = .ok (.iushr, 1) := by decide +kernel
theorem d1_7 : decode jdk_52_method_15_code 7 = .ok (.i2b, 1) := by decide +kernel
theorem d1_8 : decode jdk_52_method_15_code 8 = .ok (.ireturn, 1) := by decide +kernel
theorem ef_rii_6 (m : MethodId) (x0 : Addr) (x1 : Int32) (x2 : Int32) : entryFrame m #[(.ref x0), (.int x1), (.int x2)] 6 = mkF m 0 ⟨[.val (.ref x0), .val (.int x1), .val (.int x2), .unset, .unset, .unset]⟩ [] := by exact efOf rfl
theorem d2_0 : decode jdk_52_method_16_code 0 = .ok (.iload_n 2, 1) := by decide +kernel
theorem d2_1 : decode jdk_52_method_16_code 1 = .ok (.newarray .byte, 2) := by decide +kernel
theorem d2_3 : decode jdk_52_method_16_code 3 = .ok (.astore_n 3, 1) := by decide +kernel
theorem d2_4 : decode jdk_52_method_16_code 4 = .ok (.aload_n 0, 1) := by decide +kernel
theorem d2_5 : decode jdk_52_method_16_code 5 = .ok (.iload_n 1, 1) := by decide +kernel
theorem d2_6 : decode jdk_52_method_16_code 6 = .ok (.aload_n 3, 1) := by decide +kernel
theorem d2_7 : decode jdk_52_method_16_code 7 = .ok (.iconst 0, 1) := by decide +kernel
theorem d2_8 : decode jdk_52_method_16_code 8 = .ok (.iload_n 2, 1) := by decide +kernel
theorem d2_9 : decode jdk_52_method_16_code 9 = .ok (.invokestatic 115, 3) := by decide +kernel
theorem ar_0 : XT.arity "([CI[BII)I" = some 5 := by decide +kernel
theorem d2_12 : decode jdk_52_method_16_code 12 = .ok (.istore 4, 2) := by decide +kernel
theorem d2_14 : decode jdk_52_method_16_code 14 = .ok (.iload 4, 2) := by decide +kernel
theorem d2_16 : decode jdk_52_method_16_code 16 = .ok (.iload_n 2, 1) := by decide +kernel
theorem d2_17 : decode jdk_52_method_16_code 17 = .ok (.if_icmp .eq 40, 3) := by decide +kernel
theorem d2_57 : decode jdk_52_method_16_code 57 = .ok (.aload_n 3, 1) := by decide +kernel
theorem d2_58 : decode jdk_52_method_16_code 58 = .ok (.areturn, 1) := by decide +kernel
theorem ef_rriin_6 (m : MethodId) (x0 : Addr) (x1 : Addr) (x2 : Int32) (x3 : Int32) : entryFrame m #[(.ref x0), (.ref x1), (.int x2), (.int x3), .null] 6 = mkF m 0 ⟨[.val (.ref x0), .val (.ref x1), .val (.int x2), .val (.int x3), .val .null, .unset]⟩ [] := by exact efOf rfl
theorem pn_1 : plainName "java/lang/String" = true := by first | (simp [plainName, overriddenIn]; done) | decide +kernel
theorem d3_0 : decode jdk_42_method_149_code 0 = .ok (.aload_n 0, 1) := by decide +kernel
theorem d3_1 : decode jdk_42_method_149_code 1 = .ok (.invokespecial 1, 3) := by decide +kernel
theorem d3_4 : decode jdk_42_method_149_code 4 = .ok (.iload_n 3, 1) := by decide +kernel
theorem d3_5 : decode jdk_42_method_149_code 5 = .ok (.ifCond .ne 22, 3) := by decide +kernel
theorem d3_27 : decode jdk_42_method_149_code 27 = .ok (.getstatic 38, 3) := by decide +kernel
theorem d3_30 : decode jdk_42_method_149_code 30 = .ok (.ifCond .eq 28, 3) := by decide +kernel
theorem d3_33 : decode jdk_42_method_149_code 33 = .ok (.aload_n 1, 1) := by decide +kernel
theorem d3_34 : decode jdk_42_method_149_code 34 = .ok (.iload_n 2, 1) := by decide +kernel
theorem d3_35 : decode jdk_42_method_149_code 35 = .ok (.iload_n 3, 1) := by decide +kernel
theorem d3_36 : decode jdk_42_method_149_code 36 = .ok (.invokestatic 177, 3) := by decide +kernel
theorem ar_1 : XT.arity "([CII)[B" = some 3 := by decide +kernel
theorem d3_39 : decode jdk_42_method_149_code 39 = .ok (.astore 5, 2) := by decide +kernel
theorem d3_41 : decode jdk_42_method_149_code 41 = .ok (.aload_n 0, 1) := by decide +kernel
theorem d3_42 : decode jdk_42_method_149_code 42 = .ok (.aload 5, 2) := by decide +kernel
theorem d3_44 : decode jdk_42_method_149_code 44 = .ok (.iload_n 3, 1) := by decide +kernel
theorem d3_45 : decode jdk_42_method_149_code 45 = .ok (.invokestatic 47, 3) := by decide +kernel
theorem ar_2 : XT.arity "([BI)B" = some 2 := by decide +kernel
theorem d3_48 : decode jdk_42_method_149_code 48 = .ok (.putfield 15, 3) := by decide +kernel
theorem d3_51 : decode jdk_42_method_149_code 51 = .ok (.aload_n 0, 1) := by decide +kernel
theorem d3_52 : decode jdk_42_method_149_code 52 = .ok (.aload 5, 2) := by decide +kernel
theorem d3_54 : decode jdk_42_method_149_code 54 = .ok (.putfield 9, 3) := by decide +kernel
theorem d3_57 : decode jdk_42_method_149_code 57 = .ok (.return_, 1) := by decide +kernel
theorem ef_rr_2 (m : MethodId) (x0 : Addr) (x1 : Addr) : entryFrame m #[(.ref x0), (.ref x1)] 2 = mkF m 0 ⟨[.val (.ref x0), .val (.ref x1)]⟩ [] := by exact efOf rfl
theorem d4_0 : decode jdk_42_method_3_code 0 = .ok (.aload_n 0, 1) := by decide +kernel
theorem d4_1 : decode jdk_42_method_3_code 1 = .ok (.aload_n 1, 1) := by decide +kernel
theorem d4_2 : decode jdk_42_method_3_code 2 = .ok (.iconst 0, 1) := by decide +kernel
theorem d4_3 : decode jdk_42_method_3_code 3 = .ok (.aload_n 1, 1) := by decide +kernel
theorem d4_4 : decode jdk_42_method_3_code 4 = .ok (.arraylength, 1) := by decide +kernel
theorem d4_5 : decode jdk_42_method_3_code 5 = .ok (.aconst_null, 1) := by decide +kernel
theorem d4_6 : decode jdk_42_method_3_code 6 = .ok (.invokespecial 27, 3) := by decide +kernel
theorem ar_3 : XT.arity "([CIILjava/lang/Void;)V" = some 4 := by decide +kernel
theorem d4_9 : decode jdk_42_method_3_code 9 = .ok (.return_, 1) := by decide +kernel
theorem d3_8 : decode jdk_42_method_149_code 8 = .ok (.aload_n 0, 1) := by decide +kernel
theorem d3_9 : decode jdk_42_method_149_code 9 = .ok (.ldc 7, 2) := by decide +kernel
theorem d3_11 : decode jdk_42_method_149_code 11 = .ok (.getfield 9, 3) := by decide +kernel
theorem d3_14 : decode jdk_42_method_149_code 14 = .ok (.putfield 9, 3) := by decide +kernel
theorem d3_17 : decode jdk_42_method_149_code 17 = .ok (.aload_n 0, 1) := by decide +kernel
theorem d3_18 : decode jdk_42_method_149_code 18 = .ok (.ldc 7, 2) := by decide +kernel
theorem d3_20 : decode jdk_42_method_149_code 20 = .ok (.getfield 15, 3) := by decide +kernel
theorem d3_23 : decode jdk_42_method_149_code 23 = .ok (.putfield 15, 3) := by decide +kernel
theorem d3_26 : decode jdk_42_method_149_code 26 = .ok (.return_, 1) := by decide +kernel
theorem d5_9 : decode jdk_43_method_13_code 9 = .ok (.iload_n 2, 1) := by decide +kernel
theorem d5_10 : decode jdk_43_method_13_code 10 = .ok (.aload_n 0, 1) := by decide +kernel
theorem d5_11 : decode jdk_43_method_13_code 11 = .ok (.arraylength, 1) := by decide +kernel
theorem d5_12 : decode jdk_43_method_13_code 12 = .ok (.if_icmp .ge 20, 3) := by decide +kernel
theorem d5_32 : decode jdk_43_method_13_code 32 = .ok (.iconst 1, 1) := by decide +kernel
theorem d5_33 : decode jdk_43_method_13_code 33 = .ok (.ireturn, 1) := by decide +kernel
theorem d5_15 : decode jdk_43_method_13_code 15 = .ok (.aload_n 0, 1) := by decide +kernel
theorem d5_16 : decode jdk_43_method_13_code 16 = .ok (.iload_n 2, 1) := by decide +kernel
theorem d5_17 : decode jdk_43_method_13_code 17 = .ok (.baload, 1) := by decide +kernel
theorem d5_18 : decode jdk_43_method_13_code 18 = .ok (.aload_n 1, 1) := by decide +kernel
theorem d5_19 : decode jdk_43_method_13_code 19 = .ok (.iload_n 2, 1) := by decide +kernel
theorem d5_20 : decode jdk_43_method_13_code 20 = .ok (.baload, 1) := by decide +kernel
theorem d5_21 : decode jdk_43_method_13_code 21 = .ok (.if_icmp .eq 5, 3) := by decide +kernel
theorem d5_26 : decode jdk_43_method_13_code 26 = .ok (.iinc 2 1, 3) := by decide +kernel
theorem d5_29 : decode jdk_43_method_13_code 29 = .ok (.goto (-20), 3) := by decide +kernel
theorem d5_24 : decode jdk_43_method_13_code 24 = .ok (.iconst 0, 1) := by decide +kernel
theorem d5_25 : decode jdk_43_method_13_code 25 = .ok (.ireturn, 1) := by decide +kernel
theorem ef_rr_3 (m : MethodId) (x0 : Addr) (x1 : Addr) : entryFrame m #[(.ref x0), (.ref x1)] 3 = mkF m 0 ⟨[.val (.ref x0), .val (.ref x1), .unset]⟩ [] := by exact efOf rfl
theorem pn_2 : plainName "java/lang/StringLatin1" = true := by first | (simp [plainName, overriddenIn]; done) | decide +kernel
theorem d5_0 : decode jdk_43_method_13_code 0 = .ok (.aload_n 0, 1) := by decide +kernel
theorem d5_1 : decode jdk_43_method_13_code 1 = .ok (.arraylength, 1) := by decide +kernel
theorem d5_2 : decode jdk_43_method_13_code 2 = .ok (.aload_n 1, 1) := by decide +kernel
theorem d5_3 : decode jdk_43_method_13_code 3 = .ok (.arraylength, 1) := by decide +kernel
theorem d5_4 : decode jdk_43_method_13_code 4 = .ok (.if_icmp .ne 30, 3) := by decide +kernel
theorem d5_34 : decode jdk_43_method_13_code 34 = .ok (.iconst 0, 1) := by decide +kernel
theorem d5_35 : decode jdk_43_method_13_code 35 = .ok (.ireturn, 1) := by decide +kernel
theorem d5_7 : decode jdk_43_method_13_code 7 = .ok (.iconst 0, 1) := by decide +kernel
theorem d5_8 : decode jdk_43_method_13_code 8 = .ok (.istore_n 2, 1) := by decide +kernel
theorem d6_0 : decode jdk_42_method_66_code 0 = .ok (.aload_n 0, 1) := by decide +kernel
theorem d6_1 : decode jdk_42_method_66_code 1 = .ok (.aload_n 1, 1) := by decide +kernel
theorem d6_2 : decode jdk_42_method_66_code 2 = .ok (.if_acmp .ne 5, 3) := by decide +kernel
theorem d6_5 : decode jdk_42_method_66_code 5 = .ok (.iconst 1, 1) := by decide +kernel
theorem d6_6 : decode jdk_42_method_66_code 6 = .ok (.ireturn, 1) := by decide +kernel
theorem d6_7 : decode jdk_42_method_66_code 7 = .ok (.aload_n 1, 1) := by decide +kernel
theorem d6_8 : decode jdk_42_method_66_code 8 = .ok (.instanceof 10, 3) := by decide +kernel
theorem d6_11 : decode jdk_42_method_66_code 11 = .ok (.ifCond .eq 43, 3) := by decide +kernel
theorem d6_14 : decode jdk_42_method_66_code 14 = .ok (.aload_n 1, 1) := by decide +kernel
theorem d6_15 : decode jdk_42_method_66_code 15 = .ok (.checkcast 10, 3) := by decide +kernel
theorem d6_18 : decode jdk_42_method_66_code 18 = .ok (.astore_n 2, 1) := by decide +kernel
theorem d6_19 : decode jdk_42_method_66_code 19 = .ok (.getstatic 38, 3) := by decide +kernel
theorem d6_22 : decode jdk_42_method_66_code 22 = .ok (.ifCond .eq 14, 3) := by decide +kernel
theorem d6_25 : decode jdk_42_method_66_code 25 = .ok (.aload_n 0, 1) := by decide +kernel
theorem d6_26 : decode jdk_42_method_66_code 26 = .ok (.getfield 15, 3) := by decide +kernel
theorem d6_29 : decode jdk_42_method_66_code 29 = .ok (.aload_n 2, 1) := by decide +kernel
theorem d6_30 : decode jdk_42_method_66_code 30 = .ok (.getfield 15, 3) := by decide +kernel
theorem d6_33 : decode jdk_42_method_66_code 33 = .ok (.if_icmp .ne 21, 3) := by decide +kernel
theorem d6_36 : decode jdk_42_method_66_code 36 = .ok (.aload_n 0, 1) := by decide +kernel
theorem d6_37 : decode jdk_42_method_66_code 37 = .ok (.getfield 9, 3) := by decide +kernel
theorem d6_40 : decode jdk_42_method_66_code 40 = .ok (.aload_n 2, 1) := by decide +kernel
theorem d6_41 : decode jdk_42_method_66_code 41 = .ok (.getfield 9, 3) := by decide +kernel
theorem d6_44 : decode jdk_42_method_66_code 44 = .ok (.invokestatic 541, 3) := by decide +kernel
theorem ar_4 : XT.arity "([B[B)Z" = some 2 := by decide +kernel
theorem d6_47 : decode jdk_42_method_66_code 47 = .ok (.ifCond .eq 7, 3) := by decide +kernel
theorem d6_50 : decode jdk_42_method_66_code 50 = .ok (.iconst 1, 1) := by decide +kernel
theorem d6_51 : decode jdk_42_method_66_code 51 = .ok (.goto 4, 3) := by decide +kernel
theorem d6_55 : decode jdk_42_method_66_code 55 = .ok (.ireturn, 1) := by decide +kernel
theorem d6_54 : decode jdk_42_method_66_code 54 = .ok (.iconst 0, 1) := by decide +kernel
theorem ef_r_1 (m : MethodId) (x0 : Addr) : entryFrame m #[(.ref x0)] 1 = mkF m 0 ⟨[.val (.ref x0)]⟩ [] := by exact efOf rfl
theorem d7_0 : decode jdk_42_method_152_code 0 = .ok (.getstatic 38, 3) := by decide +kernel
theorem d7_3 : decode jdk_42_method_152_code 3 = .ok (.ifCond .eq 10, 3) := by decide +kernel
theorem d7_6 : decode jdk_42_method_152_code 6 = .ok (.aload_n 0, 1) := by decide +kernel
theorem d7_7 : decode jdk_42_method_152_code 7 = .ok (.getfield 15, 3) := by decide +kernel
theorem d7_10 : decode jdk_42_method_152_code 10 = .ok (.goto 4, 3) := by decide +kernel
theorem d7_14 : decode jdk_42_method_152_code 14 = .ok (.ireturn, 1) := by decide +kernel
theorem d8_0 : decode jdk_42_method_54_code 0 = .ok (.aload_n 0, 1) := by decide +kernel
theorem d8_1 : decode jdk_42_method_54_code 1 = .ok (.getfield 9, 3) := by decide +kernel
theorem d8_4 : decode jdk_42_method_54_code 4 = .ok (.arraylength, 1) := by decide +kernel
theorem d8_5 : decode jdk_42_method_54_code 5 = .ok (.aload_n 0, 1) := by decide +kernel
theorem d8_6 : decode jdk_42_method_54_code 6 = .ok (.invokevirtual 335, 3) := by decide +kernel
theorem ar_5 : XT.arity "()B" = some 0 := by decide +kernel
theorem d8_9 : decode jdk_42_method_54_code 9 = .ok (.ishr, 1) := by decide +kernel
theorem d8_10 : decode jdk_42_method_54_code 10 = .ok (.ireturn, 1) := by decide +kernel
theorem ef_ii_2 (m : MethodId) (x0 : Int32) (x1 : Int32) : entryFrame m #[(.int x0), (.int x1)] 2 = mkF m 0 ⟨[.val (.int x0), .val (.int x1)]⟩ [] := by exact efOf rfl
theorem pn_3 : plainFor (⟨"java/lang/Math", "min", "(II)I"⟩ : MethodName) = true := by exact Jvm.Free.JP.mathPlain rfl (by decide +kernel)
theorem d9_0 : decode jdk_29_method_69_code 0 = .ok (.iload_n 0, 1) := by decide +kernel
theorem d9_1 : decode jdk_29_method_69_code 1 = .ok (.iload_n 1, 1) := by decide +kernel
theorem d9_2 : decode jdk_29_method_69_code 2 = .ok (.if_icmp .gt 7, 3) := by decide +kernel
theorem d9_9 : decode jdk_29_method_69_code 9 = .ok (.iload_n 1, 1) := by decide +kernel
theorem d9_10 : decode jdk_29_method_69_code 10 = .ok (.ireturn, 1) := by decide +kernel
theorem d9_5 : decode jdk_29_method_69_code 5 = .ok (.iload_n 0, 1) := by decide +kernel
theorem d9_6 : decode jdk_29_method_69_code 6 = .ok (.goto 4, 3) := by decide +kernel
theorem pn_4 : plainName "java/util/Arrays" = true := by first | (simp [plainName, overriddenIn]; done) | decide +kernel
theorem d10_0 : decode jdk_65_method_131_code 0 = .ok (.iload_n 1, 1) := by decide +kernel
theorem d10_1 : decode jdk_65_method_131_code 1 = .ok (.iload_n 0, 1) := by decide +kernel
theorem d10_2 : decode jdk_65_method_131_code 2 = .ok (.if_icmp .ge 35, 3) := by decide +kernel
theorem d10_37 : decode jdk_65_method_131_code 37 = .ok (.return_, 1) := by decide +kernel
theorem ef_rii_5 (m : MethodId) (x0 : Addr) (x1 : Int32) (x2 : Int32) : entryFrame m #[(.ref x0), (.int x1), (.int x2)] 5 = mkF m 0 ⟨[.val (.ref x0), .val (.int x1), .val (.int x2), .unset, .unset]⟩ [] := by exact efOf rfl
theorem d11_0 : decode jdk_65_method_133_code 0 = .ok (.iload_n 1, 1) := by decide +kernel
theorem d11_1 : decode jdk_65_method_133_code 1 = .ok (.iload_n 2, 1) := by decide +kernel
theorem d11_2 : decode jdk_65_method_133_code 2 = .ok (.invokestatic 343, 3) := by decide +kernel
theorem ar_6 : XT.arity "(II)V" = some 2 := by decide +kernel
theorem d11_5 : decode jdk_65_method_133_code 5 = .ok (.iload_n 2, 1) := by decide +kernel
theorem d11_6 : decode jdk_65_method_133_code 6 = .ok (.iload_n 1, 1) := by decide +kernel
theorem d11_7 : decode jdk_65_method_133_code 7 = .ok (.isub, 1) := by decide +kernel
theorem d11_8 : decode jdk_65_method_133_code 8 = .ok (.istore_n 3, 1) := by decide +kernel
theorem d11_9 : decode jdk_65_method_133_code 9 = .ok (.iload_n 3, 1) := by decide +kernel
theorem d11_10 : decode jdk_65_method_133_code 10 = .ok (.newarray .byte, 2) := by decide +kernel
theorem d11_12 : decode jdk_65_method_133_code 12 = .ok (.astore 4, 2) := by decide +kernel
theorem d11_14 : decode jdk_65_method_133_code 14 = .ok (.aload_n 0, 1) := by decide +kernel
theorem d11_15 : decode jdk_65_method_133_code 15 = .ok (.iload_n 1, 1) := by decide +kernel
theorem d11_16 : decode jdk_65_method_133_code 16 = .ok (.aload 4, 2) := by decide +kernel
theorem d11_18 : decode jdk_65_method_133_code 18 = .ok (.iconst 0, 1) := by decide +kernel
theorem d11_19 : decode jdk_65_method_133_code 19 = .ok (.aload_n 0, 1) := by decide +kernel
theorem d11_20 : decode jdk_65_method_133_code 20 = .ok (.arraylength, 1) := by decide +kernel
theorem d11_21 : decode jdk_65_method_133_code 21 = .ok (.iload_n 1, 1) := by decide +kernel
theorem d11_22 : decode jdk_65_method_133_code 22 = .ok (.isub, 1) := by decide +kernel
theorem d11_23 : decode jdk_65_method_133_code 23 = .ok (.iload_n 3, 1) := by decide +kernel
theorem d11_24 : decode jdk_65_method_133_code 24 = .ok (.invokestatic 304, 3) := by decide +kernel
theorem ar_7 : XT.arity "(II)I" = some 2 := by decide +kernel
theorem d11_27 : decode jdk_65_method_133_code 27 = .ok (.invokestatic 150, 3) := by decide +kernel
theorem d11_30 : decode jdk_65_method_133_code 30 = .ok (.aload 4, 2) := by decide +kernel
theorem d11_32 : decode jdk_65_method_133_code 32 = .ok (.areturn, 1) := by decide +kernel
theorem ef_rii_3 (m : MethodId) (x0 : Addr) (x1 : Int32) (x2 : Int32) : entryFrame m #[(.ref x0), (.int x1), (.int x2)] 3 = mkF m 0 ⟨[.val (.ref x0), .val (.int x1), .val (.int x2)]⟩ [] := by exact efOf rfl
theorem d12_0 : decode jdk_65_method_132_code 0 = .ok (.iload_n 1, 1) := by decide +kernel
theorem d12_1 : decode jdk_65_method_132_code 1 = .ok (.ifCond .ne 9, 3) := by decide +kernel
theorem d12_10 : decode jdk_65_method_132_code 10 = .ok (.aload_n 0, 1) := by decide +kernel
theorem d12_11 : decode jdk_65_method_132_code 11 = .ok (.iload_n 1, 1) := by decide +kernel
theorem d12_12 : decode jdk_65_method_132_code 12 = .ok (.iload_n 2, 1) := by decide +kernel
theorem d12_13 : decode jdk_65_method_132_code 13 = .ok (.invokestatic 339, 3) := by decide +kernel
theorem ar_8 : XT.arity "([BII)[B" = some 3 := by decide +kernel
theorem d12_16 : decode jdk_65_method_132_code 16 = .ok (.areturn, 1) := by decide +kernel
theorem pn_5 : plainName "java/lang/AbstractStringBuilder" = true := by first | (simp [plainName, overriddenIn]; done) | decide +kernel
theorem d13_0 : decode jdk_68_method_2_code 0 = .ok (.aload_n 0, 1) := by decide +kernel
theorem d13_1 : decode jdk_68_method_2_code 1 = .ok (.invokespecial 3, 3) := by decide +kernel
theorem d13_4 : decode jdk_68_method_2_code 4 = .ok (.getstatic 18, 3) := by decide +kernel
theorem d13_7 : decode jdk_68_method_2_code 7 = .ok (.ifCond .eq 18, 3) := by decide +kernel
theorem d13_10 : decode jdk_68_method_2_code 10 = .ok (.aload_n 0, 1) := by decide +kernel
theorem d13_11 : decode jdk_68_method_2_code 11 = .ok (.iload_n 1, 1) := by decide +kernel
theorem d13_12 : decode jdk_68_method_2_code 12 = .ok (.newarray .byte, 2) := by decide +kernel
theorem d13_14 : decode jdk_68_method_2_code 14 = .ok (.putfield 15, 3) := by decide +kernel
theorem d13_17 : decode jdk_68_method_2_code 17 = .ok (.aload_n 0, 1) := by decide +kernel
theorem d13_18 : decode jdk_68_method_2_code 18 = .ok (.iconst 0, 1) := by decide +kernel
theorem d13_19 : decode jdk_68_method_2_code 19 = .ok (.putfield 22, 3) := by decide +kernel
theorem d13_22 : decode jdk_68_method_2_code 22 = .ok (.goto 16, 3) := by decide +kernel
theorem d13_38 : decode jdk_68_method_2_code 38 = .ok (.return_, 1) := by decide +kernel
theorem pn_6 : plainName "java/lang/StringBuilder" = true := by first | (simp [plainName, overriddenIn]; done) | decide +kernel
theorem d14_0 : decode jdk_67_method_1_code 0 = .ok (.aload_n 0, 1) := by decide +kernel
theorem d14_1 : decode jdk_67_method_1_code 1 = .ok (.bipush 16, 2) := by decide +kernel
theorem d14_3 : decode jdk_67_method_1_code 3 = .ok (.invokespecial 1, 3) := by decide +kernel
theorem ar_9 : XT.arity "(I)V" = some 1 := by decide +kernel
theorem d14_6 : decode jdk_67_method_1_code 6 = .ok (.return_, 1) := by decide +kernel
theorem ef_ri_3 (m : MethodId) (x0 : Addr) (x1 : Int32) : entryFrame m #[(.ref x0), (.int x1)] 3 = mkF m 0 ⟨[.val (.ref x0), .val (.int x1), .unset]⟩ [] := by exact efOf rfl
theorem d15_0 : decode jdk_68_method_9_code 0 = .ok (.aload_n 0, 1) := by decide +kernel
theorem d15_1 : decode jdk_68_method_9_code 1 = .ok (.getfield 15, 3) := by decide +kernel
theorem d15_4 : decode jdk_68_method_9_code 4 = .ok (.arraylength, 1) := by decide +kernel
theorem d15_5 : decode jdk_68_method_9_code 5 = .ok (.aload_n 0, 1) := by decide +kernel
theorem d15_6 : decode jdk_68_method_9_code 6 = .ok (.getfield 22, 3) := by decide +kernel
theorem d15_9 : decode jdk_68_method_9_code 9 = .ok (.ishr, 1) := by decide +kernel
theorem d15_10 : decode jdk_68_method_9_code 10 = .ok (.istore_n 2, 1) := by decide +kernel
theorem d15_11 : decode jdk_68_method_9_code 11 = .ok (.iload_n 1, 1) := by decide +kernel
theorem d15_12 : decode jdk_68_method_9_code 12 = .ok (.iload_n 2, 1) := by decide +kernel
theorem d15_13 : decode jdk_68_method_9_code 13 = .ok (.isub, 1) := by decide +kernel
theorem d15_14 : decode jdk_68_method_9_code 14 = .ok (.ifCond .le 24, 3) := by decide +kernel
theorem d15_38 : decode jdk_68_method_9_code 38 = .ok (.return_, 1) := by decide +kernel
theorem d16_0 : decode jdk_68_method_71_code 0 = .ok (.getstatic 18, 3) := by decide +kernel
theorem d16_3 : decode jdk_68_method_71_code 3 = .ok (.ifCond .eq 18, 3) := by decide +kernel
theorem d16_6 : decode jdk_68_method_71_code 6 = .ok (.aload_n 0, 1) := by decide +kernel
theorem d16_7 : decode jdk_68_method_71_code 7 = .ok (.getfield 22, 3) := by decide +kernel
theorem d16_10 : decode jdk_68_method_71_code 10 = .ok (.aload_n 1, 1) := by decide +kernel
theorem d16_11 : decode jdk_68_method_71_code 11 = .ok (.invokevirtual 40, 3) := by decide +kernel
theorem d16_14 : decode jdk_68_method_71_code 14 = .ok (.if_icmp .eq 7, 3) := by decide +kernel
theorem d16_21 : decode jdk_68_method_71_code 21 = .ok (.return_, 1) := by decide +kernel
theorem ef_rrii_4 (m : MethodId) (x0 : Addr) (x1 : Addr) (x2 : Int32) (x3 : Int32) : entryFrame m #[(.ref x0), (.ref x1), (.int x2), (.int x3)] 4 = mkF m 0 ⟨[.val (.ref x0), .val (.ref x1), .val (.int x2), .val (.int x3)]⟩ [] := by exact efOf rfl
theorem d17_0 : decode jdk_42_method_147_code 0 = .ok (.aload_n 0, 1) := by decide +kernel
theorem d17_1 : decode jdk_42_method_147_code 1 = .ok (.invokevirtual 335, 3) := by decide +kernel
theorem d17_4 : decode jdk_42_method_147_code 4 = .ok (.iload_n 3, 1) := by decide +kernel
theorem d17_5 : decode jdk_42_method_147_code 5 = .ok (.if_icmp .ne 23, 3) := by decide +kernel
theorem d17_8 : decode jdk_42_method_147_code 8 = .ok (.aload_n 0, 1) := by decide +kernel
theorem d17_9 : decode jdk_42_method_147_code 9 = .ok (.getfield 9, 3) := by decide +kernel
theorem d17_12 : decode jdk_42_method_147_code 12 = .ok (.iconst 0, 1) := by decide +kernel
theorem d17_13 : decode jdk_42_method_147_code 13 = .ok (.aload_n 1, 1) := by decide +kernel
theorem d17_14 : decode jdk_42_method_147_code 14 = .ok (.iload_n 2, 1) := by decide +kernel
theorem d17_15 : decode jdk_42_method_147_code 15 = .ok (.iload_n 3, 1) := by decide +kernel
theorem d17_16 : decode jdk_42_method_147_code 16 = .ok (.ishl, 1) := by decide +kernel
theorem d17_17 : decode jdk_42_method_147_code 17 = .ok (.aload_n 0, 1) := by decide +kernel
theorem d17_18 : decode jdk_42_method_147_code 18 = .ok (.getfield 9, 3) := by decide +kernel
theorem d17_21 : decode jdk_42_method_147_code 21 = .ok (.arraylength, 1) := by decide +kernel
theorem d17_22 : decode jdk_42_method_147_code 22 = .ok (.invokestatic 212, 3) := by decide +kernel
theorem d17_25 : decode jdk_42_method_147_code 25 = .ok (.goto 18, 3) := by decide +kernel
theorem d17_43 : decode jdk_42_method_147_code 43 = .ok (.return_, 1) := by decide +kernel
theorem ef_rir_3 (m : MethodId) (x0 : Addr) (x1 : Int32) (x2 : Addr) : entryFrame m #[(.ref x0), (.int x1), (.ref x2)] 3 = mkF m 0 ⟨[.val (.ref x0), .val (.int x1), .val (.ref x2)]⟩ [] := by exact efOf rfl
theorem d18_0 : decode jdk_68_method_73_code 0 = .ok (.aload_n 0, 1) := by decide +kernel
theorem d18_1 : decode jdk_68_method_73_code 1 = .ok (.aload_n 2, 1) := by decide +kernel
theorem d18_2 : decode jdk_68_method_73_code 2 = .ok (.invokevirtual 397, 3) := by decide +kernel
theorem ar_10 : XT.arity "(Ljava/lang/String;)V" = some 1 := by decide +kernel
theorem d18_5 : decode jdk_68_method_73_code 5 = .ok (.aload_n 2, 1) := by decide +kernel
theorem d18_6 : decode jdk_68_method_73_code 6 = .ok (.aload_n 0, 1) := by decide +kernel
theorem d18_7 : decode jdk_68_method_73_code 7 = .ok (.getfield 15, 3) := by decide +kernel
theorem d18_10 : decode jdk_68_method_73_code 10 = .ok (.iload_n 1, 1) := by decide +kernel
theorem d18_11 : decode jdk_68_method_73_code 11 = .ok (.aload_n 0, 1) := by decide +kernel
theorem d18_12 : decode jdk_68_method_73_code 12 = .ok (.getfield 22, 3) := by decide +kernel
theorem d18_15 : decode jdk_68_method_73_code 15 = .ok (.invokevirtual 399, 3) := by decide +kernel
theorem ar_11 : XT.arity "([BIB)V" = some 3 := by decide +kernel
theorem d18_18 : decode jdk_68_method_73_code 18 = .ok (.return_, 1) := by decide +kernel
theorem d19_0 : decode jdk_68_method_22_code 0 = .ok (.aload_n 1, 1) := by decide +kernel
theorem d19_1 : decode jdk_68_method_22_code 1 = .ok (.ifnonnull 8, 3) := by decide +kernel
theorem d19_9 : decode jdk_68_method_22_code 9 = .ok (.aload_n 1, 1) := by decide +kernel
theorem d19_10 : decode jdk_68_method_22_code 10 = .ok (.invokevirtual 32, 3) := by decide +kernel
theorem ar_12 : XT.arity "()I" = some 0 := by decide +kernel
theorem d19_13 : decode jdk_68_method_22_code 13 = .ok (.istore_n 2, 1) := by decide +kernel
theorem d19_14 : decode jdk_68_method_22_code 14 = .ok (.aload_n 0, 1) := by decide +kernel
theorem d19_15 : decode jdk_68_method_22_code 15 = .ok (.aload_n 0, 1) := by decide +kernel
theorem d19_16 : decode jdk_68_method_22_code 16 = .ok (.getfield 79, 3) := by decide +kernel
theorem d19_19 : decode jdk_68_method_22_code 19 = .ok (.iload_n 2, 1) := by decide +kernel
theorem d19_20 : decode jdk_68_method_22_code 20 = .ok (.iadd, 1) := by decide +kernel
theorem d19_21 : decode jdk_68_method_22_code 21 = .ok (.invokevirtual 100, 3) := by decide +kernel
theorem d19_24 : decode jdk_68_method_22_code 24 = .ok (.aload_n 0, 1) := by decide +kernel
theorem d19_25 : decode jdk_68_method_22_code 25 = .ok (.aload_n 0, 1) := by decide +kernel
theorem d19_26 : decode jdk_68_method_22_code 26 = .ok (.getfield 79, 3) := by decide +kernel
theorem d19_29 : decode jdk_68_method_22_code 29 = .ok (.aload_n 1, 1) := by decide +kernel
theorem d19_30 : decode jdk_68_method_22_code 30 = .ok (.invokevirtual 208, 3) := by decide +kernel
theorem ar_13 : XT.arity "(ILjava/lang/String;)V" = some 2 := by decide +kernel
theorem d19_33 : decode jdk_68_method_22_code 33 = .ok (.aload_n 0, 1) := by decide +kernel
theorem d19_34 : decode jdk_68_method_22_code 34 = .ok (.dup, 1) := by decide +kernel
theorem d19_35 : decode jdk_68_method_22_code 35 = .ok (.getfield 79, 3) := by decide +kernel
theorem d19_38 : decode jdk_68_method_22_code 38 = .ok (.iload_n 2, 1) := by decide +kernel
theorem d19_39 : decode jdk_68_method_22_code 39 = .ok (.iadd, 1) := by decide +kernel
theorem d19_40 : decode jdk_68_method_22_code 40 = .ok (.putfield 79, 3) := by decide +kernel
theorem d19_43 : decode jdk_68_method_22_code 43 = .ok (.aload_n 0, 1) := by decide +kernel
theorem d19_44 : decode jdk_68_method_22_code 44 = .ok (.areturn, 1) := by decide +kernel
theorem d20_0 : decode jdk_67_method_7_code 0 = .ok (.aload_n 0, 1) := by decide +kernel
theorem d20_1 : decode jdk_67_method_7_code 1 = .ok (.aload_n 1, 1) := by decide +kernel
theorem d20_2 : decode jdk_67_method_7_code 2 = .ok (.invokespecial 29, 3) := by decide +kernel
theorem ar_14 : XT.arity "(Ljava/lang/String;)Ljava/lang/AbstractStringBuilder;" = some 1 := by decide +kernel
theorem d20_5 : decode jdk_67_method_7_code 5 = .ok (.pop, 1) := by decide +kernel
theorem d20_6 : decode jdk_67_method_7_code 6 = .ok (.aload_n 0, 1) := by decide +kernel
theorem d20_7 : decode jdk_67_method_7_code 7 = .ok (.areturn, 1) := by decide +kernel
theorem d21_0 : decode jdk_68_method_64_code 0 = .ok (.aload_n 0, 1) := by decide +kernel
theorem d21_1 : decode jdk_68_method_64_code 1 = .ok (.getfield 15, 3) := by decide +kernel
theorem d21_4 : decode jdk_68_method_64_code 4 = .ok (.areturn, 1) := by decide +kernel
theorem d22_0 : decode jdk_68_method_6_code 0 = .ok (.aload_n 0, 1) := by decide +kernel
theorem d22_1 : decode jdk_68_method_6_code 1 = .ok (.getfield 79, 3) := by decide +kernel
theorem d22_4 : decode jdk_68_method_6_code 4 = .ok (.ireturn, 1) := by decide +kernel
theorem d23_0 : decode jdk_67_method_93_code 0 = .ok (.aload_n 0, 1) := by decide +kernel
theorem d23_1 : decode jdk_67_method_93_code 1 = .ok (.invokespecial 343, 3) := by decide +kernel
theorem d23_4 : decode jdk_67_method_93_code 4 = .ok (.ireturn, 1) := by decide +kernel
theorem d24_0 : decode jdk_68_method_68_code 0 = .ok (.getstatic 18, 3) := by decide +kernel
theorem d24_3 : decode jdk_68_method_68_code 3 = .ok (.ifCond .eq 14, 3) := by decide +kernel
theorem d24_6 : decode jdk_68_method_68_code 6 = .ok (.aload_n 0, 1) := by decide +kernel
theorem d24_7 : decode jdk_68_method_68_code 7 = .ok (.getfield 22, 3) := by decide +kernel
theorem d24_10 : decode jdk_68_method_68_code 10 = .ok (.ifCond .ne 7, 3) := by decide +kernel
theorem d24_13 : decode jdk_68_method_68_code 13 = .ok (.iconst 1, 1) := by decide +kernel
theorem d24_14 : decode jdk_68_method_68_code 14 = .ok (.goto 4, 3) := by decide +kernel
theorem d24_18 : decode jdk_68_method_68_code 18 = .ok (.ireturn, 1) := by decide +kernel
theorem d12_4 : decode jdk_65_method_132_code 4 = .ok (.iload_n 2, 1) := by decide +kernel
theorem d12_5 : decode jdk_65_method_132_code 5 = .ok (.aload_n 0, 1) := by decide +kernel
theorem d12_6 : decode jdk_65_method_132_code 6 = .ok (.arraylength, 1) := by decide +kernel
theorem d12_7 : decode jdk_65_method_132_code 7 = .ok (.if_icmp .eq 10, 3) := by decide +kernel
theorem ef_rrn_5 (m : MethodId) (x0 : Addr) (x1 : Addr) : entryFrame m #[(.ref x0), (.ref x1), .null] 5 = mkF m 0 ⟨[.val (.ref x0), .val (.ref x1), .val .null, .unset, .unset]⟩ [] := by exact efOf rfl
theorem d25_0 : decode jdk_42_method_150_code 0 = .ok (.aload_n 0, 1) := by decide +kernel
theorem d25_1 : decode jdk_42_method_150_code 1 = .ok (.invokespecial 1, 3) := by decide +kernel
theorem d25_4 : decode jdk_42_method_150_code 4 = .ok (.aload_n 1, 1) := by decide +kernel
theorem d25_5 : decode jdk_42_method_150_code 5 = .ok (.invokevirtual 552, 3) := by decide +kernel
theorem ar_15 : XT.arity "()[B" = some 0 := by decide +kernel
theorem d25_8 : decode jdk_42_method_150_code 8 = .ok (.astore_n 3, 1) := by decide +kernel
theorem d25_9 : decode jdk_42_method_150_code 9 = .ok (.aload_n 1, 1) := by decide +kernel
theorem d25_10 : decode jdk_42_method_150_code 10 = .ok (.invokevirtual 549, 3) := by decide +kernel
theorem d25_13 : decode jdk_42_method_150_code 13 = .ok (.istore 4, 2) := by decide +kernel
theorem d25_15 : decode jdk_42_method_150_code 15 = .ok (.aload_n 1, 1) := by decide +kernel
theorem d25_16 : decode jdk_42_method_150_code 16 = .ok (.invokevirtual 1047, 3) := by decide +kernel
theorem ar_16 : XT.arity "()Z" = some 0 := by decide +kernel
theorem d25_19 : decode jdk_42_method_150_code 19 = .ok (.ifCond .eq 22, 3) := by decide +kernel
theorem d25_22 : decode jdk_42_method_150_code 22 = .ok (.aload_n 0, 1) := by decide +kernel
theorem d25_23 : decode jdk_42_method_150_code 23 = .ok (.iconst 0, 1) := by decide +kernel
theorem d25_24 : decode jdk_42_method_150_code 24 = .ok (.putfield 15, 3) := by decide +kernel
theorem d25_27 : decode jdk_42_method_150_code 27 = .ok (.aload_n 0, 1) := by decide +kernel
theorem d25_28 : decode jdk_42_method_150_code 28 = .ok (.aload_n 3, 1) := by decide +kernel
theorem d25_29 : decode jdk_42_method_150_code 29 = .ok (.iconst 0, 1) := by decide +kernel
theorem d25_30 : decode jdk_42_method_150_code 30 = .ok (.iload 4, 2) := by decide +kernel
theorem d25_32 : decode jdk_42_method_150_code 32 = .ok (.invokestatic 54, 3) := by decide +kernel
theorem d25_35 : decode jdk_42_method_150_code 35 = .ok (.putfield 9, 3) := by decide +kernel
theorem d25_38 : decode jdk_42_method_150_code 38 = .ok (.goto 59, 3) := by decide +kernel
theorem d25_97 : decode jdk_42_method_150_code 97 = .ok (.return_, 1) := by decide +kernel
theorem d26_0 : decode jdk_42_method_53_code 0 = .ok (.aload_n 0, 1) := by decide +kernel
theorem d26_1 : decode jdk_42_method_53_code 1 = .ok (.aload_n 1, 1) := by decide +kernel
theorem d26_2 : decode jdk_42_method_53_code 2 = .ok (.aconst_null, 1) := by decide +kernel
theorem d26_3 : decode jdk_42_method_53_code 3 = .ok (.invokespecial 489, 3) := by decide +kernel
theorem ar_17 : XT.arity "(Ljava/lang/AbstractStringBuilder;Ljava/lang/Void;)V" = some 2 := by decide +kernel
theorem d26_6 : decode jdk_42_method_53_code 6 = .ok (.return_, 1) := by decide +kernel
theorem d27_0 : decode jdk_67_method_42_code 0 = .ok (.new 18, 3) := by decide +kernel
theorem d27_3 : decode jdk_67_method_42_code 3 = .ok (.dup, 1) := by decide +kernel
theorem d27_4 : decode jdk_67_method_42_code 4 = .ok (.aload_n 0, 1) := by decide +kernel
theorem d27_5 : decode jdk_67_method_42_code 5 = .ok (.invokespecial 137, 3) := by decide +kernel
theorem ar_18 : XT.arity "(Ljava/lang/StringBuilder;)V" = some 1 := by decide +kernel
theorem d27_8 : decode jdk_67_method_42_code 8 = .ok (.areturn, 1) := by decide +kernel
theorem ef_iii_3 (m : MethodId) (x0 : Int32) (x1 : Int32) (x2 : Int32) : entryFrame m #[(.int x0), (.int x1), (.int x2)] 3 = mkF m 0 ⟨[.val (.int x0), .val (.int x1), .val (.int x2)]⟩ [] := by exact efOf rfl
theorem pn_7 : plainName "org/claimbridge/cli/BadUsageExceptionGivenTogetherPinLaw" = true := by first | (simp [plainName, overriddenIn]; done) | decide +kernel
theorem d28_0 : decode method_2_code 0 = .ok (.iload_n 0, 1) := by decide +kernel
theorem d28_1 : decode method_2_code 1 = .ok (.ifCond .ne 14, 3) := by decide +kernel
theorem d28_4 : decode method_2_code 4 = .ok (.new 7, 3) := by decide +kernel
theorem d28_7 : decode method_2_code 7 = .ok (.dup, 1) := by decide +kernel
theorem d28_8 : decode method_2_code 8 = .ok (.iconst 0, 1) := by decide +kernel
theorem d28_9 : decode method_2_code 9 = .ok (.newarray .char, 2) := by decide +kernel
theorem d28_11 : decode method_2_code 11 = .ok (.invokespecial 9, 3) := by decide +kernel
theorem ar_19 : XT.arity "([C)V" = some 1 := by decide +kernel
theorem d28_14 : decode method_2_code 14 = .ok (.areturn, 1) := by decide +kernel
theorem d28_15 : decode method_2_code 15 = .ok (.iload_n 0, 1) := by decide +kernel
theorem d28_16 : decode method_2_code 16 = .ok (.iconst 1, 1) := by decide +kernel
theorem d28_17 : decode method_2_code 17 = .ok (.if_icmp .ne 18, 3) := by decide +kernel
theorem d28_20 : decode method_2_code 20 = .ok (.new 7, 3) := by decide +kernel
theorem d28_23 : decode method_2_code 23 = .ok (.dup, 1) := by decide +kernel
theorem d28_24 : decode method_2_code 24 = .ok (.iconst 1, 1) := by decide +kernel
theorem d28_25 : decode method_2_code 25 = .ok (.newarray .char, 2) := by decide +kernel
theorem d28_27 : decode method_2_code 27 = .ok (.dup, 1) := by decide +kernel
theorem d28_28 : decode method_2_code 28 = .ok (.iconst 0, 1) := by decide +kernel
theorem d28_29 : decode method_2_code 29 = .ok (.iload_n 1, 1) := by decide +kernel
theorem d28_30 : decode method_2_code 30 = .ok (.castore, 1) := by decide +kernel
theorem d28_31 : decode method_2_code 31 = .ok (.invokespecial 9, 3) := by decide +kernel
theorem d28_34 : decode method_2_code 34 = .ok (.areturn, 1) := by decide +kernel
theorem d28_35 : decode method_2_code 35 = .ok (.new 7, 3) := by decide +kernel
theorem d28_38 : decode method_2_code 38 = .ok (.dup, 1) := by decide +kernel
theorem d28_39 : decode method_2_code 39 = .ok (.iconst 2, 1) := by decide +kernel
theorem d28_40 : decode method_2_code 40 = .ok (.newarray .char, 2) := by decide +kernel
theorem d28_42 : decode method_2_code 42 = .ok (.dup, 1) := by decide +kernel
theorem d28_43 : decode method_2_code 43 = .ok (.iconst 0, 1) := by decide +kernel
theorem d28_44 : decode method_2_code 44 = .ok (.iload_n 1, 1) := by decide +kernel
theorem d28_45 : decode method_2_code 45 = .ok (.castore, 1) := by decide +kernel
theorem d28_46 : decode method_2_code 46 = .ok (.dup, 1) := by decide +kernel
theorem d28_47 : decode method_2_code 47 = .ok (.iconst 1, 1) := by decide +kernel
theorem d28_48 : decode method_2_code 48 = .ok (.iload_n 2, 1) := by decide +kernel
theorem d28_49 : decode method_2_code 49 = .ok (.castore, 1) := by decide +kernel
theorem d28_50 : decode method_2_code 50 = .ok (.invokespecial 9, 3) := by decide +kernel
theorem d28_53 : decode method_2_code 53 = .ok (.areturn, 1) := by decide +kernel
theorem pn_8 : plainFor (⟨"java/lang/Math", "max", "(II)I"⟩ : MethodName) = true := by exact Jvm.Free.JP.mathPlain rfl (by decide +kernel)
theorem d29_0 : decode jdk_29_method_65_code 0 = .ok (.iload_n 0, 1) := by decide +kernel
theorem d29_1 : decode jdk_29_method_65_code 1 = .ok (.iload_n 1, 1) := by decide +kernel
theorem d29_2 : decode jdk_29_method_65_code 2 = .ok (.if_icmp .lt 7, 3) := by decide +kernel
theorem d29_9 : decode jdk_29_method_65_code 9 = .ok (.iload_n 1, 1) := by decide +kernel
theorem d29_10 : decode jdk_29_method_65_code 10 = .ok (.ireturn, 1) := by decide +kernel
theorem d29_5 : decode jdk_29_method_65_code 5 = .ok (.iload_n 0, 1) := by decide +kernel
theorem d29_6 : decode jdk_29_method_65_code 6 = .ok (.goto 4, 3) := by decide +kernel
theorem ef_iii_4 (m : MethodId) (x0 : Int32) (x1 : Int32) (x2 : Int32) : entryFrame m #[(.int x0), (.int x1), (.int x2)] 4 = mkF m 0 ⟨[.val (.int x0), .val (.int x1), .val (.int x2), .unset]⟩ [] := by exact efOf rfl
theorem pn_9 : plainName "jdk/internal/util/ArraysSupport" = true := by first | (simp [plainName, overriddenIn]; done) | decide +kernel
theorem d30_0 : decode jdk_48_method_27_code 0 = .ok (.iload_n 0, 1) := by decide +kernel
theorem d30_1 : decode jdk_48_method_27_code 1 = .ok (.iload_n 1, 1) := by decide +kernel
theorem d30_2 : decode jdk_48_method_27_code 2 = .ok (.iload_n 2, 1) := by decide +kernel
theorem d30_3 : decode jdk_48_method_27_code 3 = .ok (.invokestatic 194, 3) := by decide +kernel
theorem d30_6 : decode jdk_48_method_27_code 6 = .ok (.iadd, 1) := by decide +kernel
theorem d30_7 : decode jdk_48_method_27_code 7 = .ok (.istore_n 3, 1) := by decide +kernel
theorem d30_8 : decode jdk_48_method_27_code 8 = .ok (.iconst 0, 1) := by decide +kernel
theorem d30_9 : decode jdk_48_method_27_code 9 = .ok (.iload_n 3, 1) := by decide +kernel
theorem d30_10 : decode jdk_48_method_27_code 10 = .ok (.if_icmp .ge 11, 3) := by decide +kernel
theorem d30_13 : decode jdk_48_method_27_code 13 = .ok (.iload_n 3, 1) := by decide +kernel
theorem d30_14 : decode jdk_48_method_27_code 14 = .ok (.ldc 200, 2) := by decide +kernel
theorem d30_16 : decode jdk_48_method_27_code 16 = .ok (.if_icmp .gt 5, 3) := by decide +kernel
theorem d30_19 : decode jdk_48_method_27_code 19 = .ok (.iload_n 3, 1) := by decide +kernel
theorem d30_20 : decode jdk_48_method_27_code 20 = .ok (.ireturn, 1) := by decide +kernel
theorem ef_ri_6 (m : MethodId) (x0 : Addr) (x1 : Int32) : entryFrame m #[(.ref x0), (.int x1)] 6 = mkF m 0 ⟨[.val (.ref x0), .val (.int x1), .unset, .unset, .unset, .unset]⟩ [] := by exact efOf rfl
theorem d31_0 : decode jdk_68_method_10_code 0 = .ok (.aload_n 0, 1) := by decide +kernel
theorem d31_1 : decode jdk_68_method_10_code 1 = .ok (.getfield 15, 3) := by decide +kernel
theorem d31_4 : decode jdk_68_method_10_code 4 = .ok (.arraylength, 1) := by decide +kernel
theorem d31_5 : decode jdk_68_method_10_code 5 = .ok (.istore_n 2, 1) := by decide +kernel
theorem d31_6 : decode jdk_68_method_10_code 6 = .ok (.iload_n 1, 1) := by decide +kernel
theorem d31_7 : decode jdk_68_method_10_code 7 = .ok (.aload_n 0, 1) := by decide +kernel
theorem d31_8 : decode jdk_68_method_10_code 8 = .ok (.getfield 22, 3) := by decide +kernel
theorem d31_11 : decode jdk_68_method_10_code 11 = .ok (.ishl, 1) := by decide +kernel
theorem d31_12 : decode jdk_68_method_10_code 12 = .ok (.istore_n 3, 1) := by decide +kernel
theorem d31_13 : decode jdk_68_method_10_code 13 = .ok (.iload_n 3, 1) := by decide +kernel
theorem d31_14 : decode jdk_68_method_10_code 14 = .ok (.iload_n 2, 1) := by decide +kernel
theorem d31_15 : decode jdk_68_method_10_code 15 = .ok (.isub, 1) := by decide +kernel
theorem d31_16 : decode jdk_68_method_10_code 16 = .ok (.istore 4, 2) := by decide +kernel
theorem d31_18 : decode jdk_68_method_10_code 18 = .ok (.iload_n 2, 1) := by decide +kernel
theorem d31_19 : decode jdk_68_method_10_code 19 = .ok (.iload 4, 2) := by decide +kernel
theorem d31_21 : decode jdk_68_method_10_code 21 = .ok (.iload_n 2, 1) := by decide +kernel
theorem d31_22 : decode jdk_68_method_10_code 22 = .ok (.iconst 2, 1) := by decide +kernel
theorem d31_23 : decode jdk_68_method_10_code 23 = .ok (.aload_n 0, 1) := by decide +kernel
theorem d31_24 : decode jdk_68_method_10_code 24 = .ok (.getfield 22, 3) := by decide +kernel
theorem d31_27 : decode jdk_68_method_10_code 27 = .ok (.ishl, 1) := by decide +kernel
theorem d31_28 : decode jdk_68_method_10_code 28 = .ok (.iadd, 1) := by decide +kernel
theorem d31_29 : decode jdk_68_method_10_code 29 = .ok (.invokestatic 114, 3) := by decide +kernel
theorem ar_20 : XT.arity "(III)I" = some 3 := by decide +kernel
theorem d31_32 : decode jdk_68_method_10_code 32 = .ok (.istore 5, 2) := by decide +kernel
theorem d31_34 : decode jdk_68_method_10_code 34 = .ok (.iload 5, 2) := by decide +kernel
theorem d31_36 : decode jdk_68_method_10_code 36 = .ok (.ldc 39, 2) := by decide +kernel
theorem d31_38 : decode jdk_68_method_10_code 38 = .ok (.if_icmp .ne 13, 3) := by decide +kernel
theorem d31_51 : decode jdk_68_method_10_code 51 = .ok (.iload 5, 2) := by decide +kernel
theorem d31_53 : decode jdk_68_method_10_code 53 = .ok (.aload_n 0, 1) := by decide +kernel
theorem d31_54 : decode jdk_68_method_10_code 54 = .ok (.getfield 22, 3) := by decide +kernel
theorem d31_57 : decode jdk_68_method_10_code 57 = .ok (.ishr, 1) := by decide +kernel
theorem d31_58 : decode jdk_68_method_10_code 58 = .ok (.ireturn, 1) := by decide +kernel
theorem d32_0 : decode jdk_65_method_121_code 0 = .ok (.iload_n 1, 1) := by decide +kernel
theorem d32_1 : decode jdk_65_method_121_code 1 = .ok (.aload_n 0, 1) := by decide +kernel
theorem d32_2 : decode jdk_65_method_121_code 2 = .ok (.arraylength, 1) := by decide +kernel
theorem d32_3 : decode jdk_65_method_121_code 3 = .ok (.if_icmp .ne 11, 3) := by decide +kernel
theorem d32_14 : decode jdk_65_method_121_code 14 = .ok (.iload_n 1, 1) := by decide +kernel
theorem d32_15 : decode jdk_65_method_121_code 15 = .ok (.newarray .byte, 2) := by decide +kernel
theorem d32_17 : decode jdk_65_method_121_code 17 = .ok (.astore_n 2, 1) := by decide +kernel
theorem d32_18 : decode jdk_65_method_121_code 18 = .ok (.aload_n 0, 1) := by decide +kernel
theorem d32_19 : decode jdk_65_method_121_code 19 = .ok (.iconst 0, 1) := by decide +kernel
theorem d32_20 : decode jdk_65_method_121_code 20 = .ok (.aload_n 2, 1) := by decide +kernel
theorem d32_21 : decode jdk_65_method_121_code 21 = .ok (.iconst 0, 1) := by decide +kernel
theorem d32_22 : decode jdk_65_method_121_code 22 = .ok (.aload_n 0, 1) := by decide +kernel
theorem d32_23 : decode jdk_65_method_121_code 23 = .ok (.arraylength, 1) := by decide +kernel
theorem d32_24 : decode jdk_65_method_121_code 24 = .ok (.iload_n 1, 1) := by decide +kernel
theorem d32_25 : decode jdk_65_method_121_code 25 = .ok (.invokestatic 304, 3) := by decide +kernel
theorem d32_28 : decode jdk_65_method_121_code 28 = .ok (.invokestatic 150, 3) := by decide +kernel
theorem d32_31 : decode jdk_65_method_121_code 31 = .ok (.aload_n 2, 1) := by decide +kernel
theorem d32_32 : decode jdk_65_method_121_code 32 = .ok (.areturn, 1) := by decide +kernel
theorem d15_17 : decode jdk_68_method_9_code 17 = .ok (.aload_n 0, 1) := by decide +kernel
theorem d15_18 : decode jdk_68_method_9_code 18 = .ok (.aload_n 0, 1) := by decide +kernel
theorem d15_19 : decode jdk_68_method_9_code 19 = .ok (.getfield 15, 3) := by decide +kernel
theorem d15_22 : decode jdk_68_method_9_code 22 = .ok (.aload_n 0, 1) := by decide +kernel
theorem d15_23 : decode jdk_68_method_9_code 23 = .ok (.iload_n 1, 1) := by decide +kernel
theorem d15_24 : decode jdk_68_method_9_code 24 = .ok (.invokevirtual 104, 3) := by decide +kernel
theorem ar_21 : XT.arity "(I)I" = some 1 := by decide +kernel
theorem d15_27 : decode jdk_68_method_9_code 27 = .ok (.aload_n 0, 1) := by decide +kernel
theorem d15_28 : decode jdk_68_method_9_code 28 = .ok (.getfield 22, 3) := by decide +kernel
theorem d15_31 : decode jdk_68_method_9_code 31 = .ok (.ishl, 1) := by decide +kernel
theorem d15_32 : decode jdk_68_method_9_code 32 = .ok (.invokestatic 108, 3) := by decide +kernel
theorem ar_22 : XT.arity "([BI)[B" = some 2 := by decide +kernel
theorem d15_35 : decode jdk_68_method_9_code 35 = .ok (.putfield 15, 3) := by decide +kernel
theorem d12_17 : decode jdk_65_method_132_code 17 = .ok (.aload_n 0, 1) := by decide +kernel
theorem d12_18 : decode jdk_65_method_132_code 18 = .ok (.invokevirtual 310, 3) := by decide +kernel
theorem d12_21 : decode jdk_65_method_132_code 21 = .ok (.checkcast 311, 3) := by decide +kernel
theorem d12_24 : decode jdk_65_method_132_code 24 = .ok (.areturn, 1) := by decide +kernel
theorem d33_0 : decode jdk_78_method_2_code 0 = .ok (.aload_n 0, 1) := by decide +kernel
theorem d33_1 : decode jdk_78_method_2_code 1 = .ok (.invokespecial 1, 3) := by decide +kernel
theorem d33_4 : decode jdk_78_method_2_code 4 = .ok (.aload_n 0, 1) := by decide +kernel
theorem d33_5 : decode jdk_78_method_2_code 5 = .ok (.aload_n 0, 1) := by decide +kernel
theorem d33_6 : decode jdk_78_method_2_code 6 = .ok (.putfield 7, 3) := by decide +kernel
theorem d33_9 : decode jdk_78_method_2_code 9 = .ok (.aload_n 0, 1) := by decide +kernel
theorem d33_10 : decode jdk_78_method_2_code 10 = .ok (.getstatic 13, 3) := by decide +kernel
theorem d33_13 : decode jdk_78_method_2_code 13 = .ok (.putfield 17, 3) := by decide +kernel
theorem d33_16 : decode jdk_78_method_2_code 16 = .ok (.aload_n 0, 1) := by decide +kernel
theorem d33_17 : decode jdk_78_method_2_code 17 = .ok (.getstatic 20, 3) := by decide +kernel
theorem d33_20 : decode jdk_78_method_2_code 20 = .ok (.putfield 24, 3) := by decide +kernel
theorem d33_23 : decode jdk_78_method_2_code 23 = .ok (.aload_n 0, 1) := by decide +kernel
theorem d33_24 : decode jdk_78_method_2_code 24 = .ok (.invokevirtual 27, 3) := by decide +kernel
theorem pn_10 : plainName "java/lang/Throwable" = true := by first | (simp [plainName, overriddenIn]; done) | decide +kernel
theorem d33_27 : decode jdk_78_method_2_code 27 = .ok (.pop, 1) := by decide +kernel
theorem d33_28 : decode jdk_78_method_2_code 28 = .ok (.aload_n 0, 1) := by decide +kernel
theorem d33_29 : decode jdk_78_method_2_code 29 = .ok (.aload_n 1, 1) := by decide +kernel
theorem d33_30 : decode jdk_78_method_2_code 30 = .ok (.putfield 31, 3) := by decide +kernel
theorem d33_33 : decode jdk_78_method_2_code 33 = .ok (.return_, 1) := by decide +kernel
theorem pn_11 : plainName "java/lang/Exception" = true := by first | (simp [plainName, overriddenIn]; done) | decide +kernel
theorem d34_0 : decode jdk_59_method_2_code 0 = .ok (.aload_n 0, 1) := by decide +kernel
theorem d34_1 : decode jdk_59_method_2_code 1 = .ok (.aload_n 1, 1) := by decide +kernel
theorem d34_2 : decode jdk_59_method_2_code 2 = .ok (.invokespecial 7, 3) := by decide +kernel
theorem d34_5 : decode jdk_59_method_2_code 5 = .ok (.return_, 1) := by decide +kernel
theorem pn_12 : plainName "org/claimbridge/cli/BadUsageException" = true := by first | (simp [plainName, overriddenIn]; done) | decide +kernel
theorem d35_0 : decode prog_4_method_1_code 0 = .ok (.aload_n 0, 1) := by decide +kernel
theorem d35_1 : decode prog_4_method_1_code 1 = .ok (.aload_n 1, 1) := by decide +kernel
theorem d35_2 : decode prog_4_method_1_code 2 = .ok (.invokespecial 1, 3) := by decide +kernel
theorem d35_5 : decode prog_4_method_1_code 5 = .ok (.return_, 1) := by decide +kernel
theorem d36_0 : decode jdk_78_method_6_code 0 = .ok (.aload_n 0, 1) := by decide +kernel
theorem d36_1 : decode jdk_78_method_6_code 1 = .ok (.getfield 31, 3) := by decide +kernel
theorem d36_4 : decode jdk_78_method_6_code 4 = .ok (.areturn, 1) := by decide +kernel
theorem d37_0 : decode prog_4_method_2_code 0 = .ok (.new 7, 3) := by decide +kernel
theorem d37_3 : decode prog_4_method_2_code 3 = .ok (.dup, 1) := by decide +kernel
theorem d37_4 : decode prog_4_method_2_code 4 = .ok (.new 9, 3) := by decide +kernel
theorem d37_7 : decode prog_4_method_2_code 7 = .ok (.dup, 1) := by decide +kernel
theorem d37_8 : decode prog_4_method_2_code 8 = .ok (.invokespecial 11, 3) := by decide +kernel
theorem ar_23 : XT.arity "()V" = some 0 := by decide +kernel
theorem d37_11 : decode prog_4_method_2_code 11 = .ok (.aload_n 0, 1) := by decide +kernel
theorem d37_12 : decode prog_4_method_2_code 12 = .ok (.invokevirtual 14, 3) := by decide +kernel
theorem ar_24 : XT.arity "(Ljava/lang/String;)Ljava/lang/StringBuilder;" = some 1 := by decide +kernel
theorem d37_15 : decode prog_4_method_2_code 15 = .ok (.ldc 18, 2) := by decide +kernel
theorem d37_17 : decode prog_4_method_2_code 17 = .ok (.invokevirtual 14, 3) := by decide +kernel
theorem d37_20 : decode prog_4_method_2_code 20 = .ok (.aload_n 1, 1) := by decide +kernel
theorem d37_21 : decode prog_4_method_2_code 21 = .ok (.invokevirtual 14, 3) := by decide +kernel
theorem d37_24 : decode prog_4_method_2_code 24 = .ok (.ldc 20, 2) := by decide +kernel
theorem d37_26 : decode prog_4_method_2_code 26 = .ok (.invokevirtual 14, 3) := by decide +kernel
theorem d37_29 : decode prog_4_method_2_code 29 = .ok (.invokevirtual 22, 3) := by decide +kernel
theorem ar_25 : XT.arity "()Ljava/lang/String;" = some 0 := by decide +kernel
theorem d37_32 : decode prog_4_method_2_code 32 = .ok (.invokespecial 26, 3) := by decide +kernel
theorem d37_35 : decode prog_4_method_2_code 35 = .ok (.areturn, 1) := by decide +kernel
theorem ef_ii_17 (m : MethodId) (x0 : Int32) (x1 : Int32) : entryFrame m #[(.int x0), (.int x1)] 17 = mkF m 0 ⟨[.val (.int x0), .val (.int x1), .unset, .unset, .unset, .unset, .unset, .unset, .unset, .unset, .unset, .unset, .unset, .unset, .unset, .unset, .unset]⟩ [] := by exact efOf rfl
theorem ar_26 : XT.arity "(ICC)Ljava/lang/String;" = some 3 := by decide +kernel
theorem ar_27 : XT.arity "(Ljava/lang/String;Ljava/lang/String;)Lorg/claimbridge/cli/BadUsageException;" = some 2 := by decide +kernel
theorem ar_28 : XT.arity "(Ljava/lang/Object;)Z" = some 1 := by decide +kernel
theorem layS_ok {Z : State} {a0 : Array Value} (hw : ∀ d ∈ tables_1, d.before a0 Z = true) : LayOk Z a0 "java/lang/String" layS := by
  refine ⟨fun f hf => ?_, by decide +kernel, fun f hf => ?_⟩
  all_goals simp only [layS, List.mem_cons, List.not_mem_nil, or_false] at hf
  all_goals rcases hf with rfl | rfl
  · exact Or.inr (hw _ (List.mem_of_getElem? (i := 20) rfl))
  · exact Or.inr (hw _ (List.mem_of_getElem? (i := 21) rfl))
  · exact ⟨(.array .byte), by decide +kernel⟩
  · exact ⟨.byte, by decide +kernel⟩
theorem layS_dv : Dv layS [.null, (.int 0)] := by decide +kernel
/-- the byte of a sign -/
def b8 (c : Int32) : Int32 := c.toInt8.toInt32
def toB (c : Int32) : Value := .int (b8 c)
theorem toB_eq (cs : List Int32) : cs.map toB = (cs.map b8).map .int := by rw [List.map_map]; rfl
def Lat (cs : List Int32) : Prop := ∀ c ∈ cs, 0 ≤ c.toInt ∧ c.toInt < 256
theorem lat_nil : Lat [] := fun _ h => nomatch h
theorem lat_cons {c : Int32} {cs : List Int32} (h : 0 ≤ c.toInt ∧ c.toInt < 256) (t : Lat cs) : Lat (c :: cs) := fun x hx => (List.mem_cons.mp hx).elim (fun e => e ▸ h) (t x)
theorem lat_le {c : Int32} (h : 0 ≤ c.toInt ∧ c.toInt < 256) : ¬ (255 : Int32) < c := by rw [Int32.lt_iff_toInt_lt]; show ¬ (255 : Int) < _; omega
theorem toB_nar (c : Int32) : nar .byte c.toInt8.toInt32 = c.toInt8.toInt32 := by simp [nar]
theorem set_mid (cs : List Int32) (i : Nat) (h : i < cs.length) : ((cs.take i).map toB ++ List.replicate (cs.length - i) (Value.int 0)).set i (toB cs[i]) = (cs.take (i + 1)).map toB ++ List.replicate (cs.length - (i + 1)) (Value.int 0) := by
  have h1 : ((cs.take i).map toB).length = i := by simp; omega
  rw [List.set_append_right _ _ (by omega), h1, Nat.sub_self, show cs.length - i = (cs.length - (i + 1)) + 1 by omega, List.replicate_succ, List.set_cons_zero, List.take_succ_eq_append_getElem h, List.map_append, List.append_assoc]
  rfl
theorem nchar_lat {c : Int32} (h : 0 ≤ c.toInt ∧ c.toInt < 256) : nar .char c = c := by
  apply Int32.toInt_inj.mp
  have q := c_i2c c
  show c.toUInt32.toUInt16.toUInt32.toInt32.toInt = c.toInt
  omega
theorem b8_toInt {c : Int32} (h : 0 ≤ c.toInt ∧ c.toInt < 256) : (b8 c).toInt = if c.toInt < 128 then c.toInt else c.toInt - 256 := by
  have q := c_i2b c
  show c.toInt8.toInt32.toInt = _
  split <;> omega
theorem b8_iff {c d e : Int32} (h : 0 ≤ c.toInt ∧ c.toInt < 256) (h' : 0 ≤ d.toInt ∧ d.toInt < 256) (he : b8 d = e) : b8 c = e ↔ c = d := by
  subst he
  refine ⟨fun q => Int32.toInt_inj.mp ?_, fun q => by rw [q]⟩
  have := congrArg Int32.toInt q
  rw [b8_toInt h, b8_toInt h'] at this
  split at this <;> split at this <;> omega
set_option maxHeartbeats 4000000 in
theorem wk_compressL {l : Launch} {Z : State} {a0 : Array Value} (hw : ∀ d ∈ tables_1, d.before a0 Z = true) (hE : EW Z a0 EL0) {L : Store} {ca b : Addr} {fa : Bool} {cs : List Int32} (hc : Lat cs) (hl : cs.length < 2 ^ 31) (hm : (ca, fa, AR Z .char (cs.map .int)) ∈ L) {cb sb : Nat} : ∀ (k i : Nat) (o : Slot), i + k = cs.length → One o →
    Wk l Z a0 EL0 (⟨"java/lang/StringUTF16", "compress", "([CI[BII)I"⟩ : MethodName) jdk_52_method_21_code 7 (some .int) ({ frames := 0, cells := 0, slots := 0, locals := 0 } : Room) (RV fun u M => u = .int cs.length.toInt32 ∧ M = (b, true, AR Z .byte ((cs.map b8).map .int)) :: L) ((b, true, AR Z .byte ((cs.take i).map toB ++ List.replicate (cs.length - i) (.int 0))) :: L) cb sb 3 [.val (.ref ca), .val (.int i.toInt32), .val (.ref b), .val (.int i.toInt32), .val (.int cs.length.toInt32), .val (.int i.toInt32), o] [] := by
  intro k
  induction k with
  | zero =>
    intro i o hi ho
    have hi' : i = cs.length := by omega
    subst hi'
    refine Wk.iload (q := 5) d0_3 rfl rfl ?_
    refine Wk.iload (q := 7) d0_5 rfl rfl ?_
    refine Wk.icmp_t (q := 44) d0_7 (by decide) (by decide) (XT.ii_ge_t (fun h => by rw [n32_lt hl hl] at h; omega)) ?_
    refine Wk.iload (q := 46) d0_44 rfl rfl ?_
    refine Wk.ireturn (t := .int) d0_46 rfl (by simp) (by rfl) ?_
    refine ⟨_, rfl, rfl, ?_⟩
    rw [← toB_eq]
    simp
  | succ k ih =>
    intro i o hi ho
    have hil : i < cs.length := by omega
    have hi3 : i < 2 ^ 31 := by omega
    have hv : (cs.map Value.int)[i]? = some (.int cs[i]) := by simp [hil]
    have hci := hc cs[i] (List.getElem_mem hil)
    refine Wk.iload (q := 5) d0_3 rfl rfl ?_
    refine Wk.iload (q := 7) d0_5 rfl rfl ?_
    refine Wk.icmp_f (q := 10) d0_7 rfl (XT.ii_ge_f ((n32_lt hi3 hl).mpr hil)) ?_
    refine Wk.aload_n (q := 11) d0_10 rfl rfl (by first | rfl | assumption) ?_
    refine Wk.iload_n (q := 12) d0_11 rfl rfl ?_
    refine Wk.caload (q := 13) (i) d0_12 rfl (by repeat (first | exact List.mem_cons_self | assumption | refine List.mem_cons_of_mem _ ?_)) (n32_nn hi3) (n32_nat hi3) hv ?_
    refine Wk.istore (q := 15) d0_13 rfl (LS1.there (LS1.there (LS1.there (LS1.there (LS1.there (LS1.there (LS1.here (by first | exact One.u | exact One.val rfl | assumption)))))))) ?_
    refine Wk.iload (q := 17) d0_15 rfl rfl ?_
    refine Wk.sipush (q := 20) (255) d0_17 rfl (by decide) ?_
    refine Wk.icmp_t (q := 26) d0_20 (by decide) (by decide) (XT.ii_le_t (lat_le hci)) ?_
    refine Wk.aload_n (q := 27) d0_26 rfl rfl (by first | rfl | assumption) ?_
    refine Wk.iload_n (q := 28) d0_27 rfl rfl ?_
    refine Wk.iload (q := 30) d0_28 rfl rfl ?_
    refine Wk.i2b (q := 31) d0_30 rfl ?_
    refine Wk.bastore (q := 32) (i) d0_31 rfl (by repeat (first | exact Ex.here | assumption | apply Ex.there)) (n32_nn hi3) (n32_nat hi3) (toB_nar _) ⟨set_mid cs i hil, by simp; omega⟩ ?_
    refine Wk.iinc (q := 35) (1) d0_32 rfl (by decide) rfl (LS1.there (LS1.here (by first | exact One.u | exact One.val rfl | assumption))) ?_
    refine Wk.iinc (q := 38) (1) d0_35 rfl (by decide) rfl (LS1.there (LS1.there (LS1.there (LS1.here (by first | exact One.u | exact One.val rfl | assumption))))) ?_
    refine Wk.iinc (q := 41) (1) d0_38 rfl (by decide) rfl (LS1.there (LS1.there (LS1.there (LS1.there (LS1.there (LS1.here (by first | exact One.u | exact One.val rfl | assumption))))))) ?_
    refine Wk.goto (q := 3) d0_41 (by decide) (by decide) ?_
    rw [n32_succ]
    exact ih (i + 1) _ (by omega) (One.val rfl)
set_option maxHeartbeats 4000000 in
theorem ct_compressL {l : Launch} {Z : State} {a0 : Array Value} (hw : ∀ d ∈ tables_1, d.before a0 Z = true) (hE : EW Z a0 EL0) {L : Store} {ca b : Addr} {fa : Bool} {cs : List Int32} (hc : Lat cs) (hl : cs.length < 2 ^ 31) (hm : (ca, fa, AR Z .char (cs.map .int)) ∈ L) :
    Ct l Z EL0 (⟨"java/lang/StringUTF16", "compress", "([CI[BII)I"⟩ : MethodName) jdk_52_method_21_code 7 (some .int) ({ frames := 0, cells := 0, slots := 0, locals := 0 } : Room) #[.ref ca, .int 0, .ref b, .int 0, .int cs.length.toInt32] ((b, true, AR Z .byte (List.replicate cs.length (.int 0))) :: L) (RV fun u M => u = .int cs.length.toInt32 ∧ M = (b, true, AR Z .byte ((cs.map b8).map .int)) :: L) := by
  refine Ct.of (a0 := a0) (Ls := [.val (.ref _), .val (.int _), .val (.ref _), .val (.int _), .val (.int _), .unset, .unset]) (plainFor_of_name pn_0) (fun m => ef_ririi_7 m _ _ _ _ _) hE ?_
  refine Wk.iconst (q := 1) (0) d0_0 rfl (by decide) ?_
  refine Wk.istore (q := 3) d0_1 rfl (LS1.there (LS1.there (LS1.there (LS1.there (LS1.there (LS1.here (by first | exact One.u | exact One.val rfl | assumption))))))) ?_
  have h := wk_compressL hw hE (l := l) (b := b) (cb := 0) (sb := 0) hc hl hm cs.length 0 .unset (by omega) One.u
  simp only [List.take_zero, List.map_nil, List.nil_append, Nat.sub_zero] at h
  exact h
theorem ct_coderLat {l : Launch} {Z : State} {a0 : Array Value} (hw : ∀ d ∈ tables_1, d.before a0 Z = true) (hE : EW Z a0 EL0) {L : Store} {b : Addr} {fb : Bool} {vs : List Value} (hm : (b, fb, AR Z .byte vs) ∈ L) :
    Ct l Z EL0 (⟨"java/lang/StringUTF16", "coderFromArrayLen", "([BI)B"⟩ : MethodName) jdk_52_method_15_code 2 (some .byte) ({ frames := 0, cells := 0, slots := 0, locals := 0 } : Room) #[.ref b, .int vs.length.toInt32] L (RV fun u M => u = .int 0 ∧ M = L) := by
  refine Ct.of (a0 := a0) (Ls := [.val (.ref _), .val (.int _)]) (plainFor_of_name pn_0) (fun m => ef_ri_2 m _ _) hE ?_
  refine Wk.iload_n (q := 1) d1_0 rfl rfl ?_
  refine Wk.aload_n (q := 2) d1_1 rfl rfl (by first | rfl | assumption) ?_
  refine Wk.arraylength (q := 3) d1_2 rfl (by repeat (first | exact List.mem_cons_self | assumption | refine List.mem_cons_of_mem _ ?_)) (by rfl) ?_
  refine Wk.isub (q := 4) d1_3 rfl ?_
  rw [Int32.sub_self]
  refine Wk.bipush (q := 6) (31) d1_4 rfl (by decide) ?_
  refine Wk.iushr (q := 7) d1_6 rfl ?_
  refine Wk.i2b (q := 8) d1_7 rfl ?_
  refine Wk.ireturn (t := .byte) d1_8 rfl (by simp) (by decide) ?_
  exact ⟨_, rfl, by decide, rfl⟩
set_option maxHeartbeats 4000000 in
theorem ct_compressA {l : Launch} {Z : State} {a0 : Array Value} (hw : ∀ d ∈ tables_1, d.before a0 Z = true) (hE : EW Z a0 EL0) {L : Store} {ca : Addr} {fa : Bool} {cs : List Int32} (hc : Lat cs) (N : Nat) (hN : cs.length ≤ N) (hl : cs.length ≤ 4000) (hm : (ca, fa, AR Z .char (cs.map .int)) ∈ L) :
    Ct l Z EL0 (⟨"java/lang/StringUTF16", "compress", "([CII)[B"⟩ : MethodName) jdk_52_method_16_code 6 (some (.array .byte)) ({ frames := 1, cells := 1, slots := N, locals := 18 } : Room) #[.ref ca, .int 0, .int cs.length.toInt32] L (RV fun u M => ∃ b, u = .ref b ∧ M = (b, true, AR Z .byte ((cs.map b8).map .int)) :: L) := by
  have h31 : cs.length < 2 ^ 31 := by omega
  refine Ct.of (a0 := a0) (Ls := [.val (.ref _), .val (.int _), .val (.int _), .unset, .unset, .unset]) (plainFor_of_name pn_0) (fun m => ef_rii_6 m _ _ _) hE ?_
  refine Wk.iload_n (q := 1) d2_0 rfl rfl ?_
  refine Wk.newarray (q := 3) .byte ((cs.length)) (List.replicate (cs.length) (.int 0)) d2_1 rfl rfl rfl (hw _ (List.mem_of_getElem? (i := 19) rfl)) (n32_nn h31) (n32_nat h31) (by omega) (by first | decide | (dsimp only; omega) | omega) (by first | decide | (dsimp only; omega) | omega) ?_
  intro b
  refine Wk.astore_n (q := 4) d2_3 rfl (by first | rfl | assumption) (LS1.there (LS1.there (LS1.there (LS1.here (by first | exact One.u | exact One.val rfl | assumption))))) ?_
  refine Wk.aload_n (q := 5) d2_4 rfl rfl (by first | rfl | assumption) ?_
  refine Wk.iload_n (q := 6) d2_5 rfl rfl ?_
  refine Wk.aload_n (q := 7) d2_6 rfl rfl (by first | rfl | assumption) ?_
  refine Wk.iconst (q := 8) (0) d2_7 rfl (by decide) ?_
  refine Wk.iload_n (q := 9) d2_8 rfl rfl ?_
  refine Wk.static (q := 12) [_, _, _, _, _] _ 0 d2_9 rfl (hw _ (List.mem_of_getElem? (i := 31) rfl)) (hw _ (List.mem_of_getElem? (i := 32) rfl)) (hw _ (List.mem_of_getElem? (i := 29) rfl)) (hw _ (List.mem_of_getElem? (i := 33) rfl)) ar_0 (by decide) rfl rfl rfl rfl (ct_compressL hw hE hc h31 hm) (by first | decide | (dsimp only; omega) | omega) (by first | decide | (dsimp only; omega) | omega) (by first | decide | (dsimp only; omega) | omega) (by first | decide | (dsimp only; omega) | omega) (kv ?_)
  rintro _ _ ⟨rfl, rfl⟩
  refine Wk.istore (q := 14) d2_12 rfl (LS1.there (LS1.there (LS1.there (LS1.there (LS1.here (by first | exact One.u | exact One.val rfl | assumption)))))) ?_
  refine Wk.iload (q := 16) d2_14 rfl rfl ?_
  refine Wk.iload_n (q := 17) d2_16 rfl rfl ?_
  refine Wk.icmp_t (q := 57) d2_17 (by decide) (by decide) (XT.ii_eq_t rfl) ?_
  refine Wk.aload_n (q := 58) d2_57 rfl rfl (by first | rfl | assumption) ?_
  refine Wk.areturn (t := (.array .byte)) d2_58 rfl rfl (by first | rfl | exact narO | exact narA) (by first | rfl | assumption) ?_
  exact ⟨_, rfl, b, rfl, rfl⟩
set_option maxHeartbeats 4000000 in
theorem ct_strInit4 {l : Launch} {Z : State} {a0 : Array Value} (hw : ∀ d ∈ tables_1, d.before a0 Z = true) (hE : EW Z a0 EL0) (F : ∃ z, z ≠ (0 : Int32) ∧ Sta Z Z.heap "java/lang/String" "COMPACT_STRINGS" "Z" (.int z)) {L : Store} {sa ca : Addr} {fa : Bool} {cs : List Int32} (hc : Lat cs) (h0 : cs ≠ []) (N : Nat) (hN : cs.length ≤ N) (hl : cs.length ≤ 4000) (hm : (ca, fa, AR Z .char (cs.map .int)) ∈ L) :
    Ct l Z EL0 (⟨"java/lang/String", "<init>", "([CIILjava/lang/Void;)V"⟩ : MethodName) jdk_42_method_149_code 6 none ({ frames := 2, cells := 1, slots := N, locals := 35 } : Room) #[.ref sa, .ref ca, .int 0, .int cs.length.toInt32, .null] ((sa, true, OB Z "java/lang/String" layS [.null, .int 0]) :: L) (R0 fun M => ∃ b, M = (sa, true, OB Z "java/lang/String" layS [.ref b, .int 0]) :: (b, true, AR Z .byte ((cs.map b8).map .int)) :: L) := by
  have h31 : cs.length < 2 ^ 31 := by omega
  have hp : 0 < cs.length := List.length_pos_iff.mpr h0
  obtain ⟨z, hz, FS⟩ := F
  refine Ct.of (a0 := a0) (Ls := [.val (.ref _), .val (.ref _), .val (.int _), .val (.int _), .val .null, .unset]) (plainFor_of_name pn_1) (fun m => ef_rriin_6 m _ _ _ _) hE ?_
  refine Wk.aload_n (q := 1) d3_0 rfl rfl (by first | rfl | assumption) ?_
  refine Wk.objinit (q := 4) 0 d3_1 rfl (hw _ (List.mem_of_getElem? (i := 15) rfl)) (hw _ (List.mem_of_getElem? (i := 16) rfl)) (hw _ (List.mem_of_getElem? (i := 17) rfl)) rfl (by first | decide | (dsimp only; omega) | omega) rfl (by first | decide | (dsimp only; omega) | omega) ?_
  refine Wk.iload_n (q := 5) d3_4 rfl rfl ?_
  refine Wk.if_t (q := 27) d3_5 (by decide) (by decide) (XT.i0_ne_t (fun h => by have := (n32_inj h31 (by omega : 0 < 2 ^ 31)).mp h; omega)) ?_
  refine Wk.getstatic (q := 30) d3_27 rfl (hw _ (List.mem_of_getElem? (i := 26) rfl)) Via.refl FS ?_
  refine Wk.if_f (q := 33) d3_30 rfl (XT.i0_eq_f hz) ?_
  refine Wk.aload_n (q := 34) d3_33 rfl rfl (by first | rfl | assumption) ?_
  refine Wk.iload_n (q := 35) d3_34 rfl rfl ?_
  refine Wk.iload_n (q := 36) d3_35 rfl rfl ?_
  refine Wk.static (q := 39) [_, _, _] _ 0 d3_36 rfl (hw _ (List.mem_of_getElem? (i := 27) rfl)) (hw _ (List.mem_of_getElem? (i := 28) rfl)) (hw _ (List.mem_of_getElem? (i := 29) rfl)) (hw _ (List.mem_of_getElem? (i := 30) rfl)) ar_1 (by decide) rfl rfl rfl rfl (ct_compressA hw hE hc N hN hl (List.mem_cons_of_mem _ hm)) (by first | decide | (dsimp only; omega) | omega) (by first | decide | (dsimp only; omega) | omega) (by first | decide | (dsimp only; omega) | omega) (by first | decide | (dsimp only; omega) | omega) (kv ?_)
  rintro _ _ ⟨b, rfl, rfl⟩
  refine Wk.astore (q := 41) d3_39 rfl (by first | rfl | assumption) (LS1.there (LS1.there (LS1.there (LS1.there (LS1.there (LS1.here (by first | exact One.u | exact One.val rfl | assumption))))))) ?_
  refine Wk.aload_n (q := 42) d3_41 rfl rfl (by first | rfl | assumption) ?_
  refine Wk.aload (q := 44) d3_42 rfl rfl (by first | rfl | assumption) ?_
  refine Wk.iload_n (q := 45) d3_44 rfl rfl ?_
  rw [show cs.length = ((cs.map b8).map Value.int).length by simp]
  refine Wk.static (q := 48) [_, _] _ 1 d3_45 rfl (hw _ (List.mem_of_getElem? (i := 34) rfl)) (hw _ (List.mem_of_getElem? (i := 35) rfl)) (hw _ (List.mem_of_getElem? (i := 29) rfl)) (hw _ (List.mem_of_getElem? (i := 36) rfl)) ar_2 (by decide) rfl rfl rfl rfl (ct_coderLat hw hE List.mem_cons_self) (by first | decide | (dsimp only; omega) | omega) (by first | decide | (dsimp only; omega) | omega) (by first | decide | (dsimp only; omega) | omega) (by first | decide | (dsimp only; omega) | omega) (kv ?_)
  rintro _ _ ⟨rfl, rfl⟩
  refine Wk.putfield (q := 51) (C := "java/lang/String") (lay := layS) 1 d3_48 rfl (hw _ (List.mem_of_getElem? (i := 25) rfl)) Via.refl (layS_ok hw) (hw _ (List.mem_of_getElem? (i := 5) rfl)) (Or.inr ⟨(hw _ (List.mem_of_getElem? (i := 21) rfl)), rfl, rfl⟩) rfl (by decide +kernel : parseFieldDescriptor "B" = some .byte) (by repeat (first | exact Ex.here | assumption | apply Ex.there)) (VS.there (VS.here)) (by first | rfl | exact narO) (by first | rfl | exact fitO (by assumption) | exact fitA (by assumption)) ?_
  refine Wk.aload_n (q := 52) d3_51 rfl rfl (by first | rfl | assumption) ?_
  refine Wk.aload (q := 54) d3_52 rfl rfl (by first | rfl | assumption) ?_
  refine Wk.putfield (q := 57) (C := "java/lang/String") (lay := layS) 0 d3_54 rfl (hw _ (List.mem_of_getElem? (i := 24) rfl)) Via.refl (layS_ok hw) (hw _ (List.mem_of_getElem? (i := 5) rfl)) (Or.inr ⟨(hw _ (List.mem_of_getElem? (i := 20) rfl)), rfl, rfl⟩) rfl (by decide +kernel : parseFieldDescriptor "[B" = some (.array .byte)) (by repeat (first | exact Ex.here | assumption | apply Ex.there)) (VS.here) (by first | rfl | exact narO) (by first | rfl | exact fitO (by assumption) | exact fitA (by assumption)) ?_
  refine Wk.return_ d3_57 rfl ?_
  exact ⟨rfl, b, rfl⟩
set_option maxHeartbeats 4000000 in
theorem ct_strInit {l : Launch} {Z : State} {a0 : Array Value} (hw : ∀ d ∈ tables_1, d.before a0 Z = true) (hE : EW Z a0 EL0) (F : ∃ z, z ≠ (0 : Int32) ∧ Sta Z Z.heap "java/lang/String" "COMPACT_STRINGS" "Z" (.int z)) {L : Store} {sa ca : Addr} {fa : Bool} {cs : List Int32} (hc : Lat cs) (h0 : cs ≠ []) (N : Nat) (hN : cs.length ≤ N) (hl : cs.length ≤ 4000) (hm : (ca, fa, AR Z .char (cs.map .int)) ∈ L) :
    Ct l Z EL0 (⟨"java/lang/String", "<init>", "([C)V"⟩ : MethodName) jdk_42_method_3_code 2 none ({ frames := 3, cells := 1, slots := N, locals := 52 } : Room) #[.ref sa, .ref ca] ((sa, true, OB Z "java/lang/String" layS [.null, .int 0]) :: L) (R0 fun M => ∃ b, M = (sa, true, OB Z "java/lang/String" layS [.ref b, .int 0]) :: (b, true, AR Z .byte ((cs.map b8).map .int)) :: L) := by
  refine Ct.of (a0 := a0) (Ls := [.val (.ref _), .val (.ref _)]) (plainFor_of_name pn_1) (fun m => ef_rr_2 m _ _) hE ?_
  refine Wk.aload_n (q := 1) d4_0 rfl rfl (by first | rfl | assumption) ?_
  refine Wk.aload_n (q := 2) d4_1 rfl rfl (by first | rfl | assumption) ?_
  refine Wk.iconst (q := 3) (0) d4_2 rfl (by decide) ?_
  refine Wk.aload_n (q := 4) d4_3 rfl rfl (by first | rfl | assumption) ?_
  refine Wk.arraylength (q := 5) d4_4 rfl (by repeat (first | exact List.mem_cons_self | assumption | refine List.mem_cons_of_mem _ ?_)) (show (cs.map Value.int).length.toInt32 = cs.length.toInt32 by simp) ?_
  refine Wk.aconst_null (q := 6) d4_5 rfl ?_
  refine Wk.special (q := 9) [_, _, _, _] _ 0 d4_6 rfl rfl (hw _ (List.mem_of_getElem? (i := 11) rfl)) (hw _ (List.mem_of_getElem? (i := 12) rfl)) (hw _ (List.mem_of_getElem? (i := 6) rfl)) (hw _ (List.mem_of_getElem? (i := 14) rfl)) ar_3 (by decide) rfl rfl rfl rfl (ct_strInit4 hw hE F hc h0 N hN hl hm) (by first | decide | (dsimp only; omega) | omega) (by first | decide | (dsimp only; omega) | omega) (by first | decide | (dsimp only; omega) | omega) (by first | decide | (dsimp only; omega) | omega) (k0 ?_)
  rintro _ ⟨b, rfl⟩
  refine Wk.return_ d4_9 rfl ?_
  exact ⟨rfl, b, rfl⟩

set_option maxHeartbeats 4000000 in
theorem ct_strInit4e {l : Launch} {Z : State} {a0 : Array Value} (hw : ∀ d ∈ tables_1, d.before a0 Z = true) (hE : EW Z a0 EL0) {L : Store} {sa ca : Addr} :
    Ct l Z EL0 (⟨"java/lang/String", "<init>", "([CIILjava/lang/Void;)V"⟩ : MethodName) jdk_42_method_149_code 6 none ({ frames := 2, cells := 4, slots := 8, locals := 35 } : Room) #[.ref sa, .ref ca, .int 0, .int 0, .null] ((sa, true, OB Z "java/lang/String" layS [.null, .int 0]) :: L) (R0 fun M => ∃ b, M = (sa, true, OB Z "java/lang/String" layS [.ref b, .int 0]) :: (b, false, AR Z .byte []) :: L) := by
  refine Ct.of (a0 := a0) (Ls := [.val (.ref _), .val (.ref _), .val (.int _), .val (.int _), .val .null, .unset]) (plainFor_of_name pn_1) (fun m => ef_rriin_6 m _ _ _ _) hE ?_
  refine Wk.aload_n (q := 1) d3_0 rfl rfl (by first | rfl | assumption) ?_
  refine Wk.objinit (q := 4) 0 d3_1 rfl (hw _ (List.mem_of_getElem? (i := 15) rfl)) (hw _ (List.mem_of_getElem? (i := 16) rfl)) (hw _ (List.mem_of_getElem? (i := 17) rfl)) rfl (by first | decide | (dsimp only; omega) | omega) rfl (by first | decide | (dsimp only; omega) | omega) ?_
  refine Wk.iload_n (q := 5) d3_4 rfl rfl ?_
  refine Wk.if_f (q := 8) d3_5 rfl (by decide) ?_
  refine Wk.aload_n (q := 9) d3_8 rfl rfl (by first | rfl | assumption) ?_
  refine Wk.ldcS (q := 11) 0 [] 0 d3_9 rfl (hw _ (List.mem_of_getElem? (i := 18) rfl)) (wS hw) (by decide +kernel) (by decide +kernel) (by decide) (by decide) (by decide +kernel) (by decide) (by first | decide | (dsimp only; omega) | omega) (by first | decide | (dsimp only; omega) | omega) ?_
  intro t1 b1
  refine Wk.getfield (q := 14) (C := "java/lang/String") (lay := layS) 0 d3_11 rfl (hw _ (List.mem_of_getElem? (i := 24) rfl)) Via.refl (by repeat (first | exact List.mem_cons_self | assumption | refine List.mem_cons_of_mem _ ?_)) rfl (by rfl) ?_
  refine Wk.putfield (q := 17) (C := "java/lang/String") (lay := layS) 0 d3_14 rfl (hw _ (List.mem_of_getElem? (i := 24) rfl)) Via.refl (layS_ok hw) (hw _ (List.mem_of_getElem? (i := 5) rfl)) (Or.inr ⟨(hw _ (List.mem_of_getElem? (i := 20) rfl)), rfl, rfl⟩) rfl (by decide +kernel : parseFieldDescriptor "[B" = some (.array .byte)) (by repeat (first | exact Ex.here | assumption | apply Ex.there)) (VS.here) (by first | rfl | exact narO) (by first | rfl | exact fitO (by assumption) | exact fitA (by assumption)) ?_
  refine Wk.aload_n (q := 18) d3_17 rfl rfl (by first | rfl | assumption) ?_
  refine Wk.ldcS (q := 20) 0 [] 0 d3_18 rfl (hw _ (List.mem_of_getElem? (i := 18) rfl)) (wS hw) (by decide +kernel) (by decide +kernel) (by decide) (by decide) (by decide +kernel) (by decide) (by first | decide | (dsimp only; omega) | omega) (by first | decide | (dsimp only; omega) | omega) ?_
  intro t2 b2
  refine Wk.getfield (q := 23) (C := "java/lang/String") (lay := layS) 1 d3_20 rfl (hw _ (List.mem_of_getElem? (i := 25) rfl)) Via.refl (by repeat (first | exact List.mem_cons_self | assumption | refine List.mem_cons_of_mem _ ?_)) rfl (by rfl) ?_
  refine Wk.putfield (q := 26) (C := "java/lang/String") (lay := layS) 1 d3_23 rfl (hw _ (List.mem_of_getElem? (i := 25) rfl)) Via.refl (layS_ok hw) (hw _ (List.mem_of_getElem? (i := 5) rfl)) (Or.inr ⟨(hw _ (List.mem_of_getElem? (i := 21) rfl)), rfl, rfl⟩) rfl (by decide +kernel : parseFieldDescriptor "B" = some .byte) (by repeat (first | exact Ex.here | assumption | apply Ex.there)) (VS.there (VS.here)) (by first | rfl | exact narO) (by first | rfl | exact fitO (by assumption) | exact fitA (by assumption)) ?_
  refine Wk.sub (.cons_cons _ (.cons _ (.cons _ (.cons _ (.refl _))))) ?_
  refine Wk.return_ d3_26 rfl ?_
  exact ⟨rfl, b1, rfl⟩
set_option maxHeartbeats 4000000 in
theorem ct_strInitG {l : Launch} {Z : State} {a0 : Array Value} (hw : ∀ d ∈ tables_1, d.before a0 Z = true) (hE : EW Z a0 EL0) (F : ∃ z, z ≠ (0 : Int32) ∧ Sta Z Z.heap "java/lang/String" "COMPACT_STRINGS" "Z" (.int z)) {L : Store} {sa ca : Addr} {fa : Bool} {cs : List Int32} (hc : Lat cs) (N : Nat) (hN : cs.length ≤ N) (hl : cs.length ≤ 4000) (hm : (ca, fa, AR Z .char (cs.map .int)) ∈ L) :
    Ct l Z EL0 (⟨"java/lang/String", "<init>", "([C)V"⟩ : MethodName) jdk_42_method_3_code 2 none ({ frames := 3, cells := 4, slots := N + 8, locals := 52 } : Room) #[.ref sa, .ref ca] ((sa, true, OB Z "java/lang/String" layS [.null, .int 0]) :: L) (R0 fun M => ∃ b fb, M = (sa, true, OB Z "java/lang/String" layS [.ref b, .int 0]) :: (b, fb, AR Z .byte ((cs.map b8).map .int)) :: L) := by
  refine Ct.of (a0 := a0) (Ls := [.val (.ref _), .val (.ref _)]) (plainFor_of_name pn_1) (fun m => ef_rr_2 m _ _) hE ?_
  refine Wk.aload_n (q := 1) d4_0 rfl rfl (by first | rfl | assumption) ?_
  refine Wk.aload_n (q := 2) d4_1 rfl rfl (by first | rfl | assumption) ?_
  refine Wk.iconst (q := 3) (0) d4_2 rfl (by decide) ?_
  refine Wk.aload_n (q := 4) d4_3 rfl rfl (by first | rfl | assumption) ?_
  refine Wk.arraylength (q := 5) d4_4 rfl (by repeat (first | exact List.mem_cons_self | assumption | refine List.mem_cons_of_mem _ ?_)) (show (cs.map Value.int).length.toInt32 = cs.length.toInt32 by simp) ?_
  refine Wk.aconst_null (q := 6) d4_5 rfl ?_
  by_cases h0 : cs = []
  · subst h0
    refine Wk.special (q := 9) [_, _, _, _] _ 0 d4_6 rfl rfl (hw _ (List.mem_of_getElem? (i := 11) rfl)) (hw _ (List.mem_of_getElem? (i := 12) rfl)) (hw _ (List.mem_of_getElem? (i := 6) rfl)) (hw _ (List.mem_of_getElem? (i := 14) rfl)) ar_3 (by decide) rfl rfl rfl rfl (ct_strInit4e hw hE) (by first | decide | (dsimp only; omega) | omega) (by first | decide | (dsimp only; omega) | omega) (by first | decide | (dsimp only; omega) | omega) (by first | decide | (dsimp only; omega) | omega) (k0 ?_)
    rintro _ ⟨b, rfl⟩
    refine Wk.return_ d4_9 rfl ?_
    exact ⟨rfl, b, false, rfl⟩
  · refine Wk.special (q := 9) [_, _, _, _] _ 0 d4_6 rfl rfl (hw _ (List.mem_of_getElem? (i := 11) rfl)) (hw _ (List.mem_of_getElem? (i := 12) rfl)) (hw _ (List.mem_of_getElem? (i := 6) rfl)) (hw _ (List.mem_of_getElem? (i := 14) rfl)) ar_3 (by decide) rfl rfl rfl rfl (ct_strInit4 hw hE F hc h0 N hN hl hm) (by first | decide | (dsimp only; omega) | omega) (by first | decide | (dsimp only; omega) | omega) (by first | decide | (dsimp only; omega) | omega) (by first | decide | (dsimp only; omega) | omega) (k0 ?_)
    rintro _ ⟨b, rfl⟩
    refine Wk.return_ d4_9 rfl ?_
    exact ⟨rfl, b, true, rfl⟩

set_option maxHeartbeats 4000000 in
theorem wk_latEq {l : Launch} {Z : State} {a0 : Array Value} (hw : ∀ d ∈ tables_1, d.before a0 Z = true) (hE : EW Z a0 EL0) {L : Store} {a b : Addr} {fa fb : Bool} {xs ys : List Int32} (hl : xs.length < 2 ^ 31) (he : xs.length = ys.length) (ha : (a, fa, AR Z .byte (xs.map .int)) ∈ L) (hb : (b, fb, AR Z .byte (ys.map .int)) ∈ L) {cb sb : Nat} : ∀ (k i : Nat), i + k = xs.length → xs.take i = ys.take i →
    Wk l Z a0 EL0 (⟨"java/lang/StringLatin1", "equals", "([B[B)Z"⟩ : MethodName) jdk_43_method_13_code 3 (some .boolean) ({ frames := 0, cells := 0, slots := 0, locals := 0 } : Room) (RV fun u M => u = .int (if xs = ys then 1 else 0) ∧ M = L) L cb sb 9 [.val (.ref a), .val (.ref b), .val (.int i.toInt32)] [] := by
  intro k
  induction k with
  | zero =>
    intro i hi ht
    have hi' : i = xs.length := by omega
    subst hi'
    have e : xs = ys := by
      have h1 := List.take_length (l := xs)
      rw [ht, he, List.take_length] at h1
      exact h1.symm
    refine Wk.iload_n (q := 10) d5_9 rfl rfl ?_
    refine Wk.aload_n (q := 11) d5_10 rfl rfl (by first | rfl | assumption) ?_
    refine Wk.arraylength (q := 12) d5_11 rfl (by repeat (first | exact List.mem_cons_self | assumption | refine List.mem_cons_of_mem _ ?_)) (show (xs.map Value.int).length.toInt32 = xs.length.toInt32 by simp) ?_
    refine Wk.icmp_t (q := 32) d5_12 (by decide) (by decide) (XT.ii_ge_t (fun h => by rw [n32_lt hl hl] at h; omega)) ?_
    refine Wk.iconst (q := 33) (1) d5_32 rfl (by decide) ?_
    refine Wk.ireturn (t := .boolean) d5_33 rfl (by simp) (by rfl) ?_
    exact ⟨_, rfl, by rw [if_pos e], rfl⟩
  | succ k ih =>
    intro i hi ht
    have h1 : i < xs.length := by omega
    have h2 : i < ys.length := by omega
    have h3 : i < 2 ^ 31 := by omega
    refine Wk.iload_n (q := 10) d5_9 rfl rfl ?_
    refine Wk.aload_n (q := 11) d5_10 rfl rfl (by first | rfl | assumption) ?_
    refine Wk.arraylength (q := 12) d5_11 rfl (by repeat (first | exact List.mem_cons_self | assumption | refine List.mem_cons_of_mem _ ?_)) (show (xs.map Value.int).length.toInt32 = xs.length.toInt32 by simp) ?_
    refine Wk.icmp_f (q := 15) d5_12 rfl (XT.ii_ge_f ((n32_lt h3 hl).mpr h1)) ?_
    refine Wk.aload_n (q := 16) d5_15 rfl rfl (by first | rfl | assumption) ?_
    refine Wk.iload_n (q := 17) d5_16 rfl rfl ?_
    refine Wk.baload (q := 18) (i) d5_17 rfl (by repeat (first | exact List.mem_cons_self | assumption | refine List.mem_cons_of_mem _ ?_)) (n32_nn h3) (n32_nat h3) (show (xs.map Value.int)[i]? = some (.int xs[i]) by simp [h1]) ?_
    refine Wk.aload_n (q := 19) d5_18 rfl rfl (by first | rfl | assumption) ?_
    refine Wk.iload_n (q := 20) d5_19 rfl rfl ?_
    refine Wk.baload (q := 21) (i) d5_20 rfl (by repeat (first | exact List.mem_cons_self | assumption | refine List.mem_cons_of_mem _ ?_)) (n32_nn h3) (n32_nat h3) (show (ys.map Value.int)[i]? = some (.int ys[i]) by simp [h2]) ?_
    refine Wk.icmp_s (q := 26) (q' := 24) d5_21 (by decide) (by decide) rfl ?_ ?_
    · intro (h : xs[i] = ys[i])
      refine Wk.iinc (q := 29) (1) d5_26 rfl (by decide) rfl (LS1.there (LS1.there (LS1.here (by first | exact One.u | exact One.val rfl | assumption)))) ?_
      refine Wk.goto (q := 9) d5_29 (by decide) (by decide) ?_
      rw [n32_succ]
      exact ih (i + 1) (by omega) (by rw [List.take_succ_eq_append_getElem h1, List.take_succ_eq_append_getElem h2, ht, h])
    · intro (h : ¬ xs[i] = ys[i])
      refine Wk.iconst (q := 25) (0) d5_24 rfl (by decide) ?_
      refine Wk.ireturn (t := .boolean) d5_25 rfl (by simp) (by rfl) ?_
      refine ⟨_, rfl, ?_, rfl⟩
      rw [if_neg]
      rintro rfl
      exact h rfl
theorem ct_latEq {l : Launch} {Z : State} {a0 : Array Value} (hw : ∀ d ∈ tables_1, d.before a0 Z = true) (hE : EW Z a0 EL0) {L : Store} {a b : Addr} {fa fb : Bool} {xs ys : List Int32} (hl : xs.length < 2 ^ 31) (hl' : ys.length < 2 ^ 31) (ha : (a, fa, AR Z .byte (xs.map .int)) ∈ L) (hb : (b, fb, AR Z .byte (ys.map .int)) ∈ L) :
    Ct l Z EL0 (⟨"java/lang/StringLatin1", "equals", "([B[B)Z"⟩ : MethodName) jdk_43_method_13_code 3 (some .boolean) ({ frames := 0, cells := 0, slots := 0, locals := 0 } : Room) #[.ref a, .ref b] L (RV fun u M => u = .int (if xs = ys then 1 else 0) ∧ M = L) := by
  refine Ct.of (a0 := a0) (Ls := [.val (.ref _), .val (.ref _), .unset]) (plainFor_of_name pn_2) (fun m => ef_rr_3 m _ _) hE ?_
  refine Wk.aload_n (q := 1) d5_0 rfl rfl (by first | rfl | assumption) ?_
  refine Wk.arraylength (q := 2) d5_1 rfl (by repeat (first | exact List.mem_cons_self | assumption | refine List.mem_cons_of_mem _ ?_)) (show (xs.map Value.int).length.toInt32 = xs.length.toInt32 by simp) ?_
  refine Wk.aload_n (q := 3) d5_2 rfl rfl (by first | rfl | assumption) ?_
  refine Wk.arraylength (q := 4) d5_3 rfl (by repeat (first | exact List.mem_cons_self | assumption | refine List.mem_cons_of_mem _ ?_)) (show (ys.map Value.int).length.toInt32 = ys.length.toInt32 by simp) ?_
  refine Wk.icmp_s (q := 34) (q' := 7) d5_4 (by decide) (by decide) rfl ?_ ?_
  · intro (h : ¬ xs.length.toInt32 = ys.length.toInt32)
    refine Wk.iconst (q := 35) (0) d5_34 rfl (by decide) ?_
    refine Wk.ireturn (t := .boolean) d5_35 rfl (by simp) (by rfl) ?_
    refine ⟨_, rfl, ?_, rfl⟩
    rw [if_neg]
    rintro rfl
    exact h rfl
  · intro (h : xs.length.toInt32 = ys.length.toInt32)
    refine Wk.iconst (q := 8) (0) d5_7 rfl (by decide) ?_
    refine Wk.istore_n (q := 9) d5_8 rfl (LS1.there (LS1.there (LS1.here (by first | exact One.u | exact One.val rfl | assumption)))) ?_
    exact wk_latEq hw hE hl ((n32_inj hl hl').mp h) ha hb xs.length 0 (by omega) rfl
set_option maxHeartbeats 4000000 in
theorem ct_strEq {l : Launch} {Z : State} {a0 : Array Value} (hw : ∀ d ∈ tables_1, d.before a0 Z = true) (hE : EW Z a0 EL0) (F : ∃ z, z ≠ (0 : Int32) ∧ Sta Z Z.heap "java/lang/String" "COMPACT_STRINGS" "Z" (.int z)) {L : Store} {s t a b : Addr} {fs ft fa fb : Bool} {xs ys : List Int32} (hl : xs.length < 2 ^ 31) (hl' : ys.length < 2 ^ 31)
    (hs : (s, fs, OB Z "java/lang/String" layS [.ref a, .int 0]) ∈ L) (ht : (t, ft, OB Z "java/lang/String" layS [.ref b, .int 0]) ∈ L) (ha : (a, fa, AR Z .byte (xs.map .int)) ∈ L) (hb : (b, fb, AR Z .byte (ys.map .int)) ∈ L) :
    Ct l Z EL0 (⟨"java/lang/String", "equals", "(Ljava/lang/Object;)Z"⟩ : MethodName) jdk_42_method_66_code 3 (some .boolean) ({ frames := 1, cells := 0, slots := 0, locals := 14 } : Room) #[.ref s, .ref t] L (RV fun u M => u = .int (if xs = ys then 1 else 0) ∧ M = L) := by
  obtain ⟨z, hz, FS⟩ := F
  refine Ct.of (a0 := a0) (Ls := [.val (.ref _), .val (.ref _), .unset]) (plainFor_of_name pn_1) (fun m => ef_rr_3 m _ _) hE ?_
  refine Wk.aload_n (q := 1) d6_0 rfl rfl (by first | rfl | assumption) ?_
  refine Wk.aload_n (q := 2) d6_1 rfl rfl (by first | rfl | assumption) ?_
  by_cases he : s = t
  · subst he
    refine Wk.know (fun vm h I => (show xs = ys by
      have e1 := I.sameObj hs ht (j := 0) rfl rfl rfl
      cases e1
      exact map_int_inj (I.sameArr ha hb))) ?_
    intro e
    refine Wk.acmp_f (q := 5) d6_2 rfl rfl rfl (by simp [XT.acmp]) ?_
    refine Wk.iconst (q := 6) (1) d6_5 rfl (by decide) ?_
    refine Wk.ireturn (t := .boolean) d6_6 rfl (by simp) (by rfl) ?_
    exact ⟨_, rfl, by rw [if_pos e], rfl⟩
  · refine Wk.acmp_t (q := 7) d6_2 (by decide) (by decide) rfl rfl (by simp [XT.acmp, he]) ?_
    refine Wk.aload_n (q := 8) d6_7 rfl rfl (by first | rfl | assumption) ?_
    refine Wk.instanceof_t (q := 11) (C := "java/lang/String") d6_8 rfl (hw _ (List.mem_of_getElem? (i := 234) rfl)) (by repeat (first | exact List.mem_cons_self | assumption | refine List.mem_cons_of_mem _ ?_)) (hw _ (List.mem_of_getElem? (i := 13) rfl)) ?_
    refine Wk.if_f (q := 14) d6_11 rfl (by decide) ?_
    refine Wk.aload_n (q := 15) d6_14 rfl rfl (by first | rfl | assumption) ?_
    refine Wk.checkcast (q := 18) (C := "java/lang/String") d6_15 rfl (hw _ (List.mem_of_getElem? (i := 234) rfl)) (by repeat (first | exact List.mem_cons_self | assumption | refine List.mem_cons_of_mem _ ?_)) (hw _ (List.mem_of_getElem? (i := 13) rfl)) ?_
    refine Wk.astore_n (q := 19) d6_18 rfl (by first | rfl | assumption) (LS1.there (LS1.there (LS1.here (by first | exact One.u | exact One.val rfl | assumption)))) ?_
    refine Wk.getstatic (q := 22) d6_19 rfl (hw _ (List.mem_of_getElem? (i := 26) rfl)) Via.refl FS ?_
    refine Wk.if_f (q := 25) d6_22 rfl (XT.i0_eq_f hz) ?_
    refine Wk.aload_n (q := 26) d6_25 rfl rfl (by first | rfl | assumption) ?_
    refine Wk.getfield (q := 29) (C := "java/lang/String") (lay := layS) 1 d6_26 rfl (hw _ (List.mem_of_getElem? (i := 25) rfl)) Via.refl (by repeat (first | exact List.mem_cons_self | assumption | refine List.mem_cons_of_mem _ ?_)) rfl (by rfl) ?_
    refine Wk.aload_n (q := 30) d6_29 rfl rfl (by first | rfl | assumption) ?_
    refine Wk.getfield (q := 33) (C := "java/lang/String") (lay := layS) 1 d6_30 rfl (hw _ (List.mem_of_getElem? (i := 25) rfl)) Via.refl (by repeat (first | exact List.mem_cons_self | assumption | refine List.mem_cons_of_mem _ ?_)) rfl (by rfl) ?_
    refine Wk.icmp_f (q := 36) d6_33 rfl (by decide) ?_
    refine Wk.aload_n (q := 37) d6_36 rfl rfl (by first | rfl | assumption) ?_
    refine Wk.getfield (q := 40) (C := "java/lang/String") (lay := layS) 0 d6_37 rfl (hw _ (List.mem_of_getElem? (i := 24) rfl)) Via.refl (by repeat (first | exact List.mem_cons_self | assumption | refine List.mem_cons_of_mem _ ?_)) rfl (by rfl) ?_
    refine Wk.aload_n (q := 41) d6_40 rfl rfl (by first | rfl | assumption) ?_
    refine Wk.getfield (q := 44) (C := "java/lang/String") (lay := layS) 0 d6_41 rfl (hw _ (List.mem_of_getElem? (i := 24) rfl)) Via.refl (by repeat (first | exact List.mem_cons_self | assumption | refine List.mem_cons_of_mem _ ?_)) rfl (by rfl) ?_
    refine Wk.static (q := 47) [_, _] _ 0 d6_44 rfl (hw _ (List.mem_of_getElem? (i := 235) rfl)) (hw _ (List.mem_of_getElem? (i := 236) rfl)) (hw _ (List.mem_of_getElem? (i := 237) rfl)) (hw _ (List.mem_of_getElem? (i := 238) rfl)) ar_4 (by decide) rfl rfl rfl rfl (ct_latEq hw hE hl hl' ha hb) (by first | decide | (dsimp only; omega) | omega) (by first | decide | (dsimp only; omega) | omega) (by first | decide | (dsimp only; omega) | omega) (by first | decide | (dsimp only; omega) | omega) (kv ?_)
    rintro _ _ ⟨rfl, rfl⟩
    by_cases e : xs = ys
    · rw [if_pos e]
      refine Wk.if_f (q := 50) d6_47 rfl (by decide) ?_
      refine Wk.iconst (q := 51) (1) d6_50 rfl (by decide) ?_
      refine Wk.goto (q := 55) d6_51 (by decide) (by decide) ?_
      refine Wk.ireturn (t := .boolean) d6_55 rfl (by simp) (by rfl) ?_
      exact ⟨_, rfl, rfl, rfl⟩
    · rw [if_neg e]
      refine Wk.if_t (q := 54) d6_47 (by decide) (by decide) (by decide) ?_
      refine Wk.iconst (q := 55) (0) d6_54 rfl (by decide) ?_
      refine Wk.ireturn (t := .boolean) d6_55 rfl (by simp) (by rfl) ?_
      exact ⟨_, rfl, rfl, rfl⟩

theorem b8_back {c : Int32} (h : 0 ≤ c.toInt ∧ c.toInt < 256) : b8 c &&& 255 = c := by
  apply Int32.toInt_inj.mp
  have a := c_mask (b8 c) 255 8 (by decide) (by decide)
  have b := b8_toInt h
  simp only [pw0, pw1, pw8, pw31] at a
  rw [a, b]
  split <;> omega
theorem shr0 (x : Int32) : x >>> ((0 : Int32) &&& 31) = x := by
  apply Int32.toInt_inj.mp
  have a := c_ishr x 0 0 (by decide)
  simp only [pw0, pw1, pw8, pw31] at a
  omega
theorem shr1 {n : Nat} (h : n < 1000000) : (2 * n).toInt32 >>> ((1 : Int32) &&& 31) = n.toInt32 := by
  apply Int32.toInt_inj.mp
  have a := c_ishr (2 * n).toInt32 1 1 (by decide)
  rw [n32 (show 2 * n < 2 ^ 31 by omega)] at a
  rw [n32 (show n < 2 ^ 31 by omega)]
  simp only [pw0, pw1, pw8, pw31] at a
  omega
theorem ct_coder {l : Launch} {Z : State} {a0 : Array Value} (hw : ∀ d ∈ tables_1, d.before a0 Z = true) (hE : EW Z a0 EL0) (F : ∃ z, z ≠ (0 : Int32) ∧ Sta Z Z.heap "java/lang/String" "COMPACT_STRINGS" "Z" (.int z)) {L : Store} {s b : Addr} {f : Bool} {k : Int32} (hk : k = 0 ∨ k = 1) (hs : (s, f, OB Z "java/lang/String" layS [.ref b, .int k]) ∈ L) :
    Ct l Z EL0 (⟨"java/lang/String", "coder", "()B"⟩ : MethodName) jdk_42_method_152_code 1 (some .byte) ({ frames := 0, cells := 0, slots := 0, locals := 0 } : Room) #[.ref s] L (RV fun u M => u = .int k ∧ M = L) := by
  obtain ⟨z, hz, FS⟩ := F
  refine Ct.of (a0 := a0) (Ls := [.val (.ref _)]) (plainFor_of_name pn_1) (fun m => ef_r_1 m _) hE ?_
  refine Wk.getstatic (q := 3) d7_0 rfl (hw _ (List.mem_of_getElem? (i := 26) rfl)) Via.refl FS ?_
  refine Wk.if_f (q := 6) d7_3 rfl (XT.i0_eq_f hz) ?_
  refine Wk.aload_n (q := 7) d7_6 rfl rfl (by first | rfl | assumption) ?_
  refine Wk.getfield (q := 10) (C := "java/lang/String") (lay := layS) 1 d7_7 rfl (hw _ (List.mem_of_getElem? (i := 25) rfl)) Via.refl (by repeat (first | exact List.mem_cons_self | assumption | refine List.mem_cons_of_mem _ ?_)) rfl (by rfl) ?_
  refine Wk.goto (q := 14) d7_10 (by decide) (by decide) ?_
  refine Wk.ireturn (t := .byte) d7_14 rfl (by simp) (by rcases hk with rfl | rfl <;> decide) ?_
  exact ⟨_, rfl, rfl, rfl⟩
theorem ct_len {l : Launch} {Z : State} {a0 : Array Value} (hw : ∀ d ∈ tables_1, d.before a0 Z = true) (hE : EW Z a0 EL0) (F : ∃ z, z ≠ (0 : Int32) ∧ Sta Z Z.heap "java/lang/String" "COMPACT_STRINGS" "Z" (.int z)) {L : Store} {s b : Addr} {f fb : Bool} {k : Int32} {vs : List Value} (hk : k = 0 ∨ k = 1) (hs : (s, f, OB Z "java/lang/String" layS [.ref b, .int k]) ∈ L) (hb : (b, fb, AR Z .byte vs) ∈ L) :
    Ct l Z EL0 (⟨"java/lang/String", "length", "()I"⟩ : MethodName) jdk_42_method_54_code 1 (some .int) ({ frames := 1, cells := 0, slots := 0, locals := 13 } : Room) #[.ref s] L (RV fun u M => u = .int (vs.length.toInt32 >>> (k &&& 31)) ∧ M = L) := by
  refine Ct.of (a0 := a0) (Ls := [.val (.ref _)]) (plainFor_of_name pn_1) (fun m => ef_r_1 m _) hE ?_
  refine Wk.aload_n (q := 1) d8_0 rfl rfl (by first | rfl | assumption) ?_
  refine Wk.getfield (q := 4) (C := "java/lang/String") (lay := layS) 0 d8_1 rfl (hw _ (List.mem_of_getElem? (i := 24) rfl)) Via.refl (by repeat (first | exact List.mem_cons_self | assumption | refine List.mem_cons_of_mem _ ?_)) rfl (by rfl) ?_
  refine Wk.arraylength (q := 5) d8_4 rfl (by repeat (first | exact List.mem_cons_self | assumption | refine List.mem_cons_of_mem _ ?_)) (by rfl) ?_
  refine Wk.aload_n (q := 6) d8_5 rfl rfl (by first | rfl | assumption) ?_
  refine Wk.virtual (q := 9) (C := "java/lang/String") [] _ 1 d8_6 rfl (hw _ (List.mem_of_getElem? (i := 76) rfl)) (hw _ (List.mem_of_getElem? (i := 77) rfl)) (hw _ (List.mem_of_getElem? (i := 79) rfl)) (hw _ (List.mem_of_getElem? (i := 78) rfl)) (hw _ (List.mem_of_getElem? (i := 6) rfl)) (hw _ (List.mem_of_getElem? (i := 80) rfl)) ar_5 (by decide) (nfSel (hw _ (List.mem_of_getElem? (i := 79) rfl))) (by repeat (first | exact List.mem_cons_self | assumption | refine List.mem_cons_of_mem _ ?_)) rfl rfl rfl rfl (ct_coder hw hE F hk hs) (by first | decide | (dsimp only; omega) | omega) (by first | decide | (dsimp only; omega) | omega) (by first | decide | (dsimp only; omega) | omega) (by first | decide | (dsimp only; omega) | omega) (kv ?_)
  rintro _ _ ⟨rfl, rfl⟩
  refine Wk.ishr (q := 10) d8_9 rfl ?_
  refine Wk.ireturn (t := .int) d8_10 rfl (by simp) (by rfl) ?_
  exact ⟨_, rfl, rfl, rfl⟩
theorem ct_lenL {l : Launch} {Z : State} {a0 : Array Value} (hw : ∀ d ∈ tables_1, d.before a0 Z = true) (hE : EW Z a0 EL0) (F : ∃ z, z ≠ (0 : Int32) ∧ Sta Z Z.heap "java/lang/String" "COMPACT_STRINGS" "Z" (.int z)) {L : Store} {s b : Addr} {f fb : Bool} {xs : List Int32} (hs : (s, f, OB Z "java/lang/String" layS [.ref b, .int 0]) ∈ L) (hb : (b, fb, AR Z .byte (xs.map .int)) ∈ L) :
    Ct l Z EL0 (⟨"java/lang/String", "length", "()I"⟩ : MethodName) jdk_42_method_54_code 1 (some .int) ({ frames := 1, cells := 0, slots := 0, locals := 13 } : Room) #[.ref s] L (RV fun u M => u = .int xs.length.toInt32 ∧ M = L) :=
  Ct.imp (fun v M ⟨u, h1, h2, h3⟩ => ⟨u, h1, by rw [h2, shr0]; simp, h3⟩) (ct_len hw hE F (Or.inl rfl) hs hb)

theorem n32_sub {i j : Nat} (h : i ≤ j) : j.toInt32 - i.toInt32 = (j - i).toInt32 := by
  have e : (j - i + i).toInt32 = (j - i).toInt32 + i.toInt32 := Int32.ofNat_add (j - i) i
  rw [show j - i + i = j by omega] at e
  rw [e, Int32.add_sub_cancel]
theorem fit_b8 (cs : List Int32) : ∀ v ∈ (cs.map b8).map Value.int, fits .byte v = true := by
  intro v hv
  rw [List.map_map] at hv
  obtain ⟨c, -, rfl⟩ := List.mem_map.mp hv
  show fits .byte (.int (b8 c)) = true
  have h1 := Int8.le_toInt c.toInt8
  have h2 := Int8.toInt_lt c.toInt8
  have q1 : (-128 : Int32) ≤ b8 c := by
    rw [Int32.le_iff_toInt_le, b8, Int8.toInt_toInt32]; exact h1
  have q2 : b8 c ≤ (127 : Int32) := by
    rw [Int32.le_iff_toInt_le, b8, Int8.toInt_toInt32]; show _ ≤ (127 : Int); omega
  simp only [fits, Bool.and_eq_true]
  exact ⟨decide_eq_true q1, decide_eq_true q2⟩
theorem fit_rep (n : Nat) : ∀ v ∈ List.replicate n (Value.int 0), fits .byte v = true := by
  intro v hv
  rw [(List.mem_replicate.mp hv).2]
  decide
theorem ct_mmin {l : Launch} {Z : State} {a0 : Array Value} (hw : ∀ d ∈ tables_1, d.before a0 Z = true) (hE : EW Z a0 EL0) {L : Store} {i j : Int32} : Ct l Z EL0 (⟨"java/lang/Math", "min", "(II)I"⟩ : MethodName) jdk_29_method_69_code 2 (some .int) ({ frames := 0, cells := 0, slots := 0, locals := 0 } : Room) #[.int i, .int j] L (RV fun u M => u = .int (if j < i then j else i) ∧ M = L) := by
  refine Ct.of (a0 := a0) (Ls := [.val (.int _), .val (.int _)]) pn_3 (fun m => ef_ii_2 m _ _) hE ?_
  refine Wk.iload_n (q := 1) d9_0 rfl rfl ?_
  refine Wk.iload_n (q := 2) d9_1 rfl rfl ?_
  refine Wk.icmp_s (q := 9) (q' := 5) d9_2 (by decide) (by decide) rfl ?_ ?_
  · intro (h : j < i)
    refine Wk.iload_n (q := 10) d9_9 rfl rfl ?_
    refine Wk.ireturn (t := .int) d9_10 rfl (by simp) (by rfl) ?_
    exact ⟨_, rfl, by rw [if_pos h], rfl⟩
  · intro (h : ¬ j < i)
    refine Wk.iload_n (q := 6) d9_5 rfl rfl ?_
    refine Wk.goto (q := 10) d9_6 (by decide) (by decide) ?_
    refine Wk.ireturn (t := .int) d9_10 rfl (by simp) (by rfl) ?_
    exact ⟨_, rfl, by rw [if_neg h], rfl⟩
theorem ct_ckLen {l : Launch} {Z : State} {a0 : Array Value} (hw : ∀ d ∈ tables_1, d.before a0 Z = true) (hE : EW Z a0 EL0) {L : Store} {i j : Int32} (h : ¬ j < i) : Ct l Z EL0 (⟨"java/util/Arrays", "checkLength", "(II)V"⟩ : MethodName) jdk_65_method_131_code 2 none ({ frames := 0, cells := 0, slots := 0, locals := 0 } : Room) #[.int i, .int j] L (R0 fun M => M = L) := by
  refine Ct.of (a0 := a0) (Ls := [.val (.int _), .val (.int _)]) (plainFor_of_name pn_4) (fun m => ef_ii_2 m _ _) hE ?_
  refine Wk.iload_n (q := 1) d10_0 rfl rfl ?_
  refine Wk.iload_n (q := 2) d10_1 rfl rfl ?_
  refine Wk.icmp_t (q := 37) d10_2 (by decide) (by decide) (XT.ii_ge_t h) ?_
  refine Wk.return_ d10_37 rfl ?_
  exact ⟨rfl, rfl⟩
set_option maxHeartbeats 4000000 in
theorem ct_copyRB {l : Launch} {Z : State} {a0 : Array Value} (hw : ∀ d ∈ tables_1, d.before a0 Z = true) (hE : EW Z a0 EL0) {L : Store} {a : Addr} {fa : Bool} {cs : List Int32} {i j : Nat} (hij : i ≤ j) (hj : j ≤ cs.length) (hl : cs.length < 1000000) (N : Nat) (hN : cs.length ≤ N) (ha : (a, fa, AR Z .byte ((cs.map b8).map .int)) ∈ L) :
    Ct l Z EL0 (⟨"java/util/Arrays", "copyOfRangeByte", "([BII)[B"⟩ : MethodName) jdk_65_method_133_code 5 (some (.array .byte)) ({ frames := 1, cells := 1, slots := N, locals := 18 } : Room) #[.ref a, .int i.toInt32, .int j.toInt32] L (RV fun u M => ∃ r, u = .ref r ∧ M = (r, true, AR Z .byte (((((cs.drop i).take (j - i)).map b8)).map .int)) :: L) := by
  have hle : ((cs.map b8).map Value.int).length = cs.length := by simp
  have hms : ¬ (j - i).toInt32 < (cs.length - i).toInt32 → (cs.length - i = j - i) := fun h => by
    have h' : ¬ (j - i < cs.length - i) := fun q => h ((n32_lt (by omega) (by omega)).mpr q)
    omega
  refine Ct.of (a0 := a0) (Ls := [.val (.ref _), .val (.int _), .val (.int _), .unset, .unset]) (plainFor_of_name pn_4) (fun m => ef_rii_5 m _ _ _) hE ?_
  refine Wk.iload_n (q := 1) d11_0 rfl rfl ?_
  refine Wk.iload_n (q := 2) d11_1 rfl rfl ?_
  refine Wk.static (q := 5) [_, _] _ 0 d11_2 rfl (hw _ (List.mem_of_getElem? (i := 169) rfl)) (hw _ (List.mem_of_getElem? (i := 170) rfl)) (hw _ (List.mem_of_getElem? (i := 127) rfl)) (hw _ (List.mem_of_getElem? (i := 171) rfl)) ar_6 (by decide) rfl rfl rfl rfl (ct_ckLen hw hE (fun q => by have := (n32_lt (by omega) (by omega)).mp q; omega)) (by first | decide | (dsimp only; omega) | omega) (by first | decide | (dsimp only; omega) | omega) (by first | decide | (dsimp only; omega) | omega) (by first | decide | (dsimp only; omega) | omega) (k0 ?_)
  rintro _ rfl
  refine Wk.iload_n (q := 6) d11_5 rfl rfl ?_
  refine Wk.iload_n (q := 7) d11_6 rfl rfl ?_
  refine Wk.isub (q := 8) d11_7 rfl ?_
  rw [n32_sub hij]
  refine Wk.istore_n (q := 9) d11_8 rfl (LS1.there (LS1.there (LS1.there (LS1.here (by first | exact One.u | exact One.val rfl | assumption))))) ?_
  refine Wk.iload_n (q := 10) d11_9 rfl rfl ?_
  refine Wk.newarray (q := 12) .byte ((j - i)) (List.replicate (j - i) (.int 0)) d11_10 rfl rfl rfl (hw _ (List.mem_of_getElem? (i := 19) rfl)) (n32_nn (by omega)) (n32_nat (by omega)) (by omega) (by first | decide | (dsimp only; omega) | omega) (by first | decide | (dsimp only; omega) | omega) ?_
  intro r
  refine Wk.astore (q := 14) d11_12 rfl (by first | rfl | assumption) (LS1.there (LS1.there (LS1.there (LS1.there (LS1.here (by first | exact One.u | exact One.val rfl | assumption)))))) ?_
  refine Wk.aload_n (q := 15) d11_14 rfl rfl (by first | rfl | assumption) ?_
  refine Wk.iload_n (q := 16) d11_15 rfl rfl ?_
  refine Wk.aload (q := 18) d11_16 rfl rfl (by first | rfl | assumption) ?_
  refine Wk.iconst (q := 19) (0) d11_18 rfl (by decide) ?_
  refine Wk.aload_n (q := 20) d11_19 rfl rfl (by first | rfl | assumption) ?_
  refine Wk.arraylength (q := 21) d11_20 rfl (by repeat (first | exact List.mem_cons_self | assumption | refine List.mem_cons_of_mem _ ?_)) (show ((cs.map b8).map Value.int).length.toInt32 = cs.length.toInt32 by simp) ?_
  refine Wk.iload_n (q := 22) d11_21 rfl rfl ?_
  refine Wk.isub (q := 23) d11_22 rfl ?_
  rw [n32_sub (show i ≤ cs.length by omega)]
  refine Wk.iload_n (q := 24) d11_23 rfl rfl ?_
  refine Wk.static (q := 27) [_, _] _ 4 d11_24 rfl (hw _ (List.mem_of_getElem? (i := 129) rfl)) (hw _ (List.mem_of_getElem? (i := 130) rfl)) (hw _ (List.mem_of_getElem? (i := 121) rfl)) (hw _ (List.mem_of_getElem? (i := 131) rfl)) ar_7 (by decide) rfl rfl rfl rfl (ct_mmin hw hE) (by first | decide | (dsimp only; omega) | omega) (by first | decide | (dsimp only; omega) | omega) (by first | decide | (dsimp only; omega) | omega) (by first | decide | (dsimp only; omega) | omega) (kv ?_)
  rintro _ _ ⟨rfl, rfl⟩
  rw [show (if (j - i).toInt32 < (cs.length - i).toInt32 then (j - i).toInt32 else (cs.length - i).toInt32) = (j - i).toInt32 from by split; rfl; rename_i h; rw [hms h]]
  refine Wk.arraycopyB (q := 30) 0 i 0 (j - i) ((((cs.drop i).take (j - i)).map b8).map .int) d11_27 rfl (hw _ (List.mem_of_getElem? (i := 132) rfl)) (hw _ (List.mem_of_getElem? (i := 107) rfl)) (hw _ (List.mem_of_getElem? (i := 105) rfl)) (hw _ (List.mem_of_getElem? (i := 106) rfl)) (by repeat (first | exact Ex.here | assumption | apply Ex.there)) (by repeat (first | exact List.mem_cons_self | assumption | refine List.mem_cons_of_mem _ ?_)) (fit_b8 cs) (fit_rep _) ⟨n32_nn (by omega), n32_nat (by omega)⟩ (by decide) ⟨n32_nn (by omega), n32_nat (by omega)⟩ (by rw [hle]; omega) (by simp) (by simp [List.map_drop, List.map_take]) rfl (by first | decide | (dsimp only; omega) | omega) rfl (by first | decide | (dsimp only; decide)) ?_
  refine Wk.aload (q := 32) d11_30 rfl rfl (by first | rfl | assumption) ?_
  refine Wk.areturn (t := (.array .byte)) d11_32 rfl rfl (by first | rfl | exact narO | exact narA) (by first | rfl | assumption) ?_
  exact ⟨_, rfl, r, rfl, rfl⟩
theorem ct_copyR {l : Launch} {Z : State} {a0 : Array Value} (hw : ∀ d ∈ tables_1, d.before a0 Z = true) (hE : EW Z a0 EL0) {L : Store} {a : Addr} {fa : Bool} {cs : List Int32} {i j : Nat} (h0 : 0 < i) (hij : i ≤ j) (hj : j ≤ cs.length) (hl : cs.length < 1000000) (N : Nat) (hN : cs.length ≤ N) (ha : (a, fa, AR Z .byte ((cs.map b8).map .int)) ∈ L) :
    Ct l Z EL0 (⟨"java/util/Arrays", "copyOfRange", "([BII)[B"⟩ : MethodName) jdk_65_method_132_code 3 (some (.array .byte)) ({ frames := 2, cells := 1, slots := N, locals := 34 } : Room) #[.ref a, .int i.toInt32, .int j.toInt32] L (RV fun u M => ∃ r, u = .ref r ∧ M = (r, true, AR Z .byte (((((cs.drop i).take (j - i)).map b8)).map .int)) :: L) := by
  refine Ct.of (a0 := a0) (Ls := [.val (.ref _), .val (.int _), .val (.int _)]) (plainFor_of_name pn_4) (fun m => ef_rii_3 m _ _ _) hE ?_
  refine Wk.iload_n (q := 1) d12_0 rfl rfl ?_
  refine Wk.if_t (q := 10) d12_1 (by decide) (by decide) (XT.i0_ne_t (fun q => absurd ((n32_inj (by omega) (by decide : 0 < 2 ^ 31)).mp q) (by omega))) ?_
  refine Wk.aload_n (q := 11) d12_10 rfl rfl (by first | rfl | assumption) ?_
  refine Wk.iload_n (q := 12) d12_11 rfl rfl ?_
  refine Wk.iload_n (q := 13) d12_12 rfl rfl ?_
  refine Wk.static (q := 16) [_, _, _] _ 0 d12_13 rfl (hw _ (List.mem_of_getElem? (i := 166) rfl)) (hw _ (List.mem_of_getElem? (i := 167) rfl)) (hw _ (List.mem_of_getElem? (i := 127) rfl)) (hw _ (List.mem_of_getElem? (i := 168) rfl)) ar_8 (by decide) rfl rfl rfl rfl (ct_copyRB hw hE hij hj hl N hN ha) (by first | decide | (dsimp only; omega) | omega) (by first | decide | (dsimp only; omega) | omega) (by first | decide | (dsimp only; omega) | omega) (by first | decide | (dsimp only; omega) | omega) (kv ?_)
  rintro _ _ ⟨r, rfl, rfl⟩
  refine Wk.areturn (t := (.array .byte)) d12_16 rfl rfl (by first | rfl | exact narO | exact narA) (by first | rfl | assumption) ?_
  exact ⟨_, rfl, r, rfl, rfl⟩

def layB : Jvm.OwnW.Lay := [("java/lang/AbstractStringBuilder", "value", "[B"), ("java/lang/AbstractStringBuilder", "coder", "B"), ("java/lang/AbstractStringBuilder", "count", "I")]
theorem layB_ok {Z : State} {a0 : Array Value} (hw : ∀ d ∈ tables_1, d.before a0 Z = true) : LayOk Z a0 "java/lang/StringBuilder" layB := by
  refine ⟨fun f hf => ?_, by decide +kernel, fun f hf => ?_⟩
  all_goals simp only [layB, List.mem_cons, List.not_mem_nil, or_false] at hf
  all_goals rcases hf with rfl | rfl | rfl
  · exact Or.inl (hw _ (List.mem_of_getElem? (i := 58) rfl))
  · exact Or.inl (hw _ (List.mem_of_getElem? (i := 60) rfl))
  · exact Or.inl (hw _ (List.mem_of_getElem? (i := 82) rfl))
  · exact ⟨(.array .byte), by decide +kernel⟩
  · exact ⟨.byte, by decide +kernel⟩
  · exact ⟨.int, by decide +kernel⟩
theorem layB_dv : Dv layB [.null, (.int 0), (.int 0)] := by decide +kernel
theorem shl0 (x : Int32) : x <<< ((0 : Int32) &&& 31) = x := by
  apply Int32.toInt_inj.mp
  have a := c_ishl x 0 0 (by decide)
  have r1 := rng32 x
  have r2 := rng32 (x <<< ((0 : Int32) &&& 31))
  simp only [pw0, pw1, pw8, pw31] at a
  omega
theorem n32_add (i j : Nat) : i.toInt32 + j.toInt32 = (i + j).toInt32 := (Int32.ofNat_add i j).symm
theorem rep_bld (k : Nat) : ((List.replicate k (0 : Int32)).map b8).map Value.int = List.replicate k (.int 0) := by
  rw [List.map_replicate, List.map_replicate]; rfl
theorem ct_asbInit {l : Launch} {Z : State} {a0 : Array Value} (hw : ∀ d ∈ tables_1, d.before a0 Z = true) (hE : EW Z a0 EL0) (F : ∃ z, z ≠ (0 : Int32) ∧ Sta Z Z.heap "java/lang/String" "COMPACT_STRINGS" "Z" (.int z)) {L : Store} {s : Addr} :
    Ct l Z EL0 (⟨"java/lang/AbstractStringBuilder", "<init>", "(I)V"⟩ : MethodName) jdk_68_method_2_code 2 none ({ frames := 1, cells := 1, slots := 16, locals := 12 } : Room) #[.ref s, .int 16] ((s, true, OB Z "java/lang/StringBuilder" layB [.null, .int 0, .int 0]) :: L) (R0 fun M => ∃ v, M = (s, true, OB Z "java/lang/StringBuilder" layB [.ref v, .int 0, .int 0]) :: (v, true, AR Z .byte (((List.replicate 16 (0 : Int32)).map b8).map .int)) :: L) := by
  obtain ⟨z, hz, FS⟩ := F
  refine Ct.of (a0 := a0) (Ls := [.val (.ref _), .val (.int _)]) (plainFor_of_name pn_5) (fun m => ef_ri_2 m _ _) hE ?_
  refine Wk.aload_n (q := 1) d13_0 rfl rfl (by first | rfl | assumption) ?_
  refine Wk.objinit (q := 4) 0 d13_1 rfl (hw _ (List.mem_of_getElem? (i := 55) rfl)) (hw _ (List.mem_of_getElem? (i := 16) rfl)) (hw _ (List.mem_of_getElem? (i := 17) rfl)) rfl (by first | decide | (dsimp only; omega) | omega) rfl (by first | decide | (dsimp only; omega) | omega) ?_
  refine Wk.getstatic (q := 7) d13_4 rfl (hw _ (List.mem_of_getElem? (i := 56) rfl)) Via.refl FS ?_
  refine Wk.if_f (q := 10) d13_7 rfl (XT.i0_eq_f hz) ?_
  refine Wk.aload_n (q := 11) d13_10 rfl rfl (by first | rfl | assumption) ?_
  refine Wk.iload_n (q := 12) d13_11 rfl rfl ?_
  refine Wk.newarray (q := 14) .byte ((16)) (List.replicate (16) (.int 0)) d13_12 rfl rfl rfl (hw _ (List.mem_of_getElem? (i := 19) rfl)) (by decide) (by decide) (by decide) (by first | decide | (dsimp only; omega) | omega) (by first | decide | (dsimp only; omega) | omega) ?_
  intro v
  refine Wk.putfield (q := 17) (C := "java/lang/StringBuilder") (lay := layB) 0 d13_14 rfl (hw _ (List.mem_of_getElem? (i := 57) rfl)) Via.refl (layB_ok hw) (hw _ (List.mem_of_getElem? (i := 44) rfl)) (Or.inl (hw _ (List.mem_of_getElem? (i := 58) rfl))) rfl (by decide +kernel : parseFieldDescriptor "[B" = some (.array .byte)) (by repeat (first | exact Ex.here | assumption | apply Ex.there)) (VS.here) (by first | rfl | exact narO) (by first | rfl | exact fitO (by assumption) | exact fitA (by assumption)) ?_
  refine Wk.aload_n (q := 18) d13_17 rfl rfl (by first | rfl | assumption) ?_
  refine Wk.iconst (q := 19) (0) d13_18 rfl (by decide) ?_
  refine Wk.putfield (q := 22) (C := "java/lang/StringBuilder") (lay := layB) 1 d13_19 rfl (hw _ (List.mem_of_getElem? (i := 59) rfl)) Via.refl (layB_ok hw) (hw _ (List.mem_of_getElem? (i := 44) rfl)) (Or.inl (hw _ (List.mem_of_getElem? (i := 60) rfl))) rfl (by decide +kernel : parseFieldDescriptor "B" = some .byte) (by repeat (first | exact Ex.here | assumption | apply Ex.there)) (VS.there (VS.here)) (by first | rfl | exact narO) (by first | rfl | exact fitO (by assumption) | exact fitA (by assumption)) ?_
  refine Wk.goto (q := 38) d13_22 (by decide) (by decide) ?_
  refine Wk.return_ d13_38 rfl ?_
  exact ⟨rfl, v, by rw [rep_bld]⟩
theorem ct_sbInit {l : Launch} {Z : State} {a0 : Array Value} (hw : ∀ d ∈ tables_1, d.before a0 Z = true) (hE : EW Z a0 EL0) (F : ∃ z, z ≠ (0 : Int32) ∧ Sta Z Z.heap "java/lang/String" "COMPACT_STRINGS" "Z" (.int z)) {L : Store} {s : Addr} :
    Ct l Z EL0 (⟨"java/lang/StringBuilder", "<init>", "()V"⟩ : MethodName) jdk_67_method_1_code 1 none ({ frames := 2, cells := 1, slots := 16, locals := 25 } : Room) #[.ref s] ((s, true, OB Z "java/lang/StringBuilder" layB [.null, .int 0, .int 0]) :: L) (R0 fun M => ∃ v, M = (s, true, OB Z "java/lang/StringBuilder" layB [.ref v, .int 0, .int ([] : List Int32).length.toInt32]) :: (v, true, AR Z .byte ((([] ++ List.replicate 16 (0 : Int32)).map b8).map .int)) :: L) := by
  refine Ct.of (a0 := a0) (Ls := [.val (.ref _)]) (plainFor_of_name pn_6) (fun m => ef_r_1 m _) hE ?_
  refine Wk.aload_n (q := 1) d14_0 rfl rfl (by first | rfl | assumption) ?_
  refine Wk.bipush (q := 3) (16) d14_1 rfl (by decide) ?_
  refine Wk.special (q := 6) [_] _ 0 d14_3 rfl rfl (hw _ (List.mem_of_getElem? (i := 49) rfl)) (hw _ (List.mem_of_getElem? (i := 50) rfl)) (hw _ (List.mem_of_getElem? (i := 53) rfl)) (hw _ (List.mem_of_getElem? (i := 54) rfl)) ar_9 (by decide) rfl rfl rfl rfl (ct_asbInit hw hE F) (by first | decide | (dsimp only; omega) | omega) (by first | decide | (dsimp only; omega) | omega) (by first | decide | (dsimp only; omega) | omega) (by first | decide | (dsimp only; omega) | omega) (k0 ?_)
  rintro _ ⟨v, rfl⟩
  refine Wk.return_ d14_6 rfl ?_
  exact ⟨rfl, v, rfl⟩
theorem ct_ensCap {l : Launch} {Z : State} {a0 : Array Value} (hw : ∀ d ∈ tables_1, d.before a0 Z = true) (hE : EW Z a0 EL0) {L : Store} {s v : Addr} {f fv : Bool} {n m : Int32} {vs : List Value} (hs : (s, f, OB Z "java/lang/StringBuilder" layB [.ref v, .int 0, .int n]) ∈ L) (hv : (v, fv, AR Z .byte vs) ∈ L) (h : ¬ (0 : Int32) < m - vs.length.toInt32) :
    Ct l Z EL0 (⟨"java/lang/AbstractStringBuilder", "ensureCapacityInternal", "(I)V"⟩ : MethodName) jdk_68_method_9_code 3 none ({ frames := 3, cells := 0, slots := 0, locals := 48 } : Room) #[.ref s, .int m] L (R0 fun M => M = L) := by
  refine Ct.of (a0 := a0) (Ls := [.val (.ref _), .val (.int _), .unset]) (plainFor_of_name pn_5) (fun m => ef_ri_3 m _ _) hE ?_
  refine Wk.aload_n (q := 1) d15_0 rfl rfl (by first | rfl | assumption) ?_
  refine Wk.getfield (q := 4) (C := "java/lang/StringBuilder") (lay := layB) 0 d15_1 rfl (hw _ (List.mem_of_getElem? (i := 57) rfl)) Via.refl (by repeat (first | exact List.mem_cons_self | assumption | refine List.mem_cons_of_mem _ ?_)) rfl (by rfl) ?_
  refine Wk.arraylength (q := 5) d15_4 rfl (by repeat (first | exact List.mem_cons_self | assumption | refine List.mem_cons_of_mem _ ?_)) (by rfl) ?_
  refine Wk.aload_n (q := 6) d15_5 rfl rfl (by first | rfl | assumption) ?_
  refine Wk.getfield (q := 9) (C := "java/lang/StringBuilder") (lay := layB) 1 d15_6 rfl (hw _ (List.mem_of_getElem? (i := 59) rfl)) Via.refl (by repeat (first | exact List.mem_cons_self | assumption | refine List.mem_cons_of_mem _ ?_)) rfl (by rfl) ?_
  refine Wk.ishr (q := 10) d15_9 rfl ?_
  rw [shr0]
  refine Wk.istore_n (q := 11) d15_10 rfl (LS1.there (LS1.there (LS1.here (by first | exact One.u | exact One.val rfl | assumption)))) ?_
  refine Wk.iload_n (q := 12) d15_11 rfl rfl ?_
  refine Wk.iload_n (q := 13) d15_12 rfl rfl ?_
  refine Wk.isub (q := 14) d15_13 rfl ?_
  refine Wk.if_t (q := 38) d15_14 (by decide) (by decide) (XT.i0_le_t h) ?_
  refine Wk.return_ d15_38 rfl ?_
  exact ⟨rfl, rfl⟩
theorem ct_inflate {l : Launch} {Z : State} {a0 : Array Value} (hw : ∀ d ∈ tables_1, d.before a0 Z = true) (hE : EW Z a0 EL0) (F : ∃ z, z ≠ (0 : Int32) ∧ Sta Z Z.heap "java/lang/String" "COMPACT_STRINGS" "Z" (.int z)) {L : Store} {s v t d : Addr} {f ft : Bool} {n : Int32} (hs : (s, f, OB Z "java/lang/StringBuilder" layB [.ref v, .int 0, .int n]) ∈ L) (ht : (t, ft, OB Z "java/lang/String" layS [.ref d, .int 0]) ∈ L) :
    Ct l Z EL0 (⟨"java/lang/AbstractStringBuilder", "inflateIfNeededFor", "(Ljava/lang/String;)V"⟩ : MethodName) jdk_68_method_71_code 2 none ({ frames := 1, cells := 0, slots := 0, locals := 13 } : Room) #[.ref s, .ref t] L (R0 fun M => M = L) := by
  have F0 := F
  obtain ⟨z, hz, FS⟩ := F
  refine Ct.of (a0 := a0) (Ls := [.val (.ref _), .val (.ref _)]) (plainFor_of_name pn_5) (fun m => ef_rr_2 m _ _) hE ?_
  refine Wk.getstatic (q := 3) d16_0 rfl (hw _ (List.mem_of_getElem? (i := 56) rfl)) Via.refl FS ?_
  refine Wk.if_f (q := 6) d16_3 rfl (XT.i0_eq_f hz) ?_
  refine Wk.aload_n (q := 7) d16_6 rfl rfl (by first | rfl | assumption) ?_
  refine Wk.getfield (q := 10) (C := "java/lang/StringBuilder") (lay := layB) 1 d16_7 rfl (hw _ (List.mem_of_getElem? (i := 59) rfl)) Via.refl (by repeat (first | exact List.mem_cons_self | assumption | refine List.mem_cons_of_mem _ ?_)) rfl (by rfl) ?_
  refine Wk.aload_n (q := 11) d16_10 rfl rfl (by first | rfl | assumption) ?_
  refine Wk.virtual (q := 14) (C := "java/lang/String") [] _ 1 d16_11 rfl (hw _ (List.mem_of_getElem? (i := 98) rfl)) (hw _ (List.mem_of_getElem? (i := 77) rfl)) (hw _ (List.mem_of_getElem? (i := 79) rfl)) (hw _ (List.mem_of_getElem? (i := 78) rfl)) (hw _ (List.mem_of_getElem? (i := 6) rfl)) (hw _ (List.mem_of_getElem? (i := 80) rfl)) ar_5 (by decide) (nfSel (hw _ (List.mem_of_getElem? (i := 79) rfl))) (by repeat (first | exact List.mem_cons_self | assumption | refine List.mem_cons_of_mem _ ?_)) rfl rfl rfl rfl (ct_coder hw hE F0 (Or.inl rfl) ht) (by first | decide | (dsimp only; omega) | omega) (by first | decide | (dsimp only; omega) | omega) (by first | decide | (dsimp only; omega) | omega) (by first | decide | (dsimp only; omega) | omega) (kv ?_)
  rintro _ _ ⟨rfl, rfl⟩
  refine Wk.icmp_t (q := 21) d16_14 (by decide) (by decide) (by decide) ?_
  refine Wk.return_ d16_21 rfl ?_
  exact ⟨rfl, rfl⟩
set_option maxHeartbeats 4000000 in
theorem ct_strGB {l : Launch} {Z : State} {a0 : Array Value} (hw : ∀ d ∈ tables_1, d.before a0 Z = true) (hE : EW Z a0 EL0) (F : ∃ z, z ≠ (0 : Int32) ∧ Sta Z Z.heap "java/lang/String" "COMPACT_STRINGS" "Z" (.int z)) {L : Store} {v t d : Addr} {ft fd : Bool} {n : Nat} {zs cs : List Int32} (hl : zs.length < 1000000) (h : n + cs.length ≤ zs.length) (ht : (t, ft, OB Z "java/lang/String" layS [.ref d, .int 0]) ∈ L) (hd : (d, fd, AR Z .byte ((cs.map b8).map .int)) ∈ L) :
    Ct l Z EL0 (⟨"java/lang/String", "getBytes", "([BIB)V"⟩ : MethodName) jdk_42_method_147_code 4 none ({ frames := 1, cells := 0, slots := 0, locals := 18 } : Room) #[.ref t, .ref v, .int n.toInt32, .int 0] ((v, true, AR Z .byte ((zs.map b8).map .int)) :: L) (R0 fun M => M = (v, true, AR Z .byte (((zs.take n ++ cs ++ zs.drop (n + cs.length)).map b8).map .int)) :: L) := by
  have hle : ((cs.map b8).map Value.int).length = cs.length := by simp
  have hlz : ((zs.map b8).map Value.int).length = zs.length := by simp
  refine Ct.of (a0 := a0) (Ls := [.val (.ref _), .val (.ref _), .val (.int _), .val (.int _)]) (plainFor_of_name pn_1) (fun m => ef_rrii_4 m _ _ _ _) hE ?_
  refine Wk.aload_n (q := 1) d17_0 rfl rfl (by first | rfl | assumption) ?_
  refine Wk.virtual (q := 4) (C := "java/lang/String") [] _ 0 d17_1 rfl (hw _ (List.mem_of_getElem? (i := 76) rfl)) (hw _ (List.mem_of_getElem? (i := 77) rfl)) (hw _ (List.mem_of_getElem? (i := 79) rfl)) (hw _ (List.mem_of_getElem? (i := 78) rfl)) (hw _ (List.mem_of_getElem? (i := 6) rfl)) (hw _ (List.mem_of_getElem? (i := 80) rfl)) ar_5 (by decide) (nfSel (hw _ (List.mem_of_getElem? (i := 79) rfl))) (by repeat (first | exact List.mem_cons_self | assumption | refine List.mem_cons_of_mem _ ?_)) rfl rfl rfl rfl (ct_coder hw hE F (Or.inl rfl) (List.mem_cons_of_mem _ ht)) (by first | decide | (dsimp only; omega) | omega) (by first | decide | (dsimp only; omega) | omega) (by first | decide | (dsimp only; omega) | omega) (by first | decide | (dsimp only; omega) | omega) (kv ?_)
  rintro _ _ ⟨rfl, rfl⟩
  refine Wk.iload_n (q := 5) d17_4 rfl rfl ?_
  refine Wk.icmp_f (q := 8) d17_5 rfl (by decide) ?_
  refine Wk.aload_n (q := 9) d17_8 rfl rfl (by first | rfl | assumption) ?_
  refine Wk.getfield (q := 12) (C := "java/lang/String") (lay := layS) 0 d17_9 rfl (hw _ (List.mem_of_getElem? (i := 24) rfl)) Via.refl (by repeat (first | exact List.mem_cons_self | assumption | refine List.mem_cons_of_mem _ ?_)) rfl (by rfl) ?_
  refine Wk.iconst (q := 13) (0) d17_12 rfl (by decide) ?_
  refine Wk.aload_n (q := 14) d17_13 rfl rfl (by first | rfl | assumption) ?_
  refine Wk.iload_n (q := 15) d17_14 rfl rfl ?_
  refine Wk.iload_n (q := 16) d17_15 rfl rfl ?_
  refine Wk.ishl (q := 17) d17_16 rfl ?_
  rw [shl0]
  refine Wk.aload_n (q := 18) d17_17 rfl rfl (by first | rfl | assumption) ?_
  refine Wk.getfield (q := 21) (C := "java/lang/String") (lay := layS) 0 d17_18 rfl (hw _ (List.mem_of_getElem? (i := 24) rfl)) Via.refl (by repeat (first | exact List.mem_cons_self | assumption | refine List.mem_cons_of_mem _ ?_)) rfl (by rfl) ?_
  refine Wk.arraylength (q := 22) d17_21 rfl (by repeat (first | exact List.mem_cons_self | assumption | refine List.mem_cons_of_mem _ ?_)) (show ((cs.map b8).map Value.int).length.toInt32 = cs.length.toInt32 by rw [hle]) ?_
  refine Wk.arraycopyB (q := 25) 0 0 n cs.length (((zs.take n ++ cs ++ zs.drop (n + cs.length)).map b8).map .int) d17_22 rfl (hw _ (List.mem_of_getElem? (i := 104) rfl)) (hw _ (List.mem_of_getElem? (i := 107) rfl)) (hw _ (List.mem_of_getElem? (i := 105) rfl)) (hw _ (List.mem_of_getElem? (i := 106) rfl)) (by repeat (first | exact Ex.here | assumption | apply Ex.there)) (by repeat (first | exact List.mem_cons_self | assumption | refine List.mem_cons_of_mem _ ?_)) (fit_b8 cs) (fit_b8 zs) (by decide) ⟨n32_nn (by omega), n32_nat (by omega)⟩ ⟨n32_nn (by omega), n32_nat (by omega)⟩ (by rw [hle]; omega) (by rw [hlz]; omega) (by rw [List.drop_zero, ← hle, List.take_length, hle]; simp [List.map_take, List.map_drop]) rfl (by first | decide | (dsimp only; omega) | omega) rfl (by first | decide | (dsimp only; decide)) ?_
  refine Wk.goto (q := 43) d17_25 (by decide) (by decide) ?_
  refine Wk.return_ d17_43 rfl ?_
  exact ⟨rfl, rfl⟩
set_option maxHeartbeats 4000000 in
theorem ct_putStr {l : Launch} {Z : State} {a0 : Array Value} (hw : ∀ d ∈ tables_1, d.before a0 Z = true) (hE : EW Z a0 EL0) (F : ∃ z, z ≠ (0 : Int32) ∧ Sta Z Z.heap "java/lang/String" "COMPACT_STRINGS" "Z" (.int z)) {L : Store} {s v t d : Addr} {f ft fd : Bool} {k : Int32} {n : Nat} {zs cs : List Int32} (hl : zs.length < 1000000) (h : n + cs.length ≤ zs.length) (hs : (s, f, OB Z "java/lang/StringBuilder" layB [.ref v, .int 0, .int k]) ∈ L) (ht : (t, ft, OB Z "java/lang/String" layS [.ref d, .int 0]) ∈ L) (hd : (d, fd, AR Z .byte ((cs.map b8).map .int)) ∈ L) :
    Ct l Z EL0 (⟨"java/lang/AbstractStringBuilder", "putStringAt", "(ILjava/lang/String;)V"⟩ : MethodName) jdk_68_method_73_code 3 none ({ frames := 2, cells := 0, slots := 0, locals := 33 } : Room) #[.ref s, .int n.toInt32, .ref t] ((v, true, AR Z .byte ((zs.map b8).map .int)) :: L) (R0 fun M => M = (v, true, AR Z .byte (((zs.take n ++ cs ++ zs.drop (n + cs.length)).map b8).map .int)) :: L) := by
  refine Ct.of (a0 := a0) (Ls := [.val (.ref _), .val (.int _), .val (.ref _)]) (plainFor_of_name pn_5) (fun m => ef_rir_3 m _ _ _) hE ?_
  refine Wk.aload_n (q := 1) d18_0 rfl rfl (by first | rfl | assumption) ?_
  refine Wk.aload_n (q := 2) d18_1 rfl rfl (by first | rfl | assumption) ?_
  refine Wk.priv (q := 5) (C := "java/lang/StringBuilder") [_] _ 0 d18_2 rfl (hw _ (List.mem_of_getElem? (i := 93) rfl)) (hw _ (List.mem_of_getElem? (i := 94) rfl)) (hw _ (List.mem_of_getElem? (i := 96) rfl)) (hw _ (List.mem_of_getElem? (i := 95) rfl)) (hw _ (List.mem_of_getElem? (i := 53) rfl)) (hw _ (List.mem_of_getElem? (i := 97) rfl)) ar_10 (by decide) (by repeat (first | exact List.mem_cons_self | assumption | refine List.mem_cons_of_mem _ ?_)) rfl rfl rfl rfl (ct_inflate hw hE F (List.mem_cons_of_mem _ hs) (List.mem_cons_of_mem _ ht)) (by first | decide | (dsimp only; omega) | omega) (by first | decide | (dsimp only; omega) | omega) (by first | decide | (dsimp only; omega) | omega) (by first | decide | (dsimp only; omega) | omega) (k0 ?_)
  rintro _ rfl
  refine Wk.aload_n (q := 6) d18_5 rfl rfl (by first | rfl | assumption) ?_
  refine Wk.aload_n (q := 7) d18_6 rfl rfl (by first | rfl | assumption) ?_
  refine Wk.getfield (q := 10) (C := "java/lang/StringBuilder") (lay := layB) 0 d18_7 rfl (hw _ (List.mem_of_getElem? (i := 57) rfl)) Via.refl (by repeat (first | exact List.mem_cons_self | assumption | refine List.mem_cons_of_mem _ ?_)) rfl (by rfl) ?_
  refine Wk.iload_n (q := 11) d18_10 rfl rfl ?_
  refine Wk.aload_n (q := 12) d18_11 rfl rfl (by first | rfl | assumption) ?_
  refine Wk.getfield (q := 15) (C := "java/lang/StringBuilder") (lay := layB) 1 d18_12 rfl (hw _ (List.mem_of_getElem? (i := 59) rfl)) Via.refl (by repeat (first | exact List.mem_cons_self | assumption | refine List.mem_cons_of_mem _ ?_)) rfl (by rfl) ?_
  refine Wk.virtual (q := 18) (C := "java/lang/String") [_, _, _] _ 0 d18_15 rfl (hw _ (List.mem_of_getElem? (i := 99) rfl)) (hw _ (List.mem_of_getElem? (i := 100) rfl)) (hw _ (List.mem_of_getElem? (i := 102) rfl)) (hw _ (List.mem_of_getElem? (i := 101) rfl)) (hw _ (List.mem_of_getElem? (i := 6) rfl)) (hw _ (List.mem_of_getElem? (i := 103) rfl)) ar_11 (by decide) (nfSel (hw _ (List.mem_of_getElem? (i := 102) rfl))) (by repeat (first | exact List.mem_cons_self | assumption | refine List.mem_cons_of_mem _ ?_)) rfl rfl rfl rfl (ct_strGB hw hE F hl h ht hd) (by first | decide | (dsimp only; omega) | omega) (by first | decide | (dsimp only; omega) | omega) (by first | decide | (dsimp only; omega) | omega) (by first | decide | (dsimp only; omega) | omega) (k0 ?_)
  rintro _ rfl
  refine Wk.return_ d18_18 rfl ?_
  exact ⟨rfl, rfl⟩
set_option maxHeartbeats 4000000 in
theorem ct_asbApp {l : Launch} {Z : State} {a0 : Array Value} (hw : ∀ d ∈ tables_1, d.before a0 Z = true) (hE : EW Z a0 EL0) (F : ∃ z, z ≠ (0 : Int32) ∧ Sta Z Z.heap "java/lang/String" "COMPACT_STRINGS" "Z" (.int z)) {L : Store} {s v t d : Addr} {ft fd : Bool} {n : Nat} {zs cs : List Int32} (hl : zs.length < 1000000) (h : n + cs.length ≤ zs.length) (ht : (t, ft, OB Z "java/lang/String" layS [.ref d, .int 0]) ∈ L) (hd : (d, fd, AR Z .byte ((cs.map b8).map .int)) ∈ L) :
    Ct l Z EL0 (⟨"java/lang/AbstractStringBuilder", "append", "(Ljava/lang/String;)Ljava/lang/AbstractStringBuilder;"⟩ : MethodName) jdk_68_method_22_code 3 (some (.object "java/lang/AbstractStringBuilder")) ({ frames := 4, cells := 0, slots := 0, locals := 62 } : Room) #[.ref s, .ref t] ((s, true, OB Z "java/lang/StringBuilder" layB [.ref v, .int 0, .int n.toInt32]) :: (v, true, AR Z .byte ((zs.map b8).map .int)) :: L) (RV fun u M => u = .ref s ∧ M = (s, true, OB Z "java/lang/StringBuilder" layB [.ref v, .int 0, .int (n + cs.length).toInt32]) :: (v, true, AR Z .byte (((zs.take n ++ cs ++ zs.drop (n + cs.length)).map b8).map .int)) :: L) := by
  have hlz : ((zs.map b8).map Value.int).length = zs.length := by simp
  refine Ct.of (a0 := a0) (Ls := [.val (.ref _), .val (.ref _), .unset]) (plainFor_of_name pn_5) (fun m => ef_rr_3 m _ _) hE ?_
  refine Wk.aload_n (q := 1) d19_0 rfl rfl (by first | rfl | assumption) ?_
  refine Wk.nonnull_t (q := 9) d19_1 (by decide) (by decide)  ?_
  refine Wk.aload_n (q := 10) d19_9 rfl rfl (by first | rfl | assumption) ?_
  refine Wk.virtual (q := 13) (C := "java/lang/String") [] _ 0 d19_10 rfl (hw _ (List.mem_of_getElem? (i := 71) rfl)) (hw _ (List.mem_of_getElem? (i := 72) rfl)) (hw _ (List.mem_of_getElem? (i := 74) rfl)) (hw _ (List.mem_of_getElem? (i := 73) rfl)) (hw _ (List.mem_of_getElem? (i := 6) rfl)) (hw _ (List.mem_of_getElem? (i := 75) rfl)) ar_12 (by decide) (nfSel (hw _ (List.mem_of_getElem? (i := 74) rfl))) (by repeat (first | exact List.mem_cons_self | assumption | refine List.mem_cons_of_mem _ ?_)) rfl rfl rfl rfl (ct_lenL hw hE F (List.mem_cons_of_mem _ (List.mem_cons_of_mem _ ht)) (List.mem_cons_of_mem _ (List.mem_cons_of_mem _ hd))) (by first | decide | (dsimp only; omega) | omega) (by first | decide | (dsimp only; omega) | omega) (by first | decide | (dsimp only; omega) | omega) (by first | decide | (dsimp only; omega) | omega) (kv ?_)
  rintro _ _ ⟨rfl, rfl⟩
  rw [List.length_map]
  refine Wk.istore_n (q := 14) d19_13 rfl (LS1.there (LS1.there (LS1.here (by first | exact One.u | exact One.val rfl | assumption)))) ?_
  refine Wk.aload_n (q := 15) d19_14 rfl rfl (by first | rfl | assumption) ?_
  refine Wk.aload_n (q := 16) d19_15 rfl rfl (by first | rfl | assumption) ?_
  refine Wk.getfield (q := 19) (C := "java/lang/StringBuilder") (lay := layB) 2 d19_16 rfl (hw _ (List.mem_of_getElem? (i := 81) rfl)) Via.refl (by repeat (first | exact List.mem_cons_self | assumption | refine List.mem_cons_of_mem _ ?_)) rfl (by rfl) ?_
  refine Wk.iload_n (q := 20) d19_19 rfl rfl ?_
  refine Wk.iadd (q := 21) d19_20 rfl ?_
  rw [n32_add]
  refine Wk.priv (q := 24) (C := "java/lang/StringBuilder") [_] _ 0 d19_21 rfl (hw _ (List.mem_of_getElem? (i := 83) rfl)) (hw _ (List.mem_of_getElem? (i := 84) rfl)) (hw _ (List.mem_of_getElem? (i := 86) rfl)) (hw _ (List.mem_of_getElem? (i := 85) rfl)) (hw _ (List.mem_of_getElem? (i := 53) rfl)) (hw _ (List.mem_of_getElem? (i := 87) rfl)) ar_9 (by decide) (by repeat (first | exact List.mem_cons_self | assumption | refine List.mem_cons_of_mem _ ?_)) rfl rfl rfl rfl (ct_ensCap hw hE List.mem_cons_self (List.mem_cons_of_mem _ List.mem_cons_self) (by rw [hlz, Int32.lt_iff_toInt_lt]; show ¬ (0 : Int) < _; have a := c_isub (n + cs.length).toInt32 zs.length.toInt32; rw [n32 (show n + cs.length < 2 ^ 31 by omega), n32 (show zs.length < 2 ^ 31 by omega)] at a; have r := rng32 ((n + cs.length).toInt32 - zs.length.toInt32); omega)) (by first | decide | (dsimp only; omega) | omega) (by first | decide | (dsimp only; omega) | omega) (by first | decide | (dsimp only; omega) | omega) (by first | decide | (dsimp only; omega) | omega) (k0 ?_)
  rintro _ rfl
  refine Wk.aload_n (q := 25) d19_24 rfl rfl (by first | rfl | assumption) ?_
  refine Wk.aload_n (q := 26) d19_25 rfl rfl (by first | rfl | assumption) ?_
  refine Wk.getfield (q := 29) (C := "java/lang/StringBuilder") (lay := layB) 2 d19_26 rfl (hw _ (List.mem_of_getElem? (i := 81) rfl)) Via.refl (by repeat (first | exact List.mem_cons_self | assumption | refine List.mem_cons_of_mem _ ?_)) rfl (by rfl) ?_
  refine Wk.aload_n (q := 30) d19_29 rfl rfl (by first | rfl | assumption) ?_
  refine Wk.pull (o := (v, true, AR Z .byte ((zs.map b8).map .int))) (by repeat (first | exact Ex.here | assumption | apply Ex.there)) ?_
  refine Wk.priv (q := 33) (C := "java/lang/StringBuilder") [_, _] _ 0 d19_30 rfl (hw _ (List.mem_of_getElem? (i := 88) rfl)) (hw _ (List.mem_of_getElem? (i := 89) rfl)) (hw _ (List.mem_of_getElem? (i := 91) rfl)) (hw _ (List.mem_of_getElem? (i := 90) rfl)) (hw _ (List.mem_of_getElem? (i := 53) rfl)) (hw _ (List.mem_of_getElem? (i := 92) rfl)) ar_13 (by decide) (by repeat (first | exact List.mem_cons_self | assumption | refine List.mem_cons_of_mem _ ?_)) rfl rfl rfl rfl (ct_putStr hw hE F hl h List.mem_cons_self (List.mem_cons_of_mem _ ht) (List.mem_cons_of_mem _ hd)) (by first | decide | (dsimp only; omega) | omega) (by first | decide | (dsimp only; omega) | omega) (by first | decide | (dsimp only; omega) | omega) (by first | decide | (dsimp only; omega) | omega) (k0 ?_)
  rintro _ rfl
  refine Wk.aload_n (q := 34) d19_33 rfl rfl (by first | rfl | assumption) ?_
  refine Wk.dup (q := 35) d19_34 rfl rfl ?_
  refine Wk.getfield (q := 38) (C := "java/lang/StringBuilder") (lay := layB) 2 d19_35 rfl (hw _ (List.mem_of_getElem? (i := 81) rfl)) Via.refl (by repeat (first | exact List.mem_cons_self | assumption | refine List.mem_cons_of_mem _ ?_)) rfl (by rfl) ?_
  refine Wk.iload_n (q := 39) d19_38 rfl rfl ?_
  refine Wk.iadd (q := 40) d19_39 rfl ?_
  rw [n32_add]
  refine Wk.putfield (q := 43) (C := "java/lang/StringBuilder") (lay := layB) 2 d19_40 rfl (hw _ (List.mem_of_getElem? (i := 81) rfl)) Via.refl (layB_ok hw) (hw _ (List.mem_of_getElem? (i := 44) rfl)) (Or.inl (hw _ (List.mem_of_getElem? (i := 82) rfl))) rfl (by decide +kernel : parseFieldDescriptor "I" = some .int) (by repeat (first | exact Ex.here | assumption | apply Ex.there)) (VS.there (VS.there (VS.here))) (by first | rfl | exact narO) (by first | rfl | exact fitO (by assumption) | exact fitA (by assumption)) ?_
  refine Wk.aload_n (q := 44) d19_43 rfl rfl (by first | rfl | assumption) ?_
  refine Wk.areturn (t := (.object "java/lang/AbstractStringBuilder")) d19_44 rfl rfl (by first | rfl | exact narO | exact narA) (by first | rfl | assumption) ?_
  exact ⟨_, rfl, rfl, rfl⟩
theorem ct_sbApp {l : Launch} {Z : State} {a0 : Array Value} (hw : ∀ d ∈ tables_1, d.before a0 Z = true) (hE : EW Z a0 EL0) (F : ∃ z, z ≠ (0 : Int32) ∧ Sta Z Z.heap "java/lang/String" "COMPACT_STRINGS" "Z" (.int z)) {L : Store} {s v t d : Addr} {ft fd : Bool} {n : Nat} {zs cs : List Int32} (hl : zs.length < 1000000) (h : n + cs.length ≤ zs.length) (ht : (t, ft, OB Z "java/lang/String" layS [.ref d, .int 0]) ∈ L) (hd : (d, fd, AR Z .byte ((cs.map b8).map .int)) ∈ L) :
    Ct l Z EL0 (⟨"java/lang/StringBuilder", "append", "(Ljava/lang/String;)Ljava/lang/StringBuilder;"⟩ : MethodName) jdk_67_method_7_code 2 (some (.object "java/lang/StringBuilder")) ({ frames := 5, cells := 0, slots := 0, locals := 76 } : Room) #[.ref s, .ref t] ((s, true, OB Z "java/lang/StringBuilder" layB [.ref v, .int 0, .int n.toInt32]) :: (v, true, AR Z .byte ((zs.map b8).map .int)) :: L) (RV fun u M => u = .ref s ∧ M = (s, true, OB Z "java/lang/StringBuilder" layB [.ref v, .int 0, .int (n + cs.length).toInt32]) :: (v, true, AR Z .byte (((zs.take n ++ cs ++ zs.drop (n + cs.length)).map b8).map .int)) :: L) := by
  refine Ct.of (a0 := a0) (Ls := [.val (.ref _), .val (.ref _)]) (plainFor_of_name pn_6) (fun m => ef_rr_2 m _ _) hE ?_
  refine Wk.aload_n (q := 1) d20_0 rfl rfl (by first | rfl | assumption) ?_
  refine Wk.aload_n (q := 2) d20_1 rfl rfl (by first | rfl | assumption) ?_
  refine Wk.up (q := 5) (C := "java/lang/StringBuilder") [_] _ 0 d20_2 rfl (hw _ (List.mem_of_getElem? (i := 66) rfl)) (hw _ (List.mem_of_getElem? (i := 67) rfl)) (hw _ (List.mem_of_getElem? (i := 68) rfl)) (by decide) (hw _ (List.mem_of_getElem? (i := 52) rfl)) (hw _ (List.mem_of_getElem? (i := 53) rfl)) (hw _ (List.mem_of_getElem? (i := 70) rfl)) ar_14 (by decide) (nfCls (y1 := ({ cls := "java/lang/AbstractStringBuilder", name := "ensureCapacityInternal", desc := "(I)V" } : Jvm.MethodName)) rfl (hw _ (List.mem_of_getElem? (i := 86) rfl))) (by repeat (first | exact List.mem_cons_self | assumption | refine List.mem_cons_of_mem _ ?_)) rfl rfl rfl rfl (ct_asbApp hw hE F hl h ht hd) (by first | decide | (dsimp only; omega) | omega) (by first | decide | (dsimp only; omega) | omega) (by first | decide | (dsimp only; omega) | omega) (by first | decide | (dsimp only; omega) | omega) (kv ?_)
  rintro _ _ ⟨rfl, rfl⟩
  refine Wk.pop (q := 6) d20_5 rfl rfl ?_
  refine Wk.aload_n (q := 7) d20_6 rfl rfl (by first | rfl | assumption) ?_
  refine Wk.areturn (t := (.object "java/lang/StringBuilder")) d20_7 rfl rfl (by first | rfl | exact narO | exact narA) (by first | rfl | assumption) ?_
  exact ⟨_, rfl, rfl, rfl⟩
/-- the same, the builder's array as what is in it and the room behind -/
theorem bld_app {ys cs : List Int32} {k : Nat} (h : cs.length ≤ k) : (ys ++ List.replicate k (0 : Int32)).take ys.length ++ cs ++ (ys ++ List.replicate k (0 : Int32)).drop (ys.length + cs.length) = (ys ++ cs) ++ List.replicate (k - cs.length) 0 := by
  rw [List.take_left, List.drop_append, List.drop_of_length_le (by omega), List.nil_append, Nat.add_sub_cancel_left, List.drop_replicate]
theorem ct_app {l : Launch} {Z : State} {a0 : Array Value} (hw : ∀ d ∈ tables_1, d.before a0 Z = true) (hE : EW Z a0 EL0) (F : ∃ z, z ≠ (0 : Int32) ∧ Sta Z Z.heap "java/lang/String" "COMPACT_STRINGS" "Z" (.int z)) {L : Store} {s v t d : Addr} {ft fd : Bool} {k : Nat} {ys cs : List Int32} (hl : ys.length + k < 1000000) (h : cs.length ≤ k) (ht : (t, ft, OB Z "java/lang/String" layS [.ref d, .int 0]) ∈ L) (hd : (d, fd, AR Z .byte ((cs.map b8).map .int)) ∈ L) :
    Ct l Z EL0 (⟨"java/lang/StringBuilder", "append", "(Ljava/lang/String;)Ljava/lang/StringBuilder;"⟩ : MethodName) jdk_67_method_7_code 2 (some (.object "java/lang/StringBuilder")) ({ frames := 5, cells := 0, slots := 0, locals := 76 } : Room) #[.ref s, .ref t] ((s, true, OB Z "java/lang/StringBuilder" layB [.ref v, .int 0, .int ys.length.toInt32]) :: (v, true, AR Z .byte (((ys ++ List.replicate k (0 : Int32)).map b8).map .int)) :: L) (RV fun u M => u = .ref s ∧ M = (s, true, OB Z "java/lang/StringBuilder" layB [.ref v, .int 0, .int (ys ++ cs).length.toInt32]) :: (v, true, AR Z .byte ((((ys ++ cs) ++ List.replicate (k - cs.length) (0 : Int32)).map b8).map .int)) :: L) := by
  have q := ct_sbApp (l := l) hw hE F (s := s) (v := v) (zs := ys ++ List.replicate k (0 : Int32)) (n := ys.length) (by rw [List.length_append, List.length_replicate]; exact hl) (by rw [List.length_append, List.length_replicate]; omega) ht hd
  rw [bld_app h, ← List.length_append] at q
  exact q
theorem ct_getVal {l : Launch} {Z : State} {a0 : Array Value} (hw : ∀ d ∈ tables_1, d.before a0 Z = true) (hE : EW Z a0 EL0) {L : Store} {s v : Addr} {f : Bool} {n : Int32} (hs : (s, f, OB Z "java/lang/StringBuilder" layB [.ref v, .int 0, .int n]) ∈ L) : Ct l Z EL0 (⟨"java/lang/AbstractStringBuilder", "getValue", "()[B"⟩ : MethodName) jdk_68_method_64_code 1 (some (.array .byte)) ({ frames := 0, cells := 0, slots := 0, locals := 0 } : Room) #[.ref s] L (RV fun u M => u = .ref v ∧ M = L) := by
  refine Ct.of (a0 := a0) (Ls := [.val (.ref _)]) (plainFor_of_name pn_5) (fun m => ef_r_1 m _) hE ?_
  refine Wk.aload_n (q := 1) d21_0 rfl rfl (by first | rfl | assumption) ?_
  refine Wk.getfield (q := 4) (C := "java/lang/StringBuilder") (lay := layB) 0 d21_1 rfl (hw _ (List.mem_of_getElem? (i := 57) rfl)) Via.refl (by repeat (first | exact List.mem_cons_self | assumption | refine List.mem_cons_of_mem _ ?_)) rfl (by rfl) ?_
  refine Wk.areturn (t := (.array .byte)) d21_4 rfl rfl (by first | rfl | exact narO | exact narA) (by first | rfl | assumption) ?_
  exact ⟨_, rfl, rfl, rfl⟩
theorem ct_asbLen {l : Launch} {Z : State} {a0 : Array Value} (hw : ∀ d ∈ tables_1, d.before a0 Z = true) (hE : EW Z a0 EL0) {L : Store} {s v : Addr} {f : Bool} {n : Int32} (hs : (s, f, OB Z "java/lang/StringBuilder" layB [.ref v, .int 0, .int n]) ∈ L) : Ct l Z EL0 (⟨"java/lang/AbstractStringBuilder", "length", "()I"⟩ : MethodName) jdk_68_method_6_code 1 (some .int) ({ frames := 0, cells := 0, slots := 0, locals := 0 } : Room) #[.ref s] L (RV fun u M => u = .int n ∧ M = L) := by
  refine Ct.of (a0 := a0) (Ls := [.val (.ref _)]) (plainFor_of_name pn_5) (fun m => ef_r_1 m _) hE ?_
  refine Wk.aload_n (q := 1) d22_0 rfl rfl (by first | rfl | assumption) ?_
  refine Wk.getfield (q := 4) (C := "java/lang/StringBuilder") (lay := layB) 2 d22_1 rfl (hw _ (List.mem_of_getElem? (i := 81) rfl)) Via.refl (by repeat (first | exact List.mem_cons_self | assumption | refine List.mem_cons_of_mem _ ?_)) rfl (by rfl) ?_
  refine Wk.ireturn (t := .int) d22_4 rfl (by simp) (by rfl) ?_
  exact ⟨_, rfl, rfl, rfl⟩
theorem ct_sbLen {l : Launch} {Z : State} {a0 : Array Value} (hw : ∀ d ∈ tables_1, d.before a0 Z = true) (hE : EW Z a0 EL0) {L : Store} {s v : Addr} {f : Bool} {n : Int32} (hs : (s, f, OB Z "java/lang/StringBuilder" layB [.ref v, .int 0, .int n]) ∈ L) : Ct l Z EL0 (⟨"java/lang/StringBuilder", "length", "()I"⟩ : MethodName) jdk_67_method_93_code 1 (some .int) ({ frames := 1, cells := 0, slots := 0, locals := 12 } : Room) #[.ref s] L (RV fun u M => u = .int n ∧ M = L) := by
  refine Ct.of (a0 := a0) (Ls := [.val (.ref _)]) (plainFor_of_name pn_6) (fun m => ef_r_1 m _) hE ?_
  refine Wk.aload_n (q := 1) d23_0 rfl rfl (by first | rfl | assumption) ?_
  refine Wk.up (q := 4) (C := "java/lang/StringBuilder") [] _ 0 d23_1 rfl (hw _ (List.mem_of_getElem? (i := 156) rfl)) (hw _ (List.mem_of_getElem? (i := 152) rfl)) (hw _ (List.mem_of_getElem? (i := 68) rfl)) (by decide) (hw _ (List.mem_of_getElem? (i := 52) rfl)) (hw _ (List.mem_of_getElem? (i := 53) rfl)) (hw _ (List.mem_of_getElem? (i := 157) rfl)) ar_12 (by decide) (nfCls (y1 := ({ cls := "java/lang/AbstractStringBuilder", name := "ensureCapacityInternal", desc := "(I)V" } : Jvm.MethodName)) rfl (hw _ (List.mem_of_getElem? (i := 86) rfl))) (by repeat (first | exact List.mem_cons_self | assumption | refine List.mem_cons_of_mem _ ?_)) rfl rfl rfl rfl (ct_asbLen hw hE hs) (by first | decide | (dsimp only; omega) | omega) (by first | decide | (dsimp only; omega) | omega) (by first | decide | (dsimp only; omega) | omega) (by first | decide | (dsimp only; omega) | omega) (kv ?_)
  rintro _ _ ⟨rfl, rfl⟩
  refine Wk.ireturn (t := .int) d23_4 rfl (by simp) (by rfl) ?_
  exact ⟨_, rfl, rfl, rfl⟩
theorem ct_asbLat {l : Launch} {Z : State} {a0 : Array Value} (hw : ∀ d ∈ tables_1, d.before a0 Z = true) (hE : EW Z a0 EL0) (F : ∃ z, z ≠ (0 : Int32) ∧ Sta Z Z.heap "java/lang/String" "COMPACT_STRINGS" "Z" (.int z)) {L : Store} {s v : Addr} {f : Bool} {n : Int32} (hs : (s, f, OB Z "java/lang/StringBuilder" layB [.ref v, .int 0, .int n]) ∈ L) : Ct l Z EL0 (⟨"java/lang/AbstractStringBuilder", "isLatin1", "()Z"⟩ : MethodName) jdk_68_method_68_code 1 (some .boolean) ({ frames := 0, cells := 0, slots := 0, locals := 0 } : Room) #[.ref s] L (RV fun u M => u = .int 1 ∧ M = L) := by
  obtain ⟨z, hz, FS⟩ := F
  refine Ct.of (a0 := a0) (Ls := [.val (.ref _)]) (plainFor_of_name pn_5) (fun m => ef_r_1 m _) hE ?_
  refine Wk.getstatic (q := 3) d24_0 rfl (hw _ (List.mem_of_getElem? (i := 56) rfl)) Via.refl FS ?_
  refine Wk.if_f (q := 6) d24_3 rfl (XT.i0_eq_f hz) ?_
  refine Wk.aload_n (q := 7) d24_6 rfl rfl (by first | rfl | assumption) ?_
  refine Wk.getfield (q := 10) (C := "java/lang/StringBuilder") (lay := layB) 1 d24_7 rfl (hw _ (List.mem_of_getElem? (i := 59) rfl)) Via.refl (by repeat (first | exact List.mem_cons_self | assumption | refine List.mem_cons_of_mem _ ?_)) rfl (by rfl) ?_
  refine Wk.if_f (q := 13) d24_10 rfl (by decide) ?_
  refine Wk.iconst (q := 14) (1) d24_13 rfl (by decide) ?_
  refine Wk.goto (q := 18) d24_14 (by decide) (by decide) ?_
  refine Wk.ireturn (t := .boolean) d24_18 rfl (by simp) (by rfl) ?_
  exact ⟨_, rfl, rfl, rfl⟩
theorem ct_copyR0 {l : Launch} {Z : State} {a0 : Array Value} (hw : ∀ d ∈ tables_1, d.before a0 Z = true) (hE : EW Z a0 EL0) {L : Store} {a : Addr} {fa : Bool} {cs : List Int32} {j : Nat} (hj : j < cs.length) (hl : cs.length < 1000000) (N : Nat) (hN : cs.length ≤ N) (ha : (a, fa, AR Z .byte ((cs.map b8).map .int)) ∈ L) :
    Ct l Z EL0 (⟨"java/util/Arrays", "copyOfRange", "([BII)[B"⟩ : MethodName) jdk_65_method_132_code 3 (some (.array .byte)) ({ frames := 2, cells := 1, slots := N, locals := 34 } : Room) #[.ref a, .int 0, .int j.toInt32] L (RV fun u M => ∃ r, u = .ref r ∧ M = (r, true, AR Z .byte ((((cs.take j).map b8)).map .int)) :: L) := by
  refine Ct.of (a0 := a0) (Ls := [.val (.ref _), .val (.int _), .val (.int _)]) (plainFor_of_name pn_4) (fun m => ef_rii_3 m _ _ _) hE ?_
  refine Wk.iload_n (q := 1) d12_0 rfl rfl ?_
  refine Wk.if_f (q := 4) d12_1 rfl (by decide) ?_
  refine Wk.iload_n (q := 5) d12_4 rfl rfl ?_
  refine Wk.aload_n (q := 6) d12_5 rfl rfl (by first | rfl | assumption) ?_
  refine Wk.arraylength (q := 7) d12_6 rfl (by repeat (first | exact List.mem_cons_self | assumption | refine List.mem_cons_of_mem _ ?_)) (show ((cs.map b8).map Value.int).length.toInt32 = cs.length.toInt32 by simp) ?_
  refine Wk.icmp_f (q := 10) d12_7 rfl (XT.ii_eq_f (fun q => absurd ((n32_inj (by omega) (by omega)).mp q) (by omega))) ?_
  refine Wk.aload_n (q := 11) d12_10 rfl rfl (by first | rfl | assumption) ?_
  refine Wk.iload_n (q := 12) d12_11 rfl rfl ?_
  refine Wk.iload_n (q := 13) d12_12 rfl rfl ?_
  refine Wk.static (q := 16) [_, _, _] _ 0 d12_13 rfl (hw _ (List.mem_of_getElem? (i := 166) rfl)) (hw _ (List.mem_of_getElem? (i := 167) rfl)) (hw _ (List.mem_of_getElem? (i := 127) rfl)) (hw _ (List.mem_of_getElem? (i := 168) rfl)) ar_8 (by decide) rfl rfl rfl rfl (ct_copyRB hw hE (i := 0) (Nat.zero_le j) (Nat.le_of_lt hj) hl N hN ha) (by first | decide | (dsimp only; omega) | omega) (by first | decide | (dsimp only; omega) | omega) (by first | decide | (dsimp only; omega) | omega) (by first | decide | (dsimp only; omega) | omega) (kv ?_)
  rintro _ _ ⟨r, rfl, rfl⟩
  refine Wk.areturn (t := (.array .byte)) d12_16 rfl rfl (by first | rfl | exact narO | exact narA) (by first | rfl | assumption) ?_
  exact ⟨_, rfl, r, rfl, rfl⟩
set_option maxHeartbeats 4000000 in
theorem ct_strASB {l : Launch} {Z : State} {a0 : Array Value} (hw : ∀ d ∈ tables_1, d.before a0 Z = true) (hE : EW Z a0 EL0) (F : ∃ z, z ≠ (0 : Int32) ∧ Sta Z Z.heap "java/lang/String" "COMPACT_STRINGS" "Z" (.int z)) {L : Store} {q s v : Addr} {f fv : Bool} {n : Nat} {zs : List Int32} (hn : n < zs.length) (hl : zs.length < 1000000) (N : Nat) (hN : zs.length ≤ N) (hs : (s, f, OB Z "java/lang/StringBuilder" layB [.ref v, .int 0, .int n.toInt32]) ∈ L) (hv : (v, fv, AR Z .byte ((zs.map b8).map .int)) ∈ L) :
    Ct l Z EL0 (⟨"java/lang/String", "<init>", "(Ljava/lang/AbstractStringBuilder;Ljava/lang/Void;)V"⟩ : MethodName) jdk_42_method_150_code 5 none ({ frames := 3, cells := 1, slots := N, locals := 49 } : Room) #[.ref q, .ref s, .null] ((q, true, OB Z "java/lang/String" layS [.null, .int 0]) :: L) (R0 fun M => ∃ r, M = (q, true, OB Z "java/lang/String" layS [.ref r, .int 0]) :: (r, true, AR Z .byte ((((zs.take n).map b8)).map .int)) :: L) := by
  refine Ct.of (a0 := a0) (Ls := [.val (.ref _), .val (.ref _), .val .null, .unset, .unset]) (plainFor_of_name pn_1) (fun m => ef_rrn_5 m _ _) hE ?_
  refine Wk.aload_n (q := 1) d25_0 rfl rfl (by first | rfl | assumption) ?_
  refine Wk.objinit (q := 4) 0 d25_1 rfl (hw _ (List.mem_of_getElem? (i := 15) rfl)) (hw _ (List.mem_of_getElem? (i := 16) rfl)) (hw _ (List.mem_of_getElem? (i := 17) rfl)) rfl (by first | decide | (dsimp only; omega) | omega) rfl (by first | decide | (dsimp only; omega) | omega) ?_
  refine Wk.aload_n (q := 5) d25_4 rfl rfl (by first | rfl | assumption) ?_
  refine Wk.virtual (q := 8) (C := "java/lang/StringBuilder") [] _ 0 d25_5 rfl (hw _ (List.mem_of_getElem? (i := 145) rfl)) (hw _ (List.mem_of_getElem? (i := 146) rfl)) (hw _ (List.mem_of_getElem? (i := 148) rfl)) (hw _ (List.mem_of_getElem? (i := 147) rfl)) (hw _ (List.mem_of_getElem? (i := 53) rfl)) (hw _ (List.mem_of_getElem? (i := 149) rfl)) ar_15 (by decide) (nfSel (hw _ (List.mem_of_getElem? (i := 148) rfl))) (by repeat (first | exact List.mem_cons_self | assumption | refine List.mem_cons_of_mem _ ?_)) rfl rfl rfl rfl (ct_getVal hw hE (List.mem_cons_of_mem _ hs)) (by first | decide | (dsimp only; omega) | omega) (by first | decide | (dsimp only; omega) | omega) (by first | decide | (dsimp only; omega) | omega) (by first | decide | (dsimp only; omega) | omega) (kv ?_)
  rintro _ _ ⟨rfl, rfl⟩
  refine Wk.astore_n (q := 9) d25_8 rfl (by first | rfl | assumption) (LS1.there (LS1.there (LS1.there (LS1.here (by first | exact One.u | exact One.val rfl | assumption))))) ?_
  refine Wk.aload_n (q := 10) d25_9 rfl rfl (by first | rfl | assumption) ?_
  refine Wk.virtual (q := 13) (C := "java/lang/StringBuilder") [] _ 0 d25_10 rfl (hw _ (List.mem_of_getElem? (i := 150) rfl)) (hw _ (List.mem_of_getElem? (i := 151) rfl)) (hw _ (List.mem_of_getElem? (i := 153) rfl)) (hw _ (List.mem_of_getElem? (i := 154) rfl)) (hw _ (List.mem_of_getElem? (i := 45) rfl)) (hw _ (List.mem_of_getElem? (i := 155) rfl)) ar_12 (by decide) (nfCls (y1 := ({ cls := "java/lang/AbstractStringBuilder", name := "ensureCapacityInternal", desc := "(I)V" } : Jvm.MethodName)) rfl (hw _ (List.mem_of_getElem? (i := 86) rfl))) (by repeat (first | exact List.mem_cons_self | assumption | refine List.mem_cons_of_mem _ ?_)) rfl rfl rfl rfl (ct_sbLen hw hE (List.mem_cons_of_mem _ hs)) (by first | decide | (dsimp only; omega) | omega) (by first | decide | (dsimp only; omega) | omega) (by first | decide | (dsimp only; omega) | omega) (by first | decide | (dsimp only; omega) | omega) (kv ?_)
  rintro _ _ ⟨rfl, rfl⟩
  refine Wk.istore (q := 15) d25_13 rfl (LS1.there (LS1.there (LS1.there (LS1.there (LS1.here (by first | exact One.u | exact One.val rfl | assumption)))))) ?_
  refine Wk.aload_n (q := 16) d25_15 rfl rfl (by first | rfl | assumption) ?_
  refine Wk.virtual (q := 19) (C := "java/lang/StringBuilder") [] _ 0 d25_16 rfl (hw _ (List.mem_of_getElem? (i := 158) rfl)) (hw _ (List.mem_of_getElem? (i := 159) rfl)) (hw _ (List.mem_of_getElem? (i := 161) rfl)) (hw _ (List.mem_of_getElem? (i := 160) rfl)) (hw _ (List.mem_of_getElem? (i := 53) rfl)) (hw _ (List.mem_of_getElem? (i := 162) rfl)) ar_16 (by decide) (nfSel (hw _ (List.mem_of_getElem? (i := 161) rfl))) (by repeat (first | exact List.mem_cons_self | assumption | refine List.mem_cons_of_mem _ ?_)) rfl rfl rfl rfl (ct_asbLat hw hE F (List.mem_cons_of_mem _ hs)) (by first | decide | (dsimp only; omega) | omega) (by first | decide | (dsimp only; omega) | omega) (by first | decide | (dsimp only; omega) | omega) (by first | decide | (dsimp only; omega) | omega) (kv ?_)
  rintro _ _ ⟨rfl, rfl⟩
  refine Wk.if_f (q := 22) d25_19 rfl (by decide) ?_
  refine Wk.aload_n (q := 23) d25_22 rfl rfl (by first | rfl | assumption) ?_
  refine Wk.iconst (q := 24) (0) d25_23 rfl (by decide) ?_
  refine Wk.putfield (q := 27) (C := "java/lang/String") (lay := layS) 1 d25_24 rfl (hw _ (List.mem_of_getElem? (i := 25) rfl)) Via.refl (layS_ok hw) (hw _ (List.mem_of_getElem? (i := 5) rfl)) (Or.inr ⟨(hw _ (List.mem_of_getElem? (i := 21) rfl)), rfl, rfl⟩) rfl (by decide +kernel : parseFieldDescriptor "B" = some .byte) (by repeat (first | exact Ex.here | assumption | apply Ex.there)) (VS.there (VS.here)) (by first | rfl | exact narO) (by first | rfl | exact fitO (by assumption) | exact fitA (by assumption)) ?_
  refine Wk.aload_n (q := 28) d25_27 rfl rfl (by first | rfl | assumption) ?_
  refine Wk.aload_n (q := 29) d25_28 rfl rfl (by first | rfl | assumption) ?_
  refine Wk.iconst (q := 30) (0) d25_29 rfl (by decide) ?_
  refine Wk.iload (q := 32) d25_30 rfl rfl ?_
  refine Wk.static (q := 35) [_, _, _] _ 1 d25_32 rfl (hw _ (List.mem_of_getElem? (i := 163) rfl)) (hw _ (List.mem_of_getElem? (i := 164) rfl)) (hw _ (List.mem_of_getElem? (i := 127) rfl)) (hw _ (List.mem_of_getElem? (i := 165) rfl)) ar_8 (by decide) rfl rfl rfl rfl (ct_copyR0 hw hE hn hl N hN (List.mem_cons_of_mem _ hv)) (by first | decide | (dsimp only; omega) | omega) (by first | decide | (dsimp only; omega) | omega) (by first | decide | (dsimp only; omega) | omega) (by first | decide | (dsimp only; omega) | omega) (kv ?_)
  rintro _ _ ⟨r, rfl, rfl⟩
  refine Wk.putfield (q := 38) (C := "java/lang/String") (lay := layS) 0 d25_35 rfl (hw _ (List.mem_of_getElem? (i := 24) rfl)) Via.refl (layS_ok hw) (hw _ (List.mem_of_getElem? (i := 5) rfl)) (Or.inr ⟨(hw _ (List.mem_of_getElem? (i := 20) rfl)), rfl, rfl⟩) rfl (by decide +kernel : parseFieldDescriptor "[B" = some (.array .byte)) (by repeat (first | exact Ex.here | assumption | apply Ex.there)) (VS.here) (by first | rfl | exact narO) (by first | rfl | exact fitO (by assumption) | exact fitA (by assumption)) ?_
  refine Wk.goto (q := 97) d25_38 (by decide) (by decide) ?_
  refine Wk.return_ d25_97 rfl ?_
  exact ⟨rfl, r, rfl⟩
theorem ct_strSB {l : Launch} {Z : State} {a0 : Array Value} (hw : ∀ d ∈ tables_1, d.before a0 Z = true) (hE : EW Z a0 EL0) (F : ∃ z, z ≠ (0 : Int32) ∧ Sta Z Z.heap "java/lang/String" "COMPACT_STRINGS" "Z" (.int z)) {L : Store} {q s v : Addr} {f fv : Bool} {n : Nat} {zs : List Int32} (hn : n < zs.length) (hl : zs.length < 1000000) (N : Nat) (hN : zs.length ≤ N) (hs : (s, f, OB Z "java/lang/StringBuilder" layB [.ref v, .int 0, .int n.toInt32]) ∈ L) (hv : (v, fv, AR Z .byte ((zs.map b8).map .int)) ∈ L) :
    Ct l Z EL0 (⟨"java/lang/String", "<init>", "(Ljava/lang/StringBuilder;)V"⟩ : MethodName) jdk_42_method_53_code 2 none ({ frames := 4, cells := 1, slots := N, locals := 65 } : Room) #[.ref q, .ref s] ((q, true, OB Z "java/lang/String" layS [.null, .int 0]) :: L) (R0 fun M => ∃ r, M = (q, true, OB Z "java/lang/String" layS [.ref r, .int 0]) :: (r, true, AR Z .byte ((((zs.take n).map b8)).map .int)) :: L) := by
  refine Ct.of (a0 := a0) (Ls := [.val (.ref _), .val (.ref _)]) (plainFor_of_name pn_1) (fun m => ef_rr_2 m _ _) hE ?_
  refine Wk.aload_n (q := 1) d26_0 rfl rfl (by first | rfl | assumption) ?_
  refine Wk.aload_n (q := 2) d26_1 rfl rfl (by first | rfl | assumption) ?_
  refine Wk.aconst_null (q := 3) d26_2 rfl ?_
  refine Wk.special (q := 6) [_, _] _ 0 d26_3 rfl rfl (hw _ (List.mem_of_getElem? (i := 142) rfl)) (hw _ (List.mem_of_getElem? (i := 143) rfl)) (hw _ (List.mem_of_getElem? (i := 6) rfl)) (hw _ (List.mem_of_getElem? (i := 144) rfl)) ar_17 (by decide) rfl rfl rfl rfl (ct_strASB hw hE F hn hl N hN hs hv) (by first | decide | (dsimp only; omega) | omega) (by first | decide | (dsimp only; omega) | omega) (by first | decide | (dsimp only; omega) | omega) (by first | decide | (dsimp only; omega) | omega) (k0 ?_)
  rintro _ ⟨r, rfl⟩
  refine Wk.return_ d26_6 rfl ?_
  exact ⟨rfl, r, rfl⟩
theorem ct_sbStr {l : Launch} {Z : State} {a0 : Array Value} (hw : ∀ d ∈ tables_1, d.before a0 Z = true) (hE : EW Z a0 EL0) (F : ∃ z, z ≠ (0 : Int32) ∧ Sta Z Z.heap "java/lang/String" "COMPACT_STRINGS" "Z" (.int z)) {L : Store} {s v : Addr} {f fv : Bool} {k : Nat} {ys : List Int32} (hs : (s, f, OB Z "java/lang/StringBuilder" layB [.ref v, .int 0, .int ys.length.toInt32]) ∈ L) (hv : (v, fv, AR Z .byte (((ys ++ List.replicate k (0 : Int32)).map b8).map .int)) ∈ L) (hk : 0 < k) (hl : ys.length + k < 1000000) (N : Nat) (hN : ys.length + k ≤ N) :
    Ct l Z EL0 (⟨"java/lang/StringBuilder", "toString", "()Ljava/lang/String;"⟩ : MethodName) jdk_67_method_42_code 1 (some (.object "java/lang/String")) ({ frames := 5, cells := 2, slots := N + 4, locals := 79 } : Room) #[.ref s] L (RV fun u M => ∃ q r, u = .ref q ∧ M = (q, true, OB Z "java/lang/String" layS [.ref r, .int 0]) :: (r, true, AR Z .byte ((ys.map b8).map .int)) :: L) := by
  have e : (ys ++ List.replicate k (0 : Int32)).length = ys.length + k := by simp
  refine Ct.of (a0 := a0) (Ls := [.val (.ref _)]) (plainFor_of_name pn_6) (fun m => ef_r_1 m _) hE ?_
  refine Wk.new (q := 3) d27_0 rfl (hw _ (List.mem_of_getElem? (i := 138) rfl)) (hw _ (List.mem_of_getElem? (i := 5) rfl)) (hw _ (List.mem_of_getElem? (i := 6) rfl)) (layS_ok hw) layS_dv (by first | decide | (dsimp only; omega) | omega) (by first | decide | (dsimp only; omega) | omega) ?_
  intro q
  refine Wk.dup (q := 4) d27_3 rfl rfl ?_
  refine Wk.aload_n (q := 5) d27_4 rfl rfl (by first | rfl | assumption) ?_
  refine Wk.special (q := 8) [_] _ 1 d27_5 rfl rfl (hw _ (List.mem_of_getElem? (i := 139) rfl)) (hw _ (List.mem_of_getElem? (i := 140) rfl)) (hw _ (List.mem_of_getElem? (i := 6) rfl)) (hw _ (List.mem_of_getElem? (i := 141) rfl)) ar_18 (by decide) rfl rfl rfl rfl (ct_strSB hw hE F (zs := ys ++ List.replicate k (0 : Int32)) (n := ys.length) (by rw [e]; omega) (by rw [e]; exact hl) N (by rw [e]; exact hN) hs hv) (by first | decide | (dsimp only; omega) | omega) (by first | decide | (dsimp only; omega) | omega) (by first | decide | (dsimp only; omega) | omega) (by first | decide | (dsimp only; omega) | omega) (k0 ?_)
  rintro _ ⟨r, rfl⟩
  refine Wk.areturn (t := (.object "java/lang/String")) d27_8 rfl rfl (by first | rfl | exact narO | exact narA) (by first | rfl | assumption) ?_
  exact ⟨_, rfl, q, r, rfl, by rw [List.take_left]⟩

theorem n32_back {x : Int32} (h : 0 ≤ x.toInt) : x = x.toInt.toNat.toInt32 := by
  have r := rng32 x
  apply Int32.toInt_inj.mp
  rw [n32 (by omega)]
  omega

theorem rem3 (x : Int32) : ∃ n : Nat, n ≤ 2 ∧ (x &&& 3) % 3 = n.toInt32 := by
  have a := c_and x 3 (by decide)
  have b := remR (x &&& 3) 3 3 a.1 (by decide) (by decide)
  exact ⟨((x &&& 3) % 3).toInt.toNat, by omega, n32_back b.1⟩
abbrev Lat1 (c : Int32) : Prop := 0 ≤ c.toInt ∧ c.toInt < 256
abbrev lAnd : List Int32 := [32, 97, 110, 100, 32]
abbrev lCan : List Int32 := [32, 99, 97, 110, 110, 111, 116, 32, 98, 101, 32, 103, 105, 118, 101, 110, 32, 116, 111, 103, 101, 116, 104, 101, 114]
abbrev nBU : String := "org/claimbridge/cli/BadUsageException"
set_option maxHeartbeats 4000000 in
theorem ct_mk {l : Launch} {Z : State} {a0 : Array Value} (hw : ∀ d ∈ tables_1, d.before a0 Z = true) (hE : EW Z a0 EL0) (F : ∃ z, z ≠ (0 : Int32) ∧ Sta Z Z.heap "java/lang/String" "COMPACT_STRINGS" "Z" (.int z)) {L : Store} {n : Nat} {a b : Int32} (hn : n ≤ 2) (ha : Lat1 a) (hb : Lat1 b) :
    Ct l Z EL0 (⟨"org/claimbridge/cli/BadUsageExceptionGivenTogetherPinLaw", "draw", "(ICC)Ljava/lang/String;"⟩ : MethodName) method_2_code 3 (some (.object "java/lang/String")) ({ frames := 4, cells := 6, slots := 16, locals := 66 } : Room) #[.int n.toInt32, .int a, .int b] L (RV fun u M => ∃ s r fs fr, u = .ref s ∧ M = (s, fs, OB Z "java/lang/String" layS [.ref r, .int 0]) :: (r, fr, AR Z .byte ((([a, b].take n).map b8).map .int)) :: L) := by
  refine Ct.of (a0 := a0) (Ls := [.val (.int _), .val (.int _), .val (.int _)]) (plainFor_of_name pn_7) (fun m => ef_iii_3 m _ _ _) hE ?_
  rcases (by omega : n = 0 ∨ n = 1 ∨ n = 2) with rfl | rfl | rfl
  · refine Wk.iload_n (q := 1) d28_0 rfl rfl ?_
    refine Wk.if_f (q := 4) d28_1 rfl (by decide) ?_
    refine Wk.new (q := 7) d28_4 rfl (hw _ (List.mem_of_getElem? (i := 4) rfl)) (hw _ (List.mem_of_getElem? (i := 5) rfl)) (hw _ (List.mem_of_getElem? (i := 6) rfl)) (layS_ok hw) layS_dv (by first | decide | (dsimp only; omega) | omega) (by first | decide | (dsimp only; omega) | omega) ?_
    intro s
    refine Wk.dup (q := 8) d28_7 rfl rfl ?_
    refine Wk.iconst (q := 9) (0) d28_8 rfl (by decide) ?_
    refine Wk.newarray (q := 11) .char (0) [] d28_9 rfl rfl rfl (hw _ (List.mem_of_getElem? (i := 7) rfl)) (by decide) (by decide) (by decide) (by first | decide | (dsimp only; omega) | omega) (by first | decide | (dsimp only; omega) | omega) ?_
    intro ca
    refine Wk.pull (o := (s, true, OB Z "java/lang/String" layS [.null, .int 0])) (by repeat (first | exact Ex.here | assumption | apply Ex.there)) ?_
    refine Wk.special (q := 14) [_] _ 1 d28_11 rfl rfl (hw _ (List.mem_of_getElem? (i := 8) rfl)) (hw _ (List.mem_of_getElem? (i := 9) rfl)) (hw _ (List.mem_of_getElem? (i := 6) rfl)) (hw _ (List.mem_of_getElem? (i := 10) rfl)) ar_19 (by decide) rfl rfl rfl rfl (ct_strInitG hw hE F (cs := []) lat_nil 2 (by simp) (by simp) (by repeat (first | exact List.mem_cons_self | assumption | refine List.mem_cons_of_mem _ ?_))) (by first | decide | (dsimp only; omega) | omega) (by first | decide | (dsimp only; omega) | omega) (by first | decide | (dsimp only; omega) | omega) (by first | decide | (dsimp only; omega) | omega) (k0 ?_)
    rintro _ ⟨r, fr, rfl⟩
    refine Wk.sub (.cons_cons _ (.cons_cons _ (.cons _ (.refl _)))) ?_
    refine Wk.areturn (t := (.object "java/lang/String")) d28_14 rfl rfl (by first | rfl | exact narO | exact narA) (by first | rfl | assumption) ?_
    exact ⟨_, rfl, s, r, true, fr, rfl, rfl⟩
  · refine Wk.iload_n (q := 1) d28_0 rfl rfl ?_
    refine Wk.if_t (q := 15) d28_1 (by decide) (by decide) (by decide) ?_
    refine Wk.iload_n (q := 16) d28_15 rfl rfl ?_
    refine Wk.iconst (q := 17) (1) d28_16 rfl (by decide) ?_
    refine Wk.icmp_f (q := 20) d28_17 rfl (by decide) ?_
    refine Wk.new (q := 23) d28_20 rfl (hw _ (List.mem_of_getElem? (i := 4) rfl)) (hw _ (List.mem_of_getElem? (i := 5) rfl)) (hw _ (List.mem_of_getElem? (i := 6) rfl)) (layS_ok hw) layS_dv (by first | decide | (dsimp only; omega) | omega) (by first | decide | (dsimp only; omega) | omega) ?_
    intro s
    refine Wk.dup (q := 24) d28_23 rfl rfl ?_
    refine Wk.iconst (q := 25) (1) d28_24 rfl (by decide) ?_
    refine Wk.newarray (q := 27) .char (1) [(.int 0)] d28_25 rfl rfl rfl (hw _ (List.mem_of_getElem? (i := 7) rfl)) (by decide) (by decide) (by decide) (by first | decide | (dsimp only; omega) | omega) (by first | decide | (dsimp only; omega) | omega) ?_
    intro ca
    refine Wk.dup (q := 28) d28_27 rfl rfl ?_
    refine Wk.iconst (q := 29) (0) d28_28 rfl (by decide) ?_
    refine Wk.iload_n (q := 30) d28_29 rfl rfl ?_
    refine Wk.castore (q := 31) (0) d28_30 rfl (by repeat (first | exact Ex.here | assumption | apply Ex.there)) (by decide) (by decide) (nchar_lat ha) (VS.here) ?_
    refine Wk.pull (o := (s, true, OB Z "java/lang/String" layS [.null, .int 0])) (by repeat (first | exact Ex.here | assumption | apply Ex.there)) ?_
    refine Wk.special (q := 34) [_] _ 1 d28_31 rfl rfl (hw _ (List.mem_of_getElem? (i := 8) rfl)) (hw _ (List.mem_of_getElem? (i := 9) rfl)) (hw _ (List.mem_of_getElem? (i := 6) rfl)) (hw _ (List.mem_of_getElem? (i := 10) rfl)) ar_19 (by decide) rfl rfl rfl rfl (ct_strInitG hw hE F (cs := [a]) (lat_cons ha lat_nil) 2 (by simp) (by simp) (by repeat (first | exact List.mem_cons_self | assumption | refine List.mem_cons_of_mem _ ?_))) (by first | decide | (dsimp only; omega) | omega) (by first | decide | (dsimp only; omega) | omega) (by first | decide | (dsimp only; omega) | omega) (by first | decide | (dsimp only; omega) | omega) (k0 ?_)
    rintro _ ⟨r, fr, rfl⟩
    refine Wk.sub (.cons_cons _ (.cons_cons _ (.cons _ (.refl _)))) ?_
    refine Wk.areturn (t := (.object "java/lang/String")) d28_34 rfl rfl (by first | rfl | exact narO | exact narA) (by first | rfl | assumption) ?_
    exact ⟨_, rfl, s, r, true, fr, rfl, rfl⟩
  · refine Wk.iload_n (q := 1) d28_0 rfl rfl ?_
    refine Wk.if_t (q := 15) d28_1 (by decide) (by decide) (by decide) ?_
    refine Wk.iload_n (q := 16) d28_15 rfl rfl ?_
    refine Wk.iconst (q := 17) (1) d28_16 rfl (by decide) ?_
    refine Wk.icmp_t (q := 35) d28_17 (by decide) (by decide) (by decide) ?_
    refine Wk.new (q := 38) d28_35 rfl (hw _ (List.mem_of_getElem? (i := 4) rfl)) (hw _ (List.mem_of_getElem? (i := 5) rfl)) (hw _ (List.mem_of_getElem? (i := 6) rfl)) (layS_ok hw) layS_dv (by first | decide | (dsimp only; omega) | omega) (by first | decide | (dsimp only; omega) | omega) ?_
    intro s
    refine Wk.dup (q := 39) d28_38 rfl rfl ?_
    refine Wk.iconst (q := 40) (2) d28_39 rfl (by decide) ?_
    refine Wk.newarray (q := 42) .char (2) [(.int 0), (.int 0)] d28_40 rfl rfl rfl (hw _ (List.mem_of_getElem? (i := 7) rfl)) (by decide) (by decide) (by decide) (by first | decide | (dsimp only; omega) | omega) (by first | decide | (dsimp only; omega) | omega) ?_
    intro ca
    refine Wk.dup (q := 43) d28_42 rfl rfl ?_
    refine Wk.iconst (q := 44) (0) d28_43 rfl (by decide) ?_
    refine Wk.iload_n (q := 45) d28_44 rfl rfl ?_
    refine Wk.castore (q := 46) (0) d28_45 rfl (by repeat (first | exact Ex.here | assumption | apply Ex.there)) (by decide) (by decide) (nchar_lat ha) (VS.here) ?_
    refine Wk.dup (q := 47) d28_46 rfl rfl ?_
    refine Wk.iconst (q := 48) (1) d28_47 rfl (by decide) ?_
    refine Wk.iload_n (q := 49) d28_48 rfl rfl ?_
    refine Wk.castore (q := 50) (1) d28_49 rfl (by repeat (first | exact Ex.here | assumption | apply Ex.there)) (by decide) (by decide) (nchar_lat hb) (VS.there (VS.here)) ?_
    refine Wk.pull (o := (s, true, OB Z "java/lang/String" layS [.null, .int 0])) (by repeat (first | exact Ex.here | assumption | apply Ex.there)) ?_
    refine Wk.special (q := 53) [_] _ 1 d28_50 rfl rfl (hw _ (List.mem_of_getElem? (i := 8) rfl)) (hw _ (List.mem_of_getElem? (i := 9) rfl)) (hw _ (List.mem_of_getElem? (i := 6) rfl)) (hw _ (List.mem_of_getElem? (i := 10) rfl)) ar_19 (by decide) rfl rfl rfl rfl (ct_strInitG hw hE F (cs := [a, b]) (lat_cons ha (lat_cons hb lat_nil)) 2 (by simp) (by simp) (by repeat (first | exact List.mem_cons_self | assumption | refine List.mem_cons_of_mem _ ?_))) (by first | decide | (dsimp only; omega) | omega) (by first | decide | (dsimp only; omega) | omega) (by first | decide | (dsimp only; omega) | omega) (by first | decide | (dsimp only; omega) | omega) (k0 ?_)
    rintro _ ⟨r, fr, rfl⟩
    refine Wk.sub (.cons_cons _ (.cons_cons _ (.cons _ (.refl _)))) ?_
    refine Wk.areturn (t := (.object "java/lang/String")) d28_53 rfl rfl (by first | rfl | exact narO | exact narA) (by first | rfl | assumption) ?_
    exact ⟨_, rfl, s, r, true, fr, rfl, rfl⟩
theorem ct_mmax {l : Launch} {Z : State} {a0 : Array Value} (hw : ∀ d ∈ tables_1, d.before a0 Z = true) (hE : EW Z a0 EL0) {L : Store} {i j : Int32} : Ct l Z EL0 (⟨"java/lang/Math", "max", "(II)I"⟩ : MethodName) jdk_29_method_65_code 2 (some .int) ({ frames := 0, cells := 0, slots := 0, locals := 0 } : Room) #[.int i, .int j] L (RV fun u M => u = .int (if i < j then j else i) ∧ M = L) := by
  refine Ct.of (a0 := a0) (Ls := [.val (.int _), .val (.int _)]) pn_8 (fun m => ef_ii_2 m _ _) hE ?_
  refine Wk.iload_n (q := 1) d29_0 rfl rfl ?_
  refine Wk.iload_n (q := 2) d29_1 rfl rfl ?_
  refine Wk.icmp_s (q := 9) (q' := 5) d29_2 (by decide) (by decide) rfl ?_ ?_
  · intro (h : i < j)
    refine Wk.iload_n (q := 10) d29_9 rfl rfl ?_
    refine Wk.ireturn (t := .int) d29_10 rfl (by simp) (by rfl) ?_
    exact ⟨_, rfl, by rw [if_pos h], rfl⟩
  · intro (h : ¬ i < j)
    refine Wk.iload_n (q := 6) d29_5 rfl rfl ?_
    refine Wk.goto (q := 10) d29_6 (by decide) (by decide) ?_
    refine Wk.ireturn (t := .int) d29_10 rfl (by simp) (by rfl) ?_
    exact ⟨_, rfl, by rw [if_neg h], rfl⟩
theorem ct_newLen {l : Launch} {Z : State} {a0 : Array Value} (hw : ∀ d ∈ tables_1, d.before a0 Z = true) (hE : EW Z a0 EL0) {L : Store} {a : Nat} (h : a ≤ 18) : Ct l Z EL0 (⟨"jdk/internal/util/ArraysSupport", "newLength", "(III)I"⟩ : MethodName) jdk_48_method_27_code 4 (some .int) ({ frames := 1, cells := 0, slots := 0, locals := 14 } : Room) #[.int 16, .int a.toInt32, .int 18] L (RV fun u M => u = .int 34 ∧ M = L) := by
  have e : (if a.toInt32 < (18 : Int32) then (18 : Int32) else a.toInt32) = 18 := by
    split
    · rfl
    · rename_i q
      have q' : ¬ a < 18 := fun z => q ((n32_lt (n := 18) (by omega) (by decide)).mpr z)
      rw [show a = 18 by omega]; rfl
  refine Ct.of (a0 := a0) (Ls := [.val (.int _), .val (.int _), .val (.int _), .unset]) (plainFor_of_name pn_9) (fun m => ef_iii_4 m _ _ _) hE ?_
  refine Wk.iload_n (q := 1) d30_0 rfl rfl ?_
  refine Wk.iload_n (q := 2) d30_1 rfl rfl ?_
  refine Wk.iload_n (q := 3) d30_2 rfl rfl ?_
  refine Wk.static (q := 6) [_, _] _ 1 d30_3 rfl (hw _ (List.mem_of_getElem? (i := 119) rfl)) (hw _ (List.mem_of_getElem? (i := 120) rfl)) (hw _ (List.mem_of_getElem? (i := 121) rfl)) (hw _ (List.mem_of_getElem? (i := 122) rfl)) ar_7 (by decide) rfl rfl rfl rfl (ct_mmax hw hE) (by first | decide | (dsimp only; omega) | omega) (by first | decide | (dsimp only; omega) | omega) (by first | decide | (dsimp only; omega) | omega) (by first | decide | (dsimp only; omega) | omega) (kv ?_)
  rintro _ _ ⟨rfl, rfl⟩
  rw [e]
  refine Wk.iadd (q := 7) d30_6 rfl ?_
  rw [show (16 : Int32) + 18 = 34 from rfl]
  refine Wk.istore_n (q := 8) d30_7 rfl (LS1.there (LS1.there (LS1.there (LS1.here (by first | exact One.u | exact One.val rfl | assumption))))) ?_
  refine Wk.iconst (q := 9) (0) d30_8 rfl (by decide) ?_
  refine Wk.iload_n (q := 10) d30_9 rfl rfl ?_
  refine Wk.icmp_f (q := 13) d30_10 rfl (by decide) ?_
  refine Wk.iload_n (q := 14) d30_13 rfl rfl ?_
  refine Wk.ldc_int (q := 16) d30_14 rfl (hw _ (List.mem_of_getElem? (i := 123) rfl)) ?_
  refine Wk.icmp_f (q := 19) d30_16 rfl (by decide) ?_
  refine Wk.iload_n (q := 20) d30_19 rfl rfl ?_
  refine Wk.ireturn (t := .int) d30_20 rfl (by simp) (by rfl) ?_
  exact ⟨_, rfl, rfl, rfl⟩
theorem ct_newCap {l : Launch} {Z : State} {a0 : Array Value} (hw : ∀ d ∈ tables_1, d.before a0 Z = true) (hE : EW Z a0 EL0) {L : Store} {s v : Addr} {f fv : Bool} {n : Int32} {m : Nat} {vs : List Value} (h1 : 16 ≤ m) (h2 : m ≤ 34) (hl : vs.length = 16) (hs : (s, f, OB Z "java/lang/StringBuilder" layB [.ref v, .int 0, .int n]) ∈ L) (hv : (v, fv, AR Z .byte vs) ∈ L) :
    Ct l Z EL0 (⟨"java/lang/AbstractStringBuilder", "newCapacity", "(I)I"⟩ : MethodName) jdk_68_method_10_code 6 (some .int) ({ frames := 2, cells := 0, slots := 0, locals := 29 } : Room) #[.ref s, .int m.toInt32] L (RV fun u M => u = .int 34 ∧ M = L) := by
  refine Ct.of (a0 := a0) (Ls := [.val (.ref _), .val (.int _), .unset, .unset, .unset, .unset]) (plainFor_of_name pn_5) (fun m => ef_ri_6 m _ _) hE ?_
  refine Wk.aload_n (q := 1) d31_0 rfl rfl (by first | rfl | assumption) ?_
  refine Wk.getfield (q := 4) (C := "java/lang/StringBuilder") (lay := layB) 0 d31_1 rfl (hw _ (List.mem_of_getElem? (i := 57) rfl)) Via.refl (by repeat (first | exact List.mem_cons_self | assumption | refine List.mem_cons_of_mem _ ?_)) rfl (by rfl) ?_
  refine Wk.arraylength (q := 5) d31_4 rfl (by repeat (first | exact List.mem_cons_self | assumption | refine List.mem_cons_of_mem _ ?_)) (show vs.length.toInt32 = (16 : Int32) by rw [hl]; rfl) ?_
  refine Wk.istore_n (q := 6) d31_5 rfl (LS1.there (LS1.there (LS1.here (by first | exact One.u | exact One.val rfl | assumption)))) ?_
  refine Wk.iload_n (q := 7) d31_6 rfl rfl ?_
  refine Wk.aload_n (q := 8) d31_7 rfl rfl (by first | rfl | assumption) ?_
  refine Wk.getfield (q := 11) (C := "java/lang/StringBuilder") (lay := layB) 1 d31_8 rfl (hw _ (List.mem_of_getElem? (i := 59) rfl)) Via.refl (by repeat (first | exact List.mem_cons_self | assumption | refine List.mem_cons_of_mem _ ?_)) rfl (by rfl) ?_
  refine Wk.ishl (q := 12) d31_11 rfl ?_
  rw [shl0]
  refine Wk.istore_n (q := 13) d31_12 rfl (LS1.there (LS1.there (LS1.there (LS1.here (by first | exact One.u | exact One.val rfl | assumption))))) ?_
  refine Wk.iload_n (q := 14) d31_13 rfl rfl ?_
  refine Wk.iload_n (q := 15) d31_14 rfl rfl ?_
  refine Wk.isub (q := 16) d31_15 rfl ?_
  rw [show m.toInt32 - 16 = (m - 16).toInt32 from n32_sub (i := 16) h1]
  refine Wk.istore (q := 18) d31_16 rfl (LS1.there (LS1.there (LS1.there (LS1.there (LS1.here (by first | exact One.u | exact One.val rfl | assumption)))))) ?_
  refine Wk.iload_n (q := 19) d31_18 rfl rfl ?_
  refine Wk.iload (q := 21) d31_19 rfl rfl ?_
  refine Wk.iload_n (q := 22) d31_21 rfl rfl ?_
  refine Wk.iconst (q := 23) (2) d31_22 rfl (by decide) ?_
  refine Wk.aload_n (q := 24) d31_23 rfl rfl (by first | rfl | assumption) ?_
  refine Wk.getfield (q := 27) (C := "java/lang/StringBuilder") (lay := layB) 1 d31_24 rfl (hw _ (List.mem_of_getElem? (i := 59) rfl)) Via.refl (by repeat (first | exact List.mem_cons_self | assumption | refine List.mem_cons_of_mem _ ?_)) rfl (by rfl) ?_
  refine Wk.ishl (q := 28) d31_27 rfl ?_
  rw [shl0]
  refine Wk.iadd (q := 29) d31_28 rfl ?_
  rw [show (16 : Int32) + 2 = 18 from rfl]
  refine Wk.static (q := 32) [_, _, _] _ 0 d31_29 rfl (hw _ (List.mem_of_getElem? (i := 115) rfl)) (hw _ (List.mem_of_getElem? (i := 116) rfl)) (hw _ (List.mem_of_getElem? (i := 117) rfl)) (hw _ (List.mem_of_getElem? (i := 118) rfl)) ar_20 (by decide) rfl rfl rfl rfl (ct_newLen hw hE (by omega)) (by first | decide | (dsimp only; omega) | omega) (by first | decide | (dsimp only; omega) | omega) (by first | decide | (dsimp only; omega) | omega) (by first | decide | (dsimp only; omega) | omega) (kv ?_)
  rintro _ _ ⟨rfl, rfl⟩
  refine Wk.istore (q := 34) d31_32 rfl (LS1.there (LS1.there (LS1.there (LS1.there (LS1.there (LS1.here (by first | exact One.u | exact One.val rfl | assumption))))))) ?_
  refine Wk.iload (q := 36) d31_34 rfl rfl ?_
  refine Wk.ldc_int (q := 38) d31_36 rfl (hw _ (List.mem_of_getElem? (i := 124) rfl)) ?_
  refine Wk.icmp_t (q := 51) d31_38 (by decide) (by decide) (by decide) ?_
  refine Wk.iload (q := 53) d31_51 rfl rfl ?_
  refine Wk.aload_n (q := 54) d31_53 rfl rfl (by first | rfl | assumption) ?_
  refine Wk.getfield (q := 57) (C := "java/lang/StringBuilder") (lay := layB) 1 d31_54 rfl (hw _ (List.mem_of_getElem? (i := 59) rfl)) Via.refl (by repeat (first | exact List.mem_cons_self | assumption | refine List.mem_cons_of_mem _ ?_)) rfl (by rfl) ?_
  refine Wk.ishr (q := 58) d31_57 rfl ?_
  rw [shr0]
  refine Wk.ireturn (t := .int) d31_58 rfl (by simp) (by rfl) ?_
  exact ⟨_, rfl, rfl, rfl⟩
set_option maxHeartbeats 4000000 in
theorem ct_cpyOf {l : Launch} {Z : State} {a0 : Array Value} (hw : ∀ d ∈ tables_1, d.before a0 Z = true) (hE : EW Z a0 EL0) {L : Store} {v : Addr} {fv : Bool} {zs : List Int32} (hz : zs.length = 16) (hv : (v, fv, AR Z .byte ((zs.map b8).map .int)) ∈ L) :
    Ct l Z EL0 (⟨"java/util/Arrays", "copyOf", "([BI)[B"⟩ : MethodName) jdk_65_method_121_code 3 (some (.array .byte)) ({ frames := 1, cells := 1, slots := 34, locals := 18 } : Room) #[.ref v, .int 34] L (RV fun u M => ∃ w, u = .ref w ∧ M = (w, true, BA Z (((zs ++ List.replicate 18 (0 : Int32)).map b8).map .int)) :: L) := by
  have hle : ((zs.map b8).map Value.int).length = 16 := by simp [hz]
  refine Ct.of (a0 := a0) (Ls := [.val (.ref _), .val (.int _), .unset]) (plainFor_of_name pn_4) (fun m => ef_ri_3 m _ _) hE ?_
  refine Wk.iload_n (q := 1) d32_0 rfl rfl ?_
  refine Wk.aload_n (q := 2) d32_1 rfl rfl (by first | rfl | assumption) ?_
  refine Wk.arraylength (q := 3) d32_2 rfl (by repeat (first | exact List.mem_cons_self | assumption | refine List.mem_cons_of_mem _ ?_)) (show ((zs.map b8).map Value.int).length.toInt32 = (16 : Int32) by rw [hle]; rfl) ?_
  refine Wk.icmp_t (q := 14) d32_3 (by decide) (by decide) (by decide) ?_
  refine Wk.iload_n (q := 15) d32_14 rfl rfl ?_
  refine Wk.newarrayE (q := 17) ((34)) (List.replicate (34) (.int 0)) d32_15 rfl rfl (hw _ (List.mem_of_getElem? (i := 19) rfl)) (by decide) (by decide) (by decide) (by first | decide | (dsimp only; omega) | omega) (by first | decide | (dsimp only; omega) | omega) ?_
  intro w
  refine Wk.astore_n (q := 18) d32_17 rfl (by first | rfl | assumption) (LS1.there (LS1.there (LS1.here (by first | exact One.u | exact One.val rfl | assumption)))) ?_
  refine Wk.aload_n (q := 19) d32_18 rfl rfl (by first | rfl | assumption) ?_
  refine Wk.iconst (q := 20) (0) d32_19 rfl (by decide) ?_
  refine Wk.aload_n (q := 21) d32_20 rfl rfl (by first | rfl | assumption) ?_
  refine Wk.iconst (q := 22) (0) d32_21 rfl (by decide) ?_
  refine Wk.aload_n (q := 23) d32_22 rfl rfl (by first | rfl | assumption) ?_
  refine Wk.arraylength (q := 24) d32_23 rfl (by repeat (first | exact List.mem_cons_self | assumption | refine List.mem_cons_of_mem _ ?_)) (show ((zs.map b8).map Value.int).length.toInt32 = (16 : Int32) by rw [hle]; rfl) ?_
  refine Wk.iload_n (q := 25) d32_24 rfl rfl ?_
  refine Wk.static (q := 28) [_, _] _ 4 d32_25 rfl (hw _ (List.mem_of_getElem? (i := 129) rfl)) (hw _ (List.mem_of_getElem? (i := 130) rfl)) (hw _ (List.mem_of_getElem? (i := 121) rfl)) (hw _ (List.mem_of_getElem? (i := 131) rfl)) ar_7 (by decide) rfl rfl rfl rfl (ct_mmin hw hE) (by first | decide | (dsimp only; omega) | omega) (by first | decide | (dsimp only; omega) | omega) (by first | decide | (dsimp only; omega) | omega) (by first | decide | (dsimp only; omega) | omega) (kv ?_)
  rintro _ _ ⟨rfl, rfl⟩
  rw [show (if (34 : Int32) < 16 then (34 : Int32) else 16) = 16 from rfl]
  refine Wk.arraycopyE (q := 31) 0 0 0 16 (((zs ++ List.replicate 18 (0 : Int32)).map b8).map .int) d32_28 rfl (hw _ (List.mem_of_getElem? (i := 132) rfl)) (hw _ (List.mem_of_getElem? (i := 107) rfl)) (hw _ (List.mem_of_getElem? (i := 105) rfl)) (hw _ (List.mem_of_getElem? (i := 106) rfl)) (by repeat (first | exact Ex.here | assumption | apply Ex.there)) (by repeat (first | exact List.mem_cons_self | assumption | refine List.mem_cons_of_mem _ ?_)) (fit_b8 zs) (fit_rep _) (by decide) (by decide) (by decide) (by rw [hle]; exact Nat.le_refl _) (by simp) (by rw [List.take_zero, List.nil_append, List.drop_zero, List.take_of_length_le (by rw [hle]; exact Nat.le_refl _), List.drop_replicate, List.map_append, List.map_append, rep_bld]) rfl (by first | decide | (dsimp only; omega) | omega) rfl (by first | decide | (dsimp only; decide)) ?_
  refine Wk.aload_n (q := 32) d32_31 rfl rfl (by first | rfl | assumption) ?_
  refine Wk.areturn (t := (.array .byte)) d32_32 rfl rfl (by first | rfl | exact narO | exact narA) (by first | rfl | assumption) ?_
  exact ⟨_, rfl, w, rfl, rfl⟩
theorem grow {ys : List Int32} (h : ys.length ≤ 16) : (ys ++ List.replicate (16 - ys.length) (0 : Int32)) ++ List.replicate 18 0 = ys ++ List.replicate (34 - ys.length) 0 := by
  rw [List.append_assoc, List.replicate_append_replicate, show 16 - ys.length + 18 = 34 - ys.length by omega]
set_option maxHeartbeats 4000000 in
theorem ct_ensCapG {l : Launch} {Z : State} {a0 : Array Value} (hw : ∀ d ∈ tables_1, d.before a0 Z = true) (hE : EW Z a0 EL0) {L : Store} {s v : Addr} {fv : Bool} {n : Int32} {m : Nat} {ys : List Int32} (hy : ys.length ≤ 16) (h1 : 16 < m) (h2 : m ≤ 34) (hv : (v, fv, AR Z .byte (((ys ++ List.replicate (16 - ys.length) (0 : Int32)).map b8).map .int)) ∈ L) :
    Ct l Z EL0 (⟨"java/lang/AbstractStringBuilder", "ensureCapacityInternal", "(I)V"⟩ : MethodName) jdk_68_method_9_code 3 none ({ frames := 3, cells := 1, slots := 34, locals := 48 } : Room) #[.ref s, .int m.toInt32] ((s, true, OB Z "java/lang/StringBuilder" layB [.ref v, .int 0, .int n]) :: L) (R0 fun M => ∃ w, M = (s, true, OB Z "java/lang/StringBuilder" layB [.ref w, .int 0, .int n]) :: (w, true, BA Z (((ys ++ List.replicate (34 - ys.length) (0 : Int32)).map b8).map .int)) :: L) := by
  have hz : (ys ++ List.replicate (16 - ys.length) (0 : Int32)).length = 16 := by rw [List.length_append, List.length_replicate]; omega
  have hle : (((ys ++ List.replicate (16 - ys.length) (0 : Int32)).map b8).map Value.int).length = 16 := by rw [List.length_map, List.length_map, hz]
  refine Ct.of (a0 := a0) (Ls := [.val (.ref _), .val (.int _), .unset]) (plainFor_of_name pn_5) (fun m => ef_ri_3 m _ _) hE ?_
  refine Wk.aload_n (q := 1) d15_0 rfl rfl (by first | rfl | assumption) ?_
  refine Wk.getfield (q := 4) (C := "java/lang/StringBuilder") (lay := layB) 0 d15_1 rfl (hw _ (List.mem_of_getElem? (i := 57) rfl)) Via.refl (by repeat (first | exact List.mem_cons_self | assumption | refine List.mem_cons_of_mem _ ?_)) rfl (by rfl) ?_
  refine Wk.arraylength (q := 5) d15_4 rfl (by repeat (first | exact List.mem_cons_self | assumption | refine List.mem_cons_of_mem _ ?_)) (show (((ys ++ List.replicate (16 - ys.length) (0 : Int32)).map b8).map Value.int).length.toInt32 = (16 : Int32) by rw [hle]; rfl) ?_
  refine Wk.aload_n (q := 6) d15_5 rfl rfl (by first | rfl | assumption) ?_
  refine Wk.getfield (q := 9) (C := "java/lang/StringBuilder") (lay := layB) 1 d15_6 rfl (hw _ (List.mem_of_getElem? (i := 59) rfl)) Via.refl (by repeat (first | exact List.mem_cons_self | assumption | refine List.mem_cons_of_mem _ ?_)) rfl (by rfl) ?_
  refine Wk.ishr (q := 10) d15_9 rfl ?_
  rw [shr0]
  refine Wk.istore_n (q := 11) d15_10 rfl (LS1.there (LS1.there (LS1.here (by first | exact One.u | exact One.val rfl | assumption)))) ?_
  refine Wk.iload_n (q := 12) d15_11 rfl rfl ?_
  refine Wk.iload_n (q := 13) d15_12 rfl rfl ?_
  refine Wk.isub (q := 14) d15_13 rfl ?_
  rw [show m.toInt32 - 16 = (m - 16).toInt32 from n32_sub (i := 16) (by omega)]
  refine Wk.if_f (q := 17) d15_14 rfl (XT.i0_le_f (show (0 : Nat).toInt32 < (m - 16).toInt32 from (n32_lt (by decide) (by omega)).mpr (by omega))) ?_
  refine Wk.aload_n (q := 18) d15_17 rfl rfl (by first | rfl | assumption) ?_
  refine Wk.aload_n (q := 19) d15_18 rfl rfl (by first | rfl | assumption) ?_
  refine Wk.getfield (q := 22) (C := "java/lang/StringBuilder") (lay := layB) 0 d15_19 rfl (hw _ (List.mem_of_getElem? (i := 57) rfl)) Via.refl (by repeat (first | exact List.mem_cons_self | assumption | refine List.mem_cons_of_mem _ ?_)) rfl (by rfl) ?_
  refine Wk.aload_n (q := 23) d15_22 rfl rfl (by first | rfl | assumption) ?_
  refine Wk.iload_n (q := 24) d15_23 rfl rfl ?_
  refine Wk.priv (q := 27) (C := "java/lang/StringBuilder") [_] _ 2 d15_24 rfl (hw _ (List.mem_of_getElem? (i := 110) rfl)) (hw _ (List.mem_of_getElem? (i := 111) rfl)) (hw _ (List.mem_of_getElem? (i := 113) rfl)) (hw _ (List.mem_of_getElem? (i := 112) rfl)) (hw _ (List.mem_of_getElem? (i := 53) rfl)) (hw _ (List.mem_of_getElem? (i := 114) rfl)) ar_21 (by decide) (by repeat (first | exact List.mem_cons_self | assumption | refine List.mem_cons_of_mem _ ?_)) rfl rfl rfl rfl (ct_newCap hw hE (by omega) h2 hle List.mem_cons_self (List.mem_cons_of_mem _ hv)) (by first | decide | (dsimp only; omega) | omega) (by first | decide | (dsimp only; omega) | omega) (by first | decide | (dsimp only; omega) | omega) (by first | decide | (dsimp only; omega) | omega) (kv ?_)
  rintro _ _ ⟨rfl, rfl⟩
  refine Wk.aload_n (q := 28) d15_27 rfl rfl (by first | rfl | assumption) ?_
  refine Wk.getfield (q := 31) (C := "java/lang/StringBuilder") (lay := layB) 1 d15_28 rfl (hw _ (List.mem_of_getElem? (i := 59) rfl)) Via.refl (by repeat (first | exact List.mem_cons_self | assumption | refine List.mem_cons_of_mem _ ?_)) rfl (by rfl) ?_
  refine Wk.ishl (q := 32) d15_31 rfl ?_
  rw [shl0]
  refine Wk.static (q := 35) [_, _] _ 1 d15_32 rfl (hw _ (List.mem_of_getElem? (i := 125) rfl)) (hw _ (List.mem_of_getElem? (i := 126) rfl)) (hw _ (List.mem_of_getElem? (i := 127) rfl)) (hw _ (List.mem_of_getElem? (i := 128) rfl)) ar_22 (by decide) rfl rfl rfl rfl (ct_cpyOf hw hE hz (List.mem_cons_of_mem _ hv)) (by first | decide | (dsimp only; omega) | omega) (by first | decide | (dsimp only; omega) | omega) (by first | decide | (dsimp only; omega) | omega) (by first | decide | (dsimp only; omega) | omega) (kv ?_)
  rintro _ _ ⟨w, rfl, rfl⟩
  refine Wk.putfield (q := 38) (C := "java/lang/StringBuilder") (lay := layB) 0 d15_35 rfl (hw _ (List.mem_of_getElem? (i := 57) rfl)) Via.refl (layB_ok hw) (hw _ (List.mem_of_getElem? (i := 44) rfl)) (Or.inl (hw _ (List.mem_of_getElem? (i := 58) rfl))) rfl (by decide +kernel : parseFieldDescriptor "[B" = some (.array .byte)) (by repeat (first | exact Ex.here | assumption | apply Ex.there)) (VS.here) (by first | rfl | exact narO) (by first | rfl | exact fitO (by assumption) | exact fitA (by assumption)) ?_
  refine Wk.return_ d15_38 rfl ?_
  exact ⟨rfl, w, by rw [grow hy]⟩
set_option maxHeartbeats 4000000 in
theorem ct_strGBE {l : Launch} {Z : State} {a0 : Array Value} (hw : ∀ d ∈ tables_1, d.before a0 Z = true) (hE : EW Z a0 EL0) (F : ∃ z, z ≠ (0 : Int32) ∧ Sta Z Z.heap "java/lang/String" "COMPACT_STRINGS" "Z" (.int z)) {L : Store} {v t d : Addr} {ft fd : Bool} {n : Nat} {zs cs : List Int32} (hl : zs.length < 1000000) (h : n + cs.length ≤ zs.length) (ht : (t, ft, OB Z "java/lang/String" layS [.ref d, .int 0]) ∈ L) (hd : (d, fd, AR Z .byte ((cs.map b8).map .int)) ∈ L) :
    Ct l Z EL0 (⟨"java/lang/String", "getBytes", "([BIB)V"⟩ : MethodName) jdk_42_method_147_code 4 none ({ frames := 1, cells := 0, slots := 0, locals := 18 } : Room) #[.ref t, .ref v, .int n.toInt32, .int 0] ((v, true, BA Z ((zs.map b8).map .int)) :: L) (R0 fun M => M = (v, true, BA Z (((zs.take n ++ cs ++ zs.drop (n + cs.length)).map b8).map .int)) :: L) := by
  have hle : ((cs.map b8).map Value.int).length = cs.length := by simp
  have hlz : ((zs.map b8).map Value.int).length = zs.length := by simp
  refine Ct.of (a0 := a0) (Ls := [.val (.ref _), .val (.ref _), .val (.int _), .val (.int _)]) (plainFor_of_name pn_1) (fun m => ef_rrii_4 m _ _ _ _) hE ?_
  refine Wk.aload_n (q := 1) d17_0 rfl rfl (by first | rfl | assumption) ?_
  refine Wk.virtual (q := 4) (C := "java/lang/String") [] _ 0 d17_1 rfl (hw _ (List.mem_of_getElem? (i := 76) rfl)) (hw _ (List.mem_of_getElem? (i := 77) rfl)) (hw _ (List.mem_of_getElem? (i := 79) rfl)) (hw _ (List.mem_of_getElem? (i := 78) rfl)) (hw _ (List.mem_of_getElem? (i := 6) rfl)) (hw _ (List.mem_of_getElem? (i := 80) rfl)) ar_5 (by decide) (nfSel (hw _ (List.mem_of_getElem? (i := 79) rfl))) (by repeat (first | exact List.mem_cons_self | assumption | refine List.mem_cons_of_mem _ ?_)) rfl rfl rfl rfl (ct_coder hw hE F (Or.inl rfl) (List.mem_cons_of_mem _ ht)) (by first | decide | (dsimp only; omega) | omega) (by first | decide | (dsimp only; omega) | omega) (by first | decide | (dsimp only; omega) | omega) (by first | decide | (dsimp only; omega) | omega) (kv ?_)
  rintro _ _ ⟨rfl, rfl⟩
  refine Wk.iload_n (q := 5) d17_4 rfl rfl ?_
  refine Wk.icmp_f (q := 8) d17_5 rfl (by decide) ?_
  refine Wk.aload_n (q := 9) d17_8 rfl rfl (by first | rfl | assumption) ?_
  refine Wk.getfield (q := 12) (C := "java/lang/String") (lay := layS) 0 d17_9 rfl (hw _ (List.mem_of_getElem? (i := 24) rfl)) Via.refl (by repeat (first | exact List.mem_cons_self | assumption | refine List.mem_cons_of_mem _ ?_)) rfl (by rfl) ?_
  refine Wk.iconst (q := 13) (0) d17_12 rfl (by decide) ?_
  refine Wk.aload_n (q := 14) d17_13 rfl rfl (by first | rfl | assumption) ?_
  refine Wk.iload_n (q := 15) d17_14 rfl rfl ?_
  refine Wk.iload_n (q := 16) d17_15 rfl rfl ?_
  refine Wk.ishl (q := 17) d17_16 rfl ?_
  rw [shl0]
  refine Wk.aload_n (q := 18) d17_17 rfl rfl (by first | rfl | assumption) ?_
  refine Wk.getfield (q := 21) (C := "java/lang/String") (lay := layS) 0 d17_18 rfl (hw _ (List.mem_of_getElem? (i := 24) rfl)) Via.refl (by repeat (first | exact List.mem_cons_self | assumption | refine List.mem_cons_of_mem _ ?_)) rfl (by rfl) ?_
  refine Wk.arraylength (q := 22) d17_21 rfl (by repeat (first | exact List.mem_cons_self | assumption | refine List.mem_cons_of_mem _ ?_)) (show ((cs.map b8).map Value.int).length.toInt32 = cs.length.toInt32 by rw [hle]) ?_
  refine Wk.arraycopyE (q := 25) 0 0 n cs.length (((zs.take n ++ cs ++ zs.drop (n + cs.length)).map b8).map .int) d17_22 rfl (hw _ (List.mem_of_getElem? (i := 104) rfl)) (hw _ (List.mem_of_getElem? (i := 107) rfl)) (hw _ (List.mem_of_getElem? (i := 105) rfl)) (hw _ (List.mem_of_getElem? (i := 106) rfl)) (by repeat (first | exact Ex.here | assumption | apply Ex.there)) (by repeat (first | exact List.mem_cons_self | assumption | refine List.mem_cons_of_mem _ ?_)) (fit_b8 cs) (fit_b8 zs) (by decide) ⟨n32_nn (by omega), n32_nat (by omega)⟩ ⟨n32_nn (by omega), n32_nat (by omega)⟩ (by rw [hle]; omega) (by rw [hlz]; omega) (by rw [List.drop_zero, ← hle, List.take_length, hle]; simp [List.map_take, List.map_drop]) rfl (by first | decide | (dsimp only; omega) | omega) rfl (by first | decide | (dsimp only; decide)) ?_
  refine Wk.goto (q := 43) d17_25 (by decide) (by decide) ?_
  refine Wk.return_ d17_43 rfl ?_
  exact ⟨rfl, rfl⟩
set_option maxHeartbeats 4000000 in
theorem ct_putStrE {l : Launch} {Z : State} {a0 : Array Value} (hw : ∀ d ∈ tables_1, d.before a0 Z = true) (hE : EW Z a0 EL0) (F : ∃ z, z ≠ (0 : Int32) ∧ Sta Z Z.heap "java/lang/String" "COMPACT_STRINGS" "Z" (.int z)) {L : Store} {s v t d : Addr} {f ft fd : Bool} {k : Int32} {n : Nat} {zs cs : List Int32} (hl : zs.length < 1000000) (h : n + cs.length ≤ zs.length) (hs : (s, f, OB Z "java/lang/StringBuilder" layB [.ref v, .int 0, .int k]) ∈ L) (ht : (t, ft, OB Z "java/lang/String" layS [.ref d, .int 0]) ∈ L) (hd : (d, fd, AR Z .byte ((cs.map b8).map .int)) ∈ L) :
    Ct l Z EL0 (⟨"java/lang/AbstractStringBuilder", "putStringAt", "(ILjava/lang/String;)V"⟩ : MethodName) jdk_68_method_73_code 3 none ({ frames := 2, cells := 0, slots := 0, locals := 33 } : Room) #[.ref s, .int n.toInt32, .ref t] ((v, true, BA Z ((zs.map b8).map .int)) :: L) (R0 fun M => M = (v, true, BA Z (((zs.take n ++ cs ++ zs.drop (n + cs.length)).map b8).map .int)) :: L) := by
  refine Ct.of (a0 := a0) (Ls := [.val (.ref _), .val (.int _), .val (.ref _)]) (plainFor_of_name pn_5) (fun m => ef_rir_3 m _ _ _) hE ?_
  refine Wk.aload_n (q := 1) d18_0 rfl rfl (by first | rfl | assumption) ?_
  refine Wk.aload_n (q := 2) d18_1 rfl rfl (by first | rfl | assumption) ?_
  refine Wk.priv (q := 5) (C := "java/lang/StringBuilder") [_] _ 0 d18_2 rfl (hw _ (List.mem_of_getElem? (i := 93) rfl)) (hw _ (List.mem_of_getElem? (i := 94) rfl)) (hw _ (List.mem_of_getElem? (i := 96) rfl)) (hw _ (List.mem_of_getElem? (i := 95) rfl)) (hw _ (List.mem_of_getElem? (i := 53) rfl)) (hw _ (List.mem_of_getElem? (i := 97) rfl)) ar_10 (by decide) (by repeat (first | exact List.mem_cons_self | assumption | refine List.mem_cons_of_mem _ ?_)) rfl rfl rfl rfl (ct_inflate hw hE F (List.mem_cons_of_mem _ hs) (List.mem_cons_of_mem _ ht)) (by first | decide | (dsimp only; omega) | omega) (by first | decide | (dsimp only; omega) | omega) (by first | decide | (dsimp only; omega) | omega) (by first | decide | (dsimp only; omega) | omega) (k0 ?_)
  rintro _ rfl
  refine Wk.aload_n (q := 6) d18_5 rfl rfl (by first | rfl | assumption) ?_
  refine Wk.aload_n (q := 7) d18_6 rfl rfl (by first | rfl | assumption) ?_
  refine Wk.getfield (q := 10) (C := "java/lang/StringBuilder") (lay := layB) 0 d18_7 rfl (hw _ (List.mem_of_getElem? (i := 57) rfl)) Via.refl (by repeat (first | exact List.mem_cons_self | assumption | refine List.mem_cons_of_mem _ ?_)) rfl (by rfl) ?_
  refine Wk.iload_n (q := 11) d18_10 rfl rfl ?_
  refine Wk.aload_n (q := 12) d18_11 rfl rfl (by first | rfl | assumption) ?_
  refine Wk.getfield (q := 15) (C := "java/lang/StringBuilder") (lay := layB) 1 d18_12 rfl (hw _ (List.mem_of_getElem? (i := 59) rfl)) Via.refl (by repeat (first | exact List.mem_cons_self | assumption | refine List.mem_cons_of_mem _ ?_)) rfl (by rfl) ?_
  refine Wk.virtual (q := 18) (C := "java/lang/String") [_, _, _] _ 0 d18_15 rfl (hw _ (List.mem_of_getElem? (i := 99) rfl)) (hw _ (List.mem_of_getElem? (i := 100) rfl)) (hw _ (List.mem_of_getElem? (i := 102) rfl)) (hw _ (List.mem_of_getElem? (i := 101) rfl)) (hw _ (List.mem_of_getElem? (i := 6) rfl)) (hw _ (List.mem_of_getElem? (i := 103) rfl)) ar_11 (by decide) (nfSel (hw _ (List.mem_of_getElem? (i := 102) rfl))) (by repeat (first | exact List.mem_cons_self | assumption | refine List.mem_cons_of_mem _ ?_)) rfl rfl rfl rfl (ct_strGBE hw hE F hl h ht hd) (by first | decide | (dsimp only; omega) | omega) (by first | decide | (dsimp only; omega) | omega) (by first | decide | (dsimp only; omega) | omega) (by first | decide | (dsimp only; omega) | omega) (k0 ?_)
  rintro _ rfl
  refine Wk.return_ d18_18 rfl ?_
  exact ⟨rfl, rfl⟩
set_option maxHeartbeats 4000000 in
theorem ct_asbAppG {l : Launch} {Z : State} {a0 : Array Value} (hw : ∀ d ∈ tables_1, d.before a0 Z = true) (hE : EW Z a0 EL0) (F : ∃ z, z ≠ (0 : Int32) ∧ Sta Z Z.heap "java/lang/String" "COMPACT_STRINGS" "Z" (.int z)) {L : Store} {s v t d : Addr} {ft fd : Bool} {ys cs : List Int32} (hy : ys.length ≤ 9) (hcs : cs.length = 25) (ht : (t, ft, OB Z "java/lang/String" layS [.ref d, .int 0]) ∈ L) (hd : (d, fd, AR Z .byte ((cs.map b8).map .int)) ∈ L) :
    Ct l Z EL0 (⟨"java/lang/AbstractStringBuilder", "append", "(Ljava/lang/String;)Ljava/lang/AbstractStringBuilder;"⟩ : MethodName) jdk_68_method_22_code 3 (some (.object "java/lang/AbstractStringBuilder")) ({ frames := 4, cells := 1, slots := 34, locals := 62 } : Room) #[.ref s, .ref t] ((s, true, OB Z "java/lang/StringBuilder" layB [.ref v, .int 0, .int ys.length.toInt32]) :: (v, true, AR Z .byte (((ys ++ List.replicate (16 - ys.length) (0 : Int32)).map b8).map .int)) :: L) (RV fun u M => u = .ref s ∧ ∃ w, M = (s, true, OB Z "java/lang/StringBuilder" layB [.ref w, .int 0, .int (ys ++ cs).length.toInt32]) :: (w, true, BA Z ((((ys ++ cs) ++ List.replicate (34 - ys.length - 25) (0 : Int32)).map b8).map .int)) :: (v, true, AR Z .byte (((ys ++ List.replicate (16 - ys.length) (0 : Int32)).map b8).map .int)) :: L) := by
  have e34 : (ys ++ List.replicate (34 - ys.length) (0 : Int32)).length = 34 := by rw [List.length_append, List.length_replicate]; omega
  have eB := bld_app (ys := ys) (cs := cs) (k := 34 - ys.length) (by omega)
  rw [hcs] at eB
  refine Ct.of (a0 := a0) (Ls := [.val (.ref _), .val (.ref _), .unset]) (plainFor_of_name pn_5) (fun m => ef_rr_3 m _ _) hE ?_
  refine Wk.aload_n (q := 1) d19_0 rfl rfl (by first | rfl | assumption) ?_
  refine Wk.nonnull_t (q := 9) d19_1 (by decide) (by decide)  ?_
  refine Wk.aload_n (q := 10) d19_9 rfl rfl (by first | rfl | assumption) ?_
  refine Wk.virtual (q := 13) (C := "java/lang/String") [] _ 0 d19_10 rfl (hw _ (List.mem_of_getElem? (i := 71) rfl)) (hw _ (List.mem_of_getElem? (i := 72) rfl)) (hw _ (List.mem_of_getElem? (i := 74) rfl)) (hw _ (List.mem_of_getElem? (i := 73) rfl)) (hw _ (List.mem_of_getElem? (i := 6) rfl)) (hw _ (List.mem_of_getElem? (i := 75) rfl)) ar_12 (by decide) (nfSel (hw _ (List.mem_of_getElem? (i := 74) rfl))) (by repeat (first | exact List.mem_cons_self | assumption | refine List.mem_cons_of_mem _ ?_)) rfl rfl rfl rfl (ct_lenL hw hE F (List.mem_cons_of_mem _ (List.mem_cons_of_mem _ ht)) (List.mem_cons_of_mem _ (List.mem_cons_of_mem _ hd))) (by first | decide | (dsimp only; omega) | omega) (by first | decide | (dsimp only; omega) | omega) (by first | decide | (dsimp only; omega) | omega) (by first | decide | (dsimp only; omega) | omega) (kv ?_)
  rintro _ _ ⟨rfl, rfl⟩
  rw [List.length_map]
  refine Wk.istore_n (q := 14) d19_13 rfl (LS1.there (LS1.there (LS1.here (by first | exact One.u | exact One.val rfl | assumption)))) ?_
  refine Wk.aload_n (q := 15) d19_14 rfl rfl (by first | rfl | assumption) ?_
  refine Wk.aload_n (q := 16) d19_15 rfl rfl (by first | rfl | assumption) ?_
  refine Wk.getfield (q := 19) (C := "java/lang/StringBuilder") (lay := layB) 2 d19_16 rfl (hw _ (List.mem_of_getElem? (i := 81) rfl)) Via.refl (by repeat (first | exact List.mem_cons_self | assumption | refine List.mem_cons_of_mem _ ?_)) rfl (by rfl) ?_
  refine Wk.iload_n (q := 20) d19_19 rfl rfl ?_
  refine Wk.iadd (q := 21) d19_20 rfl ?_
  rw [n32_add]
  refine Wk.priv (q := 24) (C := "java/lang/StringBuilder") [_] _ 0 d19_21 rfl (hw _ (List.mem_of_getElem? (i := 83) rfl)) (hw _ (List.mem_of_getElem? (i := 84) rfl)) (hw _ (List.mem_of_getElem? (i := 86) rfl)) (hw _ (List.mem_of_getElem? (i := 85) rfl)) (hw _ (List.mem_of_getElem? (i := 53) rfl)) (hw _ (List.mem_of_getElem? (i := 87) rfl)) ar_9 (by decide) (by repeat (first | exact List.mem_cons_self | assumption | refine List.mem_cons_of_mem _ ?_)) rfl rfl rfl rfl (ct_ensCapG hw hE (ys := ys) (by omega) (by omega) (by omega) List.mem_cons_self) (by first | decide | (dsimp only; omega) | omega) (by first | decide | (dsimp only; omega) | omega) (by first | decide | (dsimp only; omega) | omega) (by first | decide | (dsimp only; omega) | omega) (k0 ?_)
  rintro _ ⟨w, rfl⟩
  refine Wk.aload_n (q := 25) d19_24 rfl rfl (by first | rfl | assumption) ?_
  refine Wk.aload_n (q := 26) d19_25 rfl rfl (by first | rfl | assumption) ?_
  refine Wk.getfield (q := 29) (C := "java/lang/StringBuilder") (lay := layB) 2 d19_26 rfl (hw _ (List.mem_of_getElem? (i := 81) rfl)) Via.refl (by repeat (first | exact List.mem_cons_self | assumption | refine List.mem_cons_of_mem _ ?_)) rfl (by rfl) ?_
  refine Wk.aload_n (q := 30) d19_29 rfl rfl (by first | rfl | assumption) ?_
  refine Wk.pull (o := (w, true, BA Z (((ys ++ List.replicate (34 - ys.length) (0 : Int32)).map b8).map .int))) (by repeat (first | exact Ex.here | assumption | apply Ex.there)) ?_
  refine Wk.priv (q := 33) (C := "java/lang/StringBuilder") [_, _] _ 0 d19_30 rfl (hw _ (List.mem_of_getElem? (i := 88) rfl)) (hw _ (List.mem_of_getElem? (i := 89) rfl)) (hw _ (List.mem_of_getElem? (i := 91) rfl)) (hw _ (List.mem_of_getElem? (i := 90) rfl)) (hw _ (List.mem_of_getElem? (i := 53) rfl)) (hw _ (List.mem_of_getElem? (i := 92) rfl)) ar_13 (by decide) (by repeat (first | exact List.mem_cons_self | assumption | refine List.mem_cons_of_mem _ ?_)) rfl rfl rfl rfl (ct_putStrE hw hE F (zs := ys ++ List.replicate (34 - ys.length) (0 : Int32)) (n := ys.length) (cs := cs) (by rw [e34]; decide) (by rw [e34]; omega) List.mem_cons_self (List.mem_cons_of_mem _ (List.mem_cons_of_mem _ ht)) (List.mem_cons_of_mem _ (List.mem_cons_of_mem _ hd))) (by first | decide | (dsimp only; omega) | omega) (by first | decide | (dsimp only; omega) | omega) (by first | decide | (dsimp only; omega) | omega) (by first | decide | (dsimp only; omega) | omega) (k0 ?_)
  rintro _ rfl
  rw [hcs, eB]
  refine Wk.aload_n (q := 34) d19_33 rfl rfl (by first | rfl | assumption) ?_
  refine Wk.dup (q := 35) d19_34 rfl rfl ?_
  refine Wk.getfield (q := 38) (C := "java/lang/StringBuilder") (lay := layB) 2 d19_35 rfl (hw _ (List.mem_of_getElem? (i := 81) rfl)) Via.refl (by repeat (first | exact List.mem_cons_self | assumption | refine List.mem_cons_of_mem _ ?_)) rfl (by rfl) ?_
  refine Wk.iload_n (q := 39) d19_38 rfl rfl ?_
  refine Wk.iadd (q := 40) d19_39 rfl ?_
  rw [show ys.length.toInt32 + (25 : Nat).toInt32 = (ys ++ cs).length.toInt32 from by rw [n32_add, List.length_append, hcs]]
  refine Wk.putfield (q := 43) (C := "java/lang/StringBuilder") (lay := layB) 2 d19_40 rfl (hw _ (List.mem_of_getElem? (i := 81) rfl)) Via.refl (layB_ok hw) (hw _ (List.mem_of_getElem? (i := 44) rfl)) (Or.inl (hw _ (List.mem_of_getElem? (i := 82) rfl))) rfl (by decide +kernel : parseFieldDescriptor "I" = some .int) (by repeat (first | exact Ex.here | assumption | apply Ex.there)) (VS.there (VS.there (VS.here))) (by first | rfl | exact narO) (by first | rfl | exact fitO (by assumption) | exact fitA (by assumption)) ?_
  refine Wk.aload_n (q := 44) d19_43 rfl rfl (by first | rfl | assumption) ?_
  refine Wk.areturn (t := (.object "java/lang/AbstractStringBuilder")) d19_44 rfl rfl (by first | rfl | exact narO | exact narA) (by first | rfl | assumption) ?_
  exact ⟨_, rfl, rfl, w, rfl⟩
theorem ct_sbAppG {l : Launch} {Z : State} {a0 : Array Value} (hw : ∀ d ∈ tables_1, d.before a0 Z = true) (hE : EW Z a0 EL0) (F : ∃ z, z ≠ (0 : Int32) ∧ Sta Z Z.heap "java/lang/String" "COMPACT_STRINGS" "Z" (.int z)) {L : Store} {s v t d : Addr} {ft fd : Bool} {ys cs : List Int32} (hy : ys.length ≤ 9) (hcs : cs.length = 25) (ht : (t, ft, OB Z "java/lang/String" layS [.ref d, .int 0]) ∈ L) (hd : (d, fd, AR Z .byte ((cs.map b8).map .int)) ∈ L) :
    Ct l Z EL0 (⟨"java/lang/StringBuilder", "append", "(Ljava/lang/String;)Ljava/lang/StringBuilder;"⟩ : MethodName) jdk_67_method_7_code 2 (some (.object "java/lang/StringBuilder")) ({ frames := 5, cells := 1, slots := 34, locals := 76 } : Room) #[.ref s, .ref t] ((s, true, OB Z "java/lang/StringBuilder" layB [.ref v, .int 0, .int ys.length.toInt32]) :: (v, true, AR Z .byte (((ys ++ List.replicate (16 - ys.length) (0 : Int32)).map b8).map .int)) :: L) (RV fun u M => u = .ref s ∧ ∃ w, M = (s, true, OB Z "java/lang/StringBuilder" layB [.ref w, .int 0, .int (ys ++ cs).length.toInt32]) :: (w, true, BA Z ((((ys ++ cs) ++ List.replicate (34 - ys.length - 25) (0 : Int32)).map b8).map .int)) :: (v, true, AR Z .byte (((ys ++ List.replicate (16 - ys.length) (0 : Int32)).map b8).map .int)) :: L) := by
  refine Ct.of (a0 := a0) (Ls := [.val (.ref _), .val (.ref _)]) (plainFor_of_name pn_6) (fun m => ef_rr_2 m _ _) hE ?_
  refine Wk.aload_n (q := 1) d20_0 rfl rfl (by first | rfl | assumption) ?_
  refine Wk.aload_n (q := 2) d20_1 rfl rfl (by first | rfl | assumption) ?_
  refine Wk.up (q := 5) (C := "java/lang/StringBuilder") [_] _ 0 d20_2 rfl (hw _ (List.mem_of_getElem? (i := 66) rfl)) (hw _ (List.mem_of_getElem? (i := 67) rfl)) (hw _ (List.mem_of_getElem? (i := 68) rfl)) (by decide) (hw _ (List.mem_of_getElem? (i := 52) rfl)) (hw _ (List.mem_of_getElem? (i := 53) rfl)) (hw _ (List.mem_of_getElem? (i := 70) rfl)) ar_14 (by decide) (nfCls (y1 := ({ cls := "java/lang/AbstractStringBuilder", name := "ensureCapacityInternal", desc := "(I)V" } : Jvm.MethodName)) rfl (hw _ (List.mem_of_getElem? (i := 86) rfl))) (by repeat (first | exact List.mem_cons_self | assumption | refine List.mem_cons_of_mem _ ?_)) rfl rfl rfl rfl (ct_asbAppG hw hE F hy hcs ht hd) (by first | decide | (dsimp only; omega) | omega) (by first | decide | (dsimp only; omega) | omega) (by first | decide | (dsimp only; omega) | omega) (by first | decide | (dsimp only; omega) | omega) (kv ?_)
  rintro _ _ ⟨rfl, w, rfl⟩
  refine Wk.pop (q := 6) d20_5 rfl rfl ?_
  refine Wk.aload_n (q := 7) d20_6 rfl rfl (by first | rfl | assumption) ?_
  refine Wk.areturn (t := (.object "java/lang/StringBuilder")) d20_7 rfl rfl (by first | rfl | exact narO | exact narA) (by first | rfl | assumption) ?_
  exact ⟨_, rfl, rfl, w, rfl⟩
theorem ct_copyRC {l : Launch} {Z : State} {a0 : Array Value} (hw : ∀ d ∈ tables_1, d.before a0 Z = true) (hE : EW Z a0 EL0) {L : Store} {a : Addr} {fa : Bool} {cs : List Int32} (hl : cs.length = 34) (ha : (a, fa, BA Z ((cs.map b8).map .int)) ∈ L) :
    Ct l Z EL0 (⟨"java/util/Arrays", "copyOfRange", "([BII)[B"⟩ : MethodName) jdk_65_method_132_code 3 (some (.array .byte)) ({ frames := 2, cells := 1, slots := 34, locals := 34 } : Room) #[.ref a, .int 0, .int cs.length.toInt32] L (RV fun u M => ∃ r, u = .ref r ∧ M = (r, true, AR Z .byte ((cs.map b8).map .int)) :: L) := by
  have hle : ((cs.map b8).map Value.int).length = cs.length := by simp
  refine Ct.of (a0 := a0) (Ls := [.val (.ref _), .val (.int _), .val (.int _)]) (plainFor_of_name pn_4) (fun m => ef_rii_3 m _ _ _) hE ?_
  refine Wk.iload_n (q := 1) d12_0 rfl rfl ?_
  refine Wk.if_f (q := 4) d12_1 rfl (by decide) ?_
  refine Wk.iload_n (q := 5) d12_4 rfl rfl ?_
  refine Wk.aload_n (q := 6) d12_5 rfl rfl (by first | rfl | assumption) ?_
  refine Wk.arraylengthE (q := 7) d12_6 rfl (by repeat (first | exact List.mem_cons_self | assumption | refine List.mem_cons_of_mem _ ?_)) (show ((cs.map b8).map Value.int).length.toInt32 = cs.length.toInt32 by rw [hle]) ?_
  refine Wk.icmp_t (q := 17) d12_7 (by decide) (by decide) (XT.ii_eq_t rfl) ?_
  refine Wk.aload_n (q := 18) d12_17 rfl rfl (by first | rfl | assumption) ?_
  refine Wk.cloneE (q := 21) 0 34 d12_18 rfl (hw _ (List.mem_of_getElem? (i := 239) rfl)) (hw _ (List.mem_of_getElem? (i := 240) rfl)) (hw _ (List.mem_of_getElem? (i := 244) rfl)) (hw _ (List.mem_of_getElem? (i := 242) rfl)) (hw _ (List.mem_of_getElem? (i := 243) rfl)) (hw _ (List.mem_of_getElem? (i := 245) rfl)) (by repeat (first | exact List.mem_cons_self | assumption | refine List.mem_cons_of_mem _ ?_)) (fit_b8 cs) (by rw [hle, hl]; exact Nat.le_refl _) rfl (by first | decide | (dsimp only; omega) | omega) rfl (by first | decide | (dsimp only; omega) | omega) (by first | decide | (dsimp only; omega) | omega) (by first | decide | (dsimp only; omega) | omega) ?_
  intro r
  refine Wk.checkcastE (q := 24) d12_21 rfl (hw _ (List.mem_of_getElem? (i := 246) rfl)) (by repeat (first | exact List.mem_cons_self | assumption | refine List.mem_cons_of_mem _ ?_)) (hw _ (List.mem_of_getElem? (i := 247) rfl)) ?_
  refine Wk.weak (P' := AR Z .byte ((cs.map b8).map .int)) Ex.here (fun c h => h.1) ?_
  refine Wk.areturn (t := (.array .byte)) d12_24 rfl rfl (by first | rfl | exact narO | exact narA) (by first | rfl | assumption) ?_
  exact ⟨_, rfl, r, rfl, rfl⟩
set_option maxHeartbeats 4000000 in
theorem ct_strASBC {l : Launch} {Z : State} {a0 : Array Value} (hw : ∀ d ∈ tables_1, d.before a0 Z = true) (hE : EW Z a0 EL0) (F : ∃ z, z ≠ (0 : Int32) ∧ Sta Z Z.heap "java/lang/String" "COMPACT_STRINGS" "Z" (.int z)) {L : Store} {q s v : Addr} {f fv : Bool} {zs : List Int32} (hl : zs.length = 34) (hs : (s, f, OB Z "java/lang/StringBuilder" layB [.ref v, .int 0, .int zs.length.toInt32]) ∈ L) (hv : (v, fv, BA Z ((zs.map b8).map .int)) ∈ L) :
    Ct l Z EL0 (⟨"java/lang/String", "<init>", "(Ljava/lang/AbstractStringBuilder;Ljava/lang/Void;)V"⟩ : MethodName) jdk_42_method_150_code 5 none ({ frames := 3, cells := 1, slots := 34, locals := 49 } : Room) #[.ref q, .ref s, .null] ((q, true, OB Z "java/lang/String" layS [.null, .int 0]) :: L) (R0 fun M => ∃ r, M = (q, true, OB Z "java/lang/String" layS [.ref r, .int 0]) :: (r, true, AR Z .byte ((zs.map b8).map .int)) :: L) := by
  refine Ct.of (a0 := a0) (Ls := [.val (.ref _), .val (.ref _), .val .null, .unset, .unset]) (plainFor_of_name pn_1) (fun m => ef_rrn_5 m _ _) hE ?_
  refine Wk.aload_n (q := 1) d25_0 rfl rfl (by first | rfl | assumption) ?_
  refine Wk.objinit (q := 4) 0 d25_1 rfl (hw _ (List.mem_of_getElem? (i := 15) rfl)) (hw _ (List.mem_of_getElem? (i := 16) rfl)) (hw _ (List.mem_of_getElem? (i := 17) rfl)) rfl (by first | decide | (dsimp only; omega) | omega) rfl (by first | decide | (dsimp only; omega) | omega) ?_
  refine Wk.aload_n (q := 5) d25_4 rfl rfl (by first | rfl | assumption) ?_
  refine Wk.virtual (q := 8) (C := "java/lang/StringBuilder") [] _ 0 d25_5 rfl (hw _ (List.mem_of_getElem? (i := 145) rfl)) (hw _ (List.mem_of_getElem? (i := 146) rfl)) (hw _ (List.mem_of_getElem? (i := 148) rfl)) (hw _ (List.mem_of_getElem? (i := 147) rfl)) (hw _ (List.mem_of_getElem? (i := 53) rfl)) (hw _ (List.mem_of_getElem? (i := 149) rfl)) ar_15 (by decide) (nfSel (hw _ (List.mem_of_getElem? (i := 148) rfl))) (by repeat (first | exact List.mem_cons_self | assumption | refine List.mem_cons_of_mem _ ?_)) rfl rfl rfl rfl (ct_getVal hw hE (List.mem_cons_of_mem _ hs)) (by first | decide | (dsimp only; omega) | omega) (by first | decide | (dsimp only; omega) | omega) (by first | decide | (dsimp only; omega) | omega) (by first | decide | (dsimp only; omega) | omega) (kv ?_)
  rintro _ _ ⟨rfl, rfl⟩
  refine Wk.astore_n (q := 9) d25_8 rfl (by first | rfl | assumption) (LS1.there (LS1.there (LS1.there (LS1.here (by first | exact One.u | exact One.val rfl | assumption))))) ?_
  refine Wk.aload_n (q := 10) d25_9 rfl rfl (by first | rfl | assumption) ?_
  refine Wk.virtual (q := 13) (C := "java/lang/StringBuilder") [] _ 0 d25_10 rfl (hw _ (List.mem_of_getElem? (i := 150) rfl)) (hw _ (List.mem_of_getElem? (i := 151) rfl)) (hw _ (List.mem_of_getElem? (i := 153) rfl)) (hw _ (List.mem_of_getElem? (i := 154) rfl)) (hw _ (List.mem_of_getElem? (i := 45) rfl)) (hw _ (List.mem_of_getElem? (i := 155) rfl)) ar_12 (by decide) (nfCls (y1 := ({ cls := "java/lang/AbstractStringBuilder", name := "ensureCapacityInternal", desc := "(I)V" } : Jvm.MethodName)) rfl (hw _ (List.mem_of_getElem? (i := 86) rfl))) (by repeat (first | exact List.mem_cons_self | assumption | refine List.mem_cons_of_mem _ ?_)) rfl rfl rfl rfl (ct_sbLen hw hE (List.mem_cons_of_mem _ hs)) (by first | decide | (dsimp only; omega) | omega) (by first | decide | (dsimp only; omega) | omega) (by first | decide | (dsimp only; omega) | omega) (by first | decide | (dsimp only; omega) | omega) (kv ?_)
  rintro _ _ ⟨rfl, rfl⟩
  refine Wk.istore (q := 15) d25_13 rfl (LS1.there (LS1.there (LS1.there (LS1.there (LS1.here (by first | exact One.u | exact One.val rfl | assumption)))))) ?_
  refine Wk.aload_n (q := 16) d25_15 rfl rfl (by first | rfl | assumption) ?_
  refine Wk.virtual (q := 19) (C := "java/lang/StringBuilder") [] _ 0 d25_16 rfl (hw _ (List.mem_of_getElem? (i := 158) rfl)) (hw _ (List.mem_of_getElem? (i := 159) rfl)) (hw _ (List.mem_of_getElem? (i := 161) rfl)) (hw _ (List.mem_of_getElem? (i := 160) rfl)) (hw _ (List.mem_of_getElem? (i := 53) rfl)) (hw _ (List.mem_of_getElem? (i := 162) rfl)) ar_16 (by decide) (nfSel (hw _ (List.mem_of_getElem? (i := 161) rfl))) (by repeat (first | exact List.mem_cons_self | assumption | refine List.mem_cons_of_mem _ ?_)) rfl rfl rfl rfl (ct_asbLat hw hE F (List.mem_cons_of_mem _ hs)) (by first | decide | (dsimp only; omega) | omega) (by first | decide | (dsimp only; omega) | omega) (by first | decide | (dsimp only; omega) | omega) (by first | decide | (dsimp only; omega) | omega) (kv ?_)
  rintro _ _ ⟨rfl, rfl⟩
  refine Wk.if_f (q := 22) d25_19 rfl (by decide) ?_
  refine Wk.aload_n (q := 23) d25_22 rfl rfl (by first | rfl | assumption) ?_
  refine Wk.iconst (q := 24) (0) d25_23 rfl (by decide) ?_
  refine Wk.putfield (q := 27) (C := "java/lang/String") (lay := layS) 1 d25_24 rfl (hw _ (List.mem_of_getElem? (i := 25) rfl)) Via.refl (layS_ok hw) (hw _ (List.mem_of_getElem? (i := 5) rfl)) (Or.inr ⟨(hw _ (List.mem_of_getElem? (i := 21) rfl)), rfl, rfl⟩) rfl (by decide +kernel : parseFieldDescriptor "B" = some .byte) (by repeat (first | exact Ex.here | assumption | apply Ex.there)) (VS.there (VS.here)) (by first | rfl | exact narO) (by first | rfl | exact fitO (by assumption) | exact fitA (by assumption)) ?_
  refine Wk.aload_n (q := 28) d25_27 rfl rfl (by first | rfl | assumption) ?_
  refine Wk.aload_n (q := 29) d25_28 rfl rfl (by first | rfl | assumption) ?_
  refine Wk.iconst (q := 30) (0) d25_29 rfl (by decide) ?_
  refine Wk.iload (q := 32) d25_30 rfl rfl ?_
  refine Wk.static (q := 35) [_, _, _] _ 1 d25_32 rfl (hw _ (List.mem_of_getElem? (i := 163) rfl)) (hw _ (List.mem_of_getElem? (i := 164) rfl)) (hw _ (List.mem_of_getElem? (i := 127) rfl)) (hw _ (List.mem_of_getElem? (i := 165) rfl)) ar_8 (by decide) rfl rfl rfl rfl (ct_copyRC hw hE hl (List.mem_cons_of_mem _ hv)) (by first | decide | (dsimp only; omega) | omega) (by first | decide | (dsimp only; omega) | omega) (by first | decide | (dsimp only; omega) | omega) (by first | decide | (dsimp only; omega) | omega) (kv ?_)
  rintro _ _ ⟨r, rfl, rfl⟩
  refine Wk.putfield (q := 38) (C := "java/lang/String") (lay := layS) 0 d25_35 rfl (hw _ (List.mem_of_getElem? (i := 24) rfl)) Via.refl (layS_ok hw) (hw _ (List.mem_of_getElem? (i := 5) rfl)) (Or.inr ⟨(hw _ (List.mem_of_getElem? (i := 20) rfl)), rfl, rfl⟩) rfl (by decide +kernel : parseFieldDescriptor "[B" = some (.array .byte)) (by repeat (first | exact Ex.here | assumption | apply Ex.there)) (VS.here) (by first | rfl | exact narO) (by first | rfl | exact fitO (by assumption) | exact fitA (by assumption)) ?_
  refine Wk.goto (q := 97) d25_38 (by decide) (by decide) ?_
  refine Wk.return_ d25_97 rfl ?_
  exact ⟨rfl, r, rfl⟩
theorem ct_strSBC {l : Launch} {Z : State} {a0 : Array Value} (hw : ∀ d ∈ tables_1, d.before a0 Z = true) (hE : EW Z a0 EL0) (F : ∃ z, z ≠ (0 : Int32) ∧ Sta Z Z.heap "java/lang/String" "COMPACT_STRINGS" "Z" (.int z)) {L : Store} {q s v : Addr} {f fv : Bool} {zs : List Int32} (hl : zs.length = 34) (hs : (s, f, OB Z "java/lang/StringBuilder" layB [.ref v, .int 0, .int zs.length.toInt32]) ∈ L) (hv : (v, fv, BA Z ((zs.map b8).map .int)) ∈ L) :
    Ct l Z EL0 (⟨"java/lang/String", "<init>", "(Ljava/lang/StringBuilder;)V"⟩ : MethodName) jdk_42_method_53_code 2 none ({ frames := 4, cells := 1, slots := 34, locals := 65 } : Room) #[.ref q, .ref s] ((q, true, OB Z "java/lang/String" layS [.null, .int 0]) :: L) (R0 fun M => ∃ r, M = (q, true, OB Z "java/lang/String" layS [.ref r, .int 0]) :: (r, true, AR Z .byte ((zs.map b8).map .int)) :: L) := by
  refine Ct.of (a0 := a0) (Ls := [.val (.ref _), .val (.ref _)]) (plainFor_of_name pn_1) (fun m => ef_rr_2 m _ _) hE ?_
  refine Wk.aload_n (q := 1) d26_0 rfl rfl (by first | rfl | assumption) ?_
  refine Wk.aload_n (q := 2) d26_1 rfl rfl (by first | rfl | assumption) ?_
  refine Wk.aconst_null (q := 3) d26_2 rfl ?_
  refine Wk.special (q := 6) [_, _] _ 0 d26_3 rfl rfl (hw _ (List.mem_of_getElem? (i := 142) rfl)) (hw _ (List.mem_of_getElem? (i := 143) rfl)) (hw _ (List.mem_of_getElem? (i := 6) rfl)) (hw _ (List.mem_of_getElem? (i := 144) rfl)) ar_17 (by decide) rfl rfl rfl rfl (ct_strASBC hw hE F hl hs hv) (by first | decide | (dsimp only; omega) | omega) (by first | decide | (dsimp only; omega) | omega) (by first | decide | (dsimp only; omega) | omega) (by first | decide | (dsimp only; omega) | omega) (k0 ?_)
  rintro _ ⟨r, rfl⟩
  refine Wk.return_ d26_6 rfl ?_
  exact ⟨rfl, r, rfl⟩
theorem ct_sbStrC {l : Launch} {Z : State} {a0 : Array Value} (hw : ∀ d ∈ tables_1, d.before a0 Z = true) (hE : EW Z a0 EL0) (F : ∃ z, z ≠ (0 : Int32) ∧ Sta Z Z.heap "java/lang/String" "COMPACT_STRINGS" "Z" (.int z)) {L : Store} {s v : Addr} {f fv : Bool} {zs : List Int32} (hl : zs.length = 34) (hs : (s, f, OB Z "java/lang/StringBuilder" layB [.ref v, .int 0, .int zs.length.toInt32]) ∈ L) (hv : (v, fv, BA Z ((zs.map b8).map .int)) ∈ L) :
    Ct l Z EL0 (⟨"java/lang/StringBuilder", "toString", "()Ljava/lang/String;"⟩ : MethodName) jdk_67_method_42_code 1 (some (.object "java/lang/String")) ({ frames := 5, cells := 2, slots := 38, locals := 79 } : Room) #[.ref s] L (RV fun u M => ∃ q r, u = .ref q ∧ M = (q, true, OB Z "java/lang/String" layS [.ref r, .int 0]) :: (r, true, AR Z .byte ((zs.map b8).map .int)) :: L) := by
  refine Ct.of (a0 := a0) (Ls := [.val (.ref _)]) (plainFor_of_name pn_6) (fun m => ef_r_1 m _) hE ?_
  refine Wk.new (q := 3) d27_0 rfl (hw _ (List.mem_of_getElem? (i := 138) rfl)) (hw _ (List.mem_of_getElem? (i := 5) rfl)) (hw _ (List.mem_of_getElem? (i := 6) rfl)) (layS_ok hw) layS_dv (by first | decide | (dsimp only; omega) | omega) (by first | decide | (dsimp only; omega) | omega) ?_
  intro q
  refine Wk.dup (q := 4) d27_3 rfl rfl ?_
  refine Wk.aload_n (q := 5) d27_4 rfl rfl (by first | rfl | assumption) ?_
  refine Wk.special (q := 8) [_] _ 1 d27_5 rfl rfl (hw _ (List.mem_of_getElem? (i := 139) rfl)) (hw _ (List.mem_of_getElem? (i := 140) rfl)) (hw _ (List.mem_of_getElem? (i := 6) rfl)) (hw _ (List.mem_of_getElem? (i := 141) rfl)) ar_18 (by decide) rfl rfl rfl rfl (ct_strSBC hw hE F hl hs hv) (by first | decide | (dsimp only; omega) | omega) (by first | decide | (dsimp only; omega) | omega) (by first | decide | (dsimp only; omega) | omega) (by first | decide | (dsimp only; omega) | omega) (k0 ?_)
  rintro _ ⟨r, rfl⟩
  refine Wk.areturn (t := (.object "java/lang/String")) d27_8 rfl rfl (by first | rfl | exact narO | exact narA) (by first | rfl | assumption) ?_
  exact ⟨_, rfl, q, r, rfl, rfl⟩
def layX : Jvm.OwnW.Lay := [("java/lang/Throwable", "cause", "Ljava/lang/Throwable;"), ("java/lang/Throwable", "stackTrace", "[Ljava/lang/StackTraceElement;"), ("java/lang/Throwable", "suppressedExceptions", "Ljava/util/List;"), ("java/lang/Throwable", "detailMessage", "Ljava/lang/String;"), ("java/lang/Throwable", "backtrace", "Ljava/lang/Object;"), ("java/lang/Throwable", "depth", "I")]
theorem layX_ok {Z : State} {a0 : Array Value} (hw : ∀ d ∈ tables_1, d.before a0 Z = true) : LayOk Z a0 "org/claimbridge/cli/BadUsageException" layX := by
  refine ⟨fun f hf => ?_, by decide +kernel, fun f hf => ?_⟩
  all_goals simp only [layX, List.mem_cons, List.not_mem_nil, or_false] at hf
  all_goals rcases hf with rfl | rfl | rfl | rfl | rfl | rfl
  · exact Or.inl (hw _ (List.mem_of_getElem? (i := 188) rfl))
  · exact Or.inl (hw _ (List.mem_of_getElem? (i := 191) rfl))
  · exact Or.inl (hw _ (List.mem_of_getElem? (i := 194) rfl))
  · exact Or.inl (hw _ (List.mem_of_getElem? (i := 218) rfl))
  · exact Or.inl (hw _ (List.mem_of_getElem? (i := 219) rfl))
  · exact Or.inl (hw _ (List.mem_of_getElem? (i := 220) rfl))
  · exact ⟨(.object "java/lang/Throwable"), by decide +kernel⟩
  · exact ⟨(.array (.object "java/lang/StackTraceElement")), by decide +kernel⟩
  · exact ⟨(.object "java/util/List"), by decide +kernel⟩
  · exact ⟨(.object "java/lang/String"), by decide +kernel⟩
  · exact ⟨(.object "java/lang/Object"), by decide +kernel⟩
  · exact ⟨.int, by decide +kernel⟩
theorem layX_dv : Dv layX [.null, .null, .null, .null, .null, (.int 0)] := by decide +kernel
theorem wF {Z : State} {a0 : Array Value} (hw : ∀ d ∈ tables_1, d.before a0 Z = true) : ∀ d ∈ fillW "org/claimbridge/cli/BadUsageException", d.before a0 Z = true := by
  intro d hd
  simp only [fillW, List.mem_cons, List.not_mem_nil, or_false] at hd
  rcases hd with rfl | rfl | rfl | rfl | rfl | rfl | rfl | rfl | rfl | rfl | rfl | rfl | rfl | rfl | rfl | rfl | rfl | rfl | rfl | rfl | rfl | rfl | rfl | rfl | rfl | rfl | rfl | rfl | rfl | rfl | rfl
  · exact (hw _ (List.mem_of_getElem? (i := 184) rfl))
  · exact (hw _ (List.mem_of_getElem? (i := 202) rfl))
  · exact (hw _ (List.mem_of_getElem? (i := 197) rfl))
  · exact (hw _ (List.mem_of_getElem? (i := 203) rfl))
  · exact (hw _ (List.mem_of_getElem? (i := 204) rfl))
  · exact (hw _ (List.mem_of_getElem? (i := 205) rfl))
  · exact (hw _ (List.mem_of_getElem? (i := 16) rfl))
  · exact (hw _ (List.mem_of_getElem? (i := 17) rfl))
  · exact (hw _ (List.mem_of_getElem? (i := 186) rfl))
  · exact (hw _ (List.mem_of_getElem? (i := 195) rfl))
  · exact (hw _ (List.mem_of_getElem? (i := 208) rfl))
  · exact (hw _ (List.mem_of_getElem? (i := 187) rfl))
  · exact (hw _ (List.mem_of_getElem? (i := 190) rfl))
  · exact (hw _ (List.mem_of_getElem? (i := 193) rfl))
  · exact (hw _ (List.mem_of_getElem? (i := 213) rfl))
  · exact (hw _ (List.mem_of_getElem? (i := 188) rfl))
  · exact (hw _ (List.mem_of_getElem? (i := 191) rfl))
  · exact (hw _ (List.mem_of_getElem? (i := 194) rfl))
  · exact (hw _ (List.mem_of_getElem? (i := 218) rfl))
  · exact (hw _ (List.mem_of_getElem? (i := 219) rfl))
  · exact (hw _ (List.mem_of_getElem? (i := 220) rfl))
  · exact (hw _ (List.mem_of_getElem? (i := 189) rfl))
  · exact (hw _ (List.mem_of_getElem? (i := 215) rfl))
  · exact (hw _ (List.mem_of_getElem? (i := 192) rfl))
  · exact (hw _ (List.mem_of_getElem? (i := 216) rfl))
  · exact (hw _ (List.mem_of_getElem? (i := 196) rfl))
  · exact (hw _ (List.mem_of_getElem? (i := 217) rfl))
  · exact (hw _ (List.mem_of_getElem? (i := 198) rfl))
  · exact (hw _ (List.mem_of_getElem? (i := 199) rfl))
  · exact (hw _ (List.mem_of_getElem? (i := 200) rfl))
  · exact (hw _ (List.mem_of_getElem? (i := 201) rfl))
def layM : Jvm.OwnW.Lay := [("java/lang/Throwable", "detailMessage", "Ljava/lang/String;")]
set_option maxHeartbeats 4000000 in
theorem ct_thrI0 {l : Launch} {Z : State} {a0 : Array Value} (hw : ∀ d ∈ tables_1, d.before a0 Z = true) (hE : EW Z a0 EL0) (hl : l.stackTraces = true) {u sv : Addr} (FU : Sta Z Z.heap "java/lang/Throwable" "UNASSIGNED_STACK" "[Ljava/lang/StackTraceElement;" (.ref u)) (FS : Sta Z Z.heap "java/lang/Throwable" "SUPPRESSED_SENTINEL" "Ljava/util/List;" (.ref sv)) {L : Store} {a m : Addr} {Q : Option Value → Store → Prop}
    (k : Wk l Z a0 EL0 (⟨"java/lang/Throwable", "<init>", "(Ljava/lang/String;)V"⟩ : MethodName) jdk_78_method_2_code 2 none ({ frames := 3, cells := 1, slots := 2752, locals := 56 } : Room) Q ((a, true, OB Z nBU layM [.null]) :: L) 0 0 27 [.val (.ref a), .val (.ref m)] [.ref a]) :
    Wk l Z a0 EL0 (⟨"java/lang/Throwable", "<init>", "(Ljava/lang/String;)V"⟩ : MethodName) jdk_78_method_2_code 2 none ({ frames := 3, cells := 1, slots := 2752, locals := 56 } : Room) Q ((a, true, NX Z nBU layX [.null, .null, .null, .null, .null, .int 0]) :: L) 1 2752 0 [.val (.ref a), .val (.ref m)] [] := by
  refine Wk.aload_n (q := 1) d33_0 rfl rfl (by first | rfl | assumption) ?_
  refine Wk.objinit (q := 4) 0 d33_1 rfl (hw _ (List.mem_of_getElem? (i := 186) rfl)) (hw _ (List.mem_of_getElem? (i := 16) rfl)) (hw _ (List.mem_of_getElem? (i := 17) rfl)) rfl (by first | decide | (dsimp only; omega) | omega) rfl (by first | decide | (dsimp only; omega) | omega) ?_
  refine Wk.aload_n (q := 5) d33_4 rfl rfl (by first | rfl | assumption) ?_
  refine Wk.aload_n (q := 6) d33_5 rfl rfl (by first | rfl | assumption) ?_
  refine Wk.putfieldX (q := 9) (C := "org/claimbridge/cli/BadUsageException") (lay := layX) 0 d33_6 rfl (hw _ (List.mem_of_getElem? (i := 187) rfl)) Via.refl (layX_ok hw) (hw _ (List.mem_of_getElem? (i := 42) rfl)) (Or.inl (hw _ (List.mem_of_getElem? (i := 188) rfl))) rfl (by decide +kernel : parseFieldDescriptor "Ljava/lang/Throwable;" = some (.object "java/lang/Throwable")) (by repeat (first | exact Ex.here | assumption | apply Ex.there)) (VS.here) (by first | rfl | exact narO) (by first | rfl | exact fitO (by assumption) | exact fitA (by assumption)) ?_
  refine Wk.aload_n (q := 10) d33_9 rfl rfl (by first | rfl | assumption) ?_
  refine Wk.getstatic (q := 13) d33_10 rfl (hw _ (List.mem_of_getElem? (i := 189) rfl)) Via.refl FU ?_
  refine Wk.putfieldX (q := 16) (C := "org/claimbridge/cli/BadUsageException") (lay := layX) 1 d33_13 rfl (hw _ (List.mem_of_getElem? (i := 190) rfl)) Via.refl (layX_ok hw) (hw _ (List.mem_of_getElem? (i := 42) rfl)) (Or.inl (hw _ (List.mem_of_getElem? (i := 191) rfl))) rfl (by decide +kernel : parseFieldDescriptor "[Ljava/lang/StackTraceElement;" = some (.array (.object "java/lang/StackTraceElement"))) (by repeat (first | exact Ex.here | assumption | apply Ex.there)) (VS.there (VS.here)) (by first | rfl | exact narO) (by first | rfl | exact fitO (by assumption) | exact fitA (by assumption)) ?_
  refine Wk.aload_n (q := 17) d33_16 rfl rfl (by first | rfl | assumption) ?_
  refine Wk.getstatic (q := 20) d33_17 rfl (hw _ (List.mem_of_getElem? (i := 192) rfl)) Via.refl FS ?_
  refine Wk.putfieldX (q := 23) (C := "org/claimbridge/cli/BadUsageException") (lay := layX) 2 d33_20 rfl (hw _ (List.mem_of_getElem? (i := 193) rfl)) Via.refl (layX_ok hw) (hw _ (List.mem_of_getElem? (i := 42) rfl)) (Or.inl (hw _ (List.mem_of_getElem? (i := 194) rfl))) rfl (by decide +kernel : parseFieldDescriptor "Ljava/util/List;" = some (.object "java/util/List")) (by repeat (first | exact Ex.here | assumption | apply Ex.there)) (VS.there (VS.there (VS.here))) (by first | rfl | exact narO) (by first | rfl | exact fitO (by assumption) | exact fitA (by assumption)) ?_
  refine Wk.aload_n (q := 24) d33_23 rfl rfl (by first | rfl | assumption) ?_
  refine Wk.fillX (q := 27) (rc := nBU) (lay := layX) (lay' := layM) 0 4 1 3 hl d33_24 rfl rfl (wF hw) (hw _ (List.mem_of_getElem? (i := 42) rfl)) FU Ex.here rfl rfl rfl rfl rfl rfl rfl rfl (by decide) rfl (by decide) (by decide) (by decide) ?_
  exact k
theorem layM_ok {Z : State} {a0 : Array Value} (hw : ∀ d ∈ tables_1, d.before a0 Z = true) : LayOk Z a0 "org/claimbridge/cli/BadUsageException" layM := by
  refine ⟨fun f hf => ?_, by decide +kernel, fun f hf => ?_⟩
  all_goals simp only [layM, List.mem_cons, List.not_mem_nil, or_false] at hf
  all_goals rcases hf with rfl
  · exact Or.inl (hw _ (List.mem_of_getElem? (i := 218) rfl))
  · exact ⟨(.object "java/lang/String"), by decide +kernel⟩
theorem layM_dv : Dv layM [.null] := by decide +kernel
theorem ct_thrI {l : Launch} {Z : State} {a0 : Array Value} (hw : ∀ d ∈ tables_1, d.before a0 Z = true) (hE : EW Z a0 EL0) (hl : l.stackTraces = true) {u sv : Addr} (FU : Sta Z Z.heap "java/lang/Throwable" "UNASSIGNED_STACK" "[Ljava/lang/StackTraceElement;" (.ref u)) (FS : Sta Z Z.heap "java/lang/Throwable" "SUPPRESSED_SENTINEL" "Ljava/util/List;" (.ref sv)) {L : Store} {a m : Addr} :
    Ct l Z EL0 (⟨"java/lang/Throwable", "<init>", "(Ljava/lang/String;)V"⟩ : MethodName) jdk_78_method_2_code 2 none ({ frames := 3, cells := 1, slots := 2752, locals := 56 } : Room) #[.ref a, .ref m] ((a, true, NX Z nBU layX [.null, .null, .null, .null, .null, .int 0]) :: L) (R0 fun M => M = (a, true, OB Z nBU layM [.ref m]) :: L) := by
  refine Ct.of (a0 := a0) (Ls := [.val (.ref _), .val (.ref _)]) (plainFor_of_name pn_10) (fun m => ef_rr_2 m _ _) hE ?_
  refine ct_thrI0 hw hE hl FU FS ?_
  refine Wk.pop (q := 28) d33_27 rfl rfl ?_
  refine Wk.aload_n (q := 29) d33_28 rfl rfl (by first | rfl | assumption) ?_
  refine Wk.aload_n (q := 30) d33_29 rfl rfl (by first | rfl | assumption) ?_
  refine Wk.putfield (q := 33) (C := "org/claimbridge/cli/BadUsageException") (lay := layM) 0 d33_30 rfl (hw _ (List.mem_of_getElem? (i := 222) rfl)) Via.refl (layM_ok hw) (hw _ (List.mem_of_getElem? (i := 42) rfl)) (Or.inl (hw _ (List.mem_of_getElem? (i := 218) rfl))) rfl (by decide +kernel : parseFieldDescriptor "Ljava/lang/String;" = some (.object "java/lang/String")) (by repeat (first | exact Ex.here | assumption | apply Ex.there)) (VS.here) (by first | rfl | exact narO) (by first | rfl | exact fitO (by assumption) | exact fitA (by assumption)) ?_
  refine Wk.return_ d33_33 rfl ?_
  exact ⟨rfl, rfl⟩
theorem ct_excI {l : Launch} {Z : State} {a0 : Array Value} (hw : ∀ d ∈ tables_1, d.before a0 Z = true) (hE : EW Z a0 EL0) (hl : l.stackTraces = true) {u sv : Addr} (FU : Sta Z Z.heap "java/lang/Throwable" "UNASSIGNED_STACK" "[Ljava/lang/StackTraceElement;" (.ref u)) (FS : Sta Z Z.heap "java/lang/Throwable" "SUPPRESSED_SENTINEL" "Ljava/util/List;" (.ref sv)) {L : Store} {a m : Addr} :
    Ct l Z EL0 (⟨"java/lang/Exception", "<init>", "(Ljava/lang/String;)V"⟩ : MethodName) jdk_59_method_2_code 2 none ({ frames := 4, cells := 1, slots := 2752, locals := 70 } : Room) #[.ref a, .ref m] ((a, true, NX Z nBU layX [.null, .null, .null, .null, .null, .int 0]) :: L) (R0 fun M => M = (a, true, OB Z nBU layM [.ref m]) :: L) := by
  refine Ct.of (a0 := a0) (Ls := [.val (.ref _), .val (.ref _)]) (plainFor_of_name pn_11) (fun m => ef_rr_2 m _ _) hE ?_
  refine Wk.aload_n (q := 1) d34_0 rfl rfl (by first | rfl | assumption) ?_
  refine Wk.aload_n (q := 2) d34_1 rfl rfl (by first | rfl | assumption) ?_
  refine Wk.special (q := 5) [_] _ 0 d34_2 rfl rfl (hw _ (List.mem_of_getElem? (i := 180) rfl)) (hw _ (List.mem_of_getElem? (i := 181) rfl)) (hw _ (List.mem_of_getElem? (i := 184) rfl)) (hw _ (List.mem_of_getElem? (i := 185) rfl)) ar_10 (by decide) rfl rfl rfl rfl (ct_thrI hw hE hl FU FS) (by first | decide | (dsimp only; omega) | omega) (by first | decide | (dsimp only; omega) | omega) (by first | decide | (dsimp only; omega) | omega) (by first | decide | (dsimp only; omega) | omega) (k0 ?_)
  rintro _ rfl
  refine Wk.return_ d34_5 rfl ?_
  exact ⟨rfl, rfl⟩
theorem ct_budI {l : Launch} {Z : State} {a0 : Array Value} (hw : ∀ d ∈ tables_1, d.before a0 Z = true) (hE : EW Z a0 EL0) (hl : l.stackTraces = true) {u sv : Addr} (FU : Sta Z Z.heap "java/lang/Throwable" "UNASSIGNED_STACK" "[Ljava/lang/StackTraceElement;" (.ref u)) (FS : Sta Z Z.heap "java/lang/Throwable" "SUPPRESSED_SENTINEL" "Ljava/util/List;" (.ref sv)) {L : Store} {a m : Addr} :
    Ct l Z EL0 (⟨"org/claimbridge/cli/BadUsageException", "<init>", "(Ljava/lang/String;)V"⟩ : MethodName) prog_4_method_1_code 2 none ({ frames := 5, cells := 1, slots := 2752, locals := 84 } : Room) #[.ref a, .ref m] ((a, true, NX Z nBU layX [.null, .null, .null, .null, .null, .int 0]) :: L) (R0 fun M => M = (a, true, OB Z nBU layM [.ref m]) :: L) := by
  refine Ct.of (a0 := a0) (Ls := [.val (.ref _), .val (.ref _)]) (plainFor_of_name pn_12) (fun m => ef_rr_2 m _ _) hE ?_
  refine Wk.aload_n (q := 1) d35_0 rfl rfl (by first | rfl | assumption) ?_
  refine Wk.aload_n (q := 2) d35_1 rfl rfl (by first | rfl | assumption) ?_
  refine Wk.special (q := 5) [_] _ 0 d35_2 rfl rfl (hw _ (List.mem_of_getElem? (i := 175) rfl)) (hw _ (List.mem_of_getElem? (i := 176) rfl)) (hw _ (List.mem_of_getElem? (i := 178) rfl)) (hw _ (List.mem_of_getElem? (i := 179) rfl)) ar_10 (by decide) rfl rfl rfl rfl (ct_excI hw hE hl FU FS) (by first | decide | (dsimp only; omega) | omega) (by first | decide | (dsimp only; omega) | omega) (by first | decide | (dsimp only; omega) | omega) (by first | decide | (dsimp only; omega) | omega) (k0 ?_)
  rintro _ rfl
  refine Wk.return_ d35_5 rfl ?_
  exact ⟨rfl, rfl⟩
theorem ct_getMsg {l : Launch} {Z : State} {a0 : Array Value} (hw : ∀ d ∈ tables_1, d.before a0 Z = true) (hE : EW Z a0 EL0) {L : Store} {a m : Addr} {f : Bool} (ha : (a, f, OB Z nBU layM [.ref m]) ∈ L) : Ct l Z EL0 (⟨"java/lang/Throwable", "getMessage", "()Ljava/lang/String;"⟩ : MethodName) jdk_78_method_6_code 1 (some (.object "java/lang/String")) ({ frames := 0, cells := 0, slots := 0, locals := 0 } : Room) #[.ref a] L (RV fun u M => u = .ref m ∧ M = L) := by
  refine Ct.of (a0 := a0) (Ls := [.val (.ref _)]) (plainFor_of_name pn_10) (fun m => ef_r_1 m _) hE ?_
  refine Wk.aload_n (q := 1) d36_0 rfl rfl (by first | rfl | assumption) ?_
  refine Wk.getfield (q := 4) (C := "org/claimbridge/cli/BadUsageException") (lay := layM) 0 d36_1 rfl (hw _ (List.mem_of_getElem? (i := 222) rfl)) Via.refl (by repeat (first | exact List.mem_cons_self | assumption | refine List.mem_cons_of_mem _ ?_)) rfl (by rfl) ?_
  refine Wk.areturn (t := (.object "java/lang/String")) d36_4 rfl rfl (by first | rfl | exact narO | exact narA) (by first | rfl | assumption) ?_
  exact ⟨_, rfl, rfl, rfl⟩
set_option maxHeartbeats 8000000 in
theorem ct_given {l : Launch} {Z : State} {a0 : Array Value} (hw : ∀ d ∈ tables_1, d.before a0 Z = true) (hE : EW Z a0 EL0) (hl : l.stackTraces = true) {u sv : Addr} (FU : Sta Z Z.heap "java/lang/Throwable" "UNASSIGNED_STACK" "[Ljava/lang/StackTraceElement;" (.ref u)) (FS : Sta Z Z.heap "java/lang/Throwable" "SUPPRESSED_SENTINEL" "Ljava/util/List;" (.ref sv)) (F : ∃ z, z ≠ (0 : Int32) ∧ Sta Z Z.heap "java/lang/String" "COMPACT_STRINGS" "Z" (.int z)) {L : Store} {m mb n nb : Addr} {fm fmb fn fnb : Bool} {ms ns : List Int32} (h1 : ms.length ≤ 2) (h2 : ns.length ≤ 2) (hm : (m, fm, OB Z "java/lang/String" layS [.ref mb, .int 0]) ∈ L) (hmb : (mb, fmb, AR Z .byte ((ms.map b8).map .int)) ∈ L) (hn : (n, fn, OB Z "java/lang/String" layS [.ref nb, .int 0]) ∈ L) (hnb : (nb, fnb, AR Z .byte ((ns.map b8).map .int)) ∈ L) :
    Ct l Z EL0 (⟨"org/claimbridge/cli/BadUsageException", "givenTogether", "(Ljava/lang/String;Ljava/lang/String;)Lorg/claimbridge/cli/BadUsageException;"⟩ : MethodName) prog_4_method_2_code 2 (some (.object "org/claimbridge/cli/BadUsageException")) ({ frames := 9, cells := 20, slots := 4000, locals := 190 } : Room) #[.ref m, .ref n] L (RV fun u M => ∃ x q r fq fr, u = .ref x ∧ (x, true, OB Z nBU layM [.ref q]) ∈ M ∧ (q, fq, OB Z "java/lang/String" layS [.ref r, .int 0]) ∈ M ∧ (r, fr, AR Z .byte (((ms ++ lAnd ++ ns ++ lCan).map b8).map .int)) ∈ M ∧ ∀ z ∈ L, z ∈ M) := by
  refine Ct.of (a0 := a0) (Ls := [.val (.ref _), .val (.ref _)]) (plainFor_of_name pn_12) (fun m => ef_rr_2 m _ _) hE ?_
  refine Wk.newX (q := 3) d37_0 rfl (hw _ (List.mem_of_getElem? (i := 41) rfl)) (hw _ (List.mem_of_getElem? (i := 42) rfl)) (hw _ (List.mem_of_getElem? (i := 39) rfl)) (layX_ok hw) layX_dv (by first | decide | (dsimp only; omega) | omega) (by first | decide | (dsimp only; omega) | omega) ?_
  intro x
  refine Wk.dup (q := 4) d37_3 rfl rfl ?_
  refine Wk.new (q := 7) d37_4 rfl (hw _ (List.mem_of_getElem? (i := 43) rfl)) (hw _ (List.mem_of_getElem? (i := 44) rfl)) (hw _ (List.mem_of_getElem? (i := 45) rfl)) (layB_ok hw) layB_dv (by first | decide | (dsimp only; omega) | omega) (by first | decide | (dsimp only; omega) | omega) ?_
  intro s
  refine Wk.dup (q := 8) d37_7 rfl rfl ?_
  refine Wk.special (q := 11) [] _ 3 d37_8 rfl rfl (hw _ (List.mem_of_getElem? (i := 46) rfl)) (hw _ (List.mem_of_getElem? (i := 47) rfl)) (hw _ (List.mem_of_getElem? (i := 45) rfl)) (hw _ (List.mem_of_getElem? (i := 48) rfl)) ar_23 (by decide) rfl rfl rfl rfl (ct_sbInit hw hE F) (by first | decide | (dsimp only; omega) | omega) (by first | decide | (dsimp only; omega) | omega) (by first | decide | (dsimp only; omega) | omega) (by first | decide | (dsimp only; omega) | omega) (k0 ?_)
  rintro _ ⟨v, rfl⟩
  refine Wk.aload_n (q := 12) d37_11 rfl rfl (by first | rfl | assumption) ?_
  refine Wk.virtual (q := 15) (C := "java/lang/StringBuilder") [_] _ 2 d37_12 rfl (hw _ (List.mem_of_getElem? (i := 61) rfl)) (hw _ (List.mem_of_getElem? (i := 62) rfl)) (hw _ (List.mem_of_getElem? (i := 64) rfl)) (hw _ (List.mem_of_getElem? (i := 63) rfl)) (hw _ (List.mem_of_getElem? (i := 45) rfl)) (hw _ (List.mem_of_getElem? (i := 65) rfl)) ar_24 (by decide) (nfSel (hw _ (List.mem_of_getElem? (i := 64) rfl))) (by repeat (first | exact List.mem_cons_self | assumption | refine List.mem_cons_of_mem _ ?_)) rfl rfl rfl rfl (ct_app hw hE F (ys := []) (k := 16) (by decide) (by omega) (List.mem_cons_of_mem _ hm) (List.mem_cons_of_mem _ hmb)) (by first | decide | (dsimp only; omega) | omega) (by first | decide | (dsimp only; omega) | omega) (by first | decide | (dsimp only; omega) | omega) (by first | decide | (dsimp only; omega) | omega) (kv ?_)
  rintro _ _ ⟨rfl, rfl⟩
  refine Wk.ldcS (q := 17) 20 [.int 32, .int 97, .int 110, .int 100, .int 32] 5 d37_15 rfl (hw _ (List.mem_of_getElem? (i := 108) rfl)) (wS hw) (by decide +kernel) (by decide +kernel) (by decide) (by decide) (by decide +kernel) (by decide) (by first | decide | (dsimp only; omega) | omega) (by first | decide | (dsimp only; omega) | omega) ?_
  intro t e
  refine Wk.pull (o := (v, true, _)) (by repeat (first | exact Ex.here | assumption | apply Ex.there)) ?_
  refine Wk.pull (o := (s, true, _)) (by repeat (first | exact Ex.here | assumption | apply Ex.there)) ?_
  refine Wk.virtual (q := 20) (C := "java/lang/StringBuilder") [_] _ 2 d37_17 rfl (hw _ (List.mem_of_getElem? (i := 61) rfl)) (hw _ (List.mem_of_getElem? (i := 62) rfl)) (hw _ (List.mem_of_getElem? (i := 64) rfl)) (hw _ (List.mem_of_getElem? (i := 63) rfl)) (hw _ (List.mem_of_getElem? (i := 45) rfl)) (hw _ (List.mem_of_getElem? (i := 65) rfl)) ar_24 (by decide) (nfSel (hw _ (List.mem_of_getElem? (i := 64) rfl))) (by repeat (first | exact List.mem_cons_self | assumption | refine List.mem_cons_of_mem _ ?_)) rfl rfl rfl rfl (ct_app hw hE F (cs := lAnd) (by rw [List.nil_append]; omega) (by simp; omega) (by repeat (first | exact List.mem_cons_self | assumption | refine List.mem_cons_of_mem _ ?_)) (show (e, false, AR Z .byte ((lAnd.map b8).map .int)) ∈ _ from List.mem_cons_of_mem _ List.mem_cons_self)) (by first | decide | (dsimp only; omega) | omega) (by first | decide | (dsimp only; omega) | omega) (by first | decide | (dsimp only; omega) | omega) (by first | decide | (dsimp only; omega) | omega) (kv ?_)
  rintro _ _ ⟨rfl, rfl⟩
  refine Wk.aload_n (q := 21) d37_20 rfl rfl (by first | rfl | assumption) ?_
  refine Wk.virtual (q := 24) (C := "java/lang/StringBuilder") [_] _ 2 d37_21 rfl (hw _ (List.mem_of_getElem? (i := 61) rfl)) (hw _ (List.mem_of_getElem? (i := 62) rfl)) (hw _ (List.mem_of_getElem? (i := 64) rfl)) (hw _ (List.mem_of_getElem? (i := 63) rfl)) (hw _ (List.mem_of_getElem? (i := 45) rfl)) (hw _ (List.mem_of_getElem? (i := 65) rfl)) ar_24 (by decide) (nfSel (hw _ (List.mem_of_getElem? (i := 64) rfl))) (by repeat (first | exact List.mem_cons_self | assumption | refine List.mem_cons_of_mem _ ?_)) rfl rfl rfl rfl (ct_app hw hE F (cs := ns) (by simp; omega) (by simp; omega) (by repeat (first | exact List.mem_cons_self | assumption | refine List.mem_cons_of_mem _ ?_)) (by repeat (first | exact List.mem_cons_self | assumption | refine List.mem_cons_of_mem _ ?_))) (by first | decide | (dsimp only; omega) | omega) (by first | decide | (dsimp only; omega) | omega) (by first | decide | (dsimp only; omega) | omega) (by first | decide | (dsimp only; omega) | omega) (kv ?_)
  rintro _ _ ⟨rfl, rfl⟩
  refine Wk.ldcS (q := 26) 100 [.int 32, .int 99, .int 97, .int 110, .int 110, .int 111, .int 116, .int 32, .int 98, .int 101, .int 32, .int 103, .int 105, .int 118, .int 101, .int 110, .int 32, .int 116, .int 111, .int 103, .int 101, .int 116, .int 104, .int 101, .int 114] 25 d37_24 rfl (hw _ (List.mem_of_getElem? (i := 109) rfl)) (wS hw) (by decide +kernel) (by decide +kernel) (by decide) (by decide) (by decide +kernel) (by decide) (by first | decide | (dsimp only; omega) | omega) (by first | decide | (dsimp only; omega) | omega) ?_
  intro t2 e2
  refine Wk.pull (o := (v, true, _)) (by repeat (first | exact Ex.here | assumption | apply Ex.there)) ?_
  refine Wk.pull (o := (s, true, _)) (by repeat (first | exact Ex.here | assumption | apply Ex.there)) ?_
  have hyl : ([] ++ ms ++ lAnd ++ ns).length ≤ 9 := by simp; omega
  have hrp : 16 - ms.length - lAnd.length - ns.length = 16 - ([] ++ ms ++ lAnd ++ ns).length := by simp; omega
  rw [hrp]
  refine Wk.virtual (q := 29) (C := "java/lang/StringBuilder") [_] _ 2 d37_26 rfl (hw _ (List.mem_of_getElem? (i := 61) rfl)) (hw _ (List.mem_of_getElem? (i := 62) rfl)) (hw _ (List.mem_of_getElem? (i := 64) rfl)) (hw _ (List.mem_of_getElem? (i := 63) rfl)) (hw _ (List.mem_of_getElem? (i := 45) rfl)) (hw _ (List.mem_of_getElem? (i := 65) rfl)) ar_24 (by decide) (nfSel (hw _ (List.mem_of_getElem? (i := 64) rfl))) (by repeat (first | exact List.mem_cons_self | assumption | refine List.mem_cons_of_mem _ ?_)) rfl rfl rfl rfl (ct_sbAppG hw hE F (ys := [] ++ ms ++ lAnd ++ ns) (cs := lCan) hyl rfl (by repeat (first | exact List.mem_cons_self | assumption | refine List.mem_cons_of_mem _ ?_)) (show (e2, false, AR Z .byte ((lCan.map b8).map .int)) ∈ _ from List.mem_cons_of_mem _ List.mem_cons_self)) (by first | decide | (dsimp only; omega) | omega) (by first | decide | (dsimp only; omega) | omega) (by first | decide | (dsimp only; omega) | omega) (by first | decide | (dsimp only; omega) | omega) (kv ?_)
  rintro _ _ ⟨rfl, w, rfl⟩
  have hz : ∀ (M : Store) (q r : Addr), (x, true, NX Z nBU layX [.null, .null, .null, .null, .null, .int 0]) ∈ M → True := fun _ _ _ _ => trivial
  by_cases h34 : ms.length + ns.length = 4
  · have e34 : ([] ++ ms ++ lAnd ++ ns ++ lCan).length = 34 := by simp; omega
    have h0 : 34 - ([] ++ ms ++ lAnd ++ ns).length - 25 = 0 := by simp; omega
    rw [h0, List.replicate_zero, List.append_nil]
    refine Wk.virtual (q := 32) (C := "java/lang/StringBuilder") [] _ 2 d37_29 rfl (hw _ (List.mem_of_getElem? (i := 133) rfl)) (hw _ (List.mem_of_getElem? (i := 134) rfl)) (hw _ (List.mem_of_getElem? (i := 136) rfl)) (hw _ (List.mem_of_getElem? (i := 135) rfl)) (hw _ (List.mem_of_getElem? (i := 45) rfl)) (hw _ (List.mem_of_getElem? (i := 137) rfl)) ar_25 (by decide) (nfSel (hw _ (List.mem_of_getElem? (i := 136) rfl))) (by repeat (first | exact List.mem_cons_self | assumption | refine List.mem_cons_of_mem _ ?_)) rfl rfl rfl rfl (ct_sbStrC hw hE F (zs := [] ++ ms ++ lAnd ++ ns ++ lCan) e34 (by repeat (first | exact List.mem_cons_self | assumption | refine List.mem_cons_of_mem _ ?_)) (by repeat (first | exact List.mem_cons_self | assumption | refine List.mem_cons_of_mem _ ?_))) (by first | decide | (dsimp only; omega) | omega) (by first | decide | (dsimp only; omega) | omega) (by first | decide | (dsimp only; omega) | omega) (by first | decide | (dsimp only; omega) | omega) (kv ?_)
    rintro _ _ ⟨q, r, rfl, rfl⟩
    refine Wk.pull (o := (x, true, NX Z nBU layX [.null, .null, .null, .null, .null, .int 0])) (by repeat (first | exact Ex.here | assumption | apply Ex.there)) ?_
    refine Wk.special (q := 35) [_] _ 1 d37_32 rfl rfl (hw _ (List.mem_of_getElem? (i := 172) rfl)) (hw _ (List.mem_of_getElem? (i := 173) rfl)) (hw _ (List.mem_of_getElem? (i := 39) rfl)) (hw _ (List.mem_of_getElem? (i := 174) rfl)) ar_10 (by decide) rfl rfl rfl rfl (ct_budI hw hE hl FU FS) (by first | decide | (dsimp only; omega) | omega) (by first | decide | (dsimp only; omega) | omega) (by first | decide | (dsimp only; omega) | omega) (by first | decide | (dsimp only; omega) | omega) (k0 ?_)
    rintro _ rfl
    refine Wk.areturn (t := (.object "org/claimbridge/cli/BadUsageException")) d37_35 rfl rfl (by first | rfl | exact narO | exact narA) (by first | rfl | assumption) ?_
    exact ⟨_, rfl, x, q, r, true, true, rfl, List.mem_cons_self, (by repeat (first | exact List.mem_cons_self | assumption | refine List.mem_cons_of_mem _ ?_)), (by repeat (first | exact List.mem_cons_self | assumption | refine List.mem_cons_of_mem _ ?_)), fun z hz' => (by repeat (first | exact List.mem_cons_self | assumption | refine List.mem_cons_of_mem _ ?_))⟩
  · refine Wk.weak (a := w) (fl := true) (P' := AR Z .byte (((([] ++ ms ++ lAnd ++ ns ++ lCan) ++ List.replicate (34 - ([] ++ ms ++ lAnd ++ ns).length - 25) (0 : Int32)).map b8).map .int)) (by repeat (first | exact Ex.here | assumption | apply Ex.there)) (fun c (h : BA Z _ c) => h.1) ?_
    refine Wk.virtual (q := 32) (C := "java/lang/StringBuilder") [] _ 2 d37_29 rfl (hw _ (List.mem_of_getElem? (i := 133) rfl)) (hw _ (List.mem_of_getElem? (i := 134) rfl)) (hw _ (List.mem_of_getElem? (i := 136) rfl)) (hw _ (List.mem_of_getElem? (i := 135) rfl)) (hw _ (List.mem_of_getElem? (i := 45) rfl)) (hw _ (List.mem_of_getElem? (i := 137) rfl)) ar_25 (by decide) (nfSel (hw _ (List.mem_of_getElem? (i := 136) rfl))) (by repeat (first | exact List.mem_cons_self | assumption | refine List.mem_cons_of_mem _ ?_)) rfl rfl rfl rfl (ct_sbStr hw hE F (ys := [] ++ ms ++ lAnd ++ ns ++ lCan) (k := 34 - ([] ++ ms ++ lAnd ++ ns).length - 25) (by repeat (first | exact List.mem_cons_self | assumption | refine List.mem_cons_of_mem _ ?_)) (by repeat (first | exact List.mem_cons_self | assumption | refine List.mem_cons_of_mem _ ?_)) (by simp; omega) (by simp; omega) 34 (by simp; omega)) (by first | decide | (dsimp only; omega) | omega) (by first | decide | (dsimp only; omega) | omega) (by first | decide | (dsimp only; omega) | omega) (by first | decide | (dsimp only; omega) | omega) (kv ?_)
    rintro _ _ ⟨q, r, rfl, rfl⟩
    refine Wk.pull (o := (x, true, NX Z nBU layX [.null, .null, .null, .null, .null, .int 0])) (by repeat (first | exact Ex.here | assumption | apply Ex.there)) ?_
    refine Wk.special (q := 35) [_] _ 1 d37_32 rfl rfl (hw _ (List.mem_of_getElem? (i := 172) rfl)) (hw _ (List.mem_of_getElem? (i := 173) rfl)) (hw _ (List.mem_of_getElem? (i := 39) rfl)) (hw _ (List.mem_of_getElem? (i := 174) rfl)) ar_10 (by decide) rfl rfl rfl rfl (ct_budI hw hE hl FU FS) (by first | decide | (dsimp only; omega) | omega) (by first | decide | (dsimp only; omega) | omega) (by first | decide | (dsimp only; omega) | omega) (by first | decide | (dsimp only; omega) | omega) (k0 ?_)
    rintro _ rfl
    refine Wk.areturn (t := (.object "org/claimbridge/cli/BadUsageException")) d37_35 rfl rfl (by first | rfl | exact narO | exact narA) (by first | rfl | assumption) ?_
    exact ⟨_, rfl, x, q, r, true, true, rfl, List.mem_cons_self, (by repeat (first | exact List.mem_cons_self | assumption | refine List.mem_cons_of_mem _ ?_)), (by repeat (first | exact List.mem_cons_self | assumption | refine List.mem_cons_of_mem _ ?_)), fun z hz' => (by repeat (first | exact List.mem_cons_self | assumption | refine List.mem_cons_of_mem _ ?_))⟩
set_option maxRecDepth 65536 in
set_option maxHeartbeats 16000000 in
theorem ct_law {l : Launch} {Z : State} {a0 : Array Value} (hw : ∀ d ∈ tables_1, d.before a0 Z = true) (hE : EW Z a0 EL0) (hl : l.stackTraces = true) {u sv : Addr} (FU : Sta Z Z.heap "java/lang/Throwable" "UNASSIGNED_STACK" "[Ljava/lang/StackTraceElement;" (.ref u)) (FS : Sta Z Z.heap "java/lang/Throwable" "SUPPRESSED_SENTINEL" "Ljava/util/List;" (.ref sv)) (F : ∃ z, z ≠ (0 : Int32) ∧ Sta Z Z.heap "java/lang/String" "COMPACT_STRINGS" "Z" (.int z)) (i0 i1 : Int32) :
    Ct l Z EL0 x code 17 (some .boolean) room_1 #[.int i0, .int i1] [] (RV fun u M => u = .int 1) := by
  obtain ⟨ml, hml, eml⟩ := rem3 (XT.ushr i0 16)
  obtain ⟨nl, hnl, enl⟩ := rem3 (XT.ushr i1 16)
  refine Ct.of (a0 := a0) (Ls := [.val (.int _), .val (.int _), .unset, .unset, .unset, .unset, .unset, .unset, .unset, .unset, .unset, .unset, .unset, .unset, .unset, .unset, .unset]) (plainFor_of_name pn_7) (fun m => ef_ii_17 m _ _) hE ?_
  refine Wk.iload_n (q := 1) at_0 rfl rfl ?_
  refine Wk.bipush (q := 3) (16) at_1 rfl (by decide) ?_
  refine Wk.iushr (q := 4) at_3 rfl ?_
  refine Wk.iconst (q := 5) (3) at_4 rfl (by decide) ?_
  refine Wk.iand (q := 6) at_5 rfl ?_
  refine Wk.iconst (q := 7) (3) at_6 rfl (by decide) ?_
  refine Wk.irem (q := 8) at_7 rfl (by decide) ?_
  rw [eml]
  refine Wk.istore_n (q := 9) at_8 rfl (LS1.there (LS1.there (LS1.here (by first | exact One.u | exact One.val rfl | assumption)))) ?_
  refine Wk.iload_n (q := 10) at_9 rfl rfl ?_
  refine Wk.bipush (q := 12) (16) at_10 rfl (by decide) ?_
  refine Wk.iushr (q := 13) at_12 rfl ?_
  refine Wk.iconst (q := 14) (3) at_13 rfl (by decide) ?_
  refine Wk.iand (q := 15) at_14 rfl ?_
  refine Wk.iconst (q := 16) (3) at_15 rfl (by decide) ?_
  refine Wk.irem (q := 17) at_16 rfl (by decide) ?_
  rw [enl]
  refine Wk.istore_n (q := 18) at_17 rfl (LS1.there (LS1.there (LS1.there (LS1.here (by first | exact One.u | exact One.val rfl | assumption))))) ?_
  refine Wk.iload_n (q := 19) at_18 rfl rfl ?_
  refine Wk.sipush (q := 22) (255) at_19 rfl (by decide) ?_
  refine Wk.iand (q := 23) at_22 rfl ?_
  refine Wk.i2c (q := 24) at_23 rfl ?_
  rw [i2c_mask]
  refine Wk.istore (q := 26) at_24 rfl (LS1.there (LS1.there (LS1.there (LS1.there (LS1.here (by first | exact One.u | exact One.val rfl | assumption)))))) ?_
  refine Wk.iload_n (q := 27) at_26 rfl rfl ?_
  refine Wk.bipush (q := 29) (8) at_27 rfl (by decide) ?_
  refine Wk.iushr (q := 30) at_29 rfl ?_
  refine Wk.sipush (q := 33) (255) at_30 rfl (by decide) ?_
  refine Wk.iand (q := 34) at_33 rfl ?_
  refine Wk.i2c (q := 35) at_34 rfl ?_
  rw [i2c_mask]
  refine Wk.istore (q := 37) at_35 rfl (LS1.there (LS1.there (LS1.there (LS1.there (LS1.there (LS1.here (by first | exact One.u | exact One.val rfl | assumption))))))) ?_
  refine Wk.iload_n (q := 38) at_37 rfl rfl ?_
  refine Wk.sipush (q := 41) (255) at_38 rfl (by decide) ?_
  refine Wk.iand (q := 42) at_41 rfl ?_
  refine Wk.i2c (q := 43) at_42 rfl ?_
  rw [i2c_mask]
  refine Wk.istore (q := 45) at_43 rfl (LS1.there (LS1.there (LS1.there (LS1.there (LS1.there (LS1.there (LS1.here (by first | exact One.u | exact One.val rfl | assumption)))))))) ?_
  refine Wk.iload_n (q := 46) at_45 rfl rfl ?_
  refine Wk.bipush (q := 48) (8) at_46 rfl (by decide) ?_
  refine Wk.iushr (q := 49) at_48 rfl ?_
  refine Wk.sipush (q := 52) (255) at_49 rfl (by decide) ?_
  refine Wk.iand (q := 53) at_52 rfl ?_
  refine Wk.i2c (q := 54) at_53 rfl ?_
  rw [i2c_mask]
  have h1 := mask_lat i0
  have h2 := mask_lat (XT.ushr i0 8)
  have h3 := mask_lat i1
  have h4 := mask_lat (XT.ushr i1 8)
  generalize i0 &&& 255 = m0 at h1 ⊢
  generalize XT.ushr i0 8 &&& 255 = m1 at h2 ⊢
  generalize i1 &&& 255 = n0 at h3 ⊢
  generalize XT.ushr i1 8 &&& 255 = n1 at h4 ⊢
  refine Wk.istore (q := 56) at_54 rfl (LS1.there (LS1.there (LS1.there (LS1.there (LS1.there (LS1.there (LS1.there (LS1.here (by first | exact One.u | exact One.val rfl | assumption))))))))) ?_
  refine Wk.iload_n (q := 57) at_56 rfl rfl ?_
  refine Wk.iload (q := 59) at_57 rfl rfl ?_
  refine Wk.iload (q := 61) at_59 rfl rfl ?_
  refine Wk.static (q := 64) [_, _, _] _ 0 at_61 rfl (hw _ (List.mem_of_getElem? (i := 0) rfl)) (hw _ (List.mem_of_getElem? (i := 1) rfl)) (hw _ (List.mem_of_getElem? (i := 2) rfl)) (hw _ (List.mem_of_getElem? (i := 3) rfl)) ar_26 (by decide) rfl rfl rfl rfl (ct_mk hw hE F hml h1 h2) (by first | decide | (dsimp only; omega) | omega) (by first | decide | (dsimp only; omega) | omega) (by first | decide | (dsimp only; omega) | omega) (by first | decide | (dsimp only; omega) | omega) (kv ?_)
  rintro _ _ ⟨m, mb, fm, fmb, rfl, rfl⟩
  refine Wk.astore (q := 66) at_64 rfl (by first | rfl | assumption) (LS1.there (LS1.there (LS1.there (LS1.there (LS1.there (LS1.there (LS1.there (LS1.there (LS1.here (by first | exact One.u | exact One.val rfl | assumption)))))))))) ?_
  refine Wk.iload_n (q := 67) at_66 rfl rfl ?_
  refine Wk.iload (q := 69) at_67 rfl rfl ?_
  refine Wk.iload (q := 71) at_69 rfl rfl ?_
  refine Wk.static (q := 74) [_, _, _] _ 0 at_71 rfl (hw _ (List.mem_of_getElem? (i := 0) rfl)) (hw _ (List.mem_of_getElem? (i := 1) rfl)) (hw _ (List.mem_of_getElem? (i := 2) rfl)) (hw _ (List.mem_of_getElem? (i := 3) rfl)) ar_26 (by decide) rfl rfl rfl rfl (ct_mk hw hE F hnl h3 h4) (by first | decide | (dsimp only; omega) | omega) (by first | decide | (dsimp only; omega) | omega) (by first | decide | (dsimp only; omega) | omega) (by first | decide | (dsimp only; omega) | omega) (kv ?_)
  rintro _ _ ⟨n, nb, fn, fnb, rfl, rfl⟩
  refine Wk.astore (q := 76) at_74 rfl (by first | rfl | assumption) (LS1.there (LS1.there (LS1.there (LS1.there (LS1.there (LS1.there (LS1.there (LS1.there (LS1.there (LS1.here (by first | exact One.u | exact One.val rfl | assumption))))))))))) ?_
  have hlm : ([m0, m1].take ml).length ≤ 2 := by rw [List.length_take]; exact Nat.min_le_right _ _
  have hln : ([n0, n1].take nl).length ≤ 2 := by rw [List.length_take]; exact Nat.min_le_right _ _
  have fin : ∀ (M : Store) (ca es er : Addr) (fes fer : Bool) (c11 c12 c13 : Int32), (es, fes, OB Z "java/lang/String" layS [.ref er, .int 0]) ∈ M → (er, fer, AR Z .byte ((([m0, m1].take ml ++ lAnd ++ [n0, n1].take nl ++ lCan).map b8).map .int)) ∈ M → (m, fm, OB Z "java/lang/String" layS [.ref mb, .int 0]) ∈ M → (mb, fmb, AR Z .byte ((([m0, m1].take ml).map b8).map .int)) ∈ M → (n, fn, OB Z "java/lang/String" layS [.ref nb, .int 0]) ∈ M → (nb, fnb, AR Z .byte ((([n0, n1].take nl).map b8).map .int)) ∈ M → 
      Wk l Z a0 EL0 x code 17 (some .boolean) room_1 (RV fun u M => u = .int 1) M 20 4000 443 [.val (.int i0), .val (.int i1), .val (.int ml.toInt32), .val (.int nl.toInt32), .val (.int m0), .val (.int m1), .val (.int n0), .val (.int n1), .val (.ref m), .val (.ref n), .val (.ref ca), .val (.int c11), .val (.int c12), .val (.int c13), .val (.ref es), .unset, .unset] [] := by
    intro M ca es er fes fer c11 c12 c13 q1 q2 q3 q4 q5 q6
    refine Wk.aload (q := 445) at_443 rfl rfl (by first | rfl | assumption) ?_
    refine Wk.aload (q := 447) at_445 rfl rfl (by first | rfl | assumption) ?_
    refine Wk.static (q := 450) [_, _] _ 0 at_447 rfl (hw _ (List.mem_of_getElem? (i := 37) rfl)) (hw _ (List.mem_of_getElem? (i := 38) rfl)) (hw _ (List.mem_of_getElem? (i := 39) rfl)) (hw _ (List.mem_of_getElem? (i := 40) rfl)) ar_27 (by decide) rfl rfl rfl rfl (ct_given hw hE hl FU FS F hlm hln q3 q4 q5 q6) (by first | decide | (dsimp only; omega) | omega) (by first | decide | (dsimp only; omega) | omega) (by first | decide | (dsimp only; omega) | omega) (by first | decide | (dsimp only; omega) | omega) (kv ?_)
    rintro _ M2 ⟨x, q, r, fq, fr, rfl, k1, k2, k3, k4⟩
    refine Wk.astore (q := 452) at_450 rfl (by first | rfl | assumption) (LS1.there (LS1.there (LS1.there (LS1.there (LS1.there (LS1.there (LS1.there (LS1.there (LS1.there (LS1.there (LS1.there (LS1.there (LS1.there (LS1.there (LS1.there (LS1.here (by first | exact One.u | exact One.val rfl | assumption))))))))))))))))) ?_
    refine Wk.aload (q := 454) at_452 rfl rfl (by first | rfl | assumption) ?_
    refine Wk.nonnull_t (q := 459) at_454 (by decide) (by decide)  ?_
    refine Wk.aload (q := 461) at_459 rfl rfl (by first | rfl | assumption) ?_
    refine Wk.virtualUp (q := 464) (C := "org/claimbridge/cli/BadUsageException") (owner := "java/lang/Throwable") [] _ 0 at_461 rfl (hw _ (List.mem_of_getElem? (i := 223) rfl)) (hw _ (List.mem_of_getElem? (i := 224) rfl)) (hw _ (List.mem_of_getElem? (i := 225) rfl)) (hw _ (List.mem_of_getElem? (i := 227) rfl)) (hw _ (List.mem_of_getElem? (i := 226) rfl)) (hw _ (List.mem_of_getElem? (i := 184) rfl)) (hw _ (List.mem_of_getElem? (i := 228) rfl)) ar_25 (by decide) (by repeat (first | exact List.mem_cons_self | assumption | refine List.mem_cons_of_mem _ ?_)) rfl rfl rfl rfl (ct_getMsg hw hE k1) (by first | decide | (dsimp only; omega) | omega) (by first | decide | (dsimp only; omega) | omega) (by first | decide | (dsimp only; omega) | omega) (by first | decide | (dsimp only; omega) | omega) (kv ?_)
    rintro _ M3 ⟨rfl, rfl⟩
    refine Wk.astore (q := 466) at_464 rfl (by first | rfl | assumption) (LS1.there (LS1.there (LS1.there (LS1.there (LS1.there (LS1.there (LS1.there (LS1.there (LS1.there (LS1.there (LS1.there (LS1.there (LS1.there (LS1.there (LS1.there (LS1.there (LS1.here (by first | exact One.u | exact One.val rfl | assumption)))))))))))))))))) ?_
    refine Wk.aload (q := 468) at_466 rfl rfl (by first | rfl | assumption) ?_
    refine Wk.nonnull_t (q := 473) at_468 (by decide) (by decide)  ?_
    refine Wk.aload (q := 475) at_473 rfl rfl (by first | rfl | assumption) ?_
    refine Wk.aload (q := 477) at_475 rfl rfl (by first | rfl | assumption) ?_
    refine Wk.virtual (q := 480) (C := "java/lang/String") [_] _ 0 at_477 rfl (hw _ (List.mem_of_getElem? (i := 229) rfl)) (hw _ (List.mem_of_getElem? (i := 230) rfl)) (hw _ (List.mem_of_getElem? (i := 232) rfl)) (hw _ (List.mem_of_getElem? (i := 231) rfl)) (hw _ (List.mem_of_getElem? (i := 6) rfl)) (hw _ (List.mem_of_getElem? (i := 233) rfl)) ar_28 (by decide) (nfSel (hw _ (List.mem_of_getElem? (i := 232) rfl))) (by repeat (first | exact List.mem_cons_self | assumption | refine List.mem_cons_of_mem _ ?_)) rfl rfl rfl rfl (ct_strEq hw hE F (xs := ([m0, m1].take ml ++ lAnd ++ [n0, n1].take nl ++ lCan).map b8) (ys := ([m0, m1].take ml ++ lAnd ++ [n0, n1].take nl ++ lCan).map b8) (by simp; omega) (by simp; omega) k2 (k4 _ q1) k3 (k4 _ q2)) (by first | decide | (dsimp only; omega) | omega) (by first | decide | (dsimp only; omega) | omega) (by first | decide | (dsimp only; omega) | omega) (by first | decide | (dsimp only; omega) | omega) (kv ?_)
    rintro _ _ ⟨rfl, rfl⟩
    rw [if_pos rfl]
    refine Wk.ireturn (t := .boolean) at_480 rfl (by simp) (by rfl) ?_
    exact ⟨_, rfl, rfl⟩
  rcases (by omega : ml = 0 ∨ ml = 1 ∨ ml = 2) with rfl | rfl | rfl <;> rcases (by omega : nl = 0 ∨ nl = 1 ∨ nl = 2) with rfl | rfl | rfl
  · refine Wk.iload_n (q := 77) at_76 rfl rfl ?_
    refine Wk.iload_n (q := 78) at_77 rfl rfl ?_
    refine Wk.iadd (q := 79) at_78 rfl ?_
    refine Wk.bipush (q := 81) (30) at_79 rfl (by decide) ?_
    refine Wk.iadd (q := 82) at_81 rfl ?_
    refine Wk.newarray (q := 84) .char (30) [(.int 0), (.int 0), (.int 0), (.int 0), (.int 0), (.int 0), (.int 0), (.int 0), (.int 0), (.int 0), (.int 0), (.int 0), (.int 0), (.int 0), (.int 0), (.int 0), (.int 0), (.int 0), (.int 0), (.int 0), (.int 0), (.int 0), (.int 0), (.int 0), (.int 0), (.int 0), (.int 0), (.int 0), (.int 0), (.int 0)] at_82 rfl rfl rfl (hw _ (List.mem_of_getElem? (i := 7) rfl)) (by decide) (by decide) (by decide) (by first | decide | (dsimp only; omega) | omega) (by first | decide | (dsimp only; omega) | omega) ?_
    intro ca
    refine Wk.astore (q := 86) at_84 rfl (by first | rfl | assumption) (LS1.there (LS1.there (LS1.there (LS1.there (LS1.there (LS1.there (LS1.there (LS1.there (LS1.there (LS1.there (LS1.here (by first | exact One.u | exact One.val rfl | assumption)))))))))))) ?_
    refine Wk.iload_n (q := 87) at_86 rfl rfl ?_
    refine Wk.if_t (q := 96) at_87 (by decide) (by decide) (by decide) ?_
    refine Wk.iload_n (q := 97) at_96 rfl rfl ?_
    refine Wk.iconst (q := 98) (1) at_97 rfl (by decide) ?_
    refine Wk.icmp_t (q := 107) at_98 (by decide) (by decide) (by decide) ?_
    refine Wk.iload_n (q := 108) at_107 rfl rfl ?_
    refine Wk.istore (q := 110) at_108 rfl (LS1.there (LS1.there (LS1.there (LS1.there (LS1.there (LS1.there (LS1.there (LS1.there (LS1.there (LS1.there (LS1.there (LS1.here (by first | exact One.u | exact One.val rfl | assumption))))))))))))) ?_
    refine Wk.aload (q := 112) at_110 rfl rfl (by first | rfl | assumption) ?_
    refine Wk.iload (q := 114) at_112 rfl rfl ?_
    refine Wk.bipush (q := 116) (32) at_114 rfl (by decide) ?_
    refine Wk.castore (q := 117) (0) at_116 rfl (by repeat (first | exact Ex.here | assumption | apply Ex.there)) (by decide) (by decide) (by rfl) (VS.here) ?_
    refine Wk.aload (q := 119) at_117 rfl rfl (by first | rfl | assumption) ?_
    refine Wk.iload (q := 121) at_119 rfl rfl ?_
    refine Wk.iconst (q := 122) (1) at_121 rfl (by decide) ?_
    refine Wk.iadd (q := 123) at_122 rfl ?_
    refine Wk.bipush (q := 125) (97) at_123 rfl (by decide) ?_
    refine Wk.castore (q := 126) (1) at_125 rfl (by repeat (first | exact Ex.here | assumption | apply Ex.there)) (by decide) (by decide) (by rfl) (VS.there (VS.here)) ?_
    refine Wk.aload (q := 128) at_126 rfl rfl (by first | rfl | assumption) ?_
    refine Wk.iload (q := 130) at_128 rfl rfl ?_
    refine Wk.iconst (q := 131) (2) at_130 rfl (by decide) ?_
    refine Wk.iadd (q := 132) at_131 rfl ?_
    refine Wk.bipush (q := 134) (110) at_132 rfl (by decide) ?_
    refine Wk.castore (q := 135) (2) at_134 rfl (by repeat (first | exact Ex.here | assumption | apply Ex.there)) (by decide) (by decide) (by rfl) (VS.there (VS.there (VS.here))) ?_
    refine Wk.aload (q := 137) at_135 rfl rfl (by first | rfl | assumption) ?_
    refine Wk.iload (q := 139) at_137 rfl rfl ?_
    refine Wk.iconst (q := 140) (3) at_139 rfl (by decide) ?_
    refine Wk.iadd (q := 141) at_140 rfl ?_
    refine Wk.bipush (q := 143) (100) at_141 rfl (by decide) ?_
    refine Wk.castore (q := 144) (3) at_143 rfl (by repeat (first | exact Ex.here | assumption | apply Ex.there)) (by decide) (by decide) (by rfl) (VS.there (VS.there (VS.there (VS.here)))) ?_
    refine Wk.aload (q := 146) at_144 rfl rfl (by first | rfl | assumption) ?_
    refine Wk.iload (q := 148) at_146 rfl rfl ?_
    refine Wk.iconst (q := 149) (4) at_148 rfl (by decide) ?_
    refine Wk.iadd (q := 150) at_149 rfl ?_
    refine Wk.bipush (q := 152) (32) at_150 rfl (by decide) ?_
    refine Wk.castore (q := 153) (4) at_152 rfl (by repeat (first | exact Ex.here | assumption | apply Ex.there)) (by decide) (by decide) (by rfl) (VS.there (VS.there (VS.there (VS.there (VS.here))))) ?_
    refine Wk.iload (q := 155) at_153 rfl rfl ?_
    refine Wk.iconst (q := 156) (5) at_155 rfl (by decide) ?_
    refine Wk.iadd (q := 157) at_156 rfl ?_
    refine Wk.istore (q := 159) at_157 rfl (LS1.there (LS1.there (LS1.there (LS1.there (LS1.there (LS1.there (LS1.there (LS1.there (LS1.there (LS1.there (LS1.there (LS1.there (LS1.here (by first | exact One.u | exact One.val rfl | assumption)))))))))))))) ?_
    refine Wk.iload_n (q := 160) at_159 rfl rfl ?_
    refine Wk.if_t (q := 170) at_160 (by decide) (by decide) (by decide) ?_
    refine Wk.iload_n (q := 171) at_170 rfl rfl ?_
    refine Wk.iconst (q := 172) (1) at_171 rfl (by decide) ?_
    refine Wk.icmp_t (q := 184) at_172 (by decide) (by decide) (by decide) ?_
    refine Wk.iload (q := 186) at_184 rfl rfl ?_
    refine Wk.iload_n (q := 187) at_186 rfl rfl ?_
    refine Wk.iadd (q := 188) at_187 rfl ?_
    refine Wk.istore (q := 190) at_188 rfl (LS1.there (LS1.there (LS1.there (LS1.there (LS1.there (LS1.there (LS1.there (LS1.there (LS1.there (LS1.there (LS1.there (LS1.there (LS1.there (LS1.here (by first | exact One.u | exact One.val rfl | assumption))))))))))))))) ?_
    refine Wk.aload (q := 192) at_190 rfl rfl (by first | rfl | assumption) ?_
    refine Wk.iload (q := 194) at_192 rfl rfl ?_
    refine Wk.bipush (q := 196) (32) at_194 rfl (by decide) ?_
    refine Wk.castore (q := 197) (5) at_196 rfl (by repeat (first | exact Ex.here | assumption | apply Ex.there)) (by decide) (by decide) (by rfl) (VS.there (VS.there (VS.there (VS.there (VS.there (VS.here)))))) ?_
    refine Wk.aload (q := 199) at_197 rfl rfl (by first | rfl | assumption) ?_
    refine Wk.iload (q := 201) at_199 rfl rfl ?_
    refine Wk.iconst (q := 202) (1) at_201 rfl (by decide) ?_
    refine Wk.iadd (q := 203) at_202 rfl ?_
    refine Wk.bipush (q := 205) (99) at_203 rfl (by decide) ?_
    refine Wk.castore (q := 206) (6) at_205 rfl (by repeat (first | exact Ex.here | assumption | apply Ex.there)) (by decide) (by decide) (by rfl) (VS.there (VS.there (VS.there (VS.there (VS.there (VS.there (VS.here))))))) ?_
    refine Wk.aload (q := 208) at_206 rfl rfl (by first | rfl | assumption) ?_
    refine Wk.iload (q := 210) at_208 rfl rfl ?_
    refine Wk.iconst (q := 211) (2) at_210 rfl (by decide) ?_
    refine Wk.iadd (q := 212) at_211 rfl ?_
    refine Wk.bipush (q := 214) (97) at_212 rfl (by decide) ?_
    refine Wk.castore (q := 215) (7) at_214 rfl (by repeat (first | exact Ex.here | assumption | apply Ex.there)) (by decide) (by decide) (by rfl) (VS.there (VS.there (VS.there (VS.there (VS.there (VS.there (VS.there (VS.here)))))))) ?_
    refine Wk.aload (q := 217) at_215 rfl rfl (by first | rfl | assumption) ?_
    refine Wk.iload (q := 219) at_217 rfl rfl ?_
    refine Wk.iconst (q := 220) (3) at_219 rfl (by decide) ?_
    refine Wk.iadd (q := 221) at_220 rfl ?_
    refine Wk.bipush (q := 223) (110) at_221 rfl (by decide) ?_
    refine Wk.castore (q := 224) (8) at_223 rfl (by repeat (first | exact Ex.here | assumption | apply Ex.there)) (by decide) (by decide) (by rfl) (VS.there (VS.there (VS.there (VS.there (VS.there (VS.there (VS.there (VS.there (VS.here))))))))) ?_
    refine Wk.aload (q := 226) at_224 rfl rfl (by first | rfl | assumption) ?_
    refine Wk.iload (q := 228) at_226 rfl rfl ?_
    refine Wk.iconst (q := 229) (4) at_228 rfl (by decide) ?_
    refine Wk.iadd (q := 230) at_229 rfl ?_
    refine Wk.bipush (q := 232) (110) at_230 rfl (by decide) ?_
    refine Wk.castore (q := 233) (9) at_232 rfl (by repeat (first | exact Ex.here | assumption | apply Ex.there)) (by decide) (by decide) (by rfl) (VS.there (VS.there (VS.there (VS.there (VS.there (VS.there (VS.there (VS.there (VS.there (VS.here)))))))))) ?_
    refine Wk.aload (q := 235) at_233 rfl rfl (by first | rfl | assumption) ?_
    refine Wk.iload (q := 237) at_235 rfl rfl ?_
    refine Wk.iconst (q := 238) (5) at_237 rfl (by decide) ?_
    refine Wk.iadd (q := 239) at_238 rfl ?_
    refine Wk.bipush (q := 241) (111) at_239 rfl (by decide) ?_
    refine Wk.castore (q := 242) (10) at_241 rfl (by repeat (first | exact Ex.here | assumption | apply Ex.there)) (by decide) (by decide) (by rfl) (VS.there (VS.there (VS.there (VS.there (VS.there (VS.there (VS.there (VS.there (VS.there (VS.there (VS.here))))))))))) ?_
    refine Wk.aload (q := 244) at_242 rfl rfl (by first | rfl | assumption) ?_
    refine Wk.iload (q := 246) at_244 rfl rfl ?_
    refine Wk.bipush (q := 248) (6) at_246 rfl (by decide) ?_
    refine Wk.iadd (q := 249) at_248 rfl ?_
    refine Wk.bipush (q := 251) (116) at_249 rfl (by decide) ?_
    refine Wk.castore (q := 252) (11) at_251 rfl (by repeat (first | exact Ex.here | assumption | apply Ex.there)) (by decide) (by decide) (by rfl) (VS.there (VS.there (VS.there (VS.there (VS.there (VS.there (VS.there (VS.there (VS.there (VS.there (VS.there (VS.here)))))))))))) ?_
    refine Wk.aload (q := 254) at_252 rfl rfl (by first | rfl | assumption) ?_
    refine Wk.iload (q := 256) at_254 rfl rfl ?_
    refine Wk.bipush (q := 258) (7) at_256 rfl (by decide) ?_
    refine Wk.iadd (q := 259) at_258 rfl ?_
    refine Wk.bipush (q := 261) (32) at_259 rfl (by decide) ?_
    refine Wk.castore (q := 262) (12) at_261 rfl (by repeat (first | exact Ex.here | assumption | apply Ex.there)) (by decide) (by decide) (by rfl) (VS.there (VS.there (VS.there (VS.there (VS.there (VS.there (VS.there (VS.there (VS.there (VS.there (VS.there (VS.there (VS.here))))))))))))) ?_
    refine Wk.aload (q := 264) at_262 rfl rfl (by first | rfl | assumption) ?_
    refine Wk.iload (q := 266) at_264 rfl rfl ?_
    refine Wk.bipush (q := 268) (8) at_266 rfl (by decide) ?_
    refine Wk.iadd (q := 269) at_268 rfl ?_
    refine Wk.bipush (q := 271) (98) at_269 rfl (by decide) ?_
    refine Wk.castore (q := 272) (13) at_271 rfl (by repeat (first | exact Ex.here | assumption | apply Ex.there)) (by decide) (by decide) (by rfl) (VS.there (VS.there (VS.there (VS.there (VS.there (VS.there (VS.there (VS.there (VS.there (VS.there (VS.there (VS.there (VS.there (VS.here)))))))))))))) ?_
    refine Wk.aload (q := 274) at_272 rfl rfl (by first | rfl | assumption) ?_
    refine Wk.iload (q := 276) at_274 rfl rfl ?_
    refine Wk.bipush (q := 278) (9) at_276 rfl (by decide) ?_
    refine Wk.iadd (q := 279) at_278 rfl ?_
    refine Wk.bipush (q := 281) (101) at_279 rfl (by decide) ?_
    refine Wk.castore (q := 282) (14) at_281 rfl (by repeat (first | exact Ex.here | assumption | apply Ex.there)) (by decide) (by decide) (by rfl) (VS.there (VS.there (VS.there (VS.there (VS.there (VS.there (VS.there (VS.there (VS.there (VS.there (VS.there (VS.there (VS.there (VS.there (VS.here))))))))))))))) ?_
    refine Wk.aload (q := 284) at_282 rfl rfl (by first | rfl | assumption) ?_
    refine Wk.iload (q := 286) at_284 rfl rfl ?_
    refine Wk.bipush (q := 288) (10) at_286 rfl (by decide) ?_
    refine Wk.iadd (q := 289) at_288 rfl ?_
    refine Wk.bipush (q := 291) (32) at_289 rfl (by decide) ?_
    refine Wk.castore (q := 292) (15) at_291 rfl (by repeat (first | exact Ex.here | assumption | apply Ex.there)) (by decide) (by decide) (by rfl) (VS.there (VS.there (VS.there (VS.there (VS.there (VS.there (VS.there (VS.there (VS.there (VS.there (VS.there (VS.there (VS.there (VS.there (VS.there (VS.here)))))))))))))))) ?_
    refine Wk.aload (q := 294) at_292 rfl rfl (by first | rfl | assumption) ?_
    refine Wk.iload (q := 296) at_294 rfl rfl ?_
    refine Wk.bipush (q := 298) (11) at_296 rfl (by decide) ?_
    refine Wk.iadd (q := 299) at_298 rfl ?_
    refine Wk.bipush (q := 301) (103) at_299 rfl (by decide) ?_
    refine Wk.castore (q := 302) (16) at_301 rfl (by repeat (first | exact Ex.here | assumption | apply Ex.there)) (by decide) (by decide) (by rfl) (VS.there (VS.there (VS.there (VS.there (VS.there (VS.there (VS.there (VS.there (VS.there (VS.there (VS.there (VS.there (VS.there (VS.there (VS.there (VS.there (VS.here))))))))))))))))) ?_
    refine Wk.aload (q := 304) at_302 rfl rfl (by first | rfl | assumption) ?_
    refine Wk.iload (q := 306) at_304 rfl rfl ?_
    refine Wk.bipush (q := 308) (12) at_306 rfl (by decide) ?_
    refine Wk.iadd (q := 309) at_308 rfl ?_
    refine Wk.bipush (q := 311) (105) at_309 rfl (by decide) ?_
    refine Wk.castore (q := 312) (17) at_311 rfl (by repeat (first | exact Ex.here | assumption | apply Ex.there)) (by decide) (by decide) (by rfl) (VS.there (VS.there (VS.there (VS.there (VS.there (VS.there (VS.there (VS.there (VS.there (VS.there (VS.there (VS.there (VS.there (VS.there (VS.there (VS.there (VS.there (VS.here)))))))))))))))))) ?_
    refine Wk.aload (q := 314) at_312 rfl rfl (by first | rfl | assumption) ?_
    refine Wk.iload (q := 316) at_314 rfl rfl ?_
    refine Wk.bipush (q := 318) (13) at_316 rfl (by decide) ?_
    refine Wk.iadd (q := 319) at_318 rfl ?_
    refine Wk.bipush (q := 321) (118) at_319 rfl (by decide) ?_
    refine Wk.castore (q := 322) (18) at_321 rfl (by repeat (first | exact Ex.here | assumption | apply Ex.there)) (by decide) (by decide) (by rfl) (VS.there (VS.there (VS.there (VS.there (VS.there (VS.there (VS.there (VS.there (VS.there (VS.there (VS.there (VS.there (VS.there (VS.there (VS.there (VS.there (VS.there (VS.there (VS.here))))))))))))))))))) ?_
    refine Wk.aload (q := 324) at_322 rfl rfl (by first | rfl | assumption) ?_
    refine Wk.iload (q := 326) at_324 rfl rfl ?_
    refine Wk.bipush (q := 328) (14) at_326 rfl (by decide) ?_
    refine Wk.iadd (q := 329) at_328 rfl ?_
    refine Wk.bipush (q := 331) (101) at_329 rfl (by decide) ?_
    refine Wk.castore (q := 332) (19) at_331 rfl (by repeat (first | exact Ex.here | assumption | apply Ex.there)) (by decide) (by decide) (by rfl) (VS.there (VS.there (VS.there (VS.there (VS.there (VS.there (VS.there (VS.there (VS.there (VS.there (VS.there (VS.there (VS.there (VS.there (VS.there (VS.there (VS.there (VS.there (VS.there (VS.here)))))))))))))))))))) ?_
    refine Wk.aload (q := 334) at_332 rfl rfl (by first | rfl | assumption) ?_
    refine Wk.iload (q := 336) at_334 rfl rfl ?_
    refine Wk.bipush (q := 338) (15) at_336 rfl (by decide) ?_
    refine Wk.iadd (q := 339) at_338 rfl ?_
    refine Wk.bipush (q := 341) (110) at_339 rfl (by decide) ?_
    refine Wk.castore (q := 342) (20) at_341 rfl (by repeat (first | exact Ex.here | assumption | apply Ex.there)) (by decide) (by decide) (by rfl) (VS.there (VS.there (VS.there (VS.there (VS.there (VS.there (VS.there (VS.there (VS.there (VS.there (VS.there (VS.there (VS.there (VS.there (VS.there (VS.there (VS.there (VS.there (VS.there (VS.there (VS.here))))))))))))))))))))) ?_
    refine Wk.aload (q := 344) at_342 rfl rfl (by first | rfl | assumption) ?_
    refine Wk.iload (q := 346) at_344 rfl rfl ?_
    refine Wk.bipush (q := 348) (16) at_346 rfl (by decide) ?_
    refine Wk.iadd (q := 349) at_348 rfl ?_
    refine Wk.bipush (q := 351) (32) at_349 rfl (by decide) ?_
    refine Wk.castore (q := 352) (21) at_351 rfl (by repeat (first | exact Ex.here | assumption | apply Ex.there)) (by decide) (by decide) (by rfl) (VS.there (VS.there (VS.there (VS.there (VS.there (VS.there (VS.there (VS.there (VS.there (VS.there (VS.there (VS.there (VS.there (VS.there (VS.there (VS.there (VS.there (VS.there (VS.there (VS.there (VS.there (VS.here)))))))))))))))))))))) ?_
    refine Wk.aload (q := 354) at_352 rfl rfl (by first | rfl | assumption) ?_
    refine Wk.iload (q := 356) at_354 rfl rfl ?_
    refine Wk.bipush (q := 358) (17) at_356 rfl (by decide) ?_
    refine Wk.iadd (q := 359) at_358 rfl ?_
    refine Wk.bipush (q := 361) (116) at_359 rfl (by decide) ?_
    refine Wk.castore (q := 362) (22) at_361 rfl (by repeat (first | exact Ex.here | assumption | apply Ex.there)) (by decide) (by decide) (by rfl) (VS.there (VS.there (VS.there (VS.there (VS.there (VS.there (VS.there (VS.there (VS.there (VS.there (VS.there (VS.there (VS.there (VS.there (VS.there (VS.there (VS.there (VS.there (VS.there (VS.there (VS.there (VS.there (VS.here))))))))))))))))))))))) ?_
    refine Wk.aload (q := 364) at_362 rfl rfl (by first | rfl | assumption) ?_
    refine Wk.iload (q := 366) at_364 rfl rfl ?_
    refine Wk.bipush (q := 368) (18) at_366 rfl (by decide) ?_
    refine Wk.iadd (q := 369) at_368 rfl ?_
    refine Wk.bipush (q := 371) (111) at_369 rfl (by decide) ?_
    refine Wk.castore (q := 372) (23) at_371 rfl (by repeat (first | exact Ex.here | assumption | apply Ex.there)) (by decide) (by decide) (by rfl) (VS.there (VS.there (VS.there (VS.there (VS.there (VS.there (VS.there (VS.there (VS.there (VS.there (VS.there (VS.there (VS.there (VS.there (VS.there (VS.there (VS.there (VS.there (VS.there (VS.there (VS.there (VS.there (VS.there (VS.here)))))))))))))))))))))))) ?_
    refine Wk.aload (q := 374) at_372 rfl rfl (by first | rfl | assumption) ?_
    refine Wk.iload (q := 376) at_374 rfl rfl ?_
    refine Wk.bipush (q := 378) (19) at_376 rfl (by decide) ?_
    refine Wk.iadd (q := 379) at_378 rfl ?_
    refine Wk.bipush (q := 381) (103) at_379 rfl (by decide) ?_
    refine Wk.castore (q := 382) (24) at_381 rfl (by repeat (first | exact Ex.here | assumption | apply Ex.there)) (by decide) (by decide) (by rfl) (VS.there (VS.there (VS.there (VS.there (VS.there (VS.there (VS.there (VS.there (VS.there (VS.there (VS.there (VS.there (VS.there (VS.there (VS.there (VS.there (VS.there (VS.there (VS.there (VS.there (VS.there (VS.there (VS.there (VS.there (VS.here))))))))))))))))))))))))) ?_
    refine Wk.aload (q := 384) at_382 rfl rfl (by first | rfl | assumption) ?_
    refine Wk.iload (q := 386) at_384 rfl rfl ?_
    refine Wk.bipush (q := 388) (20) at_386 rfl (by decide) ?_
    refine Wk.iadd (q := 389) at_388 rfl ?_
    refine Wk.bipush (q := 391) (101) at_389 rfl (by decide) ?_
    refine Wk.castore (q := 392) (25) at_391 rfl (by repeat (first | exact Ex.here | assumption | apply Ex.there)) (by decide) (by decide) (by rfl) (VS.there (VS.there (VS.there (VS.there (VS.there (VS.there (VS.there (VS.there (VS.there (VS.there (VS.there (VS.there (VS.there (VS.there (VS.there (VS.there (VS.there (VS.there (VS.there (VS.there (VS.there (VS.there (VS.there (VS.there (VS.there (VS.here)))))))))))))))))))))))))) ?_
    refine Wk.aload (q := 394) at_392 rfl rfl (by first | rfl | assumption) ?_
    refine Wk.iload (q := 396) at_394 rfl rfl ?_
    refine Wk.bipush (q := 398) (21) at_396 rfl (by decide) ?_
    refine Wk.iadd (q := 399) at_398 rfl ?_
    refine Wk.bipush (q := 401) (116) at_399 rfl (by decide) ?_
    refine Wk.castore (q := 402) (26) at_401 rfl (by repeat (first | exact Ex.here | assumption | apply Ex.there)) (by decide) (by decide) (by rfl) (VS.there (VS.there (VS.there (VS.there (VS.there (VS.there (VS.there (VS.there (VS.there (VS.there (VS.there (VS.there (VS.there (VS.there (VS.there (VS.there (VS.there (VS.there (VS.there (VS.there (VS.there (VS.there (VS.there (VS.there (VS.there (VS.there (VS.here))))))))))))))))))))))))))) ?_
    refine Wk.aload (q := 404) at_402 rfl rfl (by first | rfl | assumption) ?_
    refine Wk.iload (q := 406) at_404 rfl rfl ?_
    refine Wk.bipush (q := 408) (22) at_406 rfl (by decide) ?_
    refine Wk.iadd (q := 409) at_408 rfl ?_
    refine Wk.bipush (q := 411) (104) at_409 rfl (by decide) ?_
    refine Wk.castore (q := 412) (27) at_411 rfl (by repeat (first | exact Ex.here | assumption | apply Ex.there)) (by decide) (by decide) (by rfl) (VS.there (VS.there (VS.there (VS.there (VS.there (VS.there (VS.there (VS.there (VS.there (VS.there (VS.there (VS.there (VS.there (VS.there (VS.there (VS.there (VS.there (VS.there (VS.there (VS.there (VS.there (VS.there (VS.there (VS.there (VS.there (VS.there (VS.there (VS.here)))))))))))))))))))))))))))) ?_
    refine Wk.aload (q := 414) at_412 rfl rfl (by first | rfl | assumption) ?_
    refine Wk.iload (q := 416) at_414 rfl rfl ?_
    refine Wk.bipush (q := 418) (23) at_416 rfl (by decide) ?_
    refine Wk.iadd (q := 419) at_418 rfl ?_
    refine Wk.bipush (q := 421) (101) at_419 rfl (by decide) ?_
    refine Wk.castore (q := 422) (28) at_421 rfl (by repeat (first | exact Ex.here | assumption | apply Ex.there)) (by decide) (by decide) (by rfl) (VS.there (VS.there (VS.there (VS.there (VS.there (VS.there (VS.there (VS.there (VS.there (VS.there (VS.there (VS.there (VS.there (VS.there (VS.there (VS.there (VS.there (VS.there (VS.there (VS.there (VS.there (VS.there (VS.there (VS.there (VS.there (VS.there (VS.there (VS.there (VS.here))))))))))))))))))))))))))))) ?_
    refine Wk.aload (q := 424) at_422 rfl rfl (by first | rfl | assumption) ?_
    refine Wk.iload (q := 426) at_424 rfl rfl ?_
    refine Wk.bipush (q := 428) (24) at_426 rfl (by decide) ?_
    refine Wk.iadd (q := 429) at_428 rfl ?_
    refine Wk.bipush (q := 431) (114) at_429 rfl (by decide) ?_
    refine Wk.castore (q := 432) (29) at_431 rfl (by repeat (first | exact Ex.here | assumption | apply Ex.there)) (by decide) (by decide) (by rfl) (VS.there (VS.there (VS.there (VS.there (VS.there (VS.there (VS.there (VS.there (VS.there (VS.there (VS.there (VS.there (VS.there (VS.there (VS.there (VS.there (VS.there (VS.there (VS.there (VS.there (VS.there (VS.there (VS.there (VS.there (VS.there (VS.there (VS.there (VS.there (VS.there (VS.here)))))))))))))))))))))))))))))) ?_
    refine Wk.new (q := 435) at_432 rfl (hw _ (List.mem_of_getElem? (i := 4) rfl)) (hw _ (List.mem_of_getElem? (i := 5) rfl)) (hw _ (List.mem_of_getElem? (i := 6) rfl)) (layS_ok hw) layS_dv (by first | decide | (dsimp only; omega) | omega) (by first | decide | (dsimp only; omega) | omega) ?_
    intro es
    refine Wk.dup (q := 436) at_435 rfl rfl ?_
    refine Wk.aload (q := 438) at_436 rfl rfl (by first | rfl | assumption) ?_
    refine Wk.pull (o := (es, true, OB Z "java/lang/String" layS [.null, .int 0])) (by repeat (first | exact Ex.here | assumption | apply Ex.there)) ?_
    refine Wk.special (q := 441) [_] _ 1 at_438 rfl rfl (hw _ (List.mem_of_getElem? (i := 8) rfl)) (hw _ (List.mem_of_getElem? (i := 9) rfl)) (hw _ (List.mem_of_getElem? (i := 6) rfl)) (hw _ (List.mem_of_getElem? (i := 10) rfl)) ar_19 (by decide) rfl rfl rfl rfl (ct_strInitG hw hE F (cs := [32, 97, 110, 100, 32, 32, 99, 97, 110, 110, 111, 116, 32, 98, 101, 32, 103, 105, 118, 101, 110, 32, 116, 111, 103, 101, 116, 104, 101, 114]) (lat_cons (by decide) (lat_cons (by decide) (lat_cons (by decide) (lat_cons (by decide) (lat_cons (by decide) (lat_cons (by decide) (lat_cons (by decide) (lat_cons (by decide) (lat_cons (by decide) (lat_cons (by decide) (lat_cons (by decide) (lat_cons (by decide) (lat_cons (by decide) (lat_cons (by decide) (lat_cons (by decide) (lat_cons (by decide) (lat_cons (by decide) (lat_cons (by decide) (lat_cons (by decide) (lat_cons (by decide) (lat_cons (by decide) (lat_cons (by decide) (lat_cons (by decide) (lat_cons (by decide) (lat_cons (by decide) (lat_cons (by decide) (lat_cons (by decide) (lat_cons (by decide) (lat_cons (by decide) (lat_cons (by decide) lat_nil)))))))))))))))))))))))))))))) 34 (by simp) (by simp) (by repeat (first | exact List.mem_cons_self | assumption | refine List.mem_cons_of_mem _ ?_))) (by first | decide | (dsimp only; omega) | omega) (by first | decide | (dsimp only; omega) | omega) (by first | decide | (dsimp only; omega) | omega) (by first | decide | (dsimp only; omega) | omega) (k0 ?_)
    rintro _ ⟨er, fer, rfl⟩
    refine Wk.astore (q := 443) at_441 rfl (by first | rfl | assumption) (LS1.there (LS1.there (LS1.there (LS1.there (LS1.there (LS1.there (LS1.there (LS1.there (LS1.there (LS1.there (LS1.there (LS1.there (LS1.there (LS1.there (LS1.here (by first | exact One.u | exact One.val rfl | assumption)))))))))))))))) ?_
    exact (fin _ ca es er true fer _ _ _ (by repeat (first | exact List.mem_cons_self | assumption | refine List.mem_cons_of_mem _ ?_)) (by repeat (first | exact List.mem_cons_self | assumption | refine List.mem_cons_of_mem _ ?_)) (by repeat (first | exact List.mem_cons_self | assumption | refine List.mem_cons_of_mem _ ?_)) (by repeat (first | exact List.mem_cons_self | assumption | refine List.mem_cons_of_mem _ ?_)) (by repeat (first | exact List.mem_cons_self | assumption | refine List.mem_cons_of_mem _ ?_)) (by repeat (first | exact List.mem_cons_self | assumption | refine List.mem_cons_of_mem _ ?_))).mono (by decide) (by decide)
  · refine Wk.iload_n (q := 77) at_76 rfl rfl ?_
    refine Wk.iload_n (q := 78) at_77 rfl rfl ?_
    refine Wk.iadd (q := 79) at_78 rfl ?_
    refine Wk.bipush (q := 81) (30) at_79 rfl (by decide) ?_
    refine Wk.iadd (q := 82) at_81 rfl ?_
    refine Wk.newarray (q := 84) .char (31) [(.int 0), (.int 0), (.int 0), (.int 0), (.int 0), (.int 0), (.int 0), (.int 0), (.int 0), (.int 0), (.int 0), (.int 0), (.int 0), (.int 0), (.int 0), (.int 0), (.int 0), (.int 0), (.int 0), (.int 0), (.int 0), (.int 0), (.int 0), (.int 0), (.int 0), (.int 0), (.int 0), (.int 0), (.int 0), (.int 0), (.int 0)] at_82 rfl rfl rfl (hw _ (List.mem_of_getElem? (i := 7) rfl)) (by decide) (by decide) (by decide) (by first | decide | (dsimp only; omega) | omega) (by first | decide | (dsimp only; omega) | omega) ?_
    intro ca
    refine Wk.astore (q := 86) at_84 rfl (by first | rfl | assumption) (LS1.there (LS1.there (LS1.there (LS1.there (LS1.there (LS1.there (LS1.there (LS1.there (LS1.there (LS1.there (LS1.here (by first | exact One.u | exact One.val rfl | assumption)))))))))))) ?_
    refine Wk.iload_n (q := 87) at_86 rfl rfl ?_
    refine Wk.if_t (q := 96) at_87 (by decide) (by decide) (by decide) ?_
    refine Wk.iload_n (q := 97) at_96 rfl rfl ?_
    refine Wk.iconst (q := 98) (1) at_97 rfl (by decide) ?_
    refine Wk.icmp_t (q := 107) at_98 (by decide) (by decide) (by decide) ?_
    refine Wk.iload_n (q := 108) at_107 rfl rfl ?_
    refine Wk.istore (q := 110) at_108 rfl (LS1.there (LS1.there (LS1.there (LS1.there (LS1.there (LS1.there (LS1.there (LS1.there (LS1.there (LS1.there (LS1.there (LS1.here (by first | exact One.u | exact One.val rfl | assumption))))))))))))) ?_
    refine Wk.aload (q := 112) at_110 rfl rfl (by first | rfl | assumption) ?_
    refine Wk.iload (q := 114) at_112 rfl rfl ?_
    refine Wk.bipush (q := 116) (32) at_114 rfl (by decide) ?_
    refine Wk.castore (q := 117) (0) at_116 rfl (by repeat (first | exact Ex.here | assumption | apply Ex.there)) (by decide) (by decide) (by rfl) (VS.here) ?_
    refine Wk.aload (q := 119) at_117 rfl rfl (by first | rfl | assumption) ?_
    refine Wk.iload (q := 121) at_119 rfl rfl ?_
    refine Wk.iconst (q := 122) (1) at_121 rfl (by decide) ?_
    refine Wk.iadd (q := 123) at_122 rfl ?_
    refine Wk.bipush (q := 125) (97) at_123 rfl (by decide) ?_
    refine Wk.castore (q := 126) (1) at_125 rfl (by repeat (first | exact Ex.here | assumption | apply Ex.there)) (by decide) (by decide) (by rfl) (VS.there (VS.here)) ?_
    refine Wk.aload (q := 128) at_126 rfl rfl (by first | rfl | assumption) ?_
    refine Wk.iload (q := 130) at_128 rfl rfl ?_
    refine Wk.iconst (q := 131) (2) at_130 rfl (by decide) ?_
    refine Wk.iadd (q := 132) at_131 rfl ?_
    refine Wk.bipush (q := 134) (110) at_132 rfl (by decide) ?_
    refine Wk.castore (q := 135) (2) at_134 rfl (by repeat (first | exact Ex.here | assumption | apply Ex.there)) (by decide) (by decide) (by rfl) (VS.there (VS.there (VS.here))) ?_
    refine Wk.aload (q := 137) at_135 rfl rfl (by first | rfl | assumption) ?_
    refine Wk.iload (q := 139) at_137 rfl rfl ?_
    refine Wk.iconst (q := 140) (3) at_139 rfl (by decide) ?_
    refine Wk.iadd (q := 141) at_140 rfl ?_
    refine Wk.bipush (q := 143) (100) at_141 rfl (by decide) ?_
    refine Wk.castore (q := 144) (3) at_143 rfl (by repeat (first | exact Ex.here | assumption | apply Ex.there)) (by decide) (by decide) (by rfl) (VS.there (VS.there (VS.there (VS.here)))) ?_
    refine Wk.aload (q := 146) at_144 rfl rfl (by first | rfl | assumption) ?_
    refine Wk.iload (q := 148) at_146 rfl rfl ?_
    refine Wk.iconst (q := 149) (4) at_148 rfl (by decide) ?_
    refine Wk.iadd (q := 150) at_149 rfl ?_
    refine Wk.bipush (q := 152) (32) at_150 rfl (by decide) ?_
    refine Wk.castore (q := 153) (4) at_152 rfl (by repeat (first | exact Ex.here | assumption | apply Ex.there)) (by decide) (by decide) (by rfl) (VS.there (VS.there (VS.there (VS.there (VS.here))))) ?_
    refine Wk.iload (q := 155) at_153 rfl rfl ?_
    refine Wk.iconst (q := 156) (5) at_155 rfl (by decide) ?_
    refine Wk.iadd (q := 157) at_156 rfl ?_
    refine Wk.istore (q := 159) at_157 rfl (LS1.there (LS1.there (LS1.there (LS1.there (LS1.there (LS1.there (LS1.there (LS1.there (LS1.there (LS1.there (LS1.there (LS1.there (LS1.here (by first | exact One.u | exact One.val rfl | assumption)))))))))))))) ?_
    refine Wk.iload_n (q := 160) at_159 rfl rfl ?_
    refine Wk.if_f (q := 163) at_160 rfl (by decide) ?_
    refine Wk.aload (q := 165) at_163 rfl rfl (by first | rfl | assumption) ?_
    refine Wk.iload (q := 167) at_165 rfl rfl ?_
    refine Wk.iload (q := 169) at_167 rfl rfl ?_
    refine Wk.castore (q := 170) (5) at_169 rfl (by repeat (first | exact Ex.here | assumption | apply Ex.there)) (by decide) (by decide) (nchar_lat h3) (VS.there (VS.there (VS.there (VS.there (VS.there (VS.here)))))) ?_
    refine Wk.iload_n (q := 171) at_170 rfl rfl ?_
    refine Wk.iconst (q := 172) (1) at_171 rfl (by decide) ?_
    refine Wk.icmp_t (q := 184) at_172 (by decide) (by decide) (by decide) ?_
    refine Wk.iload (q := 186) at_184 rfl rfl ?_
    refine Wk.iload_n (q := 187) at_186 rfl rfl ?_
    refine Wk.iadd (q := 188) at_187 rfl ?_
    refine Wk.istore (q := 190) at_188 rfl (LS1.there (LS1.there (LS1.there (LS1.there (LS1.there (LS1.there (LS1.there (LS1.there (LS1.there (LS1.there (LS1.there (LS1.there (LS1.there (LS1.here (by first | exact One.u | exact One.val rfl | assumption))))))))))))))) ?_
    refine Wk.aload (q := 192) at_190 rfl rfl (by first | rfl | assumption) ?_
    refine Wk.iload (q := 194) at_192 rfl rfl ?_
    refine Wk.bipush (q := 196) (32) at_194 rfl (by decide) ?_
    refine Wk.castore (q := 197) (6) at_196 rfl (by repeat (first | exact Ex.here | assumption | apply Ex.there)) (by decide) (by decide) (by rfl) (VS.there (VS.there (VS.there (VS.there (VS.there (VS.there (VS.here))))))) ?_
    refine Wk.aload (q := 199) at_197 rfl rfl (by first | rfl | assumption) ?_
    refine Wk.iload (q := 201) at_199 rfl rfl ?_
    refine Wk.iconst (q := 202) (1) at_201 rfl (by decide) ?_
    refine Wk.iadd (q := 203) at_202 rfl ?_
    refine Wk.bipush (q := 205) (99) at_203 rfl (by decide) ?_
    refine Wk.castore (q := 206) (7) at_205 rfl (by repeat (first | exact Ex.here | assumption | apply Ex.there)) (by decide) (by decide) (by rfl) (VS.there (VS.there (VS.there (VS.there (VS.there (VS.there (VS.there (VS.here)))))))) ?_
    refine Wk.aload (q := 208) at_206 rfl rfl (by first | rfl | assumption) ?_
    refine Wk.iload (q := 210) at_208 rfl rfl ?_
    refine Wk.iconst (q := 211) (2) at_210 rfl (by decide) ?_
    refine Wk.iadd (q := 212) at_211 rfl ?_
    refine Wk.bipush (q := 214) (97) at_212 rfl (by decide) ?_
    refine Wk.castore (q := 215) (8) at_214 rfl (by repeat (first | exact Ex.here | assumption | apply Ex.there)) (by decide) (by decide) (by rfl) (VS.there (VS.there (VS.there (VS.there (VS.there (VS.there (VS.there (VS.there (VS.here))))))))) ?_
    refine Wk.aload (q := 217) at_215 rfl rfl (by first | rfl | assumption) ?_
    refine Wk.iload (q := 219) at_217 rfl rfl ?_
    refine Wk.iconst (q := 220) (3) at_219 rfl (by decide) ?_
    refine Wk.iadd (q := 221) at_220 rfl ?_
    refine Wk.bipush (q := 223) (110) at_221 rfl (by decide) ?_
    refine Wk.castore (q := 224) (9) at_223 rfl (by repeat (first | exact Ex.here | assumption | apply Ex.there)) (by decide) (by decide) (by rfl) (VS.there (VS.there (VS.there (VS.there (VS.there (VS.there (VS.there (VS.there (VS.there (VS.here)))))))))) ?_
    refine Wk.aload (q := 226) at_224 rfl rfl (by first | rfl | assumption) ?_
    refine Wk.iload (q := 228) at_226 rfl rfl ?_
    refine Wk.iconst (q := 229) (4) at_228 rfl (by decide) ?_
    refine Wk.iadd (q := 230) at_229 rfl ?_
    refine Wk.bipush (q := 232) (110) at_230 rfl (by decide) ?_
    refine Wk.castore (q := 233) (10) at_232 rfl (by repeat (first | exact Ex.here | assumption | apply Ex.there)) (by decide) (by decide) (by rfl) (VS.there (VS.there (VS.there (VS.there (VS.there (VS.there (VS.there (VS.there (VS.there (VS.there (VS.here))))))))))) ?_
    refine Wk.aload (q := 235) at_233 rfl rfl (by first | rfl | assumption) ?_
    refine Wk.iload (q := 237) at_235 rfl rfl ?_
    refine Wk.iconst (q := 238) (5) at_237 rfl (by decide) ?_
    refine Wk.iadd (q := 239) at_238 rfl ?_
    refine Wk.bipush (q := 241) (111) at_239 rfl (by decide) ?_
    refine Wk.castore (q := 242) (11) at_241 rfl (by repeat (first | exact Ex.here | assumption | apply Ex.there)) (by decide) (by decide) (by rfl) (VS.there (VS.there (VS.there (VS.there (VS.there (VS.there (VS.there (VS.there (VS.there (VS.there (VS.there (VS.here)))))))))))) ?_
    refine Wk.aload (q := 244) at_242 rfl rfl (by first | rfl | assumption) ?_
    refine Wk.iload (q := 246) at_244 rfl rfl ?_
    refine Wk.bipush (q := 248) (6) at_246 rfl (by decide) ?_
    refine Wk.iadd (q := 249) at_248 rfl ?_
    refine Wk.bipush (q := 251) (116) at_249 rfl (by decide) ?_
    refine Wk.castore (q := 252) (12) at_251 rfl (by repeat (first | exact Ex.here | assumption | apply Ex.there)) (by decide) (by decide) (by rfl) (VS.there (VS.there (VS.there (VS.there (VS.there (VS.there (VS.there (VS.there (VS.there (VS.there (VS.there (VS.there (VS.here))))))))))))) ?_
    refine Wk.aload (q := 254) at_252 rfl rfl (by first | rfl | assumption) ?_
    refine Wk.iload (q := 256) at_254 rfl rfl ?_
    refine Wk.bipush (q := 258) (7) at_256 rfl (by decide) ?_
    refine Wk.iadd (q := 259) at_258 rfl ?_
    refine Wk.bipush (q := 261) (32) at_259 rfl (by decide) ?_
    refine Wk.castore (q := 262) (13) at_261 rfl (by repeat (first | exact Ex.here | assumption | apply Ex.there)) (by decide) (by decide) (by rfl) (VS.there (VS.there (VS.there (VS.there (VS.there (VS.there (VS.there (VS.there (VS.there (VS.there (VS.there (VS.there (VS.there (VS.here)))))))))))))) ?_
    refine Wk.aload (q := 264) at_262 rfl rfl (by first | rfl | assumption) ?_
    refine Wk.iload (q := 266) at_264 rfl rfl ?_
    refine Wk.bipush (q := 268) (8) at_266 rfl (by decide) ?_
    refine Wk.iadd (q := 269) at_268 rfl ?_
    refine Wk.bipush (q := 271) (98) at_269 rfl (by decide) ?_
    refine Wk.castore (q := 272) (14) at_271 rfl (by repeat (first | exact Ex.here | assumption | apply Ex.there)) (by decide) (by decide) (by rfl) (VS.there (VS.there (VS.there (VS.there (VS.there (VS.there (VS.there (VS.there (VS.there (VS.there (VS.there (VS.there (VS.there (VS.there (VS.here))))))))))))))) ?_
    refine Wk.aload (q := 274) at_272 rfl rfl (by first | rfl | assumption) ?_
    refine Wk.iload (q := 276) at_274 rfl rfl ?_
    refine Wk.bipush (q := 278) (9) at_276 rfl (by decide) ?_
    refine Wk.iadd (q := 279) at_278 rfl ?_
    refine Wk.bipush (q := 281) (101) at_279 rfl (by decide) ?_
    refine Wk.castore (q := 282) (15) at_281 rfl (by repeat (first | exact Ex.here | assumption | apply Ex.there)) (by decide) (by decide) (by rfl) (VS.there (VS.there (VS.there (VS.there (VS.there (VS.there (VS.there (VS.there (VS.there (VS.there (VS.there (VS.there (VS.there (VS.there (VS.there (VS.here)))))))))))))))) ?_
    refine Wk.aload (q := 284) at_282 rfl rfl (by first | rfl | assumption) ?_
    refine Wk.iload (q := 286) at_284 rfl rfl ?_
    refine Wk.bipush (q := 288) (10) at_286 rfl (by decide) ?_
    refine Wk.iadd (q := 289) at_288 rfl ?_
    refine Wk.bipush (q := 291) (32) at_289 rfl (by decide) ?_
    refine Wk.castore (q := 292) (16) at_291 rfl (by repeat (first | exact Ex.here | assumption | apply Ex.there)) (by decide) (by decide) (by rfl) (VS.there (VS.there (VS.there (VS.there (VS.there (VS.there (VS.there (VS.there (VS.there (VS.there (VS.there (VS.there (VS.there (VS.there (VS.there (VS.there (VS.here))))))))))))))))) ?_
    refine Wk.aload (q := 294) at_292 rfl rfl (by first | rfl | assumption) ?_
    refine Wk.iload (q := 296) at_294 rfl rfl ?_
    refine Wk.bipush (q := 298) (11) at_296 rfl (by decide) ?_
    refine Wk.iadd (q := 299) at_298 rfl ?_
    refine Wk.bipush (q := 301) (103) at_299 rfl (by decide) ?_
    refine Wk.castore (q := 302) (17) at_301 rfl (by repeat (first | exact Ex.here | assumption | apply Ex.there)) (by decide) (by decide) (by rfl) (VS.there (VS.there (VS.there (VS.there (VS.there (VS.there (VS.there (VS.there (VS.there (VS.there (VS.there (VS.there (VS.there (VS.there (VS.there (VS.there (VS.there (VS.here)))))))))))))))))) ?_
    refine Wk.aload (q := 304) at_302 rfl rfl (by first | rfl | assumption) ?_
    refine Wk.iload (q := 306) at_304 rfl rfl ?_
    refine Wk.bipush (q := 308) (12) at_306 rfl (by decide) ?_
    refine Wk.iadd (q := 309) at_308 rfl ?_
    refine Wk.bipush (q := 311) (105) at_309 rfl (by decide) ?_
    refine Wk.castore (q := 312) (18) at_311 rfl (by repeat (first | exact Ex.here | assumption | apply Ex.there)) (by decide) (by decide) (by rfl) (VS.there (VS.there (VS.there (VS.there (VS.there (VS.there (VS.there (VS.there (VS.there (VS.there (VS.there (VS.there (VS.there (VS.there (VS.there (VS.there (VS.there (VS.there (VS.here))))))))))))))))))) ?_
    refine Wk.aload (q := 314) at_312 rfl rfl (by first | rfl | assumption) ?_
    refine Wk.iload (q := 316) at_314 rfl rfl ?_
    refine Wk.bipush (q := 318) (13) at_316 rfl (by decide) ?_
    refine Wk.iadd (q := 319) at_318 rfl ?_
    refine Wk.bipush (q := 321) (118) at_319 rfl (by decide) ?_
    refine Wk.castore (q := 322) (19) at_321 rfl (by repeat (first | exact Ex.here | assumption | apply Ex.there)) (by decide) (by decide) (by rfl) (VS.there (VS.there (VS.there (VS.there (VS.there (VS.there (VS.there (VS.there (VS.there (VS.there (VS.there (VS.there (VS.there (VS.there (VS.there (VS.there (VS.there (VS.there (VS.there (VS.here)))))))))))))))))))) ?_
    refine Wk.aload (q := 324) at_322 rfl rfl (by first | rfl | assumption) ?_
    refine Wk.iload (q := 326) at_324 rfl rfl ?_
    refine Wk.bipush (q := 328) (14) at_326 rfl (by decide) ?_
    refine Wk.iadd (q := 329) at_328 rfl ?_
    refine Wk.bipush (q := 331) (101) at_329 rfl (by decide) ?_
    refine Wk.castore (q := 332) (20) at_331 rfl (by repeat (first | exact Ex.here | assumption | apply Ex.there)) (by decide) (by decide) (by rfl) (VS.there (VS.there (VS.there (VS.there (VS.there (VS.there (VS.there (VS.there (VS.there (VS.there (VS.there (VS.there (VS.there (VS.there (VS.there (VS.there (VS.there (VS.there (VS.there (VS.there (VS.here))))))))))))))))))))) ?_
    refine Wk.aload (q := 334) at_332 rfl rfl (by first | rfl | assumption) ?_
    refine Wk.iload (q := 336) at_334 rfl rfl ?_
    refine Wk.bipush (q := 338) (15) at_336 rfl (by decide) ?_
    refine Wk.iadd (q := 339) at_338 rfl ?_
    refine Wk.bipush (q := 341) (110) at_339 rfl (by decide) ?_
    refine Wk.castore (q := 342) (21) at_341 rfl (by repeat (first | exact Ex.here | assumption | apply Ex.there)) (by decide) (by decide) (by rfl) (VS.there (VS.there (VS.there (VS.there (VS.there (VS.there (VS.there (VS.there (VS.there (VS.there (VS.there (VS.there (VS.there (VS.there (VS.there (VS.there (VS.there (VS.there (VS.there (VS.there (VS.there (VS.here)))))))))))))))))))))) ?_
    refine Wk.aload (q := 344) at_342 rfl rfl (by first | rfl | assumption) ?_
    refine Wk.iload (q := 346) at_344 rfl rfl ?_
    refine Wk.bipush (q := 348) (16) at_346 rfl (by decide) ?_
    refine Wk.iadd (q := 349) at_348 rfl ?_
    refine Wk.bipush (q := 351) (32) at_349 rfl (by decide) ?_
    refine Wk.castore (q := 352) (22) at_351 rfl (by repeat (first | exact Ex.here | assumption | apply Ex.there)) (by decide) (by decide) (by rfl) (VS.there (VS.there (VS.there (VS.there (VS.there (VS.there (VS.there (VS.there (VS.there (VS.there (VS.there (VS.there (VS.there (VS.there (VS.there (VS.there (VS.there (VS.there (VS.there (VS.there (VS.there (VS.there (VS.here))))))))))))))))))))))) ?_
    refine Wk.aload (q := 354) at_352 rfl rfl (by first | rfl | assumption) ?_
    refine Wk.iload (q := 356) at_354 rfl rfl ?_
    refine Wk.bipush (q := 358) (17) at_356 rfl (by decide) ?_
    refine Wk.iadd (q := 359) at_358 rfl ?_
    refine Wk.bipush (q := 361) (116) at_359 rfl (by decide) ?_
    refine Wk.castore (q := 362) (23) at_361 rfl (by repeat (first | exact Ex.here | assumption | apply Ex.there)) (by decide) (by decide) (by rfl) (VS.there (VS.there (VS.there (VS.there (VS.there (VS.there (VS.there (VS.there (VS.there (VS.there (VS.there (VS.there (VS.there (VS.there (VS.there (VS.there (VS.there (VS.there (VS.there (VS.there (VS.there (VS.there (VS.there (VS.here)))))))))))))))))))))))) ?_
    refine Wk.aload (q := 364) at_362 rfl rfl (by first | rfl | assumption) ?_
    refine Wk.iload (q := 366) at_364 rfl rfl ?_
    refine Wk.bipush (q := 368) (18) at_366 rfl (by decide) ?_
    refine Wk.iadd (q := 369) at_368 rfl ?_
    refine Wk.bipush (q := 371) (111) at_369 rfl (by decide) ?_
    refine Wk.castore (q := 372) (24) at_371 rfl (by repeat (first | exact Ex.here | assumption | apply Ex.there)) (by decide) (by decide) (by rfl) (VS.there (VS.there (VS.there (VS.there (VS.there (VS.there (VS.there (VS.there (VS.there (VS.there (VS.there (VS.there (VS.there (VS.there (VS.there (VS.there (VS.there (VS.there (VS.there (VS.there (VS.there (VS.there (VS.there (VS.there (VS.here))))))))))))))))))))))))) ?_
    refine Wk.aload (q := 374) at_372 rfl rfl (by first | rfl | assumption) ?_
    refine Wk.iload (q := 376) at_374 rfl rfl ?_
    refine Wk.bipush (q := 378) (19) at_376 rfl (by decide) ?_
    refine Wk.iadd (q := 379) at_378 rfl ?_
    refine Wk.bipush (q := 381) (103) at_379 rfl (by decide) ?_
    refine Wk.castore (q := 382) (25) at_381 rfl (by repeat (first | exact Ex.here | assumption | apply Ex.there)) (by decide) (by decide) (by rfl) (VS.there (VS.there (VS.there (VS.there (VS.there (VS.there (VS.there (VS.there (VS.there (VS.there (VS.there (VS.there (VS.there (VS.there (VS.there (VS.there (VS.there (VS.there (VS.there (VS.there (VS.there (VS.there (VS.there (VS.there (VS.there (VS.here)))))))))))))))))))))))))) ?_
    refine Wk.aload (q := 384) at_382 rfl rfl (by first | rfl | assumption) ?_
    refine Wk.iload (q := 386) at_384 rfl rfl ?_
    refine Wk.bipush (q := 388) (20) at_386 rfl (by decide) ?_
    refine Wk.iadd (q := 389) at_388 rfl ?_
    refine Wk.bipush (q := 391) (101) at_389 rfl (by decide) ?_
    refine Wk.castore (q := 392) (26) at_391 rfl (by repeat (first | exact Ex.here | assumption | apply Ex.there)) (by decide) (by decide) (by rfl) (VS.there (VS.there (VS.there (VS.there (VS.there (VS.there (VS.there (VS.there (VS.there (VS.there (VS.there (VS.there (VS.there (VS.there (VS.there (VS.there (VS.there (VS.there (VS.there (VS.there (VS.there (VS.there (VS.there (VS.there (VS.there (VS.there (VS.here))))))))))))))))))))))))))) ?_
    refine Wk.aload (q := 394) at_392 rfl rfl (by first | rfl | assumption) ?_
    refine Wk.iload (q := 396) at_394 rfl rfl ?_
    refine Wk.bipush (q := 398) (21) at_396 rfl (by decide) ?_
    refine Wk.iadd (q := 399) at_398 rfl ?_
    refine Wk.bipush (q := 401) (116) at_399 rfl (by decide) ?_
    refine Wk.castore (q := 402) (27) at_401 rfl (by repeat (first | exact Ex.here | assumption | apply Ex.there)) (by decide) (by decide) (by rfl) (VS.there (VS.there (VS.there (VS.there (VS.there (VS.there (VS.there (VS.there (VS.there (VS.there (VS.there (VS.there (VS.there (VS.there (VS.there (VS.there (VS.there (VS.there (VS.there (VS.there (VS.there (VS.there (VS.there (VS.there (VS.there (VS.there (VS.there (VS.here)))))))))))))))))))))))))))) ?_
    refine Wk.aload (q := 404) at_402 rfl rfl (by first | rfl | assumption) ?_
    refine Wk.iload (q := 406) at_404 rfl rfl ?_
    refine Wk.bipush (q := 408) (22) at_406 rfl (by decide) ?_
    refine Wk.iadd (q := 409) at_408 rfl ?_
    refine Wk.bipush (q := 411) (104) at_409 rfl (by decide) ?_
    refine Wk.castore (q := 412) (28) at_411 rfl (by repeat (first | exact Ex.here | assumption | apply Ex.there)) (by decide) (by decide) (by rfl) (VS.there (VS.there (VS.there (VS.there (VS.there (VS.there (VS.there (VS.there (VS.there (VS.there (VS.there (VS.there (VS.there (VS.there (VS.there (VS.there (VS.there (VS.there (VS.there (VS.there (VS.there (VS.there (VS.there (VS.there (VS.there (VS.there (VS.there (VS.there (VS.here))))))))))))))))))))))))))))) ?_
    refine Wk.aload (q := 414) at_412 rfl rfl (by first | rfl | assumption) ?_
    refine Wk.iload (q := 416) at_414 rfl rfl ?_
    refine Wk.bipush (q := 418) (23) at_416 rfl (by decide) ?_
    refine Wk.iadd (q := 419) at_418 rfl ?_
    refine Wk.bipush (q := 421) (101) at_419 rfl (by decide) ?_
    refine Wk.castore (q := 422) (29) at_421 rfl (by repeat (first | exact Ex.here | assumption | apply Ex.there)) (by decide) (by decide) (by rfl) (VS.there (VS.there (VS.there (VS.there (VS.there (VS.there (VS.there (VS.there (VS.there (VS.there (VS.there (VS.there (VS.there (VS.there (VS.there (VS.there (VS.there (VS.there (VS.there (VS.there (VS.there (VS.there (VS.there (VS.there (VS.there (VS.there (VS.there (VS.there (VS.there (VS.here)))))))))))))))))))))))))))))) ?_
    refine Wk.aload (q := 424) at_422 rfl rfl (by first | rfl | assumption) ?_
    refine Wk.iload (q := 426) at_424 rfl rfl ?_
    refine Wk.bipush (q := 428) (24) at_426 rfl (by decide) ?_
    refine Wk.iadd (q := 429) at_428 rfl ?_
    refine Wk.bipush (q := 431) (114) at_429 rfl (by decide) ?_
    refine Wk.castore (q := 432) (30) at_431 rfl (by repeat (first | exact Ex.here | assumption | apply Ex.there)) (by decide) (by decide) (by rfl) (VS.there (VS.there (VS.there (VS.there (VS.there (VS.there (VS.there (VS.there (VS.there (VS.there (VS.there (VS.there (VS.there (VS.there (VS.there (VS.there (VS.there (VS.there (VS.there (VS.there (VS.there (VS.there (VS.there (VS.there (VS.there (VS.there (VS.there (VS.there (VS.there (VS.there (VS.here))))))))))))))))))))))))))))))) ?_
    refine Wk.new (q := 435) at_432 rfl (hw _ (List.mem_of_getElem? (i := 4) rfl)) (hw _ (List.mem_of_getElem? (i := 5) rfl)) (hw _ (List.mem_of_getElem? (i := 6) rfl)) (layS_ok hw) layS_dv (by first | decide | (dsimp only; omega) | omega) (by first | decide | (dsimp only; omega) | omega) ?_
    intro es
    refine Wk.dup (q := 436) at_435 rfl rfl ?_
    refine Wk.aload (q := 438) at_436 rfl rfl (by first | rfl | assumption) ?_
    refine Wk.pull (o := (es, true, OB Z "java/lang/String" layS [.null, .int 0])) (by repeat (first | exact Ex.here | assumption | apply Ex.there)) ?_
    refine Wk.special (q := 441) [_] _ 1 at_438 rfl rfl (hw _ (List.mem_of_getElem? (i := 8) rfl)) (hw _ (List.mem_of_getElem? (i := 9) rfl)) (hw _ (List.mem_of_getElem? (i := 6) rfl)) (hw _ (List.mem_of_getElem? (i := 10) rfl)) ar_19 (by decide) rfl rfl rfl rfl (ct_strInitG hw hE F (cs := [32, 97, 110, 100, 32, n0, 32, 99, 97, 110, 110, 111, 116, 32, 98, 101, 32, 103, 105, 118, 101, 110, 32, 116, 111, 103, 101, 116, 104, 101, 114]) (lat_cons (by decide) (lat_cons (by decide) (lat_cons (by decide) (lat_cons (by decide) (lat_cons (by decide) (lat_cons h3 (lat_cons (by decide) (lat_cons (by decide) (lat_cons (by decide) (lat_cons (by decide) (lat_cons (by decide) (lat_cons (by decide) (lat_cons (by decide) (lat_cons (by decide) (lat_cons (by decide) (lat_cons (by decide) (lat_cons (by decide) (lat_cons (by decide) (lat_cons (by decide) (lat_cons (by decide) (lat_cons (by decide) (lat_cons (by decide) (lat_cons (by decide) (lat_cons (by decide) (lat_cons (by decide) (lat_cons (by decide) (lat_cons (by decide) (lat_cons (by decide) (lat_cons (by decide) (lat_cons (by decide) (lat_cons (by decide) lat_nil))))))))))))))))))))))))))))))) 34 (by simp) (by simp) (by repeat (first | exact List.mem_cons_self | assumption | refine List.mem_cons_of_mem _ ?_))) (by first | decide | (dsimp only; omega) | omega) (by first | decide | (dsimp only; omega) | omega) (by first | decide | (dsimp only; omega) | omega) (by first | decide | (dsimp only; omega) | omega) (k0 ?_)
    rintro _ ⟨er, fer, rfl⟩
    refine Wk.astore (q := 443) at_441 rfl (by first | rfl | assumption) (LS1.there (LS1.there (LS1.there (LS1.there (LS1.there (LS1.there (LS1.there (LS1.there (LS1.there (LS1.there (LS1.there (LS1.there (LS1.there (LS1.there (LS1.here (by first | exact One.u | exact One.val rfl | assumption)))))))))))))))) ?_
    exact (fin _ ca es er true fer _ _ _ (by repeat (first | exact List.mem_cons_self | assumption | refine List.mem_cons_of_mem _ ?_)) (by repeat (first | exact List.mem_cons_self | assumption | refine List.mem_cons_of_mem _ ?_)) (by repeat (first | exact List.mem_cons_self | assumption | refine List.mem_cons_of_mem _ ?_)) (by repeat (first | exact List.mem_cons_self | assumption | refine List.mem_cons_of_mem _ ?_)) (by repeat (first | exact List.mem_cons_self | assumption | refine List.mem_cons_of_mem _ ?_)) (by repeat (first | exact List.mem_cons_self | assumption | refine List.mem_cons_of_mem _ ?_))).mono (by decide) (by decide)
  · refine Wk.iload_n (q := 77) at_76 rfl rfl ?_
    refine Wk.iload_n (q := 78) at_77 rfl rfl ?_
    refine Wk.iadd (q := 79) at_78 rfl ?_
    refine Wk.bipush (q := 81) (30) at_79 rfl (by decide) ?_
    refine Wk.iadd (q := 82) at_81 rfl ?_
    refine Wk.newarray (q := 84) .char (32) [(.int 0), (.int 0), (.int 0), (.int 0), (.int 0), (.int 0), (.int 0), (.int 0), (.int 0), (.int 0), (.int 0), (.int 0), (.int 0), (.int 0), (.int 0), (.int 0), (.int 0), (.int 0), (.int 0), (.int 0), (.int 0), (.int 0), (.int 0), (.int 0), (.int 0), (.int 0), (.int 0), (.int 0), (.int 0), (.int 0), (.int 0), (.int 0)] at_82 rfl rfl rfl (hw _ (List.mem_of_getElem? (i := 7) rfl)) (by decide) (by decide) (by decide) (by first | decide | (dsimp only; omega) | omega) (by first | decide | (dsimp only; omega) | omega) ?_
    intro ca
    refine Wk.astore (q := 86) at_84 rfl (by first | rfl | assumption) (LS1.there (LS1.there (LS1.there (LS1.there (LS1.there (LS1.there (LS1.there (LS1.there (LS1.there (LS1.there (LS1.here (by first | exact One.u | exact One.val rfl | assumption)))))))))))) ?_
    refine Wk.iload_n (q := 87) at_86 rfl rfl ?_
    refine Wk.if_t (q := 96) at_87 (by decide) (by decide) (by decide) ?_
    refine Wk.iload_n (q := 97) at_96 rfl rfl ?_
    refine Wk.iconst (q := 98) (1) at_97 rfl (by decide) ?_
    refine Wk.icmp_t (q := 107) at_98 (by decide) (by decide) (by decide) ?_
    refine Wk.iload_n (q := 108) at_107 rfl rfl ?_
    refine Wk.istore (q := 110) at_108 rfl (LS1.there (LS1.there (LS1.there (LS1.there (LS1.there (LS1.there (LS1.there (LS1.there (LS1.there (LS1.there (LS1.there (LS1.here (by first | exact One.u | exact One.val rfl | assumption))))))))))))) ?_
    refine Wk.aload (q := 112) at_110 rfl rfl (by first | rfl | assumption) ?_
    refine Wk.iload (q := 114) at_112 rfl rfl ?_
    refine Wk.bipush (q := 116) (32) at_114 rfl (by decide) ?_
    refine Wk.castore (q := 117) (0) at_116 rfl (by repeat (first | exact Ex.here | assumption | apply Ex.there)) (by decide) (by decide) (by rfl) (VS.here) ?_
    refine Wk.aload (q := 119) at_117 rfl rfl (by first | rfl | assumption) ?_
    refine Wk.iload (q := 121) at_119 rfl rfl ?_
    refine Wk.iconst (q := 122) (1) at_121 rfl (by decide) ?_
    refine Wk.iadd (q := 123) at_122 rfl ?_
    refine Wk.bipush (q := 125) (97) at_123 rfl (by decide) ?_
    refine Wk.castore (q := 126) (1) at_125 rfl (by repeat (first | exact Ex.here | assumption | apply Ex.there)) (by decide) (by decide) (by rfl) (VS.there (VS.here)) ?_
    refine Wk.aload (q := 128) at_126 rfl rfl (by first | rfl | assumption) ?_
    refine Wk.iload (q := 130) at_128 rfl rfl ?_
    refine Wk.iconst (q := 131) (2) at_130 rfl (by decide) ?_
    refine Wk.iadd (q := 132) at_131 rfl ?_
    refine Wk.bipush (q := 134) (110) at_132 rfl (by decide) ?_
    refine Wk.castore (q := 135) (2) at_134 rfl (by repeat (first | exact Ex.here | assumption | apply Ex.there)) (by decide) (by decide) (by rfl) (VS.there (VS.there (VS.here))) ?_
    refine Wk.aload (q := 137) at_135 rfl rfl (by first | rfl | assumption) ?_
    refine Wk.iload (q := 139) at_137 rfl rfl ?_
    refine Wk.iconst (q := 140) (3) at_139 rfl (by decide) ?_
    refine Wk.iadd (q := 141) at_140 rfl ?_
    refine Wk.bipush (q := 143) (100) at_141 rfl (by decide) ?_
    refine Wk.castore (q := 144) (3) at_143 rfl (by repeat (first | exact Ex.here | assumption | apply Ex.there)) (by decide) (by decide) (by rfl) (VS.there (VS.there (VS.there (VS.here)))) ?_
    refine Wk.aload (q := 146) at_144 rfl rfl (by first | rfl | assumption) ?_
    refine Wk.iload (q := 148) at_146 rfl rfl ?_
    refine Wk.iconst (q := 149) (4) at_148 rfl (by decide) ?_
    refine Wk.iadd (q := 150) at_149 rfl ?_
    refine Wk.bipush (q := 152) (32) at_150 rfl (by decide) ?_
    refine Wk.castore (q := 153) (4) at_152 rfl (by repeat (first | exact Ex.here | assumption | apply Ex.there)) (by decide) (by decide) (by rfl) (VS.there (VS.there (VS.there (VS.there (VS.here))))) ?_
    refine Wk.iload (q := 155) at_153 rfl rfl ?_
    refine Wk.iconst (q := 156) (5) at_155 rfl (by decide) ?_
    refine Wk.iadd (q := 157) at_156 rfl ?_
    refine Wk.istore (q := 159) at_157 rfl (LS1.there (LS1.there (LS1.there (LS1.there (LS1.there (LS1.there (LS1.there (LS1.there (LS1.there (LS1.there (LS1.there (LS1.there (LS1.here (by first | exact One.u | exact One.val rfl | assumption)))))))))))))) ?_
    refine Wk.iload_n (q := 160) at_159 rfl rfl ?_
    refine Wk.if_f (q := 163) at_160 rfl (by decide) ?_
    refine Wk.aload (q := 165) at_163 rfl rfl (by first | rfl | assumption) ?_
    refine Wk.iload (q := 167) at_165 rfl rfl ?_
    refine Wk.iload (q := 169) at_167 rfl rfl ?_
    refine Wk.castore (q := 170) (5) at_169 rfl (by repeat (first | exact Ex.here | assumption | apply Ex.there)) (by decide) (by decide) (nchar_lat h3) (VS.there (VS.there (VS.there (VS.there (VS.there (VS.here)))))) ?_
    refine Wk.iload_n (q := 171) at_170 rfl rfl ?_
    refine Wk.iconst (q := 172) (1) at_171 rfl (by decide) ?_
    refine Wk.icmp_f (q := 175) at_172 rfl (by decide) ?_
    refine Wk.aload (q := 177) at_175 rfl rfl (by first | rfl | assumption) ?_
    refine Wk.iload (q := 179) at_177 rfl rfl ?_
    refine Wk.iconst (q := 180) (1) at_179 rfl (by decide) ?_
    refine Wk.iadd (q := 181) at_180 rfl ?_
    refine Wk.iload (q := 183) at_181 rfl rfl ?_
    refine Wk.castore (q := 184) (6) at_183 rfl (by repeat (first | exact Ex.here | assumption | apply Ex.there)) (by decide) (by decide) (nchar_lat h4) (VS.there (VS.there (VS.there (VS.there (VS.there (VS.there (VS.here))))))) ?_
    refine Wk.iload (q := 186) at_184 rfl rfl ?_
    refine Wk.iload_n (q := 187) at_186 rfl rfl ?_
    refine Wk.iadd (q := 188) at_187 rfl ?_
    refine Wk.istore (q := 190) at_188 rfl (LS1.there (LS1.there (LS1.there (LS1.there (LS1.there (LS1.there (LS1.there (LS1.there (LS1.there (LS1.there (LS1.there (LS1.there (LS1.there (LS1.here (by first | exact One.u | exact One.val rfl | assumption))))))))))))))) ?_
    refine Wk.aload (q := 192) at_190 rfl rfl (by first | rfl | assumption) ?_
    refine Wk.iload (q := 194) at_192 rfl rfl ?_
    refine Wk.bipush (q := 196) (32) at_194 rfl (by decide) ?_
    refine Wk.castore (q := 197) (7) at_196 rfl (by repeat (first | exact Ex.here | assumption | apply Ex.there)) (by decide) (by decide) (by rfl) (VS.there (VS.there (VS.there (VS.there (VS.there (VS.there (VS.there (VS.here)))))))) ?_
    refine Wk.aload (q := 199) at_197 rfl rfl (by first | rfl | assumption) ?_
    refine Wk.iload (q := 201) at_199 rfl rfl ?_
    refine Wk.iconst (q := 202) (1) at_201 rfl (by decide) ?_
    refine Wk.iadd (q := 203) at_202 rfl ?_
    refine Wk.bipush (q := 205) (99) at_203 rfl (by decide) ?_
    refine Wk.castore (q := 206) (8) at_205 rfl (by repeat (first | exact Ex.here | assumption | apply Ex.there)) (by decide) (by decide) (by rfl) (VS.there (VS.there (VS.there (VS.there (VS.there (VS.there (VS.there (VS.there (VS.here))))))))) ?_
    refine Wk.aload (q := 208) at_206 rfl rfl (by first | rfl | assumption) ?_
    refine Wk.iload (q := 210) at_208 rfl rfl ?_
    refine Wk.iconst (q := 211) (2) at_210 rfl (by decide) ?_
    refine Wk.iadd (q := 212) at_211 rfl ?_
    refine Wk.bipush (q := 214) (97) at_212 rfl (by decide) ?_
    refine Wk.castore (q := 215) (9) at_214 rfl (by repeat (first | exact Ex.here | assumption | apply Ex.there)) (by decide) (by decide) (by rfl) (VS.there (VS.there (VS.there (VS.there (VS.there (VS.there (VS.there (VS.there (VS.there (VS.here)))))))))) ?_
    refine Wk.aload (q := 217) at_215 rfl rfl (by first | rfl | assumption) ?_
    refine Wk.iload (q := 219) at_217 rfl rfl ?_
    refine Wk.iconst (q := 220) (3) at_219 rfl (by decide) ?_
    refine Wk.iadd (q := 221) at_220 rfl ?_
    refine Wk.bipush (q := 223) (110) at_221 rfl (by decide) ?_
    refine Wk.castore (q := 224) (10) at_223 rfl (by repeat (first | exact Ex.here | assumption | apply Ex.there)) (by decide) (by decide) (by rfl) (VS.there (VS.there (VS.there (VS.there (VS.there (VS.there (VS.there (VS.there (VS.there (VS.there (VS.here))))))))))) ?_
    refine Wk.aload (q := 226) at_224 rfl rfl (by first | rfl | assumption) ?_
    refine Wk.iload (q := 228) at_226 rfl rfl ?_
    refine Wk.iconst (q := 229) (4) at_228 rfl (by decide) ?_
    refine Wk.iadd (q := 230) at_229 rfl ?_
    refine Wk.bipush (q := 232) (110) at_230 rfl (by decide) ?_
    refine Wk.castore (q := 233) (11) at_232 rfl (by repeat (first | exact Ex.here | assumption | apply Ex.there)) (by decide) (by decide) (by rfl) (VS.there (VS.there (VS.there (VS.there (VS.there (VS.there (VS.there (VS.there (VS.there (VS.there (VS.there (VS.here)))))))))))) ?_
    refine Wk.aload (q := 235) at_233 rfl rfl (by first | rfl | assumption) ?_
    refine Wk.iload (q := 237) at_235 rfl rfl ?_
    refine Wk.iconst (q := 238) (5) at_237 rfl (by decide) ?_
    refine Wk.iadd (q := 239) at_238 rfl ?_
    refine Wk.bipush (q := 241) (111) at_239 rfl (by decide) ?_
    refine Wk.castore (q := 242) (12) at_241 rfl (by repeat (first | exact Ex.here | assumption | apply Ex.there)) (by decide) (by decide) (by rfl) (VS.there (VS.there (VS.there (VS.there (VS.there (VS.there (VS.there (VS.there (VS.there (VS.there (VS.there (VS.there (VS.here))))))))))))) ?_
    refine Wk.aload (q := 244) at_242 rfl rfl (by first | rfl | assumption) ?_
    refine Wk.iload (q := 246) at_244 rfl rfl ?_
    refine Wk.bipush (q := 248) (6) at_246 rfl (by decide) ?_
    refine Wk.iadd (q := 249) at_248 rfl ?_
    refine Wk.bipush (q := 251) (116) at_249 rfl (by decide) ?_
    refine Wk.castore (q := 252) (13) at_251 rfl (by repeat (first | exact Ex.here | assumption | apply Ex.there)) (by decide) (by decide) (by rfl) (VS.there (VS.there (VS.there (VS.there (VS.there (VS.there (VS.there (VS.there (VS.there (VS.there (VS.there (VS.there (VS.there (VS.here)))))))))))))) ?_
    refine Wk.aload (q := 254) at_252 rfl rfl (by first | rfl | assumption) ?_
    refine Wk.iload (q := 256) at_254 rfl rfl ?_
    refine Wk.bipush (q := 258) (7) at_256 rfl (by decide) ?_
    refine Wk.iadd (q := 259) at_258 rfl ?_
    refine Wk.bipush (q := 261) (32) at_259 rfl (by decide) ?_
    refine Wk.castore (q := 262) (14) at_261 rfl (by repeat (first | exact Ex.here | assumption | apply Ex.there)) (by decide) (by decide) (by rfl) (VS.there (VS.there (VS.there (VS.there (VS.there (VS.there (VS.there (VS.there (VS.there (VS.there (VS.there (VS.there (VS.there (VS.there (VS.here))))))))))))))) ?_
    refine Wk.aload (q := 264) at_262 rfl rfl (by first | rfl | assumption) ?_
    refine Wk.iload (q := 266) at_264 rfl rfl ?_
    refine Wk.bipush (q := 268) (8) at_266 rfl (by decide) ?_
    refine Wk.iadd (q := 269) at_268 rfl ?_
    refine Wk.bipush (q := 271) (98) at_269 rfl (by decide) ?_
    refine Wk.castore (q := 272) (15) at_271 rfl (by repeat (first | exact Ex.here | assumption | apply Ex.there)) (by decide) (by decide) (by rfl) (VS.there (VS.there (VS.there (VS.there (VS.there (VS.there (VS.there (VS.there (VS.there (VS.there (VS.there (VS.there (VS.there (VS.there (VS.there (VS.here)))))))))))))))) ?_
    refine Wk.aload (q := 274) at_272 rfl rfl (by first | rfl | assumption) ?_
    refine Wk.iload (q := 276) at_274 rfl rfl ?_
    refine Wk.bipush (q := 278) (9) at_276 rfl (by decide) ?_
    refine Wk.iadd (q := 279) at_278 rfl ?_
    refine Wk.bipush (q := 281) (101) at_279 rfl (by decide) ?_
    refine Wk.castore (q := 282) (16) at_281 rfl (by repeat (first | exact Ex.here | assumption | apply Ex.there)) (by decide) (by decide) (by rfl) (VS.there (VS.there (VS.there (VS.there (VS.there (VS.there (VS.there (VS.there (VS.there (VS.there (VS.there (VS.there (VS.there (VS.there (VS.there (VS.there (VS.here))))))))))))))))) ?_
    refine Wk.aload (q := 284) at_282 rfl rfl (by first | rfl | assumption) ?_
    refine Wk.iload (q := 286) at_284 rfl rfl ?_
    refine Wk.bipush (q := 288) (10) at_286 rfl (by decide) ?_
    refine Wk.iadd (q := 289) at_288 rfl ?_
    refine Wk.bipush (q := 291) (32) at_289 rfl (by decide) ?_
    refine Wk.castore (q := 292) (17) at_291 rfl (by repeat (first | exact Ex.here | assumption | apply Ex.there)) (by decide) (by decide) (by rfl) (VS.there (VS.there (VS.there (VS.there (VS.there (VS.there (VS.there (VS.there (VS.there (VS.there (VS.there (VS.there (VS.there (VS.there (VS.there (VS.there (VS.there (VS.here)))))))))))))))))) ?_
    refine Wk.aload (q := 294) at_292 rfl rfl (by first | rfl | assumption) ?_
    refine Wk.iload (q := 296) at_294 rfl rfl ?_
    refine Wk.bipush (q := 298) (11) at_296 rfl (by decide) ?_
    refine Wk.iadd (q := 299) at_298 rfl ?_
    refine Wk.bipush (q := 301) (103) at_299 rfl (by decide) ?_
    refine Wk.castore (q := 302) (18) at_301 rfl (by repeat (first | exact Ex.here | assumption | apply Ex.there)) (by decide) (by decide) (by rfl) (VS.there (VS.there (VS.there (VS.there (VS.there (VS.there (VS.there (VS.there (VS.there (VS.there (VS.there (VS.there (VS.there (VS.there (VS.there (VS.there (VS.there (VS.there (VS.here))))))))))))))))))) ?_
    refine Wk.aload (q := 304) at_302 rfl rfl (by first | rfl | assumption) ?_
    refine Wk.iload (q := 306) at_304 rfl rfl ?_
    refine Wk.bipush (q := 308) (12) at_306 rfl (by decide) ?_
    refine Wk.iadd (q := 309) at_308 rfl ?_
    refine Wk.bipush (q := 311) (105) at_309 rfl (by decide) ?_
    refine Wk.castore (q := 312) (19) at_311 rfl (by repeat (first | exact Ex.here | assumption | apply Ex.there)) (by decide) (by decide) (by rfl) (VS.there (VS.there (VS.there (VS.there (VS.there (VS.there (VS.there (VS.there (VS.there (VS.there (VS.there (VS.there (VS.there (VS.there (VS.there (VS.there (VS.there (VS.there (VS.there (VS.here)))))))))))))))))))) ?_
    refine Wk.aload (q := 314) at_312 rfl rfl (by first | rfl | assumption) ?_
    refine Wk.iload (q := 316) at_314 rfl rfl ?_
    refine Wk.bipush (q := 318) (13) at_316 rfl (by decide) ?_
    refine Wk.iadd (q := 319) at_318 rfl ?_
    refine Wk.bipush (q := 321) (118) at_319 rfl (by decide) ?_
    refine Wk.castore (q := 322) (20) at_321 rfl (by repeat (first | exact Ex.here | assumption | apply Ex.there)) (by decide) (by decide) (by rfl) (VS.there (VS.there (VS.there (VS.there (VS.there (VS.there (VS.there (VS.there (VS.there (VS.there (VS.there (VS.there (VS.there (VS.there (VS.there (VS.there (VS.there (VS.there (VS.there (VS.there (VS.here))))))))))))))))))))) ?_
    refine Wk.aload (q := 324) at_322 rfl rfl (by first | rfl | assumption) ?_
    refine Wk.iload (q := 326) at_324 rfl rfl ?_
    refine Wk.bipush (q := 328) (14) at_326 rfl (by decide) ?_
    refine Wk.iadd (q := 329) at_328 rfl ?_
    refine Wk.bipush (q := 331) (101) at_329 rfl (by decide) ?_
    refine Wk.castore (q := 332) (21) at_331 rfl (by repeat (first | exact Ex.here | assumption | apply Ex.there)) (by decide) (by decide) (by rfl) (VS.there (VS.there (VS.there (VS.there (VS.there (VS.there (VS.there (VS.there (VS.there (VS.there (VS.there (VS.there (VS.there (VS.there (VS.there (VS.there (VS.there (VS.there (VS.there (VS.there (VS.there (VS.here)))))))))))))))))))))) ?_
    refine Wk.aload (q := 334) at_332 rfl rfl (by first | rfl | assumption) ?_
    refine Wk.iload (q := 336) at_334 rfl rfl ?_
    refine Wk.bipush (q := 338) (15) at_336 rfl (by decide) ?_
    refine Wk.iadd (q := 339) at_338 rfl ?_
    refine Wk.bipush (q := 341) (110) at_339 rfl (by decide) ?_
    refine Wk.castore (q := 342) (22) at_341 rfl (by repeat (first | exact Ex.here | assumption | apply Ex.there)) (by decide) (by decide) (by rfl) (VS.there (VS.there (VS.there (VS.there (VS.there (VS.there (VS.there (VS.there (VS.there (VS.there (VS.there (VS.there (VS.there (VS.there (VS.there (VS.there (VS.there (VS.there (VS.there (VS.there (VS.there (VS.there (VS.here))))))))))))))))))))))) ?_
    refine Wk.aload (q := 344) at_342 rfl rfl (by first | rfl | assumption) ?_
    refine Wk.iload (q := 346) at_344 rfl rfl ?_
    refine Wk.bipush (q := 348) (16) at_346 rfl (by decide) ?_
    refine Wk.iadd (q := 349) at_348 rfl ?_
    refine Wk.bipush (q := 351) (32) at_349 rfl (by decide) ?_
    refine Wk.castore (q := 352) (23) at_351 rfl (by repeat (first | exact Ex.here | assumption | apply Ex.there)) (by decide) (by decide) (by rfl) (VS.there (VS.there (VS.there (VS.there (VS.there (VS.there (VS.there (VS.there (VS.there (VS.there (VS.there (VS.there (VS.there (VS.there (VS.there (VS.there (VS.there (VS.there (VS.there (VS.there (VS.there (VS.there (VS.there (VS.here)))))))))))))))))))))))) ?_
    refine Wk.aload (q := 354) at_352 rfl rfl (by first | rfl | assumption) ?_
    refine Wk.iload (q := 356) at_354 rfl rfl ?_
    refine Wk.bipush (q := 358) (17) at_356 rfl (by decide) ?_
    refine Wk.iadd (q := 359) at_358 rfl ?_
    refine Wk.bipush (q := 361) (116) at_359 rfl (by decide) ?_
    refine Wk.castore (q := 362) (24) at_361 rfl (by repeat (first | exact Ex.here | assumption | apply Ex.there)) (by decide) (by decide) (by rfl) (VS.there (VS.there (VS.there (VS.there (VS.there (VS.there (VS.there (VS.there (VS.there (VS.there (VS.there (VS.there (VS.there (VS.there (VS.there (VS.there (VS.there (VS.there (VS.there (VS.there (VS.there (VS.there (VS.there (VS.there (VS.here))))))))))))))))))))))))) ?_
    refine Wk.aload (q := 364) at_362 rfl rfl (by first | rfl | assumption) ?_
    refine Wk.iload (q := 366) at_364 rfl rfl ?_
    refine Wk.bipush (q := 368) (18) at_366 rfl (by decide) ?_
    refine Wk.iadd (q := 369) at_368 rfl ?_
    refine Wk.bipush (q := 371) (111) at_369 rfl (by decide) ?_
    refine Wk.castore (q := 372) (25) at_371 rfl (by repeat (first | exact Ex.here | assumption | apply Ex.there)) (by decide) (by decide) (by rfl) (VS.there (VS.there (VS.there (VS.there (VS.there (VS.there (VS.there (VS.there (VS.there (VS.there (VS.there (VS.there (VS.there (VS.there (VS.there (VS.there (VS.there (VS.there (VS.there (VS.there (VS.there (VS.there (VS.there (VS.there (VS.there (VS.here)))))))))))))))))))))))))) ?_
    refine Wk.aload (q := 374) at_372 rfl rfl (by first | rfl | assumption) ?_
    refine Wk.iload (q := 376) at_374 rfl rfl ?_
    refine Wk.bipush (q := 378) (19) at_376 rfl (by decide) ?_
    refine Wk.iadd (q := 379) at_378 rfl ?_
    refine Wk.bipush (q := 381) (103) at_379 rfl (by decide) ?_
    refine Wk.castore (q := 382) (26) at_381 rfl (by repeat (first | exact Ex.here | assumption | apply Ex.there)) (by decide) (by decide) (by rfl) (VS.there (VS.there (VS.there (VS.there (VS.there (VS.there (VS.there (VS.there (VS.there (VS.there (VS.there (VS.there (VS.there (VS.there (VS.there (VS.there (VS.there (VS.there (VS.there (VS.there (VS.there (VS.there (VS.there (VS.there (VS.there (VS.there (VS.here))))))))))))))))))))))))))) ?_
    refine Wk.aload (q := 384) at_382 rfl rfl (by first | rfl | assumption) ?_
    refine Wk.iload (q := 386) at_384 rfl rfl ?_
    refine Wk.bipush (q := 388) (20) at_386 rfl (by decide) ?_
    refine Wk.iadd (q := 389) at_388 rfl ?_
    refine Wk.bipush (q := 391) (101) at_389 rfl (by decide) ?_
    refine Wk.castore (q := 392) (27) at_391 rfl (by repeat (first | exact Ex.here | assumption | apply Ex.there)) (by decide) (by decide) (by rfl) (VS.there (VS.there (VS.there (VS.there (VS.there (VS.there (VS.there (VS.there (VS.there (VS.there (VS.there (VS.there (VS.there (VS.there (VS.there (VS.there (VS.there (VS.there (VS.there (VS.there (VS.there (VS.there (VS.there (VS.there (VS.there (VS.there (VS.there (VS.here)))))))))))))))))))))))))))) ?_
    refine Wk.aload (q := 394) at_392 rfl rfl (by first | rfl | assumption) ?_
    refine Wk.iload (q := 396) at_394 rfl rfl ?_
    refine Wk.bipush (q := 398) (21) at_396 rfl (by decide) ?_
    refine Wk.iadd (q := 399) at_398 rfl ?_
    refine Wk.bipush (q := 401) (116) at_399 rfl (by decide) ?_
    refine Wk.castore (q := 402) (28) at_401 rfl (by repeat (first | exact Ex.here | assumption | apply Ex.there)) (by decide) (by decide) (by rfl) (VS.there (VS.there (VS.there (VS.there (VS.there (VS.there (VS.there (VS.there (VS.there (VS.there (VS.there (VS.there (VS.there (VS.there (VS.there (VS.there (VS.there (VS.there (VS.there (VS.there (VS.there (VS.there (VS.there (VS.there (VS.there (VS.there (VS.there (VS.there (VS.here))))))))))))))))))))))))))))) ?_
    refine Wk.aload (q := 404) at_402 rfl rfl (by first | rfl | assumption) ?_
    refine Wk.iload (q := 406) at_404 rfl rfl ?_
    refine Wk.bipush (q := 408) (22) at_406 rfl (by decide) ?_
    refine Wk.iadd (q := 409) at_408 rfl ?_
    refine Wk.bipush (q := 411) (104) at_409 rfl (by decide) ?_
    refine Wk.castore (q := 412) (29) at_411 rfl (by repeat (first | exact Ex.here | assumption | apply Ex.there)) (by decide) (by decide) (by rfl) (VS.there (VS.there (VS.there (VS.there (VS.there (VS.there (VS.there (VS.there (VS.there (VS.there (VS.there (VS.there (VS.there (VS.there (VS.there (VS.there (VS.there (VS.there (VS.there (VS.there (VS.there (VS.there (VS.there (VS.there (VS.there (VS.there (VS.there (VS.there (VS.there (VS.here)))))))))))))))))))))))))))))) ?_
    refine Wk.aload (q := 414) at_412 rfl rfl (by first | rfl | assumption) ?_
    refine Wk.iload (q := 416) at_414 rfl rfl ?_
    refine Wk.bipush (q := 418) (23) at_416 rfl (by decide) ?_
    refine Wk.iadd (q := 419) at_418 rfl ?_
    refine Wk.bipush (q := 421) (101) at_419 rfl (by decide) ?_
    refine Wk.castore (q := 422) (30) at_421 rfl (by repeat (first | exact Ex.here | assumption | apply Ex.there)) (by decide) (by decide) (by rfl) (VS.there (VS.there (VS.there (VS.there (VS.there (VS.there (VS.there (VS.there (VS.there (VS.there (VS.there (VS.there (VS.there (VS.there (VS.there (VS.there (VS.there (VS.there (VS.there (VS.there (VS.there (VS.there (VS.there (VS.there (VS.there (VS.there (VS.there (VS.there (VS.there (VS.there (VS.here))))))))))))))))))))))))))))))) ?_
    refine Wk.aload (q := 424) at_422 rfl rfl (by first | rfl | assumption) ?_
    refine Wk.iload (q := 426) at_424 rfl rfl ?_
    refine Wk.bipush (q := 428) (24) at_426 rfl (by decide) ?_
    refine Wk.iadd (q := 429) at_428 rfl ?_
    refine Wk.bipush (q := 431) (114) at_429 rfl (by decide) ?_
    refine Wk.castore (q := 432) (31) at_431 rfl (by repeat (first | exact Ex.here | assumption | apply Ex.there)) (by decide) (by decide) (by rfl) (VS.there (VS.there (VS.there (VS.there (VS.there (VS.there (VS.there (VS.there (VS.there (VS.there (VS.there (VS.there (VS.there (VS.there (VS.there (VS.there (VS.there (VS.there (VS.there (VS.there (VS.there (VS.there (VS.there (VS.there (VS.there (VS.there (VS.there (VS.there (VS.there (VS.there (VS.there (VS.here)))))))))))))))))))))))))))))))) ?_
    refine Wk.new (q := 435) at_432 rfl (hw _ (List.mem_of_getElem? (i := 4) rfl)) (hw _ (List.mem_of_getElem? (i := 5) rfl)) (hw _ (List.mem_of_getElem? (i := 6) rfl)) (layS_ok hw) layS_dv (by first | decide | (dsimp only; omega) | omega) (by first | decide | (dsimp only; omega) | omega) ?_
    intro es
    refine Wk.dup (q := 436) at_435 rfl rfl ?_
    refine Wk.aload (q := 438) at_436 rfl rfl (by first | rfl | assumption) ?_
    refine Wk.pull (o := (es, true, OB Z "java/lang/String" layS [.null, .int 0])) (by repeat (first | exact Ex.here | assumption | apply Ex.there)) ?_
    refine Wk.special (q := 441) [_] _ 1 at_438 rfl rfl (hw _ (List.mem_of_getElem? (i := 8) rfl)) (hw _ (List.mem_of_getElem? (i := 9) rfl)) (hw _ (List.mem_of_getElem? (i := 6) rfl)) (hw _ (List.mem_of_getElem? (i := 10) rfl)) ar_19 (by decide) rfl rfl rfl rfl (ct_strInitG hw hE F (cs := [32, 97, 110, 100, 32, n0, n1, 32, 99, 97, 110, 110, 111, 116, 32, 98, 101, 32, 103, 105, 118, 101, 110, 32, 116, 111, 103, 101, 116, 104, 101, 114]) (lat_cons (by decide) (lat_cons (by decide) (lat_cons (by decide) (lat_cons (by decide) (lat_cons (by decide) (lat_cons h3 (lat_cons h4 (lat_cons (by decide) (lat_cons (by decide) (lat_cons (by decide) (lat_cons (by decide) (lat_cons (by decide) (lat_cons (by decide) (lat_cons (by decide) (lat_cons (by decide) (lat_cons (by decide) (lat_cons (by decide) (lat_cons (by decide) (lat_cons (by decide) (lat_cons (by decide) (lat_cons (by decide) (lat_cons (by decide) (lat_cons (by decide) (lat_cons (by decide) (lat_cons (by decide) (lat_cons (by decide) (lat_cons (by decide) (lat_cons (by decide) (lat_cons (by decide) (lat_cons (by decide) (lat_cons (by decide) (lat_cons (by decide) lat_nil)))))))))))))))))))))))))))))))) 34 (by simp) (by simp) (by repeat (first | exact List.mem_cons_self | assumption | refine List.mem_cons_of_mem _ ?_))) (by first | decide | (dsimp only; omega) | omega) (by first | decide | (dsimp only; omega) | omega) (by first | decide | (dsimp only; omega) | omega) (by first | decide | (dsimp only; omega) | omega) (k0 ?_)
    rintro _ ⟨er, fer, rfl⟩
    refine Wk.astore (q := 443) at_441 rfl (by first | rfl | assumption) (LS1.there (LS1.there (LS1.there (LS1.there (LS1.there (LS1.there (LS1.there (LS1.there (LS1.there (LS1.there (LS1.there (LS1.there (LS1.there (LS1.there (LS1.here (by first | exact One.u | exact One.val rfl | assumption)))))))))))))))) ?_
    exact (fin _ ca es er true fer _ _ _ (by repeat (first | exact List.mem_cons_self | assumption | refine List.mem_cons_of_mem _ ?_)) (by repeat (first | exact List.mem_cons_self | assumption | refine List.mem_cons_of_mem _ ?_)) (by repeat (first | exact List.mem_cons_self | assumption | refine List.mem_cons_of_mem _ ?_)) (by repeat (first | exact List.mem_cons_self | assumption | refine List.mem_cons_of_mem _ ?_)) (by repeat (first | exact List.mem_cons_self | assumption | refine List.mem_cons_of_mem _ ?_)) (by repeat (first | exact List.mem_cons_self | assumption | refine List.mem_cons_of_mem _ ?_))).mono (by decide) (by decide)
  · refine Wk.iload_n (q := 77) at_76 rfl rfl ?_
    refine Wk.iload_n (q := 78) at_77 rfl rfl ?_
    refine Wk.iadd (q := 79) at_78 rfl ?_
    refine Wk.bipush (q := 81) (30) at_79 rfl (by decide) ?_
    refine Wk.iadd (q := 82) at_81 rfl ?_
    refine Wk.newarray (q := 84) .char (31) [(.int 0), (.int 0), (.int 0), (.int 0), (.int 0), (.int 0), (.int 0), (.int 0), (.int 0), (.int 0), (.int 0), (.int 0), (.int 0), (.int 0), (.int 0), (.int 0), (.int 0), (.int 0), (.int 0), (.int 0), (.int 0), (.int 0), (.int 0), (.int 0), (.int 0), (.int 0), (.int 0), (.int 0), (.int 0), (.int 0), (.int 0)] at_82 rfl rfl rfl (hw _ (List.mem_of_getElem? (i := 7) rfl)) (by decide) (by decide) (by decide) (by first | decide | (dsimp only; omega) | omega) (by first | decide | (dsimp only; omega) | omega) ?_
    intro ca
    refine Wk.astore (q := 86) at_84 rfl (by first | rfl | assumption) (LS1.there (LS1.there (LS1.there (LS1.there (LS1.there (LS1.there (LS1.there (LS1.there (LS1.there (LS1.there (LS1.here (by first | exact One.u | exact One.val rfl | assumption)))))))))))) ?_
    refine Wk.iload_n (q := 87) at_86 rfl rfl ?_
    refine Wk.if_f (q := 90) at_87 rfl (by decide) ?_
    refine Wk.aload (q := 92) at_90 rfl rfl (by first | rfl | assumption) ?_
    refine Wk.iconst (q := 93) (0) at_92 rfl (by decide) ?_
    refine Wk.iload (q := 95) at_93 rfl rfl ?_
    refine Wk.castore (q := 96) (0) at_95 rfl (by repeat (first | exact Ex.here | assumption | apply Ex.there)) (by decide) (by decide) (nchar_lat h1) (VS.here) ?_
    refine Wk.iload_n (q := 97) at_96 rfl rfl ?_
    refine Wk.iconst (q := 98) (1) at_97 rfl (by decide) ?_
    refine Wk.icmp_t (q := 107) at_98 (by decide) (by decide) (by decide) ?_
    refine Wk.iload_n (q := 108) at_107 rfl rfl ?_
    refine Wk.istore (q := 110) at_108 rfl (LS1.there (LS1.there (LS1.there (LS1.there (LS1.there (LS1.there (LS1.there (LS1.there (LS1.there (LS1.there (LS1.there (LS1.here (by first | exact One.u | exact One.val rfl | assumption))))))))))))) ?_
    refine Wk.aload (q := 112) at_110 rfl rfl (by first | rfl | assumption) ?_
    refine Wk.iload (q := 114) at_112 rfl rfl ?_
    refine Wk.bipush (q := 116) (32) at_114 rfl (by decide) ?_
    refine Wk.castore (q := 117) (1) at_116 rfl (by repeat (first | exact Ex.here | assumption | apply Ex.there)) (by decide) (by decide) (by rfl) (VS.there (VS.here)) ?_
    refine Wk.aload (q := 119) at_117 rfl rfl (by first | rfl | assumption) ?_
    refine Wk.iload (q := 121) at_119 rfl rfl ?_
    refine Wk.iconst (q := 122) (1) at_121 rfl (by decide) ?_
    refine Wk.iadd (q := 123) at_122 rfl ?_
    refine Wk.bipush (q := 125) (97) at_123 rfl (by decide) ?_
    refine Wk.castore (q := 126) (2) at_125 rfl (by repeat (first | exact Ex.here | assumption | apply Ex.there)) (by decide) (by decide) (by rfl) (VS.there (VS.there (VS.here))) ?_
    refine Wk.aload (q := 128) at_126 rfl rfl (by first | rfl | assumption) ?_
    refine Wk.iload (q := 130) at_128 rfl rfl ?_
    refine Wk.iconst (q := 131) (2) at_130 rfl (by decide) ?_
    refine Wk.iadd (q := 132) at_131 rfl ?_
    refine Wk.bipush (q := 134) (110) at_132 rfl (by decide) ?_
    refine Wk.castore (q := 135) (3) at_134 rfl (by repeat (first | exact Ex.here | assumption | apply Ex.there)) (by decide) (by decide) (by rfl) (VS.there (VS.there (VS.there (VS.here)))) ?_
    refine Wk.aload (q := 137) at_135 rfl rfl (by first | rfl | assumption) ?_
    refine Wk.iload (q := 139) at_137 rfl rfl ?_
    refine Wk.iconst (q := 140) (3) at_139 rfl (by decide) ?_
    refine Wk.iadd (q := 141) at_140 rfl ?_
    refine Wk.bipush (q := 143) (100) at_141 rfl (by decide) ?_
    refine Wk.castore (q := 144) (4) at_143 rfl (by repeat (first | exact Ex.here | assumption | apply Ex.there)) (by decide) (by decide) (by rfl) (VS.there (VS.there (VS.there (VS.there (VS.here))))) ?_
    refine Wk.aload (q := 146) at_144 rfl rfl (by first | rfl | assumption) ?_
    refine Wk.iload (q := 148) at_146 rfl rfl ?_
    refine Wk.iconst (q := 149) (4) at_148 rfl (by decide) ?_
    refine Wk.iadd (q := 150) at_149 rfl ?_
    refine Wk.bipush (q := 152) (32) at_150 rfl (by decide) ?_
    refine Wk.castore (q := 153) (5) at_152 rfl (by repeat (first | exact Ex.here | assumption | apply Ex.there)) (by decide) (by decide) (by rfl) (VS.there (VS.there (VS.there (VS.there (VS.there (VS.here)))))) ?_
    refine Wk.iload (q := 155) at_153 rfl rfl ?_
    refine Wk.iconst (q := 156) (5) at_155 rfl (by decide) ?_
    refine Wk.iadd (q := 157) at_156 rfl ?_
    refine Wk.istore (q := 159) at_157 rfl (LS1.there (LS1.there (LS1.there (LS1.there (LS1.there (LS1.there (LS1.there (LS1.there (LS1.there (LS1.there (LS1.there (LS1.there (LS1.here (by first | exact One.u | exact One.val rfl | assumption)))))))))))))) ?_
    refine Wk.iload_n (q := 160) at_159 rfl rfl ?_
    refine Wk.if_t (q := 170) at_160 (by decide) (by decide) (by decide) ?_
    refine Wk.iload_n (q := 171) at_170 rfl rfl ?_
    refine Wk.iconst (q := 172) (1) at_171 rfl (by decide) ?_
    refine Wk.icmp_t (q := 184) at_172 (by decide) (by decide) (by decide) ?_
    refine Wk.iload (q := 186) at_184 rfl rfl ?_
    refine Wk.iload_n (q := 187) at_186 rfl rfl ?_
    refine Wk.iadd (q := 188) at_187 rfl ?_
    refine Wk.istore (q := 190) at_188 rfl (LS1.there (LS1.there (LS1.there (LS1.there (LS1.there (LS1.there (LS1.there (LS1.there (LS1.there (LS1.there (LS1.there (LS1.there (LS1.there (LS1.here (by first | exact One.u | exact One.val rfl | assumption))))))))))))))) ?_
    refine Wk.aload (q := 192) at_190 rfl rfl (by first | rfl | assumption) ?_
    refine Wk.iload (q := 194) at_192 rfl rfl ?_
    refine Wk.bipush (q := 196) (32) at_194 rfl (by decide) ?_
    refine Wk.castore (q := 197) (6) at_196 rfl (by repeat (first | exact Ex.here | assumption | apply Ex.there)) (by decide) (by decide) (by rfl) (VS.there (VS.there (VS.there (VS.there (VS.there (VS.there (VS.here))))))) ?_
    refine Wk.aload (q := 199) at_197 rfl rfl (by first | rfl | assumption) ?_
    refine Wk.iload (q := 201) at_199 rfl rfl ?_
    refine Wk.iconst (q := 202) (1) at_201 rfl (by decide) ?_
    refine Wk.iadd (q := 203) at_202 rfl ?_
    refine Wk.bipush (q := 205) (99) at_203 rfl (by decide) ?_
    refine Wk.castore (q := 206) (7) at_205 rfl (by repeat (first | exact Ex.here | assumption | apply Ex.there)) (by decide) (by decide) (by rfl) (VS.there (VS.there (VS.there (VS.there (VS.there (VS.there (VS.there (VS.here)))))))) ?_
    refine Wk.aload (q := 208) at_206 rfl rfl (by first | rfl | assumption) ?_
    refine Wk.iload (q := 210) at_208 rfl rfl ?_
    refine Wk.iconst (q := 211) (2) at_210 rfl (by decide) ?_
    refine Wk.iadd (q := 212) at_211 rfl ?_
    refine Wk.bipush (q := 214) (97) at_212 rfl (by decide) ?_
    refine Wk.castore (q := 215) (8) at_214 rfl (by repeat (first | exact Ex.here | assumption | apply Ex.there)) (by decide) (by decide) (by rfl) (VS.there (VS.there (VS.there (VS.there (VS.there (VS.there (VS.there (VS.there (VS.here))))))))) ?_
    refine Wk.aload (q := 217) at_215 rfl rfl (by first | rfl | assumption) ?_
    refine Wk.iload (q := 219) at_217 rfl rfl ?_
    refine Wk.iconst (q := 220) (3) at_219 rfl (by decide) ?_
    refine Wk.iadd (q := 221) at_220 rfl ?_
    refine Wk.bipush (q := 223) (110) at_221 rfl (by decide) ?_
    refine Wk.castore (q := 224) (9) at_223 rfl (by repeat (first | exact Ex.here | assumption | apply Ex.there)) (by decide) (by decide) (by rfl) (VS.there (VS.there (VS.there (VS.there (VS.there (VS.there (VS.there (VS.there (VS.there (VS.here)))))))))) ?_
    refine Wk.aload (q := 226) at_224 rfl rfl (by first | rfl | assumption) ?_
    refine Wk.iload (q := 228) at_226 rfl rfl ?_
    refine Wk.iconst (q := 229) (4) at_228 rfl (by decide) ?_
    refine Wk.iadd (q := 230) at_229 rfl ?_
    refine Wk.bipush (q := 232) (110) at_230 rfl (by decide) ?_
    refine Wk.castore (q := 233) (10) at_232 rfl (by repeat (first | exact Ex.here | assumption | apply Ex.there)) (by decide) (by decide) (by rfl) (VS.there (VS.there (VS.there (VS.there (VS.there (VS.there (VS.there (VS.there (VS.there (VS.there (VS.here))))))))))) ?_
    refine Wk.aload (q := 235) at_233 rfl rfl (by first | rfl | assumption) ?_
    refine Wk.iload (q := 237) at_235 rfl rfl ?_
    refine Wk.iconst (q := 238) (5) at_237 rfl (by decide) ?_
    refine Wk.iadd (q := 239) at_238 rfl ?_
    refine Wk.bipush (q := 241) (111) at_239 rfl (by decide) ?_
    refine Wk.castore (q := 242) (11) at_241 rfl (by repeat (first | exact Ex.here | assumption | apply Ex.there)) (by decide) (by decide) (by rfl) (VS.there (VS.there (VS.there (VS.there (VS.there (VS.there (VS.there (VS.there (VS.there (VS.there (VS.there (VS.here)))))))))))) ?_
    refine Wk.aload (q := 244) at_242 rfl rfl (by first | rfl | assumption) ?_
    refine Wk.iload (q := 246) at_244 rfl rfl ?_
    refine Wk.bipush (q := 248) (6) at_246 rfl (by decide) ?_
    refine Wk.iadd (q := 249) at_248 rfl ?_
    refine Wk.bipush (q := 251) (116) at_249 rfl (by decide) ?_
    refine Wk.castore (q := 252) (12) at_251 rfl (by repeat (first | exact Ex.here | assumption | apply Ex.there)) (by decide) (by decide) (by rfl) (VS.there (VS.there (VS.there (VS.there (VS.there (VS.there (VS.there (VS.there (VS.there (VS.there (VS.there (VS.there (VS.here))))))))))))) ?_
    refine Wk.aload (q := 254) at_252 rfl rfl (by first | rfl | assumption) ?_
    refine Wk.iload (q := 256) at_254 rfl rfl ?_
    refine Wk.bipush (q := 258) (7) at_256 rfl (by decide) ?_
    refine Wk.iadd (q := 259) at_258 rfl ?_
    refine Wk.bipush (q := 261) (32) at_259 rfl (by decide) ?_
    refine Wk.castore (q := 262) (13) at_261 rfl (by repeat (first | exact Ex.here | assumption | apply Ex.there)) (by decide) (by decide) (by rfl) (VS.there (VS.there (VS.there (VS.there (VS.there (VS.there (VS.there (VS.there (VS.there (VS.there (VS.there (VS.there (VS.there (VS.here)))))))))))))) ?_
    refine Wk.aload (q := 264) at_262 rfl rfl (by first | rfl | assumption) ?_
    refine Wk.iload (q := 266) at_264 rfl rfl ?_
    refine Wk.bipush (q := 268) (8) at_266 rfl (by decide) ?_
    refine Wk.iadd (q := 269) at_268 rfl ?_
    refine Wk.bipush (q := 271) (98) at_269 rfl (by decide) ?_
    refine Wk.castore (q := 272) (14) at_271 rfl (by repeat (first | exact Ex.here | assumption | apply Ex.there)) (by decide) (by decide) (by rfl) (VS.there (VS.there (VS.there (VS.there (VS.there (VS.there (VS.there (VS.there (VS.there (VS.there (VS.there (VS.there (VS.there (VS.there (VS.here))))))))))))))) ?_
    refine Wk.aload (q := 274) at_272 rfl rfl (by first | rfl | assumption) ?_
    refine Wk.iload (q := 276) at_274 rfl rfl ?_
    refine Wk.bipush (q := 278) (9) at_276 rfl (by decide) ?_
    refine Wk.iadd (q := 279) at_278 rfl ?_
    refine Wk.bipush (q := 281) (101) at_279 rfl (by decide) ?_
    refine Wk.castore (q := 282) (15) at_281 rfl (by repeat (first | exact Ex.here | assumption | apply Ex.there)) (by decide) (by decide) (by rfl) (VS.there (VS.there (VS.there (VS.there (VS.there (VS.there (VS.there (VS.there (VS.there (VS.there (VS.there (VS.there (VS.there (VS.there (VS.there (VS.here)))))))))))))))) ?_
    refine Wk.aload (q := 284) at_282 rfl rfl (by first | rfl | assumption) ?_
    refine Wk.iload (q := 286) at_284 rfl rfl ?_
    refine Wk.bipush (q := 288) (10) at_286 rfl (by decide) ?_
    refine Wk.iadd (q := 289) at_288 rfl ?_
    refine Wk.bipush (q := 291) (32) at_289 rfl (by decide) ?_
    refine Wk.castore (q := 292) (16) at_291 rfl (by repeat (first | exact Ex.here | assumption | apply Ex.there)) (by decide) (by decide) (by rfl) (VS.there (VS.there (VS.there (VS.there (VS.there (VS.there (VS.there (VS.there (VS.there (VS.there (VS.there (VS.there (VS.there (VS.there (VS.there (VS.there (VS.here))))))))))))))))) ?_
    refine Wk.aload (q := 294) at_292 rfl rfl (by first | rfl | assumption) ?_
    refine Wk.iload (q := 296) at_294 rfl rfl ?_
    refine Wk.bipush (q := 298) (11) at_296 rfl (by decide) ?_
    refine Wk.iadd (q := 299) at_298 rfl ?_
    refine Wk.bipush (q := 301) (103) at_299 rfl (by decide) ?_
    refine Wk.castore (q := 302) (17) at_301 rfl (by repeat (first | exact Ex.here | assumption | apply Ex.there)) (by decide) (by decide) (by rfl) (VS.there (VS.there (VS.there (VS.there (VS.there (VS.there (VS.there (VS.there (VS.there (VS.there (VS.there (VS.there (VS.there (VS.there (VS.there (VS.there (VS.there (VS.here)))))))))))))))))) ?_
    refine Wk.aload (q := 304) at_302 rfl rfl (by first | rfl | assumption) ?_
    refine Wk.iload (q := 306) at_304 rfl rfl ?_
    refine Wk.bipush (q := 308) (12) at_306 rfl (by decide) ?_
    refine Wk.iadd (q := 309) at_308 rfl ?_
    refine Wk.bipush (q := 311) (105) at_309 rfl (by decide) ?_
    refine Wk.castore (q := 312) (18) at_311 rfl (by repeat (first | exact Ex.here | assumption | apply Ex.there)) (by decide) (by decide) (by rfl) (VS.there (VS.there (VS.there (VS.there (VS.there (VS.there (VS.there (VS.there (VS.there (VS.there (VS.there (VS.there (VS.there (VS.there (VS.there (VS.there (VS.there (VS.there (VS.here))))))))))))))))))) ?_
    refine Wk.aload (q := 314) at_312 rfl rfl (by first | rfl | assumption) ?_
    refine Wk.iload (q := 316) at_314 rfl rfl ?_
    refine Wk.bipush (q := 318) (13) at_316 rfl (by decide) ?_
    refine Wk.iadd (q := 319) at_318 rfl ?_
    refine Wk.bipush (q := 321) (118) at_319 rfl (by decide) ?_
    refine Wk.castore (q := 322) (19) at_321 rfl (by repeat (first | exact Ex.here | assumption | apply Ex.there)) (by decide) (by decide) (by rfl) (VS.there (VS.there (VS.there (VS.there (VS.there (VS.there (VS.there (VS.there (VS.there (VS.there (VS.there (VS.there (VS.there (VS.there (VS.there (VS.there (VS.there (VS.there (VS.there (VS.here)))))))))))))))))))) ?_
    refine Wk.aload (q := 324) at_322 rfl rfl (by first | rfl | assumption) ?_
    refine Wk.iload (q := 326) at_324 rfl rfl ?_
    refine Wk.bipush (q := 328) (14) at_326 rfl (by decide) ?_
    refine Wk.iadd (q := 329) at_328 rfl ?_
    refine Wk.bipush (q := 331) (101) at_329 rfl (by decide) ?_
    refine Wk.castore (q := 332) (20) at_331 rfl (by repeat (first | exact Ex.here | assumption | apply Ex.there)) (by decide) (by decide) (by rfl) (VS.there (VS.there (VS.there (VS.there (VS.there (VS.there (VS.there (VS.there (VS.there (VS.there (VS.there (VS.there (VS.there (VS.there (VS.there (VS.there (VS.there (VS.there (VS.there (VS.there (VS.here))))))))))))))))))))) ?_
    refine Wk.aload (q := 334) at_332 rfl rfl (by first | rfl | assumption) ?_
    refine Wk.iload (q := 336) at_334 rfl rfl ?_
    refine Wk.bipush (q := 338) (15) at_336 rfl (by decide) ?_
    refine Wk.iadd (q := 339) at_338 rfl ?_
    refine Wk.bipush (q := 341) (110) at_339 rfl (by decide) ?_
    refine Wk.castore (q := 342) (21) at_341 rfl (by repeat (first | exact Ex.here | assumption | apply Ex.there)) (by decide) (by decide) (by rfl) (VS.there (VS.there (VS.there (VS.there (VS.there (VS.there (VS.there (VS.there (VS.there (VS.there (VS.there (VS.there (VS.there (VS.there (VS.there (VS.there (VS.there (VS.there (VS.there (VS.there (VS.there (VS.here)))))))))))))))))))))) ?_
    refine Wk.aload (q := 344) at_342 rfl rfl (by first | rfl | assumption) ?_
    refine Wk.iload (q := 346) at_344 rfl rfl ?_
    refine Wk.bipush (q := 348) (16) at_346 rfl (by decide) ?_
    refine Wk.iadd (q := 349) at_348 rfl ?_
    refine Wk.bipush (q := 351) (32) at_349 rfl (by decide) ?_
    refine Wk.castore (q := 352) (22) at_351 rfl (by repeat (first | exact Ex.here | assumption | apply Ex.there)) (by decide) (by decide) (by rfl) (VS.there (VS.there (VS.there (VS.there (VS.there (VS.there (VS.there (VS.there (VS.there (VS.there (VS.there (VS.there (VS.there (VS.there (VS.there (VS.there (VS.there (VS.there (VS.there (VS.there (VS.there (VS.there (VS.here))))))))))))))))))))))) ?_
    refine Wk.aload (q := 354) at_352 rfl rfl (by first | rfl | assumption) ?_
    refine Wk.iload (q := 356) at_354 rfl rfl ?_
    refine Wk.bipush (q := 358) (17) at_356 rfl (by decide) ?_
    refine Wk.iadd (q := 359) at_358 rfl ?_
    refine Wk.bipush (q := 361) (116) at_359 rfl (by decide) ?_
    refine Wk.castore (q := 362) (23) at_361 rfl (by repeat (first | exact Ex.here | assumption | apply Ex.there)) (by decide) (by decide) (by rfl) (VS.there (VS.there (VS.there (VS.there (VS.there (VS.there (VS.there (VS.there (VS.there (VS.there (VS.there (VS.there (VS.there (VS.there (VS.there (VS.there (VS.there (VS.there (VS.there (VS.there (VS.there (VS.there (VS.there (VS.here)))))))))))))))))))))))) ?_
    refine Wk.aload (q := 364) at_362 rfl rfl (by first | rfl | assumption) ?_
    refine Wk.iload (q := 366) at_364 rfl rfl ?_
    refine Wk.bipush (q := 368) (18) at_366 rfl (by decide) ?_
    refine Wk.iadd (q := 369) at_368 rfl ?_
    refine Wk.bipush (q := 371) (111) at_369 rfl (by decide) ?_
    refine Wk.castore (q := 372) (24) at_371 rfl (by repeat (first | exact Ex.here | assumption | apply Ex.there)) (by decide) (by decide) (by rfl) (VS.there (VS.there (VS.there (VS.there (VS.there (VS.there (VS.there (VS.there (VS.there (VS.there (VS.there (VS.there (VS.there (VS.there (VS.there (VS.there (VS.there (VS.there (VS.there (VS.there (VS.there (VS.there (VS.there (VS.there (VS.here))))))))))))))))))))))))) ?_
    refine Wk.aload (q := 374) at_372 rfl rfl (by first | rfl | assumption) ?_
    refine Wk.iload (q := 376) at_374 rfl rfl ?_
    refine Wk.bipush (q := 378) (19) at_376 rfl (by decide) ?_
    refine Wk.iadd (q := 379) at_378 rfl ?_
    refine Wk.bipush (q := 381) (103) at_379 rfl (by decide) ?_
    refine Wk.castore (q := 382) (25) at_381 rfl (by repeat (first | exact Ex.here | assumption | apply Ex.there)) (by decide) (by decide) (by rfl) (VS.there (VS.there (VS.there (VS.there (VS.there (VS.there (VS.there (VS.there (VS.there (VS.there (VS.there (VS.there (VS.there (VS.there (VS.there (VS.there (VS.there (VS.there (VS.there (VS.there (VS.there (VS.there (VS.there (VS.there (VS.there (VS.here)))))))))))))))))))))))))) ?_
    refine Wk.aload (q := 384) at_382 rfl rfl (by first | rfl | assumption) ?_
    refine Wk.iload (q := 386) at_384 rfl rfl ?_
    refine Wk.bipush (q := 388) (20) at_386 rfl (by decide) ?_
    refine Wk.iadd (q := 389) at_388 rfl ?_
    refine Wk.bipush (q := 391) (101) at_389 rfl (by decide) ?_
    refine Wk.castore (q := 392) (26) at_391 rfl (by repeat (first | exact Ex.here | assumption | apply Ex.there)) (by decide) (by decide) (by rfl) (VS.there (VS.there (VS.there (VS.there (VS.there (VS.there (VS.there (VS.there (VS.there (VS.there (VS.there (VS.there (VS.there (VS.there (VS.there (VS.there (VS.there (VS.there (VS.there (VS.there (VS.there (VS.there (VS.there (VS.there (VS.there (VS.there (VS.here))))))))))))))))))))))))))) ?_
    refine Wk.aload (q := 394) at_392 rfl rfl (by first | rfl | assumption) ?_
    refine Wk.iload (q := 396) at_394 rfl rfl ?_
    refine Wk.bipush (q := 398) (21) at_396 rfl (by decide) ?_
    refine Wk.iadd (q := 399) at_398 rfl ?_
    refine Wk.bipush (q := 401) (116) at_399 rfl (by decide) ?_
    refine Wk.castore (q := 402) (27) at_401 rfl (by repeat (first | exact Ex.here | assumption | apply Ex.there)) (by decide) (by decide) (by rfl) (VS.there (VS.there (VS.there (VS.there (VS.there (VS.there (VS.there (VS.there (VS.there (VS.there (VS.there (VS.there (VS.there (VS.there (VS.there (VS.there (VS.there (VS.there (VS.there (VS.there (VS.there (VS.there (VS.there (VS.there (VS.there (VS.there (VS.there (VS.here)))))))))))))))))))))))))))) ?_
    refine Wk.aload (q := 404) at_402 rfl rfl (by first | rfl | assumption) ?_
    refine Wk.iload (q := 406) at_404 rfl rfl ?_
    refine Wk.bipush (q := 408) (22) at_406 rfl (by decide) ?_
    refine Wk.iadd (q := 409) at_408 rfl ?_
    refine Wk.bipush (q := 411) (104) at_409 rfl (by decide) ?_
    refine Wk.castore (q := 412) (28) at_411 rfl (by repeat (first | exact Ex.here | assumption | apply Ex.there)) (by decide) (by decide) (by rfl) (VS.there (VS.there (VS.there (VS.there (VS.there (VS.there (VS.there (VS.there (VS.there (VS.there (VS.there (VS.there (VS.there (VS.there (VS.there (VS.there (VS.there (VS.there (VS.there (VS.there (VS.there (VS.there (VS.there (VS.there (VS.there (VS.there (VS.there (VS.there (VS.here))))))))))))))))))))))))))))) ?_
    refine Wk.aload (q := 414) at_412 rfl rfl (by first | rfl | assumption) ?_
    refine Wk.iload (q := 416) at_414 rfl rfl ?_
    refine Wk.bipush (q := 418) (23) at_416 rfl (by decide) ?_
    refine Wk.iadd (q := 419) at_418 rfl ?_
    refine Wk.bipush (q := 421) (101) at_419 rfl (by decide) ?_
    refine Wk.castore (q := 422) (29) at_421 rfl (by repeat (first | exact Ex.here | assumption | apply Ex.there)) (by decide) (by decide) (by rfl) (VS.there (VS.there (VS.there (VS.there (VS.there (VS.there (VS.there (VS.there (VS.there (VS.there (VS.there (VS.there (VS.there (VS.there (VS.there (VS.there (VS.there (VS.there (VS.there (VS.there (VS.there (VS.there (VS.there (VS.there (VS.there (VS.there (VS.there (VS.there (VS.there (VS.here)))))))))))))))))))))))))))))) ?_
    refine Wk.aload (q := 424) at_422 rfl rfl (by first | rfl | assumption) ?_
    refine Wk.iload (q := 426) at_424 rfl rfl ?_
    refine Wk.bipush (q := 428) (24) at_426 rfl (by decide) ?_
    refine Wk.iadd (q := 429) at_428 rfl ?_
    refine Wk.bipush (q := 431) (114) at_429 rfl (by decide) ?_
    refine Wk.castore (q := 432) (30) at_431 rfl (by repeat (first | exact Ex.here | assumption | apply Ex.there)) (by decide) (by decide) (by rfl) (VS.there (VS.there (VS.there (VS.there (VS.there (VS.there (VS.there (VS.there (VS.there (VS.there (VS.there (VS.there (VS.there (VS.there (VS.there (VS.there (VS.there (VS.there (VS.there (VS.there (VS.there (VS.there (VS.there (VS.there (VS.there (VS.there (VS.there (VS.there (VS.there (VS.there (VS.here))))))))))))))))))))))))))))))) ?_
    refine Wk.new (q := 435) at_432 rfl (hw _ (List.mem_of_getElem? (i := 4) rfl)) (hw _ (List.mem_of_getElem? (i := 5) rfl)) (hw _ (List.mem_of_getElem? (i := 6) rfl)) (layS_ok hw) layS_dv (by first | decide | (dsimp only; omega) | omega) (by first | decide | (dsimp only; omega) | omega) ?_
    intro es
    refine Wk.dup (q := 436) at_435 rfl rfl ?_
    refine Wk.aload (q := 438) at_436 rfl rfl (by first | rfl | assumption) ?_
    refine Wk.pull (o := (es, true, OB Z "java/lang/String" layS [.null, .int 0])) (by repeat (first | exact Ex.here | assumption | apply Ex.there)) ?_
    refine Wk.special (q := 441) [_] _ 1 at_438 rfl rfl (hw _ (List.mem_of_getElem? (i := 8) rfl)) (hw _ (List.mem_of_getElem? (i := 9) rfl)) (hw _ (List.mem_of_getElem? (i := 6) rfl)) (hw _ (List.mem_of_getElem? (i := 10) rfl)) ar_19 (by decide) rfl rfl rfl rfl (ct_strInitG hw hE F (cs := [m0, 32, 97, 110, 100, 32, 32, 99, 97, 110, 110, 111, 116, 32, 98, 101, 32, 103, 105, 118, 101, 110, 32, 116, 111, 103, 101, 116, 104, 101, 114]) (lat_cons h1 (lat_cons (by decide) (lat_cons (by decide) (lat_cons (by decide) (lat_cons (by decide) (lat_cons (by decide) (lat_cons (by decide) (lat_cons (by decide) (lat_cons (by decide) (lat_cons (by decide) (lat_cons (by decide) (lat_cons (by decide) (lat_cons (by decide) (lat_cons (by decide) (lat_cons (by decide) (lat_cons (by decide) (lat_cons (by decide) (lat_cons (by decide) (lat_cons (by decide) (lat_cons (by decide) (lat_cons (by decide) (lat_cons (by decide) (lat_cons (by decide) (lat_cons (by decide) (lat_cons (by decide) (lat_cons (by decide) (lat_cons (by decide) (lat_cons (by decide) (lat_cons (by decide) (lat_cons (by decide) (lat_cons (by decide) lat_nil))))))))))))))))))))))))))))))) 34 (by simp) (by simp) (by repeat (first | exact List.mem_cons_self | assumption | refine List.mem_cons_of_mem _ ?_))) (by first | decide | (dsimp only; omega) | omega) (by first | decide | (dsimp only; omega) | omega) (by first | decide | (dsimp only; omega) | omega) (by first | decide | (dsimp only; omega) | omega) (k0 ?_)
    rintro _ ⟨er, fer, rfl⟩
    refine Wk.astore (q := 443) at_441 rfl (by first | rfl | assumption) (LS1.there (LS1.there (LS1.there (LS1.there (LS1.there (LS1.there (LS1.there (LS1.there (LS1.there (LS1.there (LS1.there (LS1.there (LS1.there (LS1.there (LS1.here (by first | exact One.u | exact One.val rfl | assumption)))))))))))))))) ?_
    exact (fin _ ca es er true fer _ _ _ (by repeat (first | exact List.mem_cons_self | assumption | refine List.mem_cons_of_mem _ ?_)) (by repeat (first | exact List.mem_cons_self | assumption | refine List.mem_cons_of_mem _ ?_)) (by repeat (first | exact List.mem_cons_self | assumption | refine List.mem_cons_of_mem _ ?_)) (by repeat (first | exact List.mem_cons_self | assumption | refine List.mem_cons_of_mem _ ?_)) (by repeat (first | exact List.mem_cons_self | assumption | refine List.mem_cons_of_mem _ ?_)) (by repeat (first | exact List.mem_cons_self | assumption | refine List.mem_cons_of_mem _ ?_))).mono (by decide) (by decide)
  · refine Wk.iload_n (q := 77) at_76 rfl rfl ?_
    refine Wk.iload_n (q := 78) at_77 rfl rfl ?_
    refine Wk.iadd (q := 79) at_78 rfl ?_
    refine Wk.bipush (q := 81) (30) at_79 rfl (by decide) ?_
    refine Wk.iadd (q := 82) at_81 rfl ?_
    refine Wk.newarray (q := 84) .char (32) [(.int 0), (.int 0), (.int 0), (.int 0), (.int 0), (.int 0), (.int 0), (.int 0), (.int 0), (.int 0), (.int 0), (.int 0), (.int 0), (.int 0), (.int 0), (.int 0), (.int 0), (.int 0), (.int 0), (.int 0), (.int 0), (.int 0), (.int 0), (.int 0), (.int 0), (.int 0), (.int 0), (.int 0), (.int 0), (.int 0), (.int 0), (.int 0)] at_82 rfl rfl rfl (hw _ (List.mem_of_getElem? (i := 7) rfl)) (by decide) (by decide) (by decide) (by first | decide | (dsimp only; omega) | omega) (by first | decide | (dsimp only; omega) | omega) ?_
    intro ca
    refine Wk.astore (q := 86) at_84 rfl (by first | rfl | assumption) (LS1.there (LS1.there (LS1.there (LS1.there (LS1.there (LS1.there (LS1.there (LS1.there (LS1.there (LS1.there (LS1.here (by first | exact One.u | exact One.val rfl | assumption)))))))))))) ?_
    refine Wk.iload_n (q := 87) at_86 rfl rfl ?_
    refine Wk.if_f (q := 90) at_87 rfl (by decide) ?_
    refine Wk.aload (q := 92) at_90 rfl rfl (by first | rfl | assumption) ?_
    refine Wk.iconst (q := 93) (0) at_92 rfl (by decide) ?_
    refine Wk.iload (q := 95) at_93 rfl rfl ?_
    refine Wk.castore (q := 96) (0) at_95 rfl (by repeat (first | exact Ex.here | assumption | apply Ex.there)) (by decide) (by decide) (nchar_lat h1) (VS.here) ?_
    refine Wk.iload_n (q := 97) at_96 rfl rfl ?_
    refine Wk.iconst (q := 98) (1) at_97 rfl (by decide) ?_
    refine Wk.icmp_t (q := 107) at_98 (by decide) (by decide) (by decide) ?_
    refine Wk.iload_n (q := 108) at_107 rfl rfl ?_
    refine Wk.istore (q := 110) at_108 rfl (LS1.there (LS1.there (LS1.there (LS1.there (LS1.there (LS1.there (LS1.there (LS1.there (LS1.there (LS1.there (LS1.there (LS1.here (by first | exact One.u | exact One.val rfl | assumption))))))))))))) ?_
    refine Wk.aload (q := 112) at_110 rfl rfl (by first | rfl | assumption) ?_
    refine Wk.iload (q := 114) at_112 rfl rfl ?_
    refine Wk.bipush (q := 116) (32) at_114 rfl (by decide) ?_
    refine Wk.castore (q := 117) (1) at_116 rfl (by repeat (first | exact Ex.here | assumption | apply Ex.there)) (by decide) (by decide) (by rfl) (VS.there (VS.here)) ?_
    refine Wk.aload (q := 119) at_117 rfl rfl (by first | rfl | assumption) ?_
    refine Wk.iload (q := 121) at_119 rfl rfl ?_
    refine Wk.iconst (q := 122) (1) at_121 rfl (by decide) ?_
    refine Wk.iadd (q := 123) at_122 rfl ?_
    refine Wk.bipush (q := 125) (97) at_123 rfl (by decide) ?_
    refine Wk.castore (q := 126) (2) at_125 rfl (by repeat (first | exact Ex.here | assumption | apply Ex.there)) (by decide) (by decide) (by rfl) (VS.there (VS.there (VS.here))) ?_
    refine Wk.aload (q := 128) at_126 rfl rfl (by first | rfl | assumption) ?_
    refine Wk.iload (q := 130) at_128 rfl rfl ?_
    refine Wk.iconst (q := 131) (2) at_130 rfl (by decide) ?_
    refine Wk.iadd (q := 132) at_131 rfl ?_
    refine Wk.bipush (q := 134) (110) at_132 rfl (by decide) ?_
    refine Wk.castore (q := 135) (3) at_134 rfl (by repeat (first | exact Ex.here | assumption | apply Ex.there)) (by decide) (by decide) (by rfl) (VS.there (VS.there (VS.there (VS.here)))) ?_
    refine Wk.aload (q := 137) at_135 rfl rfl (by first | rfl | assumption) ?_
    refine Wk.iload (q := 139) at_137 rfl rfl ?_
    refine Wk.iconst (q := 140) (3) at_139 rfl (by decide) ?_
    refine Wk.iadd (q := 141) at_140 rfl ?_
    refine Wk.bipush (q := 143) (100) at_141 rfl (by decide) ?_
    refine Wk.castore (q := 144) (4) at_143 rfl (by repeat (first | exact Ex.here | assumption | apply Ex.there)) (by decide) (by decide) (by rfl) (VS.there (VS.there (VS.there (VS.there (VS.here))))) ?_
    refine Wk.aload (q := 146) at_144 rfl rfl (by first | rfl | assumption) ?_
    refine Wk.iload (q := 148) at_146 rfl rfl ?_
    refine Wk.iconst (q := 149) (4) at_148 rfl (by decide) ?_
    refine Wk.iadd (q := 150) at_149 rfl ?_
    refine Wk.bipush (q := 152) (32) at_150 rfl (by decide) ?_
    refine Wk.castore (q := 153) (5) at_152 rfl (by repeat (first | exact Ex.here | assumption | apply Ex.there)) (by decide) (by decide) (by rfl) (VS.there (VS.there (VS.there (VS.there (VS.there (VS.here)))))) ?_
    refine Wk.iload (q := 155) at_153 rfl rfl ?_
    refine Wk.iconst (q := 156) (5) at_155 rfl (by decide) ?_
    refine Wk.iadd (q := 157) at_156 rfl ?_
    refine Wk.istore (q := 159) at_157 rfl (LS1.there (LS1.there (LS1.there (LS1.there (LS1.there (LS1.there (LS1.there (LS1.there (LS1.there (LS1.there (LS1.there (LS1.there (LS1.here (by first | exact One.u | exact One.val rfl | assumption)))))))))))))) ?_
    refine Wk.iload_n (q := 160) at_159 rfl rfl ?_
    refine Wk.if_f (q := 163) at_160 rfl (by decide) ?_
    refine Wk.aload (q := 165) at_163 rfl rfl (by first | rfl | assumption) ?_
    refine Wk.iload (q := 167) at_165 rfl rfl ?_
    refine Wk.iload (q := 169) at_167 rfl rfl ?_
    refine Wk.castore (q := 170) (6) at_169 rfl (by repeat (first | exact Ex.here | assumption | apply Ex.there)) (by decide) (by decide) (nchar_lat h3) (VS.there (VS.there (VS.there (VS.there (VS.there (VS.there (VS.here))))))) ?_
    refine Wk.iload_n (q := 171) at_170 rfl rfl ?_
    refine Wk.iconst (q := 172) (1) at_171 rfl (by decide) ?_
    refine Wk.icmp_t (q := 184) at_172 (by decide) (by decide) (by decide) ?_
    refine Wk.iload (q := 186) at_184 rfl rfl ?_
    refine Wk.iload_n (q := 187) at_186 rfl rfl ?_
    refine Wk.iadd (q := 188) at_187 rfl ?_
    refine Wk.istore (q := 190) at_188 rfl (LS1.there (LS1.there (LS1.there (LS1.there (LS1.there (LS1.there (LS1.there (LS1.there (LS1.there (LS1.there (LS1.there (LS1.there (LS1.there (LS1.here (by first | exact One.u | exact One.val rfl | assumption))))))))))))))) ?_
    refine Wk.aload (q := 192) at_190 rfl rfl (by first | rfl | assumption) ?_
    refine Wk.iload (q := 194) at_192 rfl rfl ?_
    refine Wk.bipush (q := 196) (32) at_194 rfl (by decide) ?_
    refine Wk.castore (q := 197) (7) at_196 rfl (by repeat (first | exact Ex.here | assumption | apply Ex.there)) (by decide) (by decide) (by rfl) (VS.there (VS.there (VS.there (VS.there (VS.there (VS.there (VS.there (VS.here)))))))) ?_
    refine Wk.aload (q := 199) at_197 rfl rfl (by first | rfl | assumption) ?_
    refine Wk.iload (q := 201) at_199 rfl rfl ?_
    refine Wk.iconst (q := 202) (1) at_201 rfl (by decide) ?_
    refine Wk.iadd (q := 203) at_202 rfl ?_
    refine Wk.bipush (q := 205) (99) at_203 rfl (by decide) ?_
    refine Wk.castore (q := 206) (8) at_205 rfl (by repeat (first | exact Ex.here | assumption | apply Ex.there)) (by decide) (by decide) (by rfl) (VS.there (VS.there (VS.there (VS.there (VS.there (VS.there (VS.there (VS.there (VS.here))))))))) ?_
    refine Wk.aload (q := 208) at_206 rfl rfl (by first | rfl | assumption) ?_
    refine Wk.iload (q := 210) at_208 rfl rfl ?_
    refine Wk.iconst (q := 211) (2) at_210 rfl (by decide) ?_
    refine Wk.iadd (q := 212) at_211 rfl ?_
    refine Wk.bipush (q := 214) (97) at_212 rfl (by decide) ?_
    refine Wk.castore (q := 215) (9) at_214 rfl (by repeat (first | exact Ex.here | assumption | apply Ex.there)) (by decide) (by decide) (by rfl) (VS.there (VS.there (VS.there (VS.there (VS.there (VS.there (VS.there (VS.there (VS.there (VS.here)))))))))) ?_
    refine Wk.aload (q := 217) at_215 rfl rfl (by first | rfl | assumption) ?_
    refine Wk.iload (q := 219) at_217 rfl rfl ?_
    refine Wk.iconst (q := 220) (3) at_219 rfl (by decide) ?_
    refine Wk.iadd (q := 221) at_220 rfl ?_
    refine Wk.bipush (q := 223) (110) at_221 rfl (by decide) ?_
    refine Wk.castore (q := 224) (10) at_223 rfl (by repeat (first | exact Ex.here | assumption | apply Ex.there)) (by decide) (by decide) (by rfl) (VS.there (VS.there (VS.there (VS.there (VS.there (VS.there (VS.there (VS.there (VS.there (VS.there (VS.here))))))))))) ?_
    refine Wk.aload (q := 226) at_224 rfl rfl (by first | rfl | assumption) ?_
    refine Wk.iload (q := 228) at_226 rfl rfl ?_
    refine Wk.iconst (q := 229) (4) at_228 rfl (by decide) ?_
    refine Wk.iadd (q := 230) at_229 rfl ?_
    refine Wk.bipush (q := 232) (110) at_230 rfl (by decide) ?_
    refine Wk.castore (q := 233) (11) at_232 rfl (by repeat (first | exact Ex.here | assumption | apply Ex.there)) (by decide) (by decide) (by rfl) (VS.there (VS.there (VS.there (VS.there (VS.there (VS.there (VS.there (VS.there (VS.there (VS.there (VS.there (VS.here)))))))))))) ?_
    refine Wk.aload (q := 235) at_233 rfl rfl (by first | rfl | assumption) ?_
    refine Wk.iload (q := 237) at_235 rfl rfl ?_
    refine Wk.iconst (q := 238) (5) at_237 rfl (by decide) ?_
    refine Wk.iadd (q := 239) at_238 rfl ?_
    refine Wk.bipush (q := 241) (111) at_239 rfl (by decide) ?_
    refine Wk.castore (q := 242) (12) at_241 rfl (by repeat (first | exact Ex.here | assumption | apply Ex.there)) (by decide) (by decide) (by rfl) (VS.there (VS.there (VS.there (VS.there (VS.there (VS.there (VS.there (VS.there (VS.there (VS.there (VS.there (VS.there (VS.here))))))))))))) ?_
    refine Wk.aload (q := 244) at_242 rfl rfl (by first | rfl | assumption) ?_
    refine Wk.iload (q := 246) at_244 rfl rfl ?_
    refine Wk.bipush (q := 248) (6) at_246 rfl (by decide) ?_
    refine Wk.iadd (q := 249) at_248 rfl ?_
    refine Wk.bipush (q := 251) (116) at_249 rfl (by decide) ?_
    refine Wk.castore (q := 252) (13) at_251 rfl (by repeat (first | exact Ex.here | assumption | apply Ex.there)) (by decide) (by decide) (by rfl) (VS.there (VS.there (VS.there (VS.there (VS.there (VS.there (VS.there (VS.there (VS.there (VS.there (VS.there (VS.there (VS.there (VS.here)))))))))))))) ?_
    refine Wk.aload (q := 254) at_252 rfl rfl (by first | rfl | assumption) ?_
    refine Wk.iload (q := 256) at_254 rfl rfl ?_
    refine Wk.bipush (q := 258) (7) at_256 rfl (by decide) ?_
    refine Wk.iadd (q := 259) at_258 rfl ?_
    refine Wk.bipush (q := 261) (32) at_259 rfl (by decide) ?_
    refine Wk.castore (q := 262) (14) at_261 rfl (by repeat (first | exact Ex.here | assumption | apply Ex.there)) (by decide) (by decide) (by rfl) (VS.there (VS.there (VS.there (VS.there (VS.there (VS.there (VS.there (VS.there (VS.there (VS.there (VS.there (VS.there (VS.there (VS.there (VS.here))))))))))))))) ?_
    refine Wk.aload (q := 264) at_262 rfl rfl (by first | rfl | assumption) ?_
    refine Wk.iload (q := 266) at_264 rfl rfl ?_
    refine Wk.bipush (q := 268) (8) at_266 rfl (by decide) ?_
    refine Wk.iadd (q := 269) at_268 rfl ?_
    refine Wk.bipush (q := 271) (98) at_269 rfl (by decide) ?_
    refine Wk.castore (q := 272) (15) at_271 rfl (by repeat (first | exact Ex.here | assumption | apply Ex.there)) (by decide) (by decide) (by rfl) (VS.there (VS.there (VS.there (VS.there (VS.there (VS.there (VS.there (VS.there (VS.there (VS.there (VS.there (VS.there (VS.there (VS.there (VS.there (VS.here)))))))))))))))) ?_
    refine Wk.aload (q := 274) at_272 rfl rfl (by first | rfl | assumption) ?_
    refine Wk.iload (q := 276) at_274 rfl rfl ?_
    refine Wk.bipush (q := 278) (9) at_276 rfl (by decide) ?_
    refine Wk.iadd (q := 279) at_278 rfl ?_
    refine Wk.bipush (q := 281) (101) at_279 rfl (by decide) ?_
    refine Wk.castore (q := 282) (16) at_281 rfl (by repeat (first | exact Ex.here | assumption | apply Ex.there)) (by decide) (by decide) (by rfl) (VS.there (VS.there (VS.there (VS.there (VS.there (VS.there (VS.there (VS.there (VS.there (VS.there (VS.there (VS.there (VS.there (VS.there (VS.there (VS.there (VS.here))))))))))))))))) ?_
    refine Wk.aload (q := 284) at_282 rfl rfl (by first | rfl | assumption) ?_
    refine Wk.iload (q := 286) at_284 rfl rfl ?_
    refine Wk.bipush (q := 288) (10) at_286 rfl (by decide) ?_
    refine Wk.iadd (q := 289) at_288 rfl ?_
    refine Wk.bipush (q := 291) (32) at_289 rfl (by decide) ?_
    refine Wk.castore (q := 292) (17) at_291 rfl (by repeat (first | exact Ex.here | assumption | apply Ex.there)) (by decide) (by decide) (by rfl) (VS.there (VS.there (VS.there (VS.there (VS.there (VS.there (VS.there (VS.there (VS.there (VS.there (VS.there (VS.there (VS.there (VS.there (VS.there (VS.there (VS.there (VS.here)))))))))))))))))) ?_
    refine Wk.aload (q := 294) at_292 rfl rfl (by first | rfl | assumption) ?_
    refine Wk.iload (q := 296) at_294 rfl rfl ?_
    refine Wk.bipush (q := 298) (11) at_296 rfl (by decide) ?_
    refine Wk.iadd (q := 299) at_298 rfl ?_
    refine Wk.bipush (q := 301) (103) at_299 rfl (by decide) ?_
    refine Wk.castore (q := 302) (18) at_301 rfl (by repeat (first | exact Ex.here | assumption | apply Ex.there)) (by decide) (by decide) (by rfl) (VS.there (VS.there (VS.there (VS.there (VS.there (VS.there (VS.there (VS.there (VS.there (VS.there (VS.there (VS.there (VS.there (VS.there (VS.there (VS.there (VS.there (VS.there (VS.here))))))))))))))))))) ?_
    refine Wk.aload (q := 304) at_302 rfl rfl (by first | rfl | assumption) ?_
    refine Wk.iload (q := 306) at_304 rfl rfl ?_
    refine Wk.bipush (q := 308) (12) at_306 rfl (by decide) ?_
    refine Wk.iadd (q := 309) at_308 rfl ?_
    refine Wk.bipush (q := 311) (105) at_309 rfl (by decide) ?_
    refine Wk.castore (q := 312) (19) at_311 rfl (by repeat (first | exact Ex.here | assumption | apply Ex.there)) (by decide) (by decide) (by rfl) (VS.there (VS.there (VS.there (VS.there (VS.there (VS.there (VS.there (VS.there (VS.there (VS.there (VS.there (VS.there (VS.there (VS.there (VS.there (VS.there (VS.there (VS.there (VS.there (VS.here)))))))))))))))))))) ?_
    refine Wk.aload (q := 314) at_312 rfl rfl (by first | rfl | assumption) ?_
    refine Wk.iload (q := 316) at_314 rfl rfl ?_
    refine Wk.bipush (q := 318) (13) at_316 rfl (by decide) ?_
    refine Wk.iadd (q := 319) at_318 rfl ?_
    refine Wk.bipush (q := 321) (118) at_319 rfl (by decide) ?_
    refine Wk.castore (q := 322) (20) at_321 rfl (by repeat (first | exact Ex.here | assumption | apply Ex.there)) (by decide) (by decide) (by rfl) (VS.there (VS.there (VS.there (VS.there (VS.there (VS.there (VS.there (VS.there (VS.there (VS.there (VS.there (VS.there (VS.there (VS.there (VS.there (VS.there (VS.there (VS.there (VS.there (VS.there (VS.here))))))))))))))))))))) ?_
    refine Wk.aload (q := 324) at_322 rfl rfl (by first | rfl | assumption) ?_
    refine Wk.iload (q := 326) at_324 rfl rfl ?_
    refine Wk.bipush (q := 328) (14) at_326 rfl (by decide) ?_
    refine Wk.iadd (q := 329) at_328 rfl ?_
    refine Wk.bipush (q := 331) (101) at_329 rfl (by decide) ?_
    refine Wk.castore (q := 332) (21) at_331 rfl (by repeat (first | exact Ex.here | assumption | apply Ex.there)) (by decide) (by decide) (by rfl) (VS.there (VS.there (VS.there (VS.there (VS.there (VS.there (VS.there (VS.there (VS.there (VS.there (VS.there (VS.there (VS.there (VS.there (VS.there (VS.there (VS.there (VS.there (VS.there (VS.there (VS.there (VS.here)))))))))))))))))))))) ?_
    refine Wk.aload (q := 334) at_332 rfl rfl (by first | rfl | assumption) ?_
    refine Wk.iload (q := 336) at_334 rfl rfl ?_
    refine Wk.bipush (q := 338) (15) at_336 rfl (by decide) ?_
    refine Wk.iadd (q := 339) at_338 rfl ?_
    refine Wk.bipush (q := 341) (110) at_339 rfl (by decide) ?_
    refine Wk.castore (q := 342) (22) at_341 rfl (by repeat (first | exact Ex.here | assumption | apply Ex.there)) (by decide) (by decide) (by rfl) (VS.there (VS.there (VS.there (VS.there (VS.there (VS.there (VS.there (VS.there (VS.there (VS.there (VS.there (VS.there (VS.there (VS.there (VS.there (VS.there (VS.there (VS.there (VS.there (VS.there (VS.there (VS.there (VS.here))))))))))))))))))))))) ?_
    refine Wk.aload (q := 344) at_342 rfl rfl (by first | rfl | assumption) ?_
    refine Wk.iload (q := 346) at_344 rfl rfl ?_
    refine Wk.bipush (q := 348) (16) at_346 rfl (by decide) ?_
    refine Wk.iadd (q := 349) at_348 rfl ?_
    refine Wk.bipush (q := 351) (32) at_349 rfl (by decide) ?_
    refine Wk.castore (q := 352) (23) at_351 rfl (by repeat (first | exact Ex.here | assumption | apply Ex.there)) (by decide) (by decide) (by rfl) (VS.there (VS.there (VS.there (VS.there (VS.there (VS.there (VS.there (VS.there (VS.there (VS.there (VS.there (VS.there (VS.there (VS.there (VS.there (VS.there (VS.there (VS.there (VS.there (VS.there (VS.there (VS.there (VS.there (VS.here)))))))))))))))))))))))) ?_
    refine Wk.aload (q := 354) at_352 rfl rfl (by first | rfl | assumption) ?_
    refine Wk.iload (q := 356) at_354 rfl rfl ?_
    refine Wk.bipush (q := 358) (17) at_356 rfl (by decide) ?_
    refine Wk.iadd (q := 359) at_358 rfl ?_
    refine Wk.bipush (q := 361) (116) at_359 rfl (by decide) ?_
    refine Wk.castore (q := 362) (24) at_361 rfl (by repeat (first | exact Ex.here | assumption | apply Ex.there)) (by decide) (by decide) (by rfl) (VS.there (VS.there (VS.there (VS.there (VS.there (VS.there (VS.there (VS.there (VS.there (VS.there (VS.there (VS.there (VS.there (VS.there (VS.there (VS.there (VS.there (VS.there (VS.there (VS.there (VS.there (VS.there (VS.there (VS.there (VS.here))))))))))))))))))))))))) ?_
    refine Wk.aload (q := 364) at_362 rfl rfl (by first | rfl | assumption) ?_
    refine Wk.iload (q := 366) at_364 rfl rfl ?_
    refine Wk.bipush (q := 368) (18) at_366 rfl (by decide) ?_
    refine Wk.iadd (q := 369) at_368 rfl ?_
    refine Wk.bipush (q := 371) (111) at_369 rfl (by decide) ?_
    refine Wk.castore (q := 372) (25) at_371 rfl (by repeat (first | exact Ex.here | assumption | apply Ex.there)) (by decide) (by decide) (by rfl) (VS.there (VS.there (VS.there (VS.there (VS.there (VS.there (VS.there (VS.there (VS.there (VS.there (VS.there (VS.there (VS.there (VS.there (VS.there (VS.there (VS.there (VS.there (VS.there (VS.there (VS.there (VS.there (VS.there (VS.there (VS.there (VS.here)))))))))))))))))))))))))) ?_
    refine Wk.aload (q := 374) at_372 rfl rfl (by first | rfl | assumption) ?_
    refine Wk.iload (q := 376) at_374 rfl rfl ?_
    refine Wk.bipush (q := 378) (19) at_376 rfl (by decide) ?_
    refine Wk.iadd (q := 379) at_378 rfl ?_
    refine Wk.bipush (q := 381) (103) at_379 rfl (by decide) ?_
    refine Wk.castore (q := 382) (26) at_381 rfl (by repeat (first | exact Ex.here | assumption | apply Ex.there)) (by decide) (by decide) (by rfl) (VS.there (VS.there (VS.there (VS.there (VS.there (VS.there (VS.there (VS.there (VS.there (VS.there (VS.there (VS.there (VS.there (VS.there (VS.there (VS.there (VS.there (VS.there (VS.there (VS.there (VS.there (VS.there (VS.there (VS.there (VS.there (VS.there (VS.here))))))))))))))))))))))))))) ?_
    refine Wk.aload (q := 384) at_382 rfl rfl (by first | rfl | assumption) ?_
    refine Wk.iload (q := 386) at_384 rfl rfl ?_
    refine Wk.bipush (q := 388) (20) at_386 rfl (by decide) ?_
    refine Wk.iadd (q := 389) at_388 rfl ?_
    refine Wk.bipush (q := 391) (101) at_389 rfl (by decide) ?_
    refine Wk.castore (q := 392) (27) at_391 rfl (by repeat (first | exact Ex.here | assumption | apply Ex.there)) (by decide) (by decide) (by rfl) (VS.there (VS.there (VS.there (VS.there (VS.there (VS.there (VS.there (VS.there (VS.there (VS.there (VS.there (VS.there (VS.there (VS.there (VS.there (VS.there (VS.there (VS.there (VS.there (VS.there (VS.there (VS.there (VS.there (VS.there (VS.there (VS.there (VS.there (VS.here)))))))))))))))))))))))))))) ?_
    refine Wk.aload (q := 394) at_392 rfl rfl (by first | rfl | assumption) ?_
    refine Wk.iload (q := 396) at_394 rfl rfl ?_
    refine Wk.bipush (q := 398) (21) at_396 rfl (by decide) ?_
    refine Wk.iadd (q := 399) at_398 rfl ?_
    refine Wk.bipush (q := 401) (116) at_399 rfl (by decide) ?_
    refine Wk.castore (q := 402) (28) at_401 rfl (by repeat (first | exact Ex.here | assumption | apply Ex.there)) (by decide) (by decide) (by rfl) (VS.there (VS.there (VS.there (VS.there (VS.there (VS.there (VS.there (VS.there (VS.there (VS.there (VS.there (VS.there (VS.there (VS.there (VS.there (VS.there (VS.there (VS.there (VS.there (VS.there (VS.there (VS.there (VS.there (VS.there (VS.there (VS.there (VS.there (VS.there (VS.here))))))))))))))))))))))))))))) ?_
    refine Wk.aload (q := 404) at_402 rfl rfl (by first | rfl | assumption) ?_
    refine Wk.iload (q := 406) at_404 rfl rfl ?_
    refine Wk.bipush (q := 408) (22) at_406 rfl (by decide) ?_
    refine Wk.iadd (q := 409) at_408 rfl ?_
    refine Wk.bipush (q := 411) (104) at_409 rfl (by decide) ?_
    refine Wk.castore (q := 412) (29) at_411 rfl (by repeat (first | exact Ex.here | assumption | apply Ex.there)) (by decide) (by decide) (by rfl) (VS.there (VS.there (VS.there (VS.there (VS.there (VS.there (VS.there (VS.there (VS.there (VS.there (VS.there (VS.there (VS.there (VS.there (VS.there (VS.there (VS.there (VS.there (VS.there (VS.there (VS.there (VS.there (VS.there (VS.there (VS.there (VS.there (VS.there (VS.there (VS.there (VS.here)))))))))))))))))))))))))))))) ?_
    refine Wk.aload (q := 414) at_412 rfl rfl (by first | rfl | assumption) ?_
    refine Wk.iload (q := 416) at_414 rfl rfl ?_
    refine Wk.bipush (q := 418) (23) at_416 rfl (by decide) ?_
    refine Wk.iadd (q := 419) at_418 rfl ?_
    refine Wk.bipush (q := 421) (101) at_419 rfl (by decide) ?_
    refine Wk.castore (q := 422) (30) at_421 rfl (by repeat (first | exact Ex.here | assumption | apply Ex.there)) (by decide) (by decide) (by rfl) (VS.there (VS.there (VS.there (VS.there (VS.there (VS.there (VS.there (VS.there (VS.there (VS.there (VS.there (VS.there (VS.there (VS.there (VS.there (VS.there (VS.there (VS.there (VS.there (VS.there (VS.there (VS.there (VS.there (VS.there (VS.there (VS.there (VS.there (VS.there (VS.there (VS.there (VS.here))))))))))))))))))))))))))))))) ?_
    refine Wk.aload (q := 424) at_422 rfl rfl (by first | rfl | assumption) ?_
    refine Wk.iload (q := 426) at_424 rfl rfl ?_
    refine Wk.bipush (q := 428) (24) at_426 rfl (by decide) ?_
    refine Wk.iadd (q := 429) at_428 rfl ?_
    refine Wk.bipush (q := 431) (114) at_429 rfl (by decide) ?_
    refine Wk.castore (q := 432) (31) at_431 rfl (by repeat (first | exact Ex.here | assumption | apply Ex.there)) (by decide) (by decide) (by rfl) (VS.there (VS.there (VS.there (VS.there (VS.there (VS.there (VS.there (VS.there (VS.there (VS.there (VS.there (VS.there (VS.there (VS.there (VS.there (VS.there (VS.there (VS.there (VS.there (VS.there (VS.there (VS.there (VS.there (VS.there (VS.there (VS.there (VS.there (VS.there (VS.there (VS.there (VS.there (VS.here)))))))))))))))))))))))))))))))) ?_
    refine Wk.new (q := 435) at_432 rfl (hw _ (List.mem_of_getElem? (i := 4) rfl)) (hw _ (List.mem_of_getElem? (i := 5) rfl)) (hw _ (List.mem_of_getElem? (i := 6) rfl)) (layS_ok hw) layS_dv (by first | decide | (dsimp only; omega) | omega) (by first | decide | (dsimp only; omega) | omega) ?_
    intro es
    refine Wk.dup (q := 436) at_435 rfl rfl ?_
    refine Wk.aload (q := 438) at_436 rfl rfl (by first | rfl | assumption) ?_
    refine Wk.pull (o := (es, true, OB Z "java/lang/String" layS [.null, .int 0])) (by repeat (first | exact Ex.here | assumption | apply Ex.there)) ?_
    refine Wk.special (q := 441) [_] _ 1 at_438 rfl rfl (hw _ (List.mem_of_getElem? (i := 8) rfl)) (hw _ (List.mem_of_getElem? (i := 9) rfl)) (hw _ (List.mem_of_getElem? (i := 6) rfl)) (hw _ (List.mem_of_getElem? (i := 10) rfl)) ar_19 (by decide) rfl rfl rfl rfl (ct_strInitG hw hE F (cs := [m0, 32, 97, 110, 100, 32, n0, 32, 99, 97, 110, 110, 111, 116, 32, 98, 101, 32, 103, 105, 118, 101, 110, 32, 116, 111, 103, 101, 116, 104, 101, 114]) (lat_cons h1 (lat_cons (by decide) (lat_cons (by decide) (lat_cons (by decide) (lat_cons (by decide) (lat_cons (by decide) (lat_cons h3 (lat_cons (by decide) (lat_cons (by decide) (lat_cons (by decide) (lat_cons (by decide) (lat_cons (by decide) (lat_cons (by decide) (lat_cons (by decide) (lat_cons (by decide) (lat_cons (by decide) (lat_cons (by decide) (lat_cons (by decide) (lat_cons (by decide) (lat_cons (by decide) (lat_cons (by decide) (lat_cons (by decide) (lat_cons (by decide) (lat_cons (by decide) (lat_cons (by decide) (lat_cons (by decide) (lat_cons (by decide) (lat_cons (by decide) (lat_cons (by decide) (lat_cons (by decide) (lat_cons (by decide) (lat_cons (by decide) lat_nil)))))))))))))))))))))))))))))))) 34 (by simp) (by simp) (by repeat (first | exact List.mem_cons_self | assumption | refine List.mem_cons_of_mem _ ?_))) (by first | decide | (dsimp only; omega) | omega) (by first | decide | (dsimp only; omega) | omega) (by first | decide | (dsimp only; omega) | omega) (by first | decide | (dsimp only; omega) | omega) (k0 ?_)
    rintro _ ⟨er, fer, rfl⟩
    refine Wk.astore (q := 443) at_441 rfl (by first | rfl | assumption) (LS1.there (LS1.there (LS1.there (LS1.there (LS1.there (LS1.there (LS1.there (LS1.there (LS1.there (LS1.there (LS1.there (LS1.there (LS1.there (LS1.there (LS1.here (by first | exact One.u | exact One.val rfl | assumption)))))))))))))))) ?_
    exact (fin _ ca es er true fer _ _ _ (by repeat (first | exact List.mem_cons_self | assumption | refine List.mem_cons_of_mem _ ?_)) (by repeat (first | exact List.mem_cons_self | assumption | refine List.mem_cons_of_mem _ ?_)) (by repeat (first | exact List.mem_cons_self | assumption | refine List.mem_cons_of_mem _ ?_)) (by repeat (first | exact List.mem_cons_self | assumption | refine List.mem_cons_of_mem _ ?_)) (by repeat (first | exact List.mem_cons_self | assumption | refine List.mem_cons_of_mem _ ?_)) (by repeat (first | exact List.mem_cons_self | assumption | refine List.mem_cons_of_mem _ ?_))).mono (by decide) (by decide)
  · refine Wk.iload_n (q := 77) at_76 rfl rfl ?_
    refine Wk.iload_n (q := 78) at_77 rfl rfl ?_
    refine Wk.iadd (q := 79) at_78 rfl ?_
    refine Wk.bipush (q := 81) (30) at_79 rfl (by decide) ?_
    refine Wk.iadd (q := 82) at_81 rfl ?_
    refine Wk.newarray (q := 84) .char (33) [(.int 0), (.int 0), (.int 0), (.int 0), (.int 0), (.int 0), (.int 0), (.int 0), (.int 0), (.int 0), (.int 0), (.int 0), (.int 0), (.int 0), (.int 0), (.int 0), (.int 0), (.int 0), (.int 0), (.int 0), (.int 0), (.int 0), (.int 0), (.int 0), (.int 0), (.int 0), (.int 0), (.int 0), (.int 0), (.int 0), (.int 0), (.int 0), (.int 0)] at_82 rfl rfl rfl (hw _ (List.mem_of_getElem? (i := 7) rfl)) (by decide) (by decide) (by decide) (by first | decide | (dsimp only; omega) | omega) (by first | decide | (dsimp only; omega) | omega) ?_
    intro ca
    refine Wk.astore (q := 86) at_84 rfl (by first | rfl | assumption) (LS1.there (LS1.there (LS1.there (LS1.there (LS1.there (LS1.there (LS1.there (LS1.there (LS1.there (LS1.there (LS1.here (by first | exact One.u | exact One.val rfl | assumption)))))))))))) ?_
    refine Wk.iload_n (q := 87) at_86 rfl rfl ?_
    refine Wk.if_f (q := 90) at_87 rfl (by decide) ?_
    refine Wk.aload (q := 92) at_90 rfl rfl (by first | rfl | assumption) ?_
    refine Wk.iconst (q := 93) (0) at_92 rfl (by decide) ?_
    refine Wk.iload (q := 95) at_93 rfl rfl ?_
    refine Wk.castore (q := 96) (0) at_95 rfl (by repeat (first | exact Ex.here | assumption | apply Ex.there)) (by decide) (by decide) (nchar_lat h1) (VS.here) ?_
    refine Wk.iload_n (q := 97) at_96 rfl rfl ?_
    refine Wk.iconst (q := 98) (1) at_97 rfl (by decide) ?_
    refine Wk.icmp_t (q := 107) at_98 (by decide) (by decide) (by decide) ?_
    refine Wk.iload_n (q := 108) at_107 rfl rfl ?_
    refine Wk.istore (q := 110) at_108 rfl (LS1.there (LS1.there (LS1.there (LS1.there (LS1.there (LS1.there (LS1.there (LS1.there (LS1.there (LS1.there (LS1.there (LS1.here (by first | exact One.u | exact One.val rfl | assumption))))))))))))) ?_
    refine Wk.aload (q := 112) at_110 rfl rfl (by first | rfl | assumption) ?_
    refine Wk.iload (q := 114) at_112 rfl rfl ?_
    refine Wk.bipush (q := 116) (32) at_114 rfl (by decide) ?_
    refine Wk.castore (q := 117) (1) at_116 rfl (by repeat (first | exact Ex.here | assumption | apply Ex.there)) (by decide) (by decide) (by rfl) (VS.there (VS.here)) ?_
    refine Wk.aload (q := 119) at_117 rfl rfl (by first | rfl | assumption) ?_
    refine Wk.iload (q := 121) at_119 rfl rfl ?_
    refine Wk.iconst (q := 122) (1) at_121 rfl (by decide) ?_
    refine Wk.iadd (q := 123) at_122 rfl ?_
    refine Wk.bipush (q := 125) (97) at_123 rfl (by decide) ?_
    refine Wk.castore (q := 126) (2) at_125 rfl (by repeat (first | exact Ex.here | assumption | apply Ex.there)) (by decide) (by decide) (by rfl) (VS.there (VS.there (VS.here))) ?_
    refine Wk.aload (q := 128) at_126 rfl rfl (by first | rfl | assumption) ?_
    refine Wk.iload (q := 130) at_128 rfl rfl ?_
    refine Wk.iconst (q := 131) (2) at_130 rfl (by decide) ?_
    refine Wk.iadd (q := 132) at_131 rfl ?_
    refine Wk.bipush (q := 134) (110) at_132 rfl (by decide) ?_
    refine Wk.castore (q := 135) (3) at_134 rfl (by repeat (first | exact Ex.here | assumption | apply Ex.there)) (by decide) (by decide) (by rfl) (VS.there (VS.there (VS.there (VS.here)))) ?_
    refine Wk.aload (q := 137) at_135 rfl rfl (by first | rfl | assumption) ?_
    refine Wk.iload (q := 139) at_137 rfl rfl ?_
    refine Wk.iconst (q := 140) (3) at_139 rfl (by decide) ?_
    refine Wk.iadd (q := 141) at_140 rfl ?_
    refine Wk.bipush (q := 143) (100) at_141 rfl (by decide) ?_
    refine Wk.castore (q := 144) (4) at_143 rfl (by repeat (first | exact Ex.here | assumption | apply Ex.there)) (by decide) (by decide) (by rfl) (VS.there (VS.there (VS.there (VS.there (VS.here))))) ?_
    refine Wk.aload (q := 146) at_144 rfl rfl (by first | rfl | assumption) ?_
    refine Wk.iload (q := 148) at_146 rfl rfl ?_
    refine Wk.iconst (q := 149) (4) at_148 rfl (by decide) ?_
    refine Wk.iadd (q := 150) at_149 rfl ?_
    refine Wk.bipush (q := 152) (32) at_150 rfl (by decide) ?_
    refine Wk.castore (q := 153) (5) at_152 rfl (by repeat (first | exact Ex.here | assumption | apply Ex.there)) (by decide) (by decide) (by rfl) (VS.there (VS.there (VS.there (VS.there (VS.there (VS.here)))))) ?_
    refine Wk.iload (q := 155) at_153 rfl rfl ?_
    refine Wk.iconst (q := 156) (5) at_155 rfl (by decide) ?_
    refine Wk.iadd (q := 157) at_156 rfl ?_
    refine Wk.istore (q := 159) at_157 rfl (LS1.there (LS1.there (LS1.there (LS1.there (LS1.there (LS1.there (LS1.there (LS1.there (LS1.there (LS1.there (LS1.there (LS1.there (LS1.here (by first | exact One.u | exact One.val rfl | assumption)))))))))))))) ?_
    refine Wk.iload_n (q := 160) at_159 rfl rfl ?_
    refine Wk.if_f (q := 163) at_160 rfl (by decide) ?_
    refine Wk.aload (q := 165) at_163 rfl rfl (by first | rfl | assumption) ?_
    refine Wk.iload (q := 167) at_165 rfl rfl ?_
    refine Wk.iload (q := 169) at_167 rfl rfl ?_
    refine Wk.castore (q := 170) (6) at_169 rfl (by repeat (first | exact Ex.here | assumption | apply Ex.there)) (by decide) (by decide) (nchar_lat h3) (VS.there (VS.there (VS.there (VS.there (VS.there (VS.there (VS.here))))))) ?_
    refine Wk.iload_n (q := 171) at_170 rfl rfl ?_
    refine Wk.iconst (q := 172) (1) at_171 rfl (by decide) ?_
    refine Wk.icmp_f (q := 175) at_172 rfl (by decide) ?_
    refine Wk.aload (q := 177) at_175 rfl rfl (by first | rfl | assumption) ?_
    refine Wk.iload (q := 179) at_177 rfl rfl ?_
    refine Wk.iconst (q := 180) (1) at_179 rfl (by decide) ?_
    refine Wk.iadd (q := 181) at_180 rfl ?_
    refine Wk.iload (q := 183) at_181 rfl rfl ?_
    refine Wk.castore (q := 184) (7) at_183 rfl (by repeat (first | exact Ex.here | assumption | apply Ex.there)) (by decide) (by decide) (nchar_lat h4) (VS.there (VS.there (VS.there (VS.there (VS.there (VS.there (VS.there (VS.here)))))))) ?_
    refine Wk.iload (q := 186) at_184 rfl rfl ?_
    refine Wk.iload_n (q := 187) at_186 rfl rfl ?_
    refine Wk.iadd (q := 188) at_187 rfl ?_
    refine Wk.istore (q := 190) at_188 rfl (LS1.there (LS1.there (LS1.there (LS1.there (LS1.there (LS1.there (LS1.there (LS1.there (LS1.there (LS1.there (LS1.there (LS1.there (LS1.there (LS1.here (by first | exact One.u | exact One.val rfl | assumption))))))))))))))) ?_
    refine Wk.aload (q := 192) at_190 rfl rfl (by first | rfl | assumption) ?_
    refine Wk.iload (q := 194) at_192 rfl rfl ?_
    refine Wk.bipush (q := 196) (32) at_194 rfl (by decide) ?_
    refine Wk.castore (q := 197) (8) at_196 rfl (by repeat (first | exact Ex.here | assumption | apply Ex.there)) (by decide) (by decide) (by rfl) (VS.there (VS.there (VS.there (VS.there (VS.there (VS.there (VS.there (VS.there (VS.here))))))))) ?_
    refine Wk.aload (q := 199) at_197 rfl rfl (by first | rfl | assumption) ?_
    refine Wk.iload (q := 201) at_199 rfl rfl ?_
    refine Wk.iconst (q := 202) (1) at_201 rfl (by decide) ?_
    refine Wk.iadd (q := 203) at_202 rfl ?_
    refine Wk.bipush (q := 205) (99) at_203 rfl (by decide) ?_
    refine Wk.castore (q := 206) (9) at_205 rfl (by repeat (first | exact Ex.here | assumption | apply Ex.there)) (by decide) (by decide) (by rfl) (VS.there (VS.there (VS.there (VS.there (VS.there (VS.there (VS.there (VS.there (VS.there (VS.here)))))))))) ?_
    refine Wk.aload (q := 208) at_206 rfl rfl (by first | rfl | assumption) ?_
    refine Wk.iload (q := 210) at_208 rfl rfl ?_
    refine Wk.iconst (q := 211) (2) at_210 rfl (by decide) ?_
    refine Wk.iadd (q := 212) at_211 rfl ?_
    refine Wk.bipush (q := 214) (97) at_212 rfl (by decide) ?_
    refine Wk.castore (q := 215) (10) at_214 rfl (by repeat (first | exact Ex.here | assumption | apply Ex.there)) (by decide) (by decide) (by rfl) (VS.there (VS.there (VS.there (VS.there (VS.there (VS.there (VS.there (VS.there (VS.there (VS.there (VS.here))))))))))) ?_
    refine Wk.aload (q := 217) at_215 rfl rfl (by first | rfl | assumption) ?_
    refine Wk.iload (q := 219) at_217 rfl rfl ?_
    refine Wk.iconst (q := 220) (3) at_219 rfl (by decide) ?_
    refine Wk.iadd (q := 221) at_220 rfl ?_
    refine Wk.bipush (q := 223) (110) at_221 rfl (by decide) ?_
    refine Wk.castore (q := 224) (11) at_223 rfl (by repeat (first | exact Ex.here | assumption | apply Ex.there)) (by decide) (by decide) (by rfl) (VS.there (VS.there (VS.there (VS.there (VS.there (VS.there (VS.there (VS.there (VS.there (VS.there (VS.there (VS.here)))))))))))) ?_
    refine Wk.aload (q := 226) at_224 rfl rfl (by first | rfl | assumption) ?_
    refine Wk.iload (q := 228) at_226 rfl rfl ?_
    refine Wk.iconst (q := 229) (4) at_228 rfl (by decide) ?_
    refine Wk.iadd (q := 230) at_229 rfl ?_
    refine Wk.bipush (q := 232) (110) at_230 rfl (by decide) ?_
    refine Wk.castore (q := 233) (12) at_232 rfl (by repeat (first | exact Ex.here | assumption | apply Ex.there)) (by decide) (by decide) (by rfl) (VS.there (VS.there (VS.there (VS.there (VS.there (VS.there (VS.there (VS.there (VS.there (VS.there (VS.there (VS.there (VS.here))))))))))))) ?_
    refine Wk.aload (q := 235) at_233 rfl rfl (by first | rfl | assumption) ?_
    refine Wk.iload (q := 237) at_235 rfl rfl ?_
    refine Wk.iconst (q := 238) (5) at_237 rfl (by decide) ?_
    refine Wk.iadd (q := 239) at_238 rfl ?_
    refine Wk.bipush (q := 241) (111) at_239 rfl (by decide) ?_
    refine Wk.castore (q := 242) (13) at_241 rfl (by repeat (first | exact Ex.here | assumption | apply Ex.there)) (by decide) (by decide) (by rfl) (VS.there (VS.there (VS.there (VS.there (VS.there (VS.there (VS.there (VS.there (VS.there (VS.there (VS.there (VS.there (VS.there (VS.here)))))))))))))) ?_
    refine Wk.aload (q := 244) at_242 rfl rfl (by first | rfl | assumption) ?_
    refine Wk.iload (q := 246) at_244 rfl rfl ?_
    refine Wk.bipush (q := 248) (6) at_246 rfl (by decide) ?_
    refine Wk.iadd (q := 249) at_248 rfl ?_
    refine Wk.bipush (q := 251) (116) at_249 rfl (by decide) ?_
    refine Wk.castore (q := 252) (14) at_251 rfl (by repeat (first | exact Ex.here | assumption | apply Ex.there)) (by decide) (by decide) (by rfl) (VS.there (VS.there (VS.there (VS.there (VS.there (VS.there (VS.there (VS.there (VS.there (VS.there (VS.there (VS.there (VS.there (VS.there (VS.here))))))))))))))) ?_
    refine Wk.aload (q := 254) at_252 rfl rfl (by first | rfl | assumption) ?_
    refine Wk.iload (q := 256) at_254 rfl rfl ?_
    refine Wk.bipush (q := 258) (7) at_256 rfl (by decide) ?_
    refine Wk.iadd (q := 259) at_258 rfl ?_
    refine Wk.bipush (q := 261) (32) at_259 rfl (by decide) ?_
    refine Wk.castore (q := 262) (15) at_261 rfl (by repeat (first | exact Ex.here | assumption | apply Ex.there)) (by decide) (by decide) (by rfl) (VS.there (VS.there (VS.there (VS.there (VS.there (VS.there (VS.there (VS.there (VS.there (VS.there (VS.there (VS.there (VS.there (VS.there (VS.there (VS.here)))))))))))))))) ?_
    refine Wk.aload (q := 264) at_262 rfl rfl (by first | rfl | assumption) ?_
    refine Wk.iload (q := 266) at_264 rfl rfl ?_
    refine Wk.bipush (q := 268) (8) at_266 rfl (by decide) ?_
    refine Wk.iadd (q := 269) at_268 rfl ?_
    refine Wk.bipush (q := 271) (98) at_269 rfl (by decide) ?_
    refine Wk.castore (q := 272) (16) at_271 rfl (by repeat (first | exact Ex.here | assumption | apply Ex.there)) (by decide) (by decide) (by rfl) (VS.there (VS.there (VS.there (VS.there (VS.there (VS.there (VS.there (VS.there (VS.there (VS.there (VS.there (VS.there (VS.there (VS.there (VS.there (VS.there (VS.here))))))))))))))))) ?_
    refine Wk.aload (q := 274) at_272 rfl rfl (by first | rfl | assumption) ?_
    refine Wk.iload (q := 276) at_274 rfl rfl ?_
    refine Wk.bipush (q := 278) (9) at_276 rfl (by decide) ?_
    refine Wk.iadd (q := 279) at_278 rfl ?_
    refine Wk.bipush (q := 281) (101) at_279 rfl (by decide) ?_
    refine Wk.castore (q := 282) (17) at_281 rfl (by repeat (first | exact Ex.here | assumption | apply Ex.there)) (by decide) (by decide) (by rfl) (VS.there (VS.there (VS.there (VS.there (VS.there (VS.there (VS.there (VS.there (VS.there (VS.there (VS.there (VS.there (VS.there (VS.there (VS.there (VS.there (VS.there (VS.here)))))))))))))))))) ?_
    refine Wk.aload (q := 284) at_282 rfl rfl (by first | rfl | assumption) ?_
    refine Wk.iload (q := 286) at_284 rfl rfl ?_
    refine Wk.bipush (q := 288) (10) at_286 rfl (by decide) ?_
    refine Wk.iadd (q := 289) at_288 rfl ?_
    refine Wk.bipush (q := 291) (32) at_289 rfl (by decide) ?_
    refine Wk.castore (q := 292) (18) at_291 rfl (by repeat (first | exact Ex.here | assumption | apply Ex.there)) (by decide) (by decide) (by rfl) (VS.there (VS.there (VS.there (VS.there (VS.there (VS.there (VS.there (VS.there (VS.there (VS.there (VS.there (VS.there (VS.there (VS.there (VS.there (VS.there (VS.there (VS.there (VS.here))))))))))))))))))) ?_
    refine Wk.aload (q := 294) at_292 rfl rfl (by first | rfl | assumption) ?_
    refine Wk.iload (q := 296) at_294 rfl rfl ?_
    refine Wk.bipush (q := 298) (11) at_296 rfl (by decide) ?_
    refine Wk.iadd (q := 299) at_298 rfl ?_
    refine Wk.bipush (q := 301) (103) at_299 rfl (by decide) ?_
    refine Wk.castore (q := 302) (19) at_301 rfl (by repeat (first | exact Ex.here | assumption | apply Ex.there)) (by decide) (by decide) (by rfl) (VS.there (VS.there (VS.there (VS.there (VS.there (VS.there (VS.there (VS.there (VS.there (VS.there (VS.there (VS.there (VS.there (VS.there (VS.there (VS.there (VS.there (VS.there (VS.there (VS.here)))))))))))))))))))) ?_
    refine Wk.aload (q := 304) at_302 rfl rfl (by first | rfl | assumption) ?_
    refine Wk.iload (q := 306) at_304 rfl rfl ?_
    refine Wk.bipush (q := 308) (12) at_306 rfl (by decide) ?_
    refine Wk.iadd (q := 309) at_308 rfl ?_
    refine Wk.bipush (q := 311) (105) at_309 rfl (by decide) ?_
    refine Wk.castore (q := 312) (20) at_311 rfl (by repeat (first | exact Ex.here | assumption | apply Ex.there)) (by decide) (by decide) (by rfl) (VS.there (VS.there (VS.there (VS.there (VS.there (VS.there (VS.there (VS.there (VS.there (VS.there (VS.there (VS.there (VS.there (VS.there (VS.there (VS.there (VS.there (VS.there (VS.there (VS.there (VS.here))))))))))))))))))))) ?_
    refine Wk.aload (q := 314) at_312 rfl rfl (by first | rfl | assumption) ?_
    refine Wk.iload (q := 316) at_314 rfl rfl ?_
    refine Wk.bipush (q := 318) (13) at_316 rfl (by decide) ?_
    refine Wk.iadd (q := 319) at_318 rfl ?_
    refine Wk.bipush (q := 321) (118) at_319 rfl (by decide) ?_
    refine Wk.castore (q := 322) (21) at_321 rfl (by repeat (first | exact Ex.here | assumption | apply Ex.there)) (by decide) (by decide) (by rfl) (VS.there (VS.there (VS.there (VS.there (VS.there (VS.there (VS.there (VS.there (VS.there (VS.there (VS.there (VS.there (VS.there (VS.there (VS.there (VS.there (VS.there (VS.there (VS.there (VS.there (VS.there (VS.here)))))))))))))))))))))) ?_
    refine Wk.aload (q := 324) at_322 rfl rfl (by first | rfl | assumption) ?_
    refine Wk.iload (q := 326) at_324 rfl rfl ?_
    refine Wk.bipush (q := 328) (14) at_326 rfl (by decide) ?_
    refine Wk.iadd (q := 329) at_328 rfl ?_
    refine Wk.bipush (q := 331) (101) at_329 rfl (by decide) ?_
    refine Wk.castore (q := 332) (22) at_331 rfl (by repeat (first | exact Ex.here | assumption | apply Ex.there)) (by decide) (by decide) (by rfl) (VS.there (VS.there (VS.there (VS.there (VS.there (VS.there (VS.there (VS.there (VS.there (VS.there (VS.there (VS.there (VS.there (VS.there (VS.there (VS.there (VS.there (VS.there (VS.there (VS.there (VS.there (VS.there (VS.here))))))))))))))))))))))) ?_
    refine Wk.aload (q := 334) at_332 rfl rfl (by first | rfl | assumption) ?_
    refine Wk.iload (q := 336) at_334 rfl rfl ?_
    refine Wk.bipush (q := 338) (15) at_336 rfl (by decide) ?_
    refine Wk.iadd (q := 339) at_338 rfl ?_
    refine Wk.bipush (q := 341) (110) at_339 rfl (by decide) ?_
    refine Wk.castore (q := 342) (23) at_341 rfl (by repeat (first | exact Ex.here | assumption | apply Ex.there)) (by decide) (by decide) (by rfl) (VS.there (VS.there (VS.there (VS.there (VS.there (VS.there (VS.there (VS.there (VS.there (VS.there (VS.there (VS.there (VS.there (VS.there (VS.there (VS.there (VS.there (VS.there (VS.there (VS.there (VS.there (VS.there (VS.there (VS.here)))))))))))))))))))))))) ?_
    refine Wk.aload (q := 344) at_342 rfl rfl (by first | rfl | assumption) ?_
    refine Wk.iload (q := 346) at_344 rfl rfl ?_
    refine Wk.bipush (q := 348) (16) at_346 rfl (by decide) ?_
    refine Wk.iadd (q := 349) at_348 rfl ?_
    refine Wk.bipush (q := 351) (32) at_349 rfl (by decide) ?_
    refine Wk.castore (q := 352) (24) at_351 rfl (by repeat (first | exact Ex.here | assumption | apply Ex.there)) (by decide) (by decide) (by rfl) (VS.there (VS.there (VS.there (VS.there (VS.there (VS.there (VS.there (VS.there (VS.there (VS.there (VS.there (VS.there (VS.there (VS.there (VS.there (VS.there (VS.there (VS.there (VS.there (VS.there (VS.there (VS.there (VS.there (VS.there (VS.here))))))))))))))))))))))))) ?_
    refine Wk.aload (q := 354) at_352 rfl rfl (by first | rfl | assumption) ?_
    refine Wk.iload (q := 356) at_354 rfl rfl ?_
    refine Wk.bipush (q := 358) (17) at_356 rfl (by decide) ?_
    refine Wk.iadd (q := 359) at_358 rfl ?_
    refine Wk.bipush (q := 361) (116) at_359 rfl (by decide) ?_
    refine Wk.castore (q := 362) (25) at_361 rfl (by repeat (first | exact Ex.here | assumption | apply Ex.there)) (by decide) (by decide) (by rfl) (VS.there (VS.there (VS.there (VS.there (VS.there (VS.there (VS.there (VS.there (VS.there (VS.there (VS.there (VS.there (VS.there (VS.there (VS.there (VS.there (VS.there (VS.there (VS.there (VS.there (VS.there (VS.there (VS.there (VS.there (VS.there (VS.here)))))))))))))))))))))))))) ?_
    refine Wk.aload (q := 364) at_362 rfl rfl (by first | rfl | assumption) ?_
    refine Wk.iload (q := 366) at_364 rfl rfl ?_
    refine Wk.bipush (q := 368) (18) at_366 rfl (by decide) ?_
    refine Wk.iadd (q := 369) at_368 rfl ?_
    refine Wk.bipush (q := 371) (111) at_369 rfl (by decide) ?_
    refine Wk.castore (q := 372) (26) at_371 rfl (by repeat (first | exact Ex.here | assumption | apply Ex.there)) (by decide) (by decide) (by rfl) (VS.there (VS.there (VS.there (VS.there (VS.there (VS.there (VS.there (VS.there (VS.there (VS.there (VS.there (VS.there (VS.there (VS.there (VS.there (VS.there (VS.there (VS.there (VS.there (VS.there (VS.there (VS.there (VS.there (VS.there (VS.there (VS.there (VS.here))))))))))))))))))))))))))) ?_
    refine Wk.aload (q := 374) at_372 rfl rfl (by first | rfl | assumption) ?_
    refine Wk.iload (q := 376) at_374 rfl rfl ?_
    refine Wk.bipush (q := 378) (19) at_376 rfl (by decide) ?_
    refine Wk.iadd (q := 379) at_378 rfl ?_
    refine Wk.bipush (q := 381) (103) at_379 rfl (by decide) ?_
    refine Wk.castore (q := 382) (27) at_381 rfl (by repeat (first | exact Ex.here | assumption | apply Ex.there)) (by decide) (by decide) (by rfl) (VS.there (VS.there (VS.there (VS.there (VS.there (VS.there (VS.there (VS.there (VS.there (VS.there (VS.there (VS.there (VS.there (VS.there (VS.there (VS.there (VS.there (VS.there (VS.there (VS.there (VS.there (VS.there (VS.there (VS.there (VS.there (VS.there (VS.there (VS.here)))))))))))))))))))))))))))) ?_
    refine Wk.aload (q := 384) at_382 rfl rfl (by first | rfl | assumption) ?_
    refine Wk.iload (q := 386) at_384 rfl rfl ?_
    refine Wk.bipush (q := 388) (20) at_386 rfl (by decide) ?_
    refine Wk.iadd (q := 389) at_388 rfl ?_
    refine Wk.bipush (q := 391) (101) at_389 rfl (by decide) ?_
    refine Wk.castore (q := 392) (28) at_391 rfl (by repeat (first | exact Ex.here | assumption | apply Ex.there)) (by decide) (by decide) (by rfl) (VS.there (VS.there (VS.there (VS.there (VS.there (VS.there (VS.there (VS.there (VS.there (VS.there (VS.there (VS.there (VS.there (VS.there (VS.there (VS.there (VS.there (VS.there (VS.there (VS.there (VS.there (VS.there (VS.there (VS.there (VS.there (VS.there (VS.there (VS.there (VS.here))))))))))))))))))))))))))))) ?_
    refine Wk.aload (q := 394) at_392 rfl rfl (by first | rfl | assumption) ?_
    refine Wk.iload (q := 396) at_394 rfl rfl ?_
    refine Wk.bipush (q := 398) (21) at_396 rfl (by decide) ?_
    refine Wk.iadd (q := 399) at_398 rfl ?_
    refine Wk.bipush (q := 401) (116) at_399 rfl (by decide) ?_
    refine Wk.castore (q := 402) (29) at_401 rfl (by repeat (first | exact Ex.here | assumption | apply Ex.there)) (by decide) (by decide) (by rfl) (VS.there (VS.there (VS.there (VS.there (VS.there (VS.there (VS.there (VS.there (VS.there (VS.there (VS.there (VS.there (VS.there (VS.there (VS.there (VS.there (VS.there (VS.there (VS.there (VS.there (VS.there (VS.there (VS.there (VS.there (VS.there (VS.there (VS.there (VS.there (VS.there (VS.here)))))))))))))))))))))))))))))) ?_
    refine Wk.aload (q := 404) at_402 rfl rfl (by first | rfl | assumption) ?_
    refine Wk.iload (q := 406) at_404 rfl rfl ?_
    refine Wk.bipush (q := 408) (22) at_406 rfl (by decide) ?_
    refine Wk.iadd (q := 409) at_408 rfl ?_
    refine Wk.bipush (q := 411) (104) at_409 rfl (by decide) ?_
    refine Wk.castore (q := 412) (30) at_411 rfl (by repeat (first | exact Ex.here | assumption | apply Ex.there)) (by decide) (by decide) (by rfl) (VS.there (VS.there (VS.there (VS.there (VS.there (VS.there (VS.there (VS.there (VS.there (VS.there (VS.there (VS.there (VS.there (VS.there (VS.there (VS.there (VS.there (VS.there (VS.there (VS.there (VS.there (VS.there (VS.there (VS.there (VS.there (VS.there (VS.there (VS.there (VS.there (VS.there (VS.here))))))))))))))))))))))))))))))) ?_
    refine Wk.aload (q := 414) at_412 rfl rfl (by first | rfl | assumption) ?_
    refine Wk.iload (q := 416) at_414 rfl rfl ?_
    refine Wk.bipush (q := 418) (23) at_416 rfl (by decide) ?_
    refine Wk.iadd (q := 419) at_418 rfl ?_
    refine Wk.bipush (q := 421) (101) at_419 rfl (by decide) ?_
    refine Wk.castore (q := 422) (31) at_421 rfl (by repeat (first | exact Ex.here | assumption | apply Ex.there)) (by decide) (by decide) (by rfl) (VS.there (VS.there (VS.there (VS.there (VS.there (VS.there (VS.there (VS.there (VS.there (VS.there (VS.there (VS.there (VS.there (VS.there (VS.there (VS.there (VS.there (VS.there (VS.there (VS.there (VS.there (VS.there (VS.there (VS.there (VS.there (VS.there (VS.there (VS.there (VS.there (VS.there (VS.there (VS.here)))))))))))))))))))))))))))))))) ?_
    refine Wk.aload (q := 424) at_422 rfl rfl (by first | rfl | assumption) ?_
    refine Wk.iload (q := 426) at_424 rfl rfl ?_
    refine Wk.bipush (q := 428) (24) at_426 rfl (by decide) ?_
    refine Wk.iadd (q := 429) at_428 rfl ?_
    refine Wk.bipush (q := 431) (114) at_429 rfl (by decide) ?_
    refine Wk.castore (q := 432) (32) at_431 rfl (by repeat (first | exact Ex.here | assumption | apply Ex.there)) (by decide) (by decide) (by rfl) (VS.there (VS.there (VS.there (VS.there (VS.there (VS.there (VS.there (VS.there (VS.there (VS.there (VS.there (VS.there (VS.there (VS.there (VS.there (VS.there (VS.there (VS.there (VS.there (VS.there (VS.there (VS.there (VS.there (VS.there (VS.there (VS.there (VS.there (VS.there (VS.there (VS.there (VS.there (VS.there (VS.here))))))))))))))))))))))))))))))))) ?_
    refine Wk.new (q := 435) at_432 rfl (hw _ (List.mem_of_getElem? (i := 4) rfl)) (hw _ (List.mem_of_getElem? (i := 5) rfl)) (hw _ (List.mem_of_getElem? (i := 6) rfl)) (layS_ok hw) layS_dv (by first | decide | (dsimp only; omega) | omega) (by first | decide | (dsimp only; omega) | omega) ?_
    intro es
    refine Wk.dup (q := 436) at_435 rfl rfl ?_
    refine Wk.aload (q := 438) at_436 rfl rfl (by first | rfl | assumption) ?_
    refine Wk.pull (o := (es, true, OB Z "java/lang/String" layS [.null, .int 0])) (by repeat (first | exact Ex.here | assumption | apply Ex.there)) ?_
    refine Wk.special (q := 441) [_] _ 1 at_438 rfl rfl (hw _ (List.mem_of_getElem? (i := 8) rfl)) (hw _ (List.mem_of_getElem? (i := 9) rfl)) (hw _ (List.mem_of_getElem? (i := 6) rfl)) (hw _ (List.mem_of_getElem? (i := 10) rfl)) ar_19 (by decide) rfl rfl rfl rfl (ct_strInitG hw hE F (cs := [m0, 32, 97, 110, 100, 32, n0, n1, 32, 99, 97, 110, 110, 111, 116, 32, 98, 101, 32, 103, 105, 118, 101, 110, 32, 116, 111, 103, 101, 116, 104, 101, 114]) (lat_cons h1 (lat_cons (by decide) (lat_cons (by decide) (lat_cons (by decide) (lat_cons (by decide) (lat_cons (by decide) (lat_cons h3 (lat_cons h4 (lat_cons (by decide) (lat_cons (by decide) (lat_cons (by decide) (lat_cons (by decide) (lat_cons (by decide) (lat_cons (by decide) (lat_cons (by decide) (lat_cons (by decide) (lat_cons (by decide) (lat_cons (by decide) (lat_cons (by decide) (lat_cons (by decide) (lat_cons (by decide) (lat_cons (by decide) (lat_cons (by decide) (lat_cons (by decide) (lat_cons (by decide) (lat_cons (by decide) (lat_cons (by decide) (lat_cons (by decide) (lat_cons (by decide) (lat_cons (by decide) (lat_cons (by decide) (lat_cons (by decide) (lat_cons (by decide) lat_nil))))))))))))))))))))))))))))))))) 34 (by simp) (by simp) (by repeat (first | exact List.mem_cons_self | assumption | refine List.mem_cons_of_mem _ ?_))) (by first | decide | (dsimp only; omega) | omega) (by first | decide | (dsimp only; omega) | omega) (by first | decide | (dsimp only; omega) | omega) (by first | decide | (dsimp only; omega) | omega) (k0 ?_)
    rintro _ ⟨er, fer, rfl⟩
    refine Wk.astore (q := 443) at_441 rfl (by first | rfl | assumption) (LS1.there (LS1.there (LS1.there (LS1.there (LS1.there (LS1.there (LS1.there (LS1.there (LS1.there (LS1.there (LS1.there (LS1.there (LS1.there (LS1.there (LS1.here (by first | exact One.u | exact One.val rfl | assumption)))))))))))))))) ?_
    exact (fin _ ca es er true fer _ _ _ (by repeat (first | exact List.mem_cons_self | assumption | refine List.mem_cons_of_mem _ ?_)) (by repeat (first | exact List.mem_cons_self | assumption | refine List.mem_cons_of_mem _ ?_)) (by repeat (first | exact List.mem_cons_self | assumption | refine List.mem_cons_of_mem _ ?_)) (by repeat (first | exact List.mem_cons_self | assumption | refine List.mem_cons_of_mem _ ?_)) (by repeat (first | exact List.mem_cons_self | assumption | refine List.mem_cons_of_mem _ ?_)) (by repeat (first | exact List.mem_cons_self | assumption | refine List.mem_cons_of_mem _ ?_))).mono (by decide) (by decide)
  · refine Wk.iload_n (q := 77) at_76 rfl rfl ?_
    refine Wk.iload_n (q := 78) at_77 rfl rfl ?_
    refine Wk.iadd (q := 79) at_78 rfl ?_
    refine Wk.bipush (q := 81) (30) at_79 rfl (by decide) ?_
    refine Wk.iadd (q := 82) at_81 rfl ?_
    refine Wk.newarray (q := 84) .char (32) [(.int 0), (.int 0), (.int 0), (.int 0), (.int 0), (.int 0), (.int 0), (.int 0), (.int 0), (.int 0), (.int 0), (.int 0), (.int 0), (.int 0), (.int 0), (.int 0), (.int 0), (.int 0), (.int 0), (.int 0), (.int 0), (.int 0), (.int 0), (.int 0), (.int 0), (.int 0), (.int 0), (.int 0), (.int 0), (.int 0), (.int 0), (.int 0)] at_82 rfl rfl rfl (hw _ (List.mem_of_getElem? (i := 7) rfl)) (by decide) (by decide) (by decide) (by first | decide | (dsimp only; omega) | omega) (by first | decide | (dsimp only; omega) | omega) ?_
    intro ca
    refine Wk.astore (q := 86) at_84 rfl (by first | rfl | assumption) (LS1.there (LS1.there (LS1.there (LS1.there (LS1.there (LS1.there (LS1.there (LS1.there (LS1.there (LS1.there (LS1.here (by first | exact One.u | exact One.val rfl | assumption)))))))))))) ?_
    refine Wk.iload_n (q := 87) at_86 rfl rfl ?_
    refine Wk.if_f (q := 90) at_87 rfl (by decide) ?_
    refine Wk.aload (q := 92) at_90 rfl rfl (by first | rfl | assumption) ?_
    refine Wk.iconst (q := 93) (0) at_92 rfl (by decide) ?_
    refine Wk.iload (q := 95) at_93 rfl rfl ?_
    refine Wk.castore (q := 96) (0) at_95 rfl (by repeat (first | exact Ex.here | assumption | apply Ex.there)) (by decide) (by decide) (nchar_lat h1) (VS.here) ?_
    refine Wk.iload_n (q := 97) at_96 rfl rfl ?_
    refine Wk.iconst (q := 98) (1) at_97 rfl (by decide) ?_
    refine Wk.icmp_f (q := 101) at_98 rfl (by decide) ?_
    refine Wk.aload (q := 103) at_101 rfl rfl (by first | rfl | assumption) ?_
    refine Wk.iconst (q := 104) (1) at_103 rfl (by decide) ?_
    refine Wk.iload (q := 106) at_104 rfl rfl ?_
    refine Wk.castore (q := 107) (1) at_106 rfl (by repeat (first | exact Ex.here | assumption | apply Ex.there)) (by decide) (by decide) (nchar_lat h2) (VS.there (VS.here)) ?_
    refine Wk.iload_n (q := 108) at_107 rfl rfl ?_
    refine Wk.istore (q := 110) at_108 rfl (LS1.there (LS1.there (LS1.there (LS1.there (LS1.there (LS1.there (LS1.there (LS1.there (LS1.there (LS1.there (LS1.there (LS1.here (by first | exact One.u | exact One.val rfl | assumption))))))))))))) ?_
    refine Wk.aload (q := 112) at_110 rfl rfl (by first | rfl | assumption) ?_
    refine Wk.iload (q := 114) at_112 rfl rfl ?_
    refine Wk.bipush (q := 116) (32) at_114 rfl (by decide) ?_
    refine Wk.castore (q := 117) (2) at_116 rfl (by repeat (first | exact Ex.here | assumption | apply Ex.there)) (by decide) (by decide) (by rfl) (VS.there (VS.there (VS.here))) ?_
    refine Wk.aload (q := 119) at_117 rfl rfl (by first | rfl | assumption) ?_
    refine Wk.iload (q := 121) at_119 rfl rfl ?_
    refine Wk.iconst (q := 122) (1) at_121 rfl (by decide) ?_
    refine Wk.iadd (q := 123) at_122 rfl ?_
    refine Wk.bipush (q := 125) (97) at_123 rfl (by decide) ?_
    refine Wk.castore (q := 126) (3) at_125 rfl (by repeat (first | exact Ex.here | assumption | apply Ex.there)) (by decide) (by decide) (by rfl) (VS.there (VS.there (VS.there (VS.here)))) ?_
    refine Wk.aload (q := 128) at_126 rfl rfl (by first | rfl | assumption) ?_
    refine Wk.iload (q := 130) at_128 rfl rfl ?_
    refine Wk.iconst (q := 131) (2) at_130 rfl (by decide) ?_
    refine Wk.iadd (q := 132) at_131 rfl ?_
    refine Wk.bipush (q := 134) (110) at_132 rfl (by decide) ?_
    refine Wk.castore (q := 135) (4) at_134 rfl (by repeat (first | exact Ex.here | assumption | apply Ex.there)) (by decide) (by decide) (by rfl) (VS.there (VS.there (VS.there (VS.there (VS.here))))) ?_
    refine Wk.aload (q := 137) at_135 rfl rfl (by first | rfl | assumption) ?_
    refine Wk.iload (q := 139) at_137 rfl rfl ?_
    refine Wk.iconst (q := 140) (3) at_139 rfl (by decide) ?_
    refine Wk.iadd (q := 141) at_140 rfl ?_
    refine Wk.bipush (q := 143) (100) at_141 rfl (by decide) ?_
    refine Wk.castore (q := 144) (5) at_143 rfl (by repeat (first | exact Ex.here | assumption | apply Ex.there)) (by decide) (by decide) (by rfl) (VS.there (VS.there (VS.there (VS.there (VS.there (VS.here)))))) ?_
    refine Wk.aload (q := 146) at_144 rfl rfl (by first | rfl | assumption) ?_
    refine Wk.iload (q := 148) at_146 rfl rfl ?_
    refine Wk.iconst (q := 149) (4) at_148 rfl (by decide) ?_
    refine Wk.iadd (q := 150) at_149 rfl ?_
    refine Wk.bipush (q := 152) (32) at_150 rfl (by decide) ?_
    refine Wk.castore (q := 153) (6) at_152 rfl (by repeat (first | exact Ex.here | assumption | apply Ex.there)) (by decide) (by decide) (by rfl) (VS.there (VS.there (VS.there (VS.there (VS.there (VS.there (VS.here))))))) ?_
    refine Wk.iload (q := 155) at_153 rfl rfl ?_
    refine Wk.iconst (q := 156) (5) at_155 rfl (by decide) ?_
    refine Wk.iadd (q := 157) at_156 rfl ?_
    refine Wk.istore (q := 159) at_157 rfl (LS1.there (LS1.there (LS1.there (LS1.there (LS1.there (LS1.there (LS1.there (LS1.there (LS1.there (LS1.there (LS1.there (LS1.there (LS1.here (by first | exact One.u | exact One.val rfl | assumption)))))))))))))) ?_
    refine Wk.iload_n (q := 160) at_159 rfl rfl ?_
    refine Wk.if_t (q := 170) at_160 (by decide) (by decide) (by decide) ?_
    refine Wk.iload_n (q := 171) at_170 rfl rfl ?_
    refine Wk.iconst (q := 172) (1) at_171 rfl (by decide) ?_
    refine Wk.icmp_t (q := 184) at_172 (by decide) (by decide) (by decide) ?_
    refine Wk.iload (q := 186) at_184 rfl rfl ?_
    refine Wk.iload_n (q := 187) at_186 rfl rfl ?_
    refine Wk.iadd (q := 188) at_187 rfl ?_
    refine Wk.istore (q := 190) at_188 rfl (LS1.there (LS1.there (LS1.there (LS1.there (LS1.there (LS1.there (LS1.there (LS1.there (LS1.there (LS1.there (LS1.there (LS1.there (LS1.there (LS1.here (by first | exact One.u | exact One.val rfl | assumption))))))))))))))) ?_
    refine Wk.aload (q := 192) at_190 rfl rfl (by first | rfl | assumption) ?_
    refine Wk.iload (q := 194) at_192 rfl rfl ?_
    refine Wk.bipush (q := 196) (32) at_194 rfl (by decide) ?_
    refine Wk.castore (q := 197) (7) at_196 rfl (by repeat (first | exact Ex.here | assumption | apply Ex.there)) (by decide) (by decide) (by rfl) (VS.there (VS.there (VS.there (VS.there (VS.there (VS.there (VS.there (VS.here)))))))) ?_
    refine Wk.aload (q := 199) at_197 rfl rfl (by first | rfl | assumption) ?_
    refine Wk.iload (q := 201) at_199 rfl rfl ?_
    refine Wk.iconst (q := 202) (1) at_201 rfl (by decide) ?_
    refine Wk.iadd (q := 203) at_202 rfl ?_
    refine Wk.bipush (q := 205) (99) at_203 rfl (by decide) ?_
    refine Wk.castore (q := 206) (8) at_205 rfl (by repeat (first | exact Ex.here | assumption | apply Ex.there)) (by decide) (by decide) (by rfl) (VS.there (VS.there (VS.there (VS.there (VS.there (VS.there (VS.there (VS.there (VS.here))))))))) ?_
    refine Wk.aload (q := 208) at_206 rfl rfl (by first | rfl | assumption) ?_
    refine Wk.iload (q := 210) at_208 rfl rfl ?_
    refine Wk.iconst (q := 211) (2) at_210 rfl (by decide) ?_
    refine Wk.iadd (q := 212) at_211 rfl ?_
    refine Wk.bipush (q := 214) (97) at_212 rfl (by decide) ?_
    refine Wk.castore (q := 215) (9) at_214 rfl (by repeat (first | exact Ex.here | assumption | apply Ex.there)) (by decide) (by decide) (by rfl) (VS.there (VS.there (VS.there (VS.there (VS.there (VS.there (VS.there (VS.there (VS.there (VS.here)))))))))) ?_
    refine Wk.aload (q := 217) at_215 rfl rfl (by first | rfl | assumption) ?_
    refine Wk.iload (q := 219) at_217 rfl rfl ?_
    refine Wk.iconst (q := 220) (3) at_219 rfl (by decide) ?_
    refine Wk.iadd (q := 221) at_220 rfl ?_
    refine Wk.bipush (q := 223) (110) at_221 rfl (by decide) ?_
    refine Wk.castore (q := 224) (10) at_223 rfl (by repeat (first | exact Ex.here | assumption | apply Ex.there)) (by decide) (by decide) (by rfl) (VS.there (VS.there (VS.there (VS.there (VS.there (VS.there (VS.there (VS.there (VS.there (VS.there (VS.here))))))))))) ?_
    refine Wk.aload (q := 226) at_224 rfl rfl (by first | rfl | assumption) ?_
    refine Wk.iload (q := 228) at_226 rfl rfl ?_
    refine Wk.iconst (q := 229) (4) at_228 rfl (by decide) ?_
    refine Wk.iadd (q := 230) at_229 rfl ?_
    refine Wk.bipush (q := 232) (110) at_230 rfl (by decide) ?_
    refine Wk.castore (q := 233) (11) at_232 rfl (by repeat (first | exact Ex.here | assumption | apply Ex.there)) (by decide) (by decide) (by rfl) (VS.there (VS.there (VS.there (VS.there (VS.there (VS.there (VS.there (VS.there (VS.there (VS.there (VS.there (VS.here)))))))))))) ?_
    refine Wk.aload (q := 235) at_233 rfl rfl (by first | rfl | assumption) ?_
    refine Wk.iload (q := 237) at_235 rfl rfl ?_
    refine Wk.iconst (q := 238) (5) at_237 rfl (by decide) ?_
    refine Wk.iadd (q := 239) at_238 rfl ?_
    refine Wk.bipush (q := 241) (111) at_239 rfl (by decide) ?_
    refine Wk.castore (q := 242) (12) at_241 rfl (by repeat (first | exact Ex.here | assumption | apply Ex.there)) (by decide) (by decide) (by rfl) (VS.there (VS.there (VS.there (VS.there (VS.there (VS.there (VS.there (VS.there (VS.there (VS.there (VS.there (VS.there (VS.here))))))))))))) ?_
    refine Wk.aload (q := 244) at_242 rfl rfl (by first | rfl | assumption) ?_
    refine Wk.iload (q := 246) at_244 rfl rfl ?_
    refine Wk.bipush (q := 248) (6) at_246 rfl (by decide) ?_
    refine Wk.iadd (q := 249) at_248 rfl ?_
    refine Wk.bipush (q := 251) (116) at_249 rfl (by decide) ?_
    refine Wk.castore (q := 252) (13) at_251 rfl (by repeat (first | exact Ex.here | assumption | apply Ex.there)) (by decide) (by decide) (by rfl) (VS.there (VS.there (VS.there (VS.there (VS.there (VS.there (VS.there (VS.there (VS.there (VS.there (VS.there (VS.there (VS.there (VS.here)))))))))))))) ?_
    refine Wk.aload (q := 254) at_252 rfl rfl (by first | rfl | assumption) ?_
    refine Wk.iload (q := 256) at_254 rfl rfl ?_
    refine Wk.bipush (q := 258) (7) at_256 rfl (by decide) ?_
    refine Wk.iadd (q := 259) at_258 rfl ?_
    refine Wk.bipush (q := 261) (32) at_259 rfl (by decide) ?_
    refine Wk.castore (q := 262) (14) at_261 rfl (by repeat (first | exact Ex.here | assumption | apply Ex.there)) (by decide) (by decide) (by rfl) (VS.there (VS.there (VS.there (VS.there (VS.there (VS.there (VS.there (VS.there (VS.there (VS.there (VS.there (VS.there (VS.there (VS.there (VS.here))))))))))))))) ?_
    refine Wk.aload (q := 264) at_262 rfl rfl (by first | rfl | assumption) ?_
    refine Wk.iload (q := 266) at_264 rfl rfl ?_
    refine Wk.bipush (q := 268) (8) at_266 rfl (by decide) ?_
    refine Wk.iadd (q := 269) at_268 rfl ?_
    refine Wk.bipush (q := 271) (98) at_269 rfl (by decide) ?_
    refine Wk.castore (q := 272) (15) at_271 rfl (by repeat (first | exact Ex.here | assumption | apply Ex.there)) (by decide) (by decide) (by rfl) (VS.there (VS.there (VS.there (VS.there (VS.there (VS.there (VS.there (VS.there (VS.there (VS.there (VS.there (VS.there (VS.there (VS.there (VS.there (VS.here)))))))))))))))) ?_
    refine Wk.aload (q := 274) at_272 rfl rfl (by first | rfl | assumption) ?_
    refine Wk.iload (q := 276) at_274 rfl rfl ?_
    refine Wk.bipush (q := 278) (9) at_276 rfl (by decide) ?_
    refine Wk.iadd (q := 279) at_278 rfl ?_
    refine Wk.bipush (q := 281) (101) at_279 rfl (by decide) ?_
    refine Wk.castore (q := 282) (16) at_281 rfl (by repeat (first | exact Ex.here | assumption | apply Ex.there)) (by decide) (by decide) (by rfl) (VS.there (VS.there (VS.there (VS.there (VS.there (VS.there (VS.there (VS.there (VS.there (VS.there (VS.there (VS.there (VS.there (VS.there (VS.there (VS.there (VS.here))))))))))))))))) ?_
    refine Wk.aload (q := 284) at_282 rfl rfl (by first | rfl | assumption) ?_
    refine Wk.iload (q := 286) at_284 rfl rfl ?_
    refine Wk.bipush (q := 288) (10) at_286 rfl (by decide) ?_
    refine Wk.iadd (q := 289) at_288 rfl ?_
    refine Wk.bipush (q := 291) (32) at_289 rfl (by decide) ?_
    refine Wk.castore (q := 292) (17) at_291 rfl (by repeat (first | exact Ex.here | assumption | apply Ex.there)) (by decide) (by decide) (by rfl) (VS.there (VS.there (VS.there (VS.there (VS.there (VS.there (VS.there (VS.there (VS.there (VS.there (VS.there (VS.there (VS.there (VS.there (VS.there (VS.there (VS.there (VS.here)))))))))))))))))) ?_
    refine Wk.aload (q := 294) at_292 rfl rfl (by first | rfl | assumption) ?_
    refine Wk.iload (q := 296) at_294 rfl rfl ?_
    refine Wk.bipush (q := 298) (11) at_296 rfl (by decide) ?_
    refine Wk.iadd (q := 299) at_298 rfl ?_
    refine Wk.bipush (q := 301) (103) at_299 rfl (by decide) ?_
    refine Wk.castore (q := 302) (18) at_301 rfl (by repeat (first | exact Ex.here | assumption | apply Ex.there)) (by decide) (by decide) (by rfl) (VS.there (VS.there (VS.there (VS.there (VS.there (VS.there (VS.there (VS.there (VS.there (VS.there (VS.there (VS.there (VS.there (VS.there (VS.there (VS.there (VS.there (VS.there (VS.here))))))))))))))))))) ?_
    refine Wk.aload (q := 304) at_302 rfl rfl (by first | rfl | assumption) ?_
    refine Wk.iload (q := 306) at_304 rfl rfl ?_
    refine Wk.bipush (q := 308) (12) at_306 rfl (by decide) ?_
    refine Wk.iadd (q := 309) at_308 rfl ?_
    refine Wk.bipush (q := 311) (105) at_309 rfl (by decide) ?_
    refine Wk.castore (q := 312) (19) at_311 rfl (by repeat (first | exact Ex.here | assumption | apply Ex.there)) (by decide) (by decide) (by rfl) (VS.there (VS.there (VS.there (VS.there (VS.there (VS.there (VS.there (VS.there (VS.there (VS.there (VS.there (VS.there (VS.there (VS.there (VS.there (VS.there (VS.there (VS.there (VS.there (VS.here)))))))))))))))))))) ?_
    refine Wk.aload (q := 314) at_312 rfl rfl (by first | rfl | assumption) ?_
    refine Wk.iload (q := 316) at_314 rfl rfl ?_
    refine Wk.bipush (q := 318) (13) at_316 rfl (by decide) ?_
    refine Wk.iadd (q := 319) at_318 rfl ?_
    refine Wk.bipush (q := 321) (118) at_319 rfl (by decide) ?_
    refine Wk.castore (q := 322) (20) at_321 rfl (by repeat (first | exact Ex.here | assumption | apply Ex.there)) (by decide) (by decide) (by rfl) (VS.there (VS.there (VS.there (VS.there (VS.there (VS.there (VS.there (VS.there (VS.there (VS.there (VS.there (VS.there (VS.there (VS.there (VS.there (VS.there (VS.there (VS.there (VS.there (VS.there (VS.here))))))))))))))))))))) ?_
    refine Wk.aload (q := 324) at_322 rfl rfl (by first | rfl | assumption) ?_
    refine Wk.iload (q := 326) at_324 rfl rfl ?_
    refine Wk.bipush (q := 328) (14) at_326 rfl (by decide) ?_
    refine Wk.iadd (q := 329) at_328 rfl ?_
    refine Wk.bipush (q := 331) (101) at_329 rfl (by decide) ?_
    refine Wk.castore (q := 332) (21) at_331 rfl (by repeat (first | exact Ex.here | assumption | apply Ex.there)) (by decide) (by decide) (by rfl) (VS.there (VS.there (VS.there (VS.there (VS.there (VS.there (VS.there (VS.there (VS.there (VS.there (VS.there (VS.there (VS.there (VS.there (VS.there (VS.there (VS.there (VS.there (VS.there (VS.there (VS.there (VS.here)))))))))))))))))))))) ?_
    refine Wk.aload (q := 334) at_332 rfl rfl (by first | rfl | assumption) ?_
    refine Wk.iload (q := 336) at_334 rfl rfl ?_
    refine Wk.bipush (q := 338) (15) at_336 rfl (by decide) ?_
    refine Wk.iadd (q := 339) at_338 rfl ?_
    refine Wk.bipush (q := 341) (110) at_339 rfl (by decide) ?_
    refine Wk.castore (q := 342) (22) at_341 rfl (by repeat (first | exact Ex.here | assumption | apply Ex.there)) (by decide) (by decide) (by rfl) (VS.there (VS.there (VS.there (VS.there (VS.there (VS.there (VS.there (VS.there (VS.there (VS.there (VS.there (VS.there (VS.there (VS.there (VS.there (VS.there (VS.there (VS.there (VS.there (VS.there (VS.there (VS.there (VS.here))))))))))))))))))))))) ?_
    refine Wk.aload (q := 344) at_342 rfl rfl (by first | rfl | assumption) ?_
    refine Wk.iload (q := 346) at_344 rfl rfl ?_
    refine Wk.bipush (q := 348) (16) at_346 rfl (by decide) ?_
    refine Wk.iadd (q := 349) at_348 rfl ?_
    refine Wk.bipush (q := 351) (32) at_349 rfl (by decide) ?_
    refine Wk.castore (q := 352) (23) at_351 rfl (by repeat (first | exact Ex.here | assumption | apply Ex.there)) (by decide) (by decide) (by rfl) (VS.there (VS.there (VS.there (VS.there (VS.there (VS.there (VS.there (VS.there (VS.there (VS.there (VS.there (VS.there (VS.there (VS.there (VS.there (VS.there (VS.there (VS.there (VS.there (VS.there (VS.there (VS.there (VS.there (VS.here)))))))))))))))))))))))) ?_
    refine Wk.aload (q := 354) at_352 rfl rfl (by first | rfl | assumption) ?_
    refine Wk.iload (q := 356) at_354 rfl rfl ?_
    refine Wk.bipush (q := 358) (17) at_356 rfl (by decide) ?_
    refine Wk.iadd (q := 359) at_358 rfl ?_
    refine Wk.bipush (q := 361) (116) at_359 rfl (by decide) ?_
    refine Wk.castore (q := 362) (24) at_361 rfl (by repeat (first | exact Ex.here | assumption | apply Ex.there)) (by decide) (by decide) (by rfl) (VS.there (VS.there (VS.there (VS.there (VS.there (VS.there (VS.there (VS.there (VS.there (VS.there (VS.there (VS.there (VS.there (VS.there (VS.there (VS.there (VS.there (VS.there (VS.there (VS.there (VS.there (VS.there (VS.there (VS.there (VS.here))))))))))))))))))))))))) ?_
    refine Wk.aload (q := 364) at_362 rfl rfl (by first | rfl | assumption) ?_
    refine Wk.iload (q := 366) at_364 rfl rfl ?_
    refine Wk.bipush (q := 368) (18) at_366 rfl (by decide) ?_
    refine Wk.iadd (q := 369) at_368 rfl ?_
    refine Wk.bipush (q := 371) (111) at_369 rfl (by decide) ?_
    refine Wk.castore (q := 372) (25) at_371 rfl (by repeat (first | exact Ex.here | assumption | apply Ex.there)) (by decide) (by decide) (by rfl) (VS.there (VS.there (VS.there (VS.there (VS.there (VS.there (VS.there (VS.there (VS.there (VS.there (VS.there (VS.there (VS.there (VS.there (VS.there (VS.there (VS.there (VS.there (VS.there (VS.there (VS.there (VS.there (VS.there (VS.there (VS.there (VS.here)))))))))))))))))))))))))) ?_
    refine Wk.aload (q := 374) at_372 rfl rfl (by first | rfl | assumption) ?_
    refine Wk.iload (q := 376) at_374 rfl rfl ?_
    refine Wk.bipush (q := 378) (19) at_376 rfl (by decide) ?_
    refine Wk.iadd (q := 379) at_378 rfl ?_
    refine Wk.bipush (q := 381) (103) at_379 rfl (by decide) ?_
    refine Wk.castore (q := 382) (26) at_381 rfl (by repeat (first | exact Ex.here | assumption | apply Ex.there)) (by decide) (by decide) (by rfl) (VS.there (VS.there (VS.there (VS.there (VS.there (VS.there (VS.there (VS.there (VS.there (VS.there (VS.there (VS.there (VS.there (VS.there (VS.there (VS.there (VS.there (VS.there (VS.there (VS.there (VS.there (VS.there (VS.there (VS.there (VS.there (VS.there (VS.here))))))))))))))))))))))))))) ?_
    refine Wk.aload (q := 384) at_382 rfl rfl (by first | rfl | assumption) ?_
    refine Wk.iload (q := 386) at_384 rfl rfl ?_
    refine Wk.bipush (q := 388) (20) at_386 rfl (by decide) ?_
    refine Wk.iadd (q := 389) at_388 rfl ?_
    refine Wk.bipush (q := 391) (101) at_389 rfl (by decide) ?_
    refine Wk.castore (q := 392) (27) at_391 rfl (by repeat (first | exact Ex.here | assumption | apply Ex.there)) (by decide) (by decide) (by rfl) (VS.there (VS.there (VS.there (VS.there (VS.there (VS.there (VS.there (VS.there (VS.there (VS.there (VS.there (VS.there (VS.there (VS.there (VS.there (VS.there (VS.there (VS.there (VS.there (VS.there (VS.there (VS.there (VS.there (VS.there (VS.there (VS.there (VS.there (VS.here)))))))))))))))))))))))))))) ?_
    refine Wk.aload (q := 394) at_392 rfl rfl (by first | rfl | assumption) ?_
    refine Wk.iload (q := 396) at_394 rfl rfl ?_
    refine Wk.bipush (q := 398) (21) at_396 rfl (by decide) ?_
    refine Wk.iadd (q := 399) at_398 rfl ?_
    refine Wk.bipush (q := 401) (116) at_399 rfl (by decide) ?_
    refine Wk.castore (q := 402) (28) at_401 rfl (by repeat (first | exact Ex.here | assumption | apply Ex.there)) (by decide) (by decide) (by rfl) (VS.there (VS.there (VS.there (VS.there (VS.there (VS.there (VS.there (VS.there (VS.there (VS.there (VS.there (VS.there (VS.there (VS.there (VS.there (VS.there (VS.there (VS.there (VS.there (VS.there (VS.there (VS.there (VS.there (VS.there (VS.there (VS.there (VS.there (VS.there (VS.here))))))))))))))))))))))))))))) ?_
    refine Wk.aload (q := 404) at_402 rfl rfl (by first | rfl | assumption) ?_
    refine Wk.iload (q := 406) at_404 rfl rfl ?_
    refine Wk.bipush (q := 408) (22) at_406 rfl (by decide) ?_
    refine Wk.iadd (q := 409) at_408 rfl ?_
    refine Wk.bipush (q := 411) (104) at_409 rfl (by decide) ?_
    refine Wk.castore (q := 412) (29) at_411 rfl (by repeat (first | exact Ex.here | assumption | apply Ex.there)) (by decide) (by decide) (by rfl) (VS.there (VS.there (VS.there (VS.there (VS.there (VS.there (VS.there (VS.there (VS.there (VS.there (VS.there (VS.there (VS.there (VS.there (VS.there (VS.there (VS.there (VS.there (VS.there (VS.there (VS.there (VS.there (VS.there (VS.there (VS.there (VS.there (VS.there (VS.there (VS.there (VS.here)))))))))))))))))))))))))))))) ?_
    refine Wk.aload (q := 414) at_412 rfl rfl (by first | rfl | assumption) ?_
    refine Wk.iload (q := 416) at_414 rfl rfl ?_
    refine Wk.bipush (q := 418) (23) at_416 rfl (by decide) ?_
    refine Wk.iadd (q := 419) at_418 rfl ?_
    refine Wk.bipush (q := 421) (101) at_419 rfl (by decide) ?_
    refine Wk.castore (q := 422) (30) at_421 rfl (by repeat (first | exact Ex.here | assumption | apply Ex.there)) (by decide) (by decide) (by rfl) (VS.there (VS.there (VS.there (VS.there (VS.there (VS.there (VS.there (VS.there (VS.there (VS.there (VS.there (VS.there (VS.there (VS.there (VS.there (VS.there (VS.there (VS.there (VS.there (VS.there (VS.there (VS.there (VS.there (VS.there (VS.there (VS.there (VS.there (VS.there (VS.there (VS.there (VS.here))))))))))))))))))))))))))))))) ?_
    refine Wk.aload (q := 424) at_422 rfl rfl (by first | rfl | assumption) ?_
    refine Wk.iload (q := 426) at_424 rfl rfl ?_
    refine Wk.bipush (q := 428) (24) at_426 rfl (by decide) ?_
    refine Wk.iadd (q := 429) at_428 rfl ?_
    refine Wk.bipush (q := 431) (114) at_429 rfl (by decide) ?_
    refine Wk.castore (q := 432) (31) at_431 rfl (by repeat (first | exact Ex.here | assumption | apply Ex.there)) (by decide) (by decide) (by rfl) (VS.there (VS.there (VS.there (VS.there (VS.there (VS.there (VS.there (VS.there (VS.there (VS.there (VS.there (VS.there (VS.there (VS.there (VS.there (VS.there (VS.there (VS.there (VS.there (VS.there (VS.there (VS.there (VS.there (VS.there (VS.there (VS.there (VS.there (VS.there (VS.there (VS.there (VS.there (VS.here)))))))))))))))))))))))))))))))) ?_
    refine Wk.new (q := 435) at_432 rfl (hw _ (List.mem_of_getElem? (i := 4) rfl)) (hw _ (List.mem_of_getElem? (i := 5) rfl)) (hw _ (List.mem_of_getElem? (i := 6) rfl)) (layS_ok hw) layS_dv (by first | decide | (dsimp only; omega) | omega) (by first | decide | (dsimp only; omega) | omega) ?_
    intro es
    refine Wk.dup (q := 436) at_435 rfl rfl ?_
    refine Wk.aload (q := 438) at_436 rfl rfl (by first | rfl | assumption) ?_
    refine Wk.pull (o := (es, true, OB Z "java/lang/String" layS [.null, .int 0])) (by repeat (first | exact Ex.here | assumption | apply Ex.there)) ?_
    refine Wk.special (q := 441) [_] _ 1 at_438 rfl rfl (hw _ (List.mem_of_getElem? (i := 8) rfl)) (hw _ (List.mem_of_getElem? (i := 9) rfl)) (hw _ (List.mem_of_getElem? (i := 6) rfl)) (hw _ (List.mem_of_getElem? (i := 10) rfl)) ar_19 (by decide) rfl rfl rfl rfl (ct_strInitG hw hE F (cs := [m0, m1, 32, 97, 110, 100, 32, 32, 99, 97, 110, 110, 111, 116, 32, 98, 101, 32, 103, 105, 118, 101, 110, 32, 116, 111, 103, 101, 116, 104, 101, 114]) (lat_cons h1 (lat_cons h2 (lat_cons (by decide) (lat_cons (by decide) (lat_cons (by decide) (lat_cons (by decide) (lat_cons (by decide) (lat_cons (by decide) (lat_cons (by decide) (lat_cons (by decide) (lat_cons (by decide) (lat_cons (by decide) (lat_cons (by decide) (lat_cons (by decide) (lat_cons (by decide) (lat_cons (by decide) (lat_cons (by decide) (lat_cons (by decide) (lat_cons (by decide) (lat_cons (by decide) (lat_cons (by decide) (lat_cons (by decide) (lat_cons (by decide) (lat_cons (by decide) (lat_cons (by decide) (lat_cons (by decide) (lat_cons (by decide) (lat_cons (by decide) (lat_cons (by decide) (lat_cons (by decide) (lat_cons (by decide) (lat_cons (by decide) lat_nil)))))))))))))))))))))))))))))))) 34 (by simp) (by simp) (by repeat (first | exact List.mem_cons_self | assumption | refine List.mem_cons_of_mem _ ?_))) (by first | decide | (dsimp only; omega) | omega) (by first | decide | (dsimp only; omega) | omega) (by first | decide | (dsimp only; omega) | omega) (by first | decide | (dsimp only; omega) | omega) (k0 ?_)
    rintro _ ⟨er, fer, rfl⟩
    refine Wk.astore (q := 443) at_441 rfl (by first | rfl | assumption) (LS1.there (LS1.there (LS1.there (LS1.there (LS1.there (LS1.there (LS1.there (LS1.there (LS1.there (LS1.there (LS1.there (LS1.there (LS1.there (LS1.there (LS1.here (by first | exact One.u | exact One.val rfl | assumption)))))))))))))))) ?_
    exact (fin _ ca es er true fer _ _ _ (by repeat (first | exact List.mem_cons_self | assumption | refine List.mem_cons_of_mem _ ?_)) (by repeat (first | exact List.mem_cons_self | assumption | refine List.mem_cons_of_mem _ ?_)) (by repeat (first | exact List.mem_cons_self | assumption | refine List.mem_cons_of_mem _ ?_)) (by repeat (first | exact List.mem_cons_self | assumption | refine List.mem_cons_of_mem _ ?_)) (by repeat (first | exact List.mem_cons_self | assumption | refine List.mem_cons_of_mem _ ?_)) (by repeat (first | exact List.mem_cons_self | assumption | refine List.mem_cons_of_mem _ ?_))).mono (by decide) (by decide)
  · refine Wk.iload_n (q := 77) at_76 rfl rfl ?_
    refine Wk.iload_n (q := 78) at_77 rfl rfl ?_
    refine Wk.iadd (q := 79) at_78 rfl ?_
    refine Wk.bipush (q := 81) (30) at_79 rfl (by decide) ?_
    refine Wk.iadd (q := 82) at_81 rfl ?_
    refine Wk.newarray (q := 84) .char (33) [(.int 0), (.int 0), (.int 0), (.int 0), (.int 0), (.int 0), (.int 0), (.int 0), (.int 0), (.int 0), (.int 0), (.int 0), (.int 0), (.int 0), (.int 0), (.int 0), (.int 0), (.int 0), (.int 0), (.int 0), (.int 0), (.int 0), (.int 0), (.int 0), (.int 0), (.int 0), (.int 0), (.int 0), (.int 0), (.int 0), (.int 0), (.int 0), (.int 0)] at_82 rfl rfl rfl (hw _ (List.mem_of_getElem? (i := 7) rfl)) (by decide) (by decide) (by decide) (by first | decide | (dsimp only; omega) | omega) (by first | decide | (dsimp only; omega) | omega) ?_
    intro ca
    refine Wk.astore (q := 86) at_84 rfl (by first | rfl | assumption) (LS1.there (LS1.there (LS1.there (LS1.there (LS1.there (LS1.there (LS1.there (LS1.there (LS1.there (LS1.there (LS1.here (by first | exact One.u | exact One.val rfl | assumption)))))))))))) ?_
    refine Wk.iload_n (q := 87) at_86 rfl rfl ?_
    refine Wk.if_f (q := 90) at_87 rfl (by decide) ?_
    refine Wk.aload (q := 92) at_90 rfl rfl (by first | rfl | assumption) ?_
    refine Wk.iconst (q := 93) (0) at_92 rfl (by decide) ?_
    refine Wk.iload (q := 95) at_93 rfl rfl ?_
    refine Wk.castore (q := 96) (0) at_95 rfl (by repeat (first | exact Ex.here | assumption | apply Ex.there)) (by decide) (by decide) (nchar_lat h1) (VS.here) ?_
    refine Wk.iload_n (q := 97) at_96 rfl rfl ?_
    refine Wk.iconst (q := 98) (1) at_97 rfl (by decide) ?_
    refine Wk.icmp_f (q := 101) at_98 rfl (by decide) ?_
    refine Wk.aload (q := 103) at_101 rfl rfl (by first | rfl | assumption) ?_
    refine Wk.iconst (q := 104) (1) at_103 rfl (by decide) ?_
    refine Wk.iload (q := 106) at_104 rfl rfl ?_
    refine Wk.castore (q := 107) (1) at_106 rfl (by repeat (first | exact Ex.here | assumption | apply Ex.there)) (by decide) (by decide) (nchar_lat h2) (VS.there (VS.here)) ?_
    refine Wk.iload_n (q := 108) at_107 rfl rfl ?_
    refine Wk.istore (q := 110) at_108 rfl (LS1.there (LS1.there (LS1.there (LS1.there (LS1.there (LS1.there (LS1.there (LS1.there (LS1.there (LS1.there (LS1.there (LS1.here (by first | exact One.u | exact One.val rfl | assumption))))))))))))) ?_
    refine Wk.aload (q := 112) at_110 rfl rfl (by first | rfl | assumption) ?_
    refine Wk.iload (q := 114) at_112 rfl rfl ?_
    refine Wk.bipush (q := 116) (32) at_114 rfl (by decide) ?_
    refine Wk.castore (q := 117) (2) at_116 rfl (by repeat (first | exact Ex.here | assumption | apply Ex.there)) (by decide) (by decide) (by rfl) (VS.there (VS.there (VS.here))) ?_
    refine Wk.aload (q := 119) at_117 rfl rfl (by first | rfl | assumption) ?_
    refine Wk.iload (q := 121) at_119 rfl rfl ?_
    refine Wk.iconst (q := 122) (1) at_121 rfl (by decide) ?_
    refine Wk.iadd (q := 123) at_122 rfl ?_
    refine Wk.bipush (q := 125) (97) at_123 rfl (by decide) ?_
    refine Wk.castore (q := 126) (3) at_125 rfl (by repeat (first | exact Ex.here | assumption | apply Ex.there)) (by decide) (by decide) (by rfl) (VS.there (VS.there (VS.there (VS.here)))) ?_
    refine Wk.aload (q := 128) at_126 rfl rfl (by first | rfl | assumption) ?_
    refine Wk.iload (q := 130) at_128 rfl rfl ?_
    refine Wk.iconst (q := 131) (2) at_130 rfl (by decide) ?_
    refine Wk.iadd (q := 132) at_131 rfl ?_
    refine Wk.bipush (q := 134) (110) at_132 rfl (by decide) ?_
    refine Wk.castore (q := 135) (4) at_134 rfl (by repeat (first | exact Ex.here | assumption | apply Ex.there)) (by decide) (by decide) (by rfl) (VS.there (VS.there (VS.there (VS.there (VS.here))))) ?_
    refine Wk.aload (q := 137) at_135 rfl rfl (by first | rfl | assumption) ?_
    refine Wk.iload (q := 139) at_137 rfl rfl ?_
    refine Wk.iconst (q := 140) (3) at_139 rfl (by decide) ?_
    refine Wk.iadd (q := 141) at_140 rfl ?_
    refine Wk.bipush (q := 143) (100) at_141 rfl (by decide) ?_
    refine Wk.castore (q := 144) (5) at_143 rfl (by repeat (first | exact Ex.here | assumption | apply Ex.there)) (by decide) (by decide) (by rfl) (VS.there (VS.there (VS.there (VS.there (VS.there (VS.here)))))) ?_
    refine Wk.aload (q := 146) at_144 rfl rfl (by first | rfl | assumption) ?_
    refine Wk.iload (q := 148) at_146 rfl rfl ?_
    refine Wk.iconst (q := 149) (4) at_148 rfl (by decide) ?_
    refine Wk.iadd (q := 150) at_149 rfl ?_
    refine Wk.bipush (q := 152) (32) at_150 rfl (by decide) ?_
    refine Wk.castore (q := 153) (6) at_152 rfl (by repeat (first | exact Ex.here | assumption | apply Ex.there)) (by decide) (by decide) (by rfl) (VS.there (VS.there (VS.there (VS.there (VS.there (VS.there (VS.here))))))) ?_
    refine Wk.iload (q := 155) at_153 rfl rfl ?_
    refine Wk.iconst (q := 156) (5) at_155 rfl (by decide) ?_
    refine Wk.iadd (q := 157) at_156 rfl ?_
    refine Wk.istore (q := 159) at_157 rfl (LS1.there (LS1.there (LS1.there (LS1.there (LS1.there (LS1.there (LS1.there (LS1.there (LS1.there (LS1.there (LS1.there (LS1.there (LS1.here (by first | exact One.u | exact One.val rfl | assumption)))))))))))))) ?_
    refine Wk.iload_n (q := 160) at_159 rfl rfl ?_
    refine Wk.if_f (q := 163) at_160 rfl (by decide) ?_
    refine Wk.aload (q := 165) at_163 rfl rfl (by first | rfl | assumption) ?_
    refine Wk.iload (q := 167) at_165 rfl rfl ?_
    refine Wk.iload (q := 169) at_167 rfl rfl ?_
    refine Wk.castore (q := 170) (7) at_169 rfl (by repeat (first | exact Ex.here | assumption | apply Ex.there)) (by decide) (by decide) (nchar_lat h3) (VS.there (VS.there (VS.there (VS.there (VS.there (VS.there (VS.there (VS.here)))))))) ?_
    refine Wk.iload_n (q := 171) at_170 rfl rfl ?_
    refine Wk.iconst (q := 172) (1) at_171 rfl (by decide) ?_
    refine Wk.icmp_t (q := 184) at_172 (by decide) (by decide) (by decide) ?_
    refine Wk.iload (q := 186) at_184 rfl rfl ?_
    refine Wk.iload_n (q := 187) at_186 rfl rfl ?_
    refine Wk.iadd (q := 188) at_187 rfl ?_
    refine Wk.istore (q := 190) at_188 rfl (LS1.there (LS1.there (LS1.there (LS1.there (LS1.there (LS1.there (LS1.there (LS1.there (LS1.there (LS1.there (LS1.there (LS1.there (LS1.there (LS1.here (by first | exact One.u | exact One.val rfl | assumption))))))))))))))) ?_
    refine Wk.aload (q := 192) at_190 rfl rfl (by first | rfl | assumption) ?_
    refine Wk.iload (q := 194) at_192 rfl rfl ?_
    refine Wk.bipush (q := 196) (32) at_194 rfl (by decide) ?_
    refine Wk.castore (q := 197) (8) at_196 rfl (by repeat (first | exact Ex.here | assumption | apply Ex.there)) (by decide) (by decide) (by rfl) (VS.there (VS.there (VS.there (VS.there (VS.there (VS.there (VS.there (VS.there (VS.here))))))))) ?_
    refine Wk.aload (q := 199) at_197 rfl rfl (by first | rfl | assumption) ?_
    refine Wk.iload (q := 201) at_199 rfl rfl ?_
    refine Wk.iconst (q := 202) (1) at_201 rfl (by decide) ?_
    refine Wk.iadd (q := 203) at_202 rfl ?_
    refine Wk.bipush (q := 205) (99) at_203 rfl (by decide) ?_
    refine Wk.castore (q := 206) (9) at_205 rfl (by repeat (first | exact Ex.here | assumption | apply Ex.there)) (by decide) (by decide) (by rfl) (VS.there (VS.there (VS.there (VS.there (VS.there (VS.there (VS.there (VS.there (VS.there (VS.here)))))))))) ?_
    refine Wk.aload (q := 208) at_206 rfl rfl (by first | rfl | assumption) ?_
    refine Wk.iload (q := 210) at_208 rfl rfl ?_
    refine Wk.iconst (q := 211) (2) at_210 rfl (by decide) ?_
    refine Wk.iadd (q := 212) at_211 rfl ?_
    refine Wk.bipush (q := 214) (97) at_212 rfl (by decide) ?_
    refine Wk.castore (q := 215) (10) at_214 rfl (by repeat (first | exact Ex.here | assumption | apply Ex.there)) (by decide) (by decide) (by rfl) (VS.there (VS.there (VS.there (VS.there (VS.there (VS.there (VS.there (VS.there (VS.there (VS.there (VS.here))))))))))) ?_
    refine Wk.aload (q := 217) at_215 rfl rfl (by first | rfl | assumption) ?_
    refine Wk.iload (q := 219) at_217 rfl rfl ?_
    refine Wk.iconst (q := 220) (3) at_219 rfl (by decide) ?_
    refine Wk.iadd (q := 221) at_220 rfl ?_
    refine Wk.bipush (q := 223) (110) at_221 rfl (by decide) ?_
    refine Wk.castore (q := 224) (11) at_223 rfl (by repeat (first | exact Ex.here | assumption | apply Ex.there)) (by decide) (by decide) (by rfl) (VS.there (VS.there (VS.there (VS.there (VS.there (VS.there (VS.there (VS.there (VS.there (VS.there (VS.there (VS.here)))))))))))) ?_
    refine Wk.aload (q := 226) at_224 rfl rfl (by first | rfl | assumption) ?_
    refine Wk.iload (q := 228) at_226 rfl rfl ?_
    refine Wk.iconst (q := 229) (4) at_228 rfl (by decide) ?_
    refine Wk.iadd (q := 230) at_229 rfl ?_
    refine Wk.bipush (q := 232) (110) at_230 rfl (by decide) ?_
    refine Wk.castore (q := 233) (12) at_232 rfl (by repeat (first | exact Ex.here | assumption | apply Ex.there)) (by decide) (by decide) (by rfl) (VS.there (VS.there (VS.there (VS.there (VS.there (VS.there (VS.there (VS.there (VS.there (VS.there (VS.there (VS.there (VS.here))))))))))))) ?_
    refine Wk.aload (q := 235) at_233 rfl rfl (by first | rfl | assumption) ?_
    refine Wk.iload (q := 237) at_235 rfl rfl ?_
    refine Wk.iconst (q := 238) (5) at_237 rfl (by decide) ?_
    refine Wk.iadd (q := 239) at_238 rfl ?_
    refine Wk.bipush (q := 241) (111) at_239 rfl (by decide) ?_
    refine Wk.castore (q := 242) (13) at_241 rfl (by repeat (first | exact Ex.here | assumption | apply Ex.there)) (by decide) (by decide) (by rfl) (VS.there (VS.there (VS.there (VS.there (VS.there (VS.there (VS.there (VS.there (VS.there (VS.there (VS.there (VS.there (VS.there (VS.here)))))))))))))) ?_
    refine Wk.aload (q := 244) at_242 rfl rfl (by first | rfl | assumption) ?_
    refine Wk.iload (q := 246) at_244 rfl rfl ?_
    refine Wk.bipush (q := 248) (6) at_246 rfl (by decide) ?_
    refine Wk.iadd (q := 249) at_248 rfl ?_
    refine Wk.bipush (q := 251) (116) at_249 rfl (by decide) ?_
    refine Wk.castore (q := 252) (14) at_251 rfl (by repeat (first | exact Ex.here | assumption | apply Ex.there)) (by decide) (by decide) (by rfl) (VS.there (VS.there (VS.there (VS.there (VS.there (VS.there (VS.there (VS.there (VS.there (VS.there (VS.there (VS.there (VS.there (VS.there (VS.here))))))))))))))) ?_
    refine Wk.aload (q := 254) at_252 rfl rfl (by first | rfl | assumption) ?_
    refine Wk.iload (q := 256) at_254 rfl rfl ?_
    refine Wk.bipush (q := 258) (7) at_256 rfl (by decide) ?_
    refine Wk.iadd (q := 259) at_258 rfl ?_
    refine Wk.bipush (q := 261) (32) at_259 rfl (by decide) ?_
    refine Wk.castore (q := 262) (15) at_261 rfl (by repeat (first | exact Ex.here | assumption | apply Ex.there)) (by decide) (by decide) (by rfl) (VS.there (VS.there (VS.there (VS.there (VS.there (VS.there (VS.there (VS.there (VS.there (VS.there (VS.there (VS.there (VS.there (VS.there (VS.there (VS.here)))))))))))))))) ?_
    refine Wk.aload (q := 264) at_262 rfl rfl (by first | rfl | assumption) ?_
    refine Wk.iload (q := 266) at_264 rfl rfl ?_
    refine Wk.bipush (q := 268) (8) at_266 rfl (by decide) ?_
    refine Wk.iadd (q := 269) at_268 rfl ?_
    refine Wk.bipush (q := 271) (98) at_269 rfl (by decide) ?_
    refine Wk.castore (q := 272) (16) at_271 rfl (by repeat (first | exact Ex.here | assumption | apply Ex.there)) (by decide) (by decide) (by rfl) (VS.there (VS.there (VS.there (VS.there (VS.there (VS.there (VS.there (VS.there (VS.there (VS.there (VS.there (VS.there (VS.there (VS.there (VS.there (VS.there (VS.here))))))))))))))))) ?_
    refine Wk.aload (q := 274) at_272 rfl rfl (by first | rfl | assumption) ?_
    refine Wk.iload (q := 276) at_274 rfl rfl ?_
    refine Wk.bipush (q := 278) (9) at_276 rfl (by decide) ?_
    refine Wk.iadd (q := 279) at_278 rfl ?_
    refine Wk.bipush (q := 281) (101) at_279 rfl (by decide) ?_
    refine Wk.castore (q := 282) (17) at_281 rfl (by repeat (first | exact Ex.here | assumption | apply Ex.there)) (by decide) (by decide) (by rfl) (VS.there (VS.there (VS.there (VS.there (VS.there (VS.there (VS.there (VS.there (VS.there (VS.there (VS.there (VS.there (VS.there (VS.there (VS.there (VS.there (VS.there (VS.here)))))))))))))))))) ?_
    refine Wk.aload (q := 284) at_282 rfl rfl (by first | rfl | assumption) ?_
    refine Wk.iload (q := 286) at_284 rfl rfl ?_
    refine Wk.bipush (q := 288) (10) at_286 rfl (by decide) ?_
    refine Wk.iadd (q := 289) at_288 rfl ?_
    refine Wk.bipush (q := 291) (32) at_289 rfl (by decide) ?_
    refine Wk.castore (q := 292) (18) at_291 rfl (by repeat (first | exact Ex.here | assumption | apply Ex.there)) (by decide) (by decide) (by rfl) (VS.there (VS.there (VS.there (VS.there (VS.there (VS.there (VS.there (VS.there (VS.there (VS.there (VS.there (VS.there (VS.there (VS.there (VS.there (VS.there (VS.there (VS.there (VS.here))))))))))))))))))) ?_
    refine Wk.aload (q := 294) at_292 rfl rfl (by first | rfl | assumption) ?_
    refine Wk.iload (q := 296) at_294 rfl rfl ?_
    refine Wk.bipush (q := 298) (11) at_296 rfl (by decide) ?_
    refine Wk.iadd (q := 299) at_298 rfl ?_
    refine Wk.bipush (q := 301) (103) at_299 rfl (by decide) ?_
    refine Wk.castore (q := 302) (19) at_301 rfl (by repeat (first | exact Ex.here | assumption | apply Ex.there)) (by decide) (by decide) (by rfl) (VS.there (VS.there (VS.there (VS.there (VS.there (VS.there (VS.there (VS.there (VS.there (VS.there (VS.there (VS.there (VS.there (VS.there (VS.there (VS.there (VS.there (VS.there (VS.there (VS.here)))))))))))))))))))) ?_
    refine Wk.aload (q := 304) at_302 rfl rfl (by first | rfl | assumption) ?_
    refine Wk.iload (q := 306) at_304 rfl rfl ?_
    refine Wk.bipush (q := 308) (12) at_306 rfl (by decide) ?_
    refine Wk.iadd (q := 309) at_308 rfl ?_
    refine Wk.bipush (q := 311) (105) at_309 rfl (by decide) ?_
    refine Wk.castore (q := 312) (20) at_311 rfl (by repeat (first | exact Ex.here | assumption | apply Ex.there)) (by decide) (by decide) (by rfl) (VS.there (VS.there (VS.there (VS.there (VS.there (VS.there (VS.there (VS.there (VS.there (VS.there (VS.there (VS.there (VS.there (VS.there (VS.there (VS.there (VS.there (VS.there (VS.there (VS.there (VS.here))))))))))))))))))))) ?_
    refine Wk.aload (q := 314) at_312 rfl rfl (by first | rfl | assumption) ?_
    refine Wk.iload (q := 316) at_314 rfl rfl ?_
    refine Wk.bipush (q := 318) (13) at_316 rfl (by decide) ?_
    refine Wk.iadd (q := 319) at_318 rfl ?_
    refine Wk.bipush (q := 321) (118) at_319 rfl (by decide) ?_
    refine Wk.castore (q := 322) (21) at_321 rfl (by repeat (first | exact Ex.here | assumption | apply Ex.there)) (by decide) (by decide) (by rfl) (VS.there (VS.there (VS.there (VS.there (VS.there (VS.there (VS.there (VS.there (VS.there (VS.there (VS.there (VS.there (VS.there (VS.there (VS.there (VS.there (VS.there (VS.there (VS.there (VS.there (VS.there (VS.here)))))))))))))))))))))) ?_
    refine Wk.aload (q := 324) at_322 rfl rfl (by first | rfl | assumption) ?_
    refine Wk.iload (q := 326) at_324 rfl rfl ?_
    refine Wk.bipush (q := 328) (14) at_326 rfl (by decide) ?_
    refine Wk.iadd (q := 329) at_328 rfl ?_
    refine Wk.bipush (q := 331) (101) at_329 rfl (by decide) ?_
    refine Wk.castore (q := 332) (22) at_331 rfl (by repeat (first | exact Ex.here | assumption | apply Ex.there)) (by decide) (by decide) (by rfl) (VS.there (VS.there (VS.there (VS.there (VS.there (VS.there (VS.there (VS.there (VS.there (VS.there (VS.there (VS.there (VS.there (VS.there (VS.there (VS.there (VS.there (VS.there (VS.there (VS.there (VS.there (VS.there (VS.here))))))))))))))))))))))) ?_
    refine Wk.aload (q := 334) at_332 rfl rfl (by first | rfl | assumption) ?_
    refine Wk.iload (q := 336) at_334 rfl rfl ?_
    refine Wk.bipush (q := 338) (15) at_336 rfl (by decide) ?_
    refine Wk.iadd (q := 339) at_338 rfl ?_
    refine Wk.bipush (q := 341) (110) at_339 rfl (by decide) ?_
    refine Wk.castore (q := 342) (23) at_341 rfl (by repeat (first | exact Ex.here | assumption | apply Ex.there)) (by decide) (by decide) (by rfl) (VS.there (VS.there (VS.there (VS.there (VS.there (VS.there (VS.there (VS.there (VS.there (VS.there (VS.there (VS.there (VS.there (VS.there (VS.there (VS.there (VS.there (VS.there (VS.there (VS.there (VS.there (VS.there (VS.there (VS.here)))))))))))))))))))))))) ?_
    refine Wk.aload (q := 344) at_342 rfl rfl (by first | rfl | assumption) ?_
    refine Wk.iload (q := 346) at_344 rfl rfl ?_
    refine Wk.bipush (q := 348) (16) at_346 rfl (by decide) ?_
    refine Wk.iadd (q := 349) at_348 rfl ?_
    refine Wk.bipush (q := 351) (32) at_349 rfl (by decide) ?_
    refine Wk.castore (q := 352) (24) at_351 rfl (by repeat (first | exact Ex.here | assumption | apply Ex.there)) (by decide) (by decide) (by rfl) (VS.there (VS.there (VS.there (VS.there (VS.there (VS.there (VS.there (VS.there (VS.there (VS.there (VS.there (VS.there (VS.there (VS.there (VS.there (VS.there (VS.there (VS.there (VS.there (VS.there (VS.there (VS.there (VS.there (VS.there (VS.here))))))))))))))))))))))))) ?_
    refine Wk.aload (q := 354) at_352 rfl rfl (by first | rfl | assumption) ?_
    refine Wk.iload (q := 356) at_354 rfl rfl ?_
    refine Wk.bipush (q := 358) (17) at_356 rfl (by decide) ?_
    refine Wk.iadd (q := 359) at_358 rfl ?_
    refine Wk.bipush (q := 361) (116) at_359 rfl (by decide) ?_
    refine Wk.castore (q := 362) (25) at_361 rfl (by repeat (first | exact Ex.here | assumption | apply Ex.there)) (by decide) (by decide) (by rfl) (VS.there (VS.there (VS.there (VS.there (VS.there (VS.there (VS.there (VS.there (VS.there (VS.there (VS.there (VS.there (VS.there (VS.there (VS.there (VS.there (VS.there (VS.there (VS.there (VS.there (VS.there (VS.there (VS.there (VS.there (VS.there (VS.here)))))))))))))))))))))))))) ?_
    refine Wk.aload (q := 364) at_362 rfl rfl (by first | rfl | assumption) ?_
    refine Wk.iload (q := 366) at_364 rfl rfl ?_
    refine Wk.bipush (q := 368) (18) at_366 rfl (by decide) ?_
    refine Wk.iadd (q := 369) at_368 rfl ?_
    refine Wk.bipush (q := 371) (111) at_369 rfl (by decide) ?_
    refine Wk.castore (q := 372) (26) at_371 rfl (by repeat (first | exact Ex.here | assumption | apply Ex.there)) (by decide) (by decide) (by rfl) (VS.there (VS.there (VS.there (VS.there (VS.there (VS.there (VS.there (VS.there (VS.there (VS.there (VS.there (VS.there (VS.there (VS.there (VS.there (VS.there (VS.there (VS.there (VS.there (VS.there (VS.there (VS.there (VS.there (VS.there (VS.there (VS.there (VS.here))))))))))))))))))))))))))) ?_
    refine Wk.aload (q := 374) at_372 rfl rfl (by first | rfl | assumption) ?_
    refine Wk.iload (q := 376) at_374 rfl rfl ?_
    refine Wk.bipush (q := 378) (19) at_376 rfl (by decide) ?_
    refine Wk.iadd (q := 379) at_378 rfl ?_
    refine Wk.bipush (q := 381) (103) at_379 rfl (by decide) ?_
    refine Wk.castore (q := 382) (27) at_381 rfl (by repeat (first | exact Ex.here | assumption | apply Ex.there)) (by decide) (by decide) (by rfl) (VS.there (VS.there (VS.there (VS.there (VS.there (VS.there (VS.there (VS.there (VS.there (VS.there (VS.there (VS.there (VS.there (VS.there (VS.there (VS.there (VS.there (VS.there (VS.there (VS.there (VS.there (VS.there (VS.there (VS.there (VS.there (VS.there (VS.there (VS.here)))))))))))))))))))))))))))) ?_
    refine Wk.aload (q := 384) at_382 rfl rfl (by first | rfl | assumption) ?_
    refine Wk.iload (q := 386) at_384 rfl rfl ?_
    refine Wk.bipush (q := 388) (20) at_386 rfl (by decide) ?_
    refine Wk.iadd (q := 389) at_388 rfl ?_
    refine Wk.bipush (q := 391) (101) at_389 rfl (by decide) ?_
    refine Wk.castore (q := 392) (28) at_391 rfl (by repeat (first | exact Ex.here | assumption | apply Ex.there)) (by decide) (by decide) (by rfl) (VS.there (VS.there (VS.there (VS.there (VS.there (VS.there (VS.there (VS.there (VS.there (VS.there (VS.there (VS.there (VS.there (VS.there (VS.there (VS.there (VS.there (VS.there (VS.there (VS.there (VS.there (VS.there (VS.there (VS.there (VS.there (VS.there (VS.there (VS.there (VS.here))))))))))))))))))))))))))))) ?_
    refine Wk.aload (q := 394) at_392 rfl rfl (by first | rfl | assumption) ?_
    refine Wk.iload (q := 396) at_394 rfl rfl ?_
    refine Wk.bipush (q := 398) (21) at_396 rfl (by decide) ?_
    refine Wk.iadd (q := 399) at_398 rfl ?_
    refine Wk.bipush (q := 401) (116) at_399 rfl (by decide) ?_
    refine Wk.castore (q := 402) (29) at_401 rfl (by repeat (first | exact Ex.here | assumption | apply Ex.there)) (by decide) (by decide) (by rfl) (VS.there (VS.there (VS.there (VS.there (VS.there (VS.there (VS.there (VS.there (VS.there (VS.there (VS.there (VS.there (VS.there (VS.there (VS.there (VS.there (VS.there (VS.there (VS.there (VS.there (VS.there (VS.there (VS.there (VS.there (VS.there (VS.there (VS.there (VS.there (VS.there (VS.here)))))))))))))))))))))))))))))) ?_
    refine Wk.aload (q := 404) at_402 rfl rfl (by first | rfl | assumption) ?_
    refine Wk.iload (q := 406) at_404 rfl rfl ?_
    refine Wk.bipush (q := 408) (22) at_406 rfl (by decide) ?_
    refine Wk.iadd (q := 409) at_408 rfl ?_
    refine Wk.bipush (q := 411) (104) at_409 rfl (by decide) ?_
    refine Wk.castore (q := 412) (30) at_411 rfl (by repeat (first | exact Ex.here | assumption | apply Ex.there)) (by decide) (by decide) (by rfl) (VS.there (VS.there (VS.there (VS.there (VS.there (VS.there (VS.there (VS.there (VS.there (VS.there (VS.there (VS.there (VS.there (VS.there (VS.there (VS.there (VS.there (VS.there (VS.there (VS.there (VS.there (VS.there (VS.there (VS.there (VS.there (VS.there (VS.there (VS.there (VS.there (VS.there (VS.here))))))))))))))))))))))))))))))) ?_
    refine Wk.aload (q := 414) at_412 rfl rfl (by first | rfl | assumption) ?_
    refine Wk.iload (q := 416) at_414 rfl rfl ?_
    refine Wk.bipush (q := 418) (23) at_416 rfl (by decide) ?_
    refine Wk.iadd (q := 419) at_418 rfl ?_
    refine Wk.bipush (q := 421) (101) at_419 rfl (by decide) ?_
    refine Wk.castore (q := 422) (31) at_421 rfl (by repeat (first | exact Ex.here | assumption | apply Ex.there)) (by decide) (by decide) (by rfl) (VS.there (VS.there (VS.there (VS.there (VS.there (VS.there (VS.there (VS.there (VS.there (VS.there (VS.there (VS.there (VS.there (VS.there (VS.there (VS.there (VS.there (VS.there (VS.there (VS.there (VS.there (VS.there (VS.there (VS.there (VS.there (VS.there (VS.there (VS.there (VS.there (VS.there (VS.there (VS.here)))))))))))))))))))))))))))))))) ?_
    refine Wk.aload (q := 424) at_422 rfl rfl (by first | rfl | assumption) ?_
    refine Wk.iload (q := 426) at_424 rfl rfl ?_
    refine Wk.bipush (q := 428) (24) at_426 rfl (by decide) ?_
    refine Wk.iadd (q := 429) at_428 rfl ?_
    refine Wk.bipush (q := 431) (114) at_429 rfl (by decide) ?_
    refine Wk.castore (q := 432) (32) at_431 rfl (by repeat (first | exact Ex.here | assumption | apply Ex.there)) (by decide) (by decide) (by rfl) (VS.there (VS.there (VS.there (VS.there (VS.there (VS.there (VS.there (VS.there (VS.there (VS.there (VS.there (VS.there (VS.there (VS.there (VS.there (VS.there (VS.there (VS.there (VS.there (VS.there (VS.there (VS.there (VS.there (VS.there (VS.there (VS.there (VS.there (VS.there (VS.there (VS.there (VS.there (VS.there (VS.here))))))))))))))))))))))))))))))))) ?_
    refine Wk.new (q := 435) at_432 rfl (hw _ (List.mem_of_getElem? (i := 4) rfl)) (hw _ (List.mem_of_getElem? (i := 5) rfl)) (hw _ (List.mem_of_getElem? (i := 6) rfl)) (layS_ok hw) layS_dv (by first | decide | (dsimp only; omega) | omega) (by first | decide | (dsimp only; omega) | omega) ?_
    intro es
    refine Wk.dup (q := 436) at_435 rfl rfl ?_
    refine Wk.aload (q := 438) at_436 rfl rfl (by first | rfl | assumption) ?_
    refine Wk.pull (o := (es, true, OB Z "java/lang/String" layS [.null, .int 0])) (by repeat (first | exact Ex.here | assumption | apply Ex.there)) ?_
    refine Wk.special (q := 441) [_] _ 1 at_438 rfl rfl (hw _ (List.mem_of_getElem? (i := 8) rfl)) (hw _ (List.mem_of_getElem? (i := 9) rfl)) (hw _ (List.mem_of_getElem? (i := 6) rfl)) (hw _ (List.mem_of_getElem? (i := 10) rfl)) ar_19 (by decide) rfl rfl rfl rfl (ct_strInitG hw hE F (cs := [m0, m1, 32, 97, 110, 100, 32, n0, 32, 99, 97, 110, 110, 111, 116, 32, 98, 101, 32, 103, 105, 118, 101, 110, 32, 116, 111, 103, 101, 116, 104, 101, 114]) (lat_cons h1 (lat_cons h2 (lat_cons (by decide) (lat_cons (by decide) (lat_cons (by decide) (lat_cons (by decide) (lat_cons (by decide) (lat_cons h3 (lat_cons (by decide) (lat_cons (by decide) (lat_cons (by decide) (lat_cons (by decide) (lat_cons (by decide) (lat_cons (by decide) (lat_cons (by decide) (lat_cons (by decide) (lat_cons (by decide) (lat_cons (by decide) (lat_cons (by decide) (lat_cons (by decide) (lat_cons (by decide) (lat_cons (by decide) (lat_cons (by decide) (lat_cons (by decide) (lat_cons (by decide) (lat_cons (by decide) (lat_cons (by decide) (lat_cons (by decide) (lat_cons (by decide) (lat_cons (by decide) (lat_cons (by decide) (lat_cons (by decide) (lat_cons (by decide) lat_nil))))))))))))))))))))))))))))))))) 34 (by simp) (by simp) (by repeat (first | exact List.mem_cons_self | assumption | refine List.mem_cons_of_mem _ ?_))) (by first | decide | (dsimp only; omega) | omega) (by first | decide | (dsimp only; omega) | omega) (by first | decide | (dsimp only; omega) | omega) (by first | decide | (dsimp only; omega) | omega) (k0 ?_)
    rintro _ ⟨er, fer, rfl⟩
    refine Wk.astore (q := 443) at_441 rfl (by first | rfl | assumption) (LS1.there (LS1.there (LS1.there (LS1.there (LS1.there (LS1.there (LS1.there (LS1.there (LS1.there (LS1.there (LS1.there (LS1.there (LS1.there (LS1.there (LS1.here (by first | exact One.u | exact One.val rfl | assumption)))))))))))))))) ?_
    exact (fin _ ca es er true fer _ _ _ (by repeat (first | exact List.mem_cons_self | assumption | refine List.mem_cons_of_mem _ ?_)) (by repeat (first | exact List.mem_cons_self | assumption | refine List.mem_cons_of_mem _ ?_)) (by repeat (first | exact List.mem_cons_self | assumption | refine List.mem_cons_of_mem _ ?_)) (by repeat (first | exact List.mem_cons_self | assumption | refine List.mem_cons_of_mem _ ?_)) (by repeat (first | exact List.mem_cons_self | assumption | refine List.mem_cons_of_mem _ ?_)) (by repeat (first | exact List.mem_cons_self | assumption | refine List.mem_cons_of_mem _ ?_))).mono (by decide) (by decide)
  · refine Wk.iload_n (q := 77) at_76 rfl rfl ?_
    refine Wk.iload_n (q := 78) at_77 rfl rfl ?_
    refine Wk.iadd (q := 79) at_78 rfl ?_
    refine Wk.bipush (q := 81) (30) at_79 rfl (by decide) ?_
    refine Wk.iadd (q := 82) at_81 rfl ?_
    refine Wk.newarray (q := 84) .char (34) [(.int 0), (.int 0), (.int 0), (.int 0), (.int 0), (.int 0), (.int 0), (.int 0), (.int 0), (.int 0), (.int 0), (.int 0), (.int 0), (.int 0), (.int 0), (.int 0), (.int 0), (.int 0), (.int 0), (.int 0), (.int 0), (.int 0), (.int 0), (.int 0), (.int 0), (.int 0), (.int 0), (.int 0), (.int 0), (.int 0), (.int 0), (.int 0), (.int 0), (.int 0)] at_82 rfl rfl rfl (hw _ (List.mem_of_getElem? (i := 7) rfl)) (by decide) (by decide) (by decide) (by first | decide | (dsimp only; omega) | omega) (by first | decide | (dsimp only; omega) | omega) ?_
    intro ca
    refine Wk.astore (q := 86) at_84 rfl (by first | rfl | assumption) (LS1.there (LS1.there (LS1.there (LS1.there (LS1.there (LS1.there (LS1.there (LS1.there (LS1.there (LS1.there (LS1.here (by first | exact One.u | exact One.val rfl | assumption)))))))))))) ?_
    refine Wk.iload_n (q := 87) at_86 rfl rfl ?_
    refine Wk.if_f (q := 90) at_87 rfl (by decide) ?_
    refine Wk.aload (q := 92) at_90 rfl rfl (by first | rfl | assumption) ?_
    refine Wk.iconst (q := 93) (0) at_92 rfl (by decide) ?_
    refine Wk.iload (q := 95) at_93 rfl rfl ?_
    refine Wk.castore (q := 96) (0) at_95 rfl (by repeat (first | exact Ex.here | assumption | apply Ex.there)) (by decide) (by decide) (nchar_lat h1) (VS.here) ?_
    refine Wk.iload_n (q := 97) at_96 rfl rfl ?_
    refine Wk.iconst (q := 98) (1) at_97 rfl (by decide) ?_
    refine Wk.icmp_f (q := 101) at_98 rfl (by decide) ?_
    refine Wk.aload (q := 103) at_101 rfl rfl (by first | rfl | assumption) ?_
    refine Wk.iconst (q := 104) (1) at_103 rfl (by decide) ?_
    refine Wk.iload (q := 106) at_104 rfl rfl ?_
    refine Wk.castore (q := 107) (1) at_106 rfl (by repeat (first | exact Ex.here | assumption | apply Ex.there)) (by decide) (by decide) (nchar_lat h2) (VS.there (VS.here)) ?_
    refine Wk.iload_n (q := 108) at_107 rfl rfl ?_
    refine Wk.istore (q := 110) at_108 rfl (LS1.there (LS1.there (LS1.there (LS1.there (LS1.there (LS1.there (LS1.there (LS1.there (LS1.there (LS1.there (LS1.there (LS1.here (by first | exact One.u | exact One.val rfl | assumption))))))))))))) ?_
    refine Wk.aload (q := 112) at_110 rfl rfl (by first | rfl | assumption) ?_
    refine Wk.iload (q := 114) at_112 rfl rfl ?_
    refine Wk.bipush (q := 116) (32) at_114 rfl (by decide) ?_
    refine Wk.castore (q := 117) (2) at_116 rfl (by repeat (first | exact Ex.here | assumption | apply Ex.there)) (by decide) (by decide) (by rfl) (VS.there (VS.there (VS.here))) ?_
    refine Wk.aload (q := 119) at_117 rfl rfl (by first | rfl | assumption) ?_
    refine Wk.iload (q := 121) at_119 rfl rfl ?_
    refine Wk.iconst (q := 122) (1) at_121 rfl (by decide) ?_
    refine Wk.iadd (q := 123) at_122 rfl ?_
    refine Wk.bipush (q := 125) (97) at_123 rfl (by decide) ?_
    refine Wk.castore (q := 126) (3) at_125 rfl (by repeat (first | exact Ex.here | assumption | apply Ex.there)) (by decide) (by decide) (by rfl) (VS.there (VS.there (VS.there (VS.here)))) ?_
    refine Wk.aload (q := 128) at_126 rfl rfl (by first | rfl | assumption) ?_
    refine Wk.iload (q := 130) at_128 rfl rfl ?_
    refine Wk.iconst (q := 131) (2) at_130 rfl (by decide) ?_
    refine Wk.iadd (q := 132) at_131 rfl ?_
    refine Wk.bipush (q := 134) (110) at_132 rfl (by decide) ?_
    refine Wk.castore (q := 135) (4) at_134 rfl (by repeat (first | exact Ex.here | assumption | apply Ex.there)) (by decide) (by decide) (by rfl) (VS.there (VS.there (VS.there (VS.there (VS.here))))) ?_
    refine Wk.aload (q := 137) at_135 rfl rfl (by first | rfl | assumption) ?_
    refine Wk.iload (q := 139) at_137 rfl rfl ?_
    refine Wk.iconst (q := 140) (3) at_139 rfl (by decide) ?_
    refine Wk.iadd (q := 141) at_140 rfl ?_
    refine Wk.bipush (q := 143) (100) at_141 rfl (by decide) ?_
    refine Wk.castore (q := 144) (5) at_143 rfl (by repeat (first | exact Ex.here | assumption | apply Ex.there)) (by decide) (by decide) (by rfl) (VS.there (VS.there (VS.there (VS.there (VS.there (VS.here)))))) ?_
    refine Wk.aload (q := 146) at_144 rfl rfl (by first | rfl | assumption) ?_
    refine Wk.iload (q := 148) at_146 rfl rfl ?_
    refine Wk.iconst (q := 149) (4) at_148 rfl (by decide) ?_
    refine Wk.iadd (q := 150) at_149 rfl ?_
    refine Wk.bipush (q := 152) (32) at_150 rfl (by decide) ?_
    refine Wk.castore (q := 153) (6) at_152 rfl (by repeat (first | exact Ex.here | assumption | apply Ex.there)) (by decide) (by decide) (by rfl) (VS.there (VS.there (VS.there (VS.there (VS.there (VS.there (VS.here))))))) ?_
    refine Wk.iload (q := 155) at_153 rfl rfl ?_
    refine Wk.iconst (q := 156) (5) at_155 rfl (by decide) ?_
    refine Wk.iadd (q := 157) at_156 rfl ?_
    refine Wk.istore (q := 159) at_157 rfl (LS1.there (LS1.there (LS1.there (LS1.there (LS1.there (LS1.there (LS1.there (LS1.there (LS1.there (LS1.there (LS1.there (LS1.there (LS1.here (by first | exact One.u | exact One.val rfl | assumption)))))))))))))) ?_
    refine Wk.iload_n (q := 160) at_159 rfl rfl ?_
    refine Wk.if_f (q := 163) at_160 rfl (by decide) ?_
    refine Wk.aload (q := 165) at_163 rfl rfl (by first | rfl | assumption) ?_
    refine Wk.iload (q := 167) at_165 rfl rfl ?_
    refine Wk.iload (q := 169) at_167 rfl rfl ?_
    refine Wk.castore (q := 170) (7) at_169 rfl (by repeat (first | exact Ex.here | assumption | apply Ex.there)) (by decide) (by decide) (nchar_lat h3) (VS.there (VS.there (VS.there (VS.there (VS.there (VS.there (VS.there (VS.here)))))))) ?_
    refine Wk.iload_n (q := 171) at_170 rfl rfl ?_
    refine Wk.iconst (q := 172) (1) at_171 rfl (by decide) ?_
    refine Wk.icmp_f (q := 175) at_172 rfl (by decide) ?_
    refine Wk.aload (q := 177) at_175 rfl rfl (by first | rfl | assumption) ?_
    refine Wk.iload (q := 179) at_177 rfl rfl ?_
    refine Wk.iconst (q := 180) (1) at_179 rfl (by decide) ?_
    refine Wk.iadd (q := 181) at_180 rfl ?_
    refine Wk.iload (q := 183) at_181 rfl rfl ?_
    refine Wk.castore (q := 184) (8) at_183 rfl (by repeat (first | exact Ex.here | assumption | apply Ex.there)) (by decide) (by decide) (nchar_lat h4) (VS.there (VS.there (VS.there (VS.there (VS.there (VS.there (VS.there (VS.there (VS.here))))))))) ?_
    refine Wk.iload (q := 186) at_184 rfl rfl ?_
    refine Wk.iload_n (q := 187) at_186 rfl rfl ?_
    refine Wk.iadd (q := 188) at_187 rfl ?_
    refine Wk.istore (q := 190) at_188 rfl (LS1.there (LS1.there (LS1.there (LS1.there (LS1.there (LS1.there (LS1.there (LS1.there (LS1.there (LS1.there (LS1.there (LS1.there (LS1.there (LS1.here (by first | exact One.u | exact One.val rfl | assumption))))))))))))))) ?_
    refine Wk.aload (q := 192) at_190 rfl rfl (by first | rfl | assumption) ?_
    refine Wk.iload (q := 194) at_192 rfl rfl ?_
    refine Wk.bipush (q := 196) (32) at_194 rfl (by decide) ?_
    refine Wk.castore (q := 197) (9) at_196 rfl (by repeat (first | exact Ex.here | assumption | apply Ex.there)) (by decide) (by decide) (by rfl) (VS.there (VS.there (VS.there (VS.there (VS.there (VS.there (VS.there (VS.there (VS.there (VS.here)))))))))) ?_
    refine Wk.aload (q := 199) at_197 rfl rfl (by first | rfl | assumption) ?_
    refine Wk.iload (q := 201) at_199 rfl rfl ?_
    refine Wk.iconst (q := 202) (1) at_201 rfl (by decide) ?_
    refine Wk.iadd (q := 203) at_202 rfl ?_
    refine Wk.bipush (q := 205) (99) at_203 rfl (by decide) ?_
    refine Wk.castore (q := 206) (10) at_205 rfl (by repeat (first | exact Ex.here | assumption | apply Ex.there)) (by decide) (by decide) (by rfl) (VS.there (VS.there (VS.there (VS.there (VS.there (VS.there (VS.there (VS.there (VS.there (VS.there (VS.here))))))))))) ?_
    refine Wk.aload (q := 208) at_206 rfl rfl (by first | rfl | assumption) ?_
    refine Wk.iload (q := 210) at_208 rfl rfl ?_
    refine Wk.iconst (q := 211) (2) at_210 rfl (by decide) ?_
    refine Wk.iadd (q := 212) at_211 rfl ?_
    refine Wk.bipush (q := 214) (97) at_212 rfl (by decide) ?_
    refine Wk.castore (q := 215) (11) at_214 rfl (by repeat (first | exact Ex.here | assumption | apply Ex.there)) (by decide) (by decide) (by rfl) (VS.there (VS.there (VS.there (VS.there (VS.there (VS.there (VS.there (VS.there (VS.there (VS.there (VS.there (VS.here)))))))))))) ?_
    refine Wk.aload (q := 217) at_215 rfl rfl (by first | rfl | assumption) ?_
    refine Wk.iload (q := 219) at_217 rfl rfl ?_
    refine Wk.iconst (q := 220) (3) at_219 rfl (by decide) ?_
    refine Wk.iadd (q := 221) at_220 rfl ?_
    refine Wk.bipush (q := 223) (110) at_221 rfl (by decide) ?_
    refine Wk.castore (q := 224) (12) at_223 rfl (by repeat (first | exact Ex.here | assumption | apply Ex.there)) (by decide) (by decide) (by rfl) (VS.there (VS.there (VS.there (VS.there (VS.there (VS.there (VS.there (VS.there (VS.there (VS.there (VS.there (VS.there (VS.here))))))))))))) ?_
    refine Wk.aload (q := 226) at_224 rfl rfl (by first | rfl | assumption) ?_
    refine Wk.iload (q := 228) at_226 rfl rfl ?_
    refine Wk.iconst (q := 229) (4) at_228 rfl (by decide) ?_
    refine Wk.iadd (q := 230) at_229 rfl ?_
    refine Wk.bipush (q := 232) (110) at_230 rfl (by decide) ?_
    refine Wk.castore (q := 233) (13) at_232 rfl (by repeat (first | exact Ex.here | assumption | apply Ex.there)) (by decide) (by decide) (by rfl) (VS.there (VS.there (VS.there (VS.there (VS.there (VS.there (VS.there (VS.there (VS.there (VS.there (VS.there (VS.there (VS.there (VS.here)))))))))))))) ?_
    refine Wk.aload (q := 235) at_233 rfl rfl (by first | rfl | assumption) ?_
    refine Wk.iload (q := 237) at_235 rfl rfl ?_
    refine Wk.iconst (q := 238) (5) at_237 rfl (by decide) ?_
    refine Wk.iadd (q := 239) at_238 rfl ?_
    refine Wk.bipush (q := 241) (111) at_239 rfl (by decide) ?_
    refine Wk.castore (q := 242) (14) at_241 rfl (by repeat (first | exact Ex.here | assumption | apply Ex.there)) (by decide) (by decide) (by rfl) (VS.there (VS.there (VS.there (VS.there (VS.there (VS.there (VS.there (VS.there (VS.there (VS.there (VS.there (VS.there (VS.there (VS.there (VS.here))))))))))))))) ?_
    refine Wk.aload (q := 244) at_242 rfl rfl (by first | rfl | assumption) ?_
    refine Wk.iload (q := 246) at_244 rfl rfl ?_
    refine Wk.bipush (q := 248) (6) at_246 rfl (by decide) ?_
    refine Wk.iadd (q := 249) at_248 rfl ?_
    refine Wk.bipush (q := 251) (116) at_249 rfl (by decide) ?_
    refine Wk.castore (q := 252) (15) at_251 rfl (by repeat (first | exact Ex.here | assumption | apply Ex.there)) (by decide) (by decide) (by rfl) (VS.there (VS.there (VS.there (VS.there (VS.there (VS.there (VS.there (VS.there (VS.there (VS.there (VS.there (VS.there (VS.there (VS.there (VS.there (VS.here)))))))))))))))) ?_
    refine Wk.aload (q := 254) at_252 rfl rfl (by first | rfl | assumption) ?_
    refine Wk.iload (q := 256) at_254 rfl rfl ?_
    refine Wk.bipush (q := 258) (7) at_256 rfl (by decide) ?_
    refine Wk.iadd (q := 259) at_258 rfl ?_
    refine Wk.bipush (q := 261) (32) at_259 rfl (by decide) ?_
    refine Wk.castore (q := 262) (16) at_261 rfl (by repeat (first | exact Ex.here | assumption | apply Ex.there)) (by decide) (by decide) (by rfl) (VS.there (VS.there (VS.there (VS.there (VS.there (VS.there (VS.there (VS.there (VS.there (VS.there (VS.there (VS.there (VS.there (VS.there (VS.there (VS.there (VS.here))))))))))))))))) ?_
    refine Wk.aload (q := 264) at_262 rfl rfl (by first | rfl | assumption) ?_
    refine Wk.iload (q := 266) at_264 rfl rfl ?_
    refine Wk.bipush (q := 268) (8) at_266 rfl (by decide) ?_
    refine Wk.iadd (q := 269) at_268 rfl ?_
    refine Wk.bipush (q := 271) (98) at_269 rfl (by decide) ?_
    refine Wk.castore (q := 272) (17) at_271 rfl (by repeat (first | exact Ex.here | assumption | apply Ex.there)) (by decide) (by decide) (by rfl) (VS.there (VS.there (VS.there (VS.there (VS.there (VS.there (VS.there (VS.there (VS.there (VS.there (VS.there (VS.there (VS.there (VS.there (VS.there (VS.there (VS.there (VS.here)))))))))))))))))) ?_
    refine Wk.aload (q := 274) at_272 rfl rfl (by first | rfl | assumption) ?_
    refine Wk.iload (q := 276) at_274 rfl rfl ?_
    refine Wk.bipush (q := 278) (9) at_276 rfl (by decide) ?_
    refine Wk.iadd (q := 279) at_278 rfl ?_
    refine Wk.bipush (q := 281) (101) at_279 rfl (by decide) ?_
    refine Wk.castore (q := 282) (18) at_281 rfl (by repeat (first | exact Ex.here | assumption | apply Ex.there)) (by decide) (by decide) (by rfl) (VS.there (VS.there (VS.there (VS.there (VS.there (VS.there (VS.there (VS.there (VS.there (VS.there (VS.there (VS.there (VS.there (VS.there (VS.there (VS.there (VS.there (VS.there (VS.here))))))))))))))))))) ?_
    refine Wk.aload (q := 284) at_282 rfl rfl (by first | rfl | assumption) ?_
    refine Wk.iload (q := 286) at_284 rfl rfl ?_
    refine Wk.bipush (q := 288) (10) at_286 rfl (by decide) ?_
    refine Wk.iadd (q := 289) at_288 rfl ?_
    refine Wk.bipush (q := 291) (32) at_289 rfl (by decide) ?_
    refine Wk.castore (q := 292) (19) at_291 rfl (by repeat (first | exact Ex.here | assumption | apply Ex.there)) (by decide) (by decide) (by rfl) (VS.there (VS.there (VS.there (VS.there (VS.there (VS.there (VS.there (VS.there (VS.there (VS.there (VS.there (VS.there (VS.there (VS.there (VS.there (VS.there (VS.there (VS.there (VS.there (VS.here)))))))))))))))))))) ?_
    refine Wk.aload (q := 294) at_292 rfl rfl (by first | rfl | assumption) ?_
    refine Wk.iload (q := 296) at_294 rfl rfl ?_
    refine Wk.bipush (q := 298) (11) at_296 rfl (by decide) ?_
    refine Wk.iadd (q := 299) at_298 rfl ?_
    refine Wk.bipush (q := 301) (103) at_299 rfl (by decide) ?_
    refine Wk.castore (q := 302) (20) at_301 rfl (by repeat (first | exact Ex.here | assumption | apply Ex.there)) (by decide) (by decide) (by rfl) (VS.there (VS.there (VS.there (VS.there (VS.there (VS.there (VS.there (VS.there (VS.there (VS.there (VS.there (VS.there (VS.there (VS.there (VS.there (VS.there (VS.there (VS.there (VS.there (VS.there (VS.here))))))))))))))))))))) ?_
    refine Wk.aload (q := 304) at_302 rfl rfl (by first | rfl | assumption) ?_
    refine Wk.iload (q := 306) at_304 rfl rfl ?_
    refine Wk.bipush (q := 308) (12) at_306 rfl (by decide) ?_
    refine Wk.iadd (q := 309) at_308 rfl ?_
    refine Wk.bipush (q := 311) (105) at_309 rfl (by decide) ?_
    refine Wk.castore (q := 312) (21) at_311 rfl (by repeat (first | exact Ex.here | assumption | apply Ex.there)) (by decide) (by decide) (by rfl) (VS.there (VS.there (VS.there (VS.there (VS.there (VS.there (VS.there (VS.there (VS.there (VS.there (VS.there (VS.there (VS.there (VS.there (VS.there (VS.there (VS.there (VS.there (VS.there (VS.there (VS.there (VS.here)))))))))))))))))))))) ?_
    refine Wk.aload (q := 314) at_312 rfl rfl (by first | rfl | assumption) ?_
    refine Wk.iload (q := 316) at_314 rfl rfl ?_
    refine Wk.bipush (q := 318) (13) at_316 rfl (by decide) ?_
    refine Wk.iadd (q := 319) at_318 rfl ?_
    refine Wk.bipush (q := 321) (118) at_319 rfl (by decide) ?_
    refine Wk.castore (q := 322) (22) at_321 rfl (by repeat (first | exact Ex.here | assumption | apply Ex.there)) (by decide) (by decide) (by rfl) (VS.there (VS.there (VS.there (VS.there (VS.there (VS.there (VS.there (VS.there (VS.there (VS.there (VS.there (VS.there (VS.there (VS.there (VS.there (VS.there (VS.there (VS.there (VS.there (VS.there (VS.there (VS.there (VS.here))))))))))))))))))))))) ?_
    refine Wk.aload (q := 324) at_322 rfl rfl (by first | rfl | assumption) ?_
    refine Wk.iload (q := 326) at_324 rfl rfl ?_
    refine Wk.bipush (q := 328) (14) at_326 rfl (by decide) ?_
    refine Wk.iadd (q := 329) at_328 rfl ?_
    refine Wk.bipush (q := 331) (101) at_329 rfl (by decide) ?_
    refine Wk.castore (q := 332) (23) at_331 rfl (by repeat (first | exact Ex.here | assumption | apply Ex.there)) (by decide) (by decide) (by rfl) (VS.there (VS.there (VS.there (VS.there (VS.there (VS.there (VS.there (VS.there (VS.there (VS.there (VS.there (VS.there (VS.there (VS.there (VS.there (VS.there (VS.there (VS.there (VS.there (VS.there (VS.there (VS.there (VS.there (VS.here)))))))))))))))))))))))) ?_
    refine Wk.aload (q := 334) at_332 rfl rfl (by first | rfl | assumption) ?_
    refine Wk.iload (q := 336) at_334 rfl rfl ?_
    refine Wk.bipush (q := 338) (15) at_336 rfl (by decide) ?_
    refine Wk.iadd (q := 339) at_338 rfl ?_
    refine Wk.bipush (q := 341) (110) at_339 rfl (by decide) ?_
    refine Wk.castore (q := 342) (24) at_341 rfl (by repeat (first | exact Ex.here | assumption | apply Ex.there)) (by decide) (by decide) (by rfl) (VS.there (VS.there (VS.there (VS.there (VS.there (VS.there (VS.there (VS.there (VS.there (VS.there (VS.there (VS.there (VS.there (VS.there (VS.there (VS.there (VS.there (VS.there (VS.there (VS.there (VS.there (VS.there (VS.there (VS.there (VS.here))))))))))))))))))))))))) ?_
    refine Wk.aload (q := 344) at_342 rfl rfl (by first | rfl | assumption) ?_
    refine Wk.iload (q := 346) at_344 rfl rfl ?_
    refine Wk.bipush (q := 348) (16) at_346 rfl (by decide) ?_
    refine Wk.iadd (q := 349) at_348 rfl ?_
    refine Wk.bipush (q := 351) (32) at_349 rfl (by decide) ?_
    refine Wk.castore (q := 352) (25) at_351 rfl (by repeat (first | exact Ex.here | assumption | apply Ex.there)) (by decide) (by decide) (by rfl) (VS.there (VS.there (VS.there (VS.there (VS.there (VS.there (VS.there (VS.there (VS.there (VS.there (VS.there (VS.there (VS.there (VS.there (VS.there (VS.there (VS.there (VS.there (VS.there (VS.there (VS.there (VS.there (VS.there (VS.there (VS.there (VS.here)))))))))))))))))))))))))) ?_
    refine Wk.aload (q := 354) at_352 rfl rfl (by first | rfl | assumption) ?_
    refine Wk.iload (q := 356) at_354 rfl rfl ?_
    refine Wk.bipush (q := 358) (17) at_356 rfl (by decide) ?_
    refine Wk.iadd (q := 359) at_358 rfl ?_
    refine Wk.bipush (q := 361) (116) at_359 rfl (by decide) ?_
    refine Wk.castore (q := 362) (26) at_361 rfl (by repeat (first | exact Ex.here | assumption | apply Ex.there)) (by decide) (by decide) (by rfl) (VS.there (VS.there (VS.there (VS.there (VS.there (VS.there (VS.there (VS.there (VS.there (VS.there (VS.there (VS.there (VS.there (VS.there (VS.there (VS.there (VS.there (VS.there (VS.there (VS.there (VS.there (VS.there (VS.there (VS.there (VS.there (VS.there (VS.here))))))))))))))))))))))))))) ?_
    refine Wk.aload (q := 364) at_362 rfl rfl (by first | rfl | assumption) ?_
    refine Wk.iload (q := 366) at_364 rfl rfl ?_
    refine Wk.bipush (q := 368) (18) at_366 rfl (by decide) ?_
    refine Wk.iadd (q := 369) at_368 rfl ?_
    refine Wk.bipush (q := 371) (111) at_369 rfl (by decide) ?_
    refine Wk.castore (q := 372) (27) at_371 rfl (by repeat (first | exact Ex.here | assumption | apply Ex.there)) (by decide) (by decide) (by rfl) (VS.there (VS.there (VS.there (VS.there (VS.there (VS.there (VS.there (VS.there (VS.there (VS.there (VS.there (VS.there (VS.there (VS.there (VS.there (VS.there (VS.there (VS.there (VS.there (VS.there (VS.there (VS.there (VS.there (VS.there (VS.there (VS.there (VS.there (VS.here)))))))))))))))))))))))))))) ?_
    refine Wk.aload (q := 374) at_372 rfl rfl (by first | rfl | assumption) ?_
    refine Wk.iload (q := 376) at_374 rfl rfl ?_
    refine Wk.bipush (q := 378) (19) at_376 rfl (by decide) ?_
    refine Wk.iadd (q := 379) at_378 rfl ?_
    refine Wk.bipush (q := 381) (103) at_379 rfl (by decide) ?_
    refine Wk.castore (q := 382) (28) at_381 rfl (by repeat (first | exact Ex.here | assumption | apply Ex.there)) (by decide) (by decide) (by rfl) (VS.there (VS.there (VS.there (VS.there (VS.there (VS.there (VS.there (VS.there (VS.there (VS.there (VS.there (VS.there (VS.there (VS.there (VS.there (VS.there (VS.there (VS.there (VS.there (VS.there (VS.there (VS.there (VS.there (VS.there (VS.there (VS.there (VS.there (VS.there (VS.here))))))))))))))))))))))))))))) ?_
    refine Wk.aload (q := 384) at_382 rfl rfl (by first | rfl | assumption) ?_
    refine Wk.iload (q := 386) at_384 rfl rfl ?_
    refine Wk.bipush (q := 388) (20) at_386 rfl (by decide) ?_
    refine Wk.iadd (q := 389) at_388 rfl ?_
    refine Wk.bipush (q := 391) (101) at_389 rfl (by decide) ?_
    refine Wk.castore (q := 392) (29) at_391 rfl (by repeat (first | exact Ex.here | assumption | apply Ex.there)) (by decide) (by decide) (by rfl) (VS.there (VS.there (VS.there (VS.there (VS.there (VS.there (VS.there (VS.there (VS.there (VS.there (VS.there (VS.there (VS.there (VS.there (VS.there (VS.there (VS.there (VS.there (VS.there (VS.there (VS.there (VS.there (VS.there (VS.there (VS.there (VS.there (VS.there (VS.there (VS.there (VS.here)))))))))))))))))))))))))))))) ?_
    refine Wk.aload (q := 394) at_392 rfl rfl (by first | rfl | assumption) ?_
    refine Wk.iload (q := 396) at_394 rfl rfl ?_
    refine Wk.bipush (q := 398) (21) at_396 rfl (by decide) ?_
    refine Wk.iadd (q := 399) at_398 rfl ?_
    refine Wk.bipush (q := 401) (116) at_399 rfl (by decide) ?_
    refine Wk.castore (q := 402) (30) at_401 rfl (by repeat (first | exact Ex.here | assumption | apply Ex.there)) (by decide) (by decide) (by rfl) (VS.there (VS.there (VS.there (VS.there (VS.there (VS.there (VS.there (VS.there (VS.there (VS.there (VS.there (VS.there (VS.there (VS.there (VS.there (VS.there (VS.there (VS.there (VS.there (VS.there (VS.there (VS.there (VS.there (VS.there (VS.there (VS.there (VS.there (VS.there (VS.there (VS.there (VS.here))))))))))))))))))))))))))))))) ?_
    refine Wk.aload (q := 404) at_402 rfl rfl (by first | rfl | assumption) ?_
    refine Wk.iload (q := 406) at_404 rfl rfl ?_
    refine Wk.bipush (q := 408) (22) at_406 rfl (by decide) ?_
    refine Wk.iadd (q := 409) at_408 rfl ?_
    refine Wk.bipush (q := 411) (104) at_409 rfl (by decide) ?_
    refine Wk.castore (q := 412) (31) at_411 rfl (by repeat (first | exact Ex.here | assumption | apply Ex.there)) (by decide) (by decide) (by rfl) (VS.there (VS.there (VS.there (VS.there (VS.there (VS.there (VS.there (VS.there (VS.there (VS.there (VS.there (VS.there (VS.there (VS.there (VS.there (VS.there (VS.there (VS.there (VS.there (VS.there (VS.there (VS.there (VS.there (VS.there (VS.there (VS.there (VS.there (VS.there (VS.there (VS.there (VS.there (VS.here)))))))))))))))))))))))))))))))) ?_
    refine Wk.aload (q := 414) at_412 rfl rfl (by first | rfl | assumption) ?_
    refine Wk.iload (q := 416) at_414 rfl rfl ?_
    refine Wk.bipush (q := 418) (23) at_416 rfl (by decide) ?_
    refine Wk.iadd (q := 419) at_418 rfl ?_
    refine Wk.bipush (q := 421) (101) at_419 rfl (by decide) ?_
    refine Wk.castore (q := 422) (32) at_421 rfl (by repeat (first | exact Ex.here | assumption | apply Ex.there)) (by decide) (by decide) (by rfl) (VS.there (VS.there (VS.there (VS.there (VS.there (VS.there (VS.there (VS.there (VS.there (VS.there (VS.there (VS.there (VS.there (VS.there (VS.there (VS.there (VS.there (VS.there (VS.there (VS.there (VS.there (VS.there (VS.there (VS.there (VS.there (VS.there (VS.there (VS.there (VS.there (VS.there (VS.there (VS.there (VS.here))))))))))))))))))))))))))))))))) ?_
    refine Wk.aload (q := 424) at_422 rfl rfl (by first | rfl | assumption) ?_
    refine Wk.iload (q := 426) at_424 rfl rfl ?_
    refine Wk.bipush (q := 428) (24) at_426 rfl (by decide) ?_
    refine Wk.iadd (q := 429) at_428 rfl ?_
    refine Wk.bipush (q := 431) (114) at_429 rfl (by decide) ?_
    refine Wk.castore (q := 432) (33) at_431 rfl (by repeat (first | exact Ex.here | assumption | apply Ex.there)) (by decide) (by decide) (by rfl) (VS.there (VS.there (VS.there (VS.there (VS.there (VS.there (VS.there (VS.there (VS.there (VS.there (VS.there (VS.there (VS.there (VS.there (VS.there (VS.there (VS.there (VS.there (VS.there (VS.there (VS.there (VS.there (VS.there (VS.there (VS.there (VS.there (VS.there (VS.there (VS.there (VS.there (VS.there (VS.there (VS.there (VS.here)))))))))))))))))))))))))))))))))) ?_
    refine Wk.new (q := 435) at_432 rfl (hw _ (List.mem_of_getElem? (i := 4) rfl)) (hw _ (List.mem_of_getElem? (i := 5) rfl)) (hw _ (List.mem_of_getElem? (i := 6) rfl)) (layS_ok hw) layS_dv (by first | decide | (dsimp only; omega) | omega) (by first | decide | (dsimp only; omega) | omega) ?_
    intro es
    refine Wk.dup (q := 436) at_435 rfl rfl ?_
    refine Wk.aload (q := 438) at_436 rfl rfl (by first | rfl | assumption) ?_
    refine Wk.pull (o := (es, true, OB Z "java/lang/String" layS [.null, .int 0])) (by repeat (first | exact Ex.here | assumption | apply Ex.there)) ?_
    refine Wk.special (q := 441) [_] _ 1 at_438 rfl rfl (hw _ (List.mem_of_getElem? (i := 8) rfl)) (hw _ (List.mem_of_getElem? (i := 9) rfl)) (hw _ (List.mem_of_getElem? (i := 6) rfl)) (hw _ (List.mem_of_getElem? (i := 10) rfl)) ar_19 (by decide) rfl rfl rfl rfl (ct_strInitG hw hE F (cs := [m0, m1, 32, 97, 110, 100, 32, n0, n1, 32, 99, 97, 110, 110, 111, 116, 32, 98, 101, 32, 103, 105, 118, 101, 110, 32, 116, 111, 103, 101, 116, 104, 101, 114]) (lat_cons h1 (lat_cons h2 (lat_cons (by decide) (lat_cons (by decide) (lat_cons (by decide) (lat_cons (by decide) (lat_cons (by decide) (lat_cons h3 (lat_cons h4 (lat_cons (by decide) (lat_cons (by decide) (lat_cons (by decide) (lat_cons (by decide) (lat_cons (by decide) (lat_cons (by decide) (lat_cons (by decide) (lat_cons (by decide) (lat_cons (by decide) (lat_cons (by decide) (lat_cons (by decide) (lat_cons (by decide) (lat_cons (by decide) (lat_cons (by decide) (lat_cons (by decide) (lat_cons (by decide) (lat_cons (by decide) (lat_cons (by decide) (lat_cons (by decide) (lat_cons (by decide) (lat_cons (by decide) (lat_cons (by decide) (lat_cons (by decide) (lat_cons (by decide) (lat_cons (by decide) lat_nil)))))))))))))))))))))))))))))))))) 34 (by simp) (by simp) (by repeat (first | exact List.mem_cons_self | assumption | refine List.mem_cons_of_mem _ ?_))) (by first | decide | (dsimp only; omega) | omega) (by first | decide | (dsimp only; omega) | omega) (by first | decide | (dsimp only; omega) | omega) (by first | decide | (dsimp only; omega) | omega) (k0 ?_)
    rintro _ ⟨er, fer, rfl⟩
    refine Wk.astore (q := 443) at_441 rfl (by first | rfl | assumption) (LS1.there (LS1.there (LS1.there (LS1.there (LS1.there (LS1.there (LS1.there (LS1.there (LS1.there (LS1.there (LS1.there (LS1.there (LS1.there (LS1.there (LS1.here (by first | exact One.u | exact One.val rfl | assumption)))))))))))))))) ?_
    exact (fin _ ca es er true fer _ _ _ (by repeat (first | exact List.mem_cons_self | assumption | refine List.mem_cons_of_mem _ ?_)) (by repeat (first | exact List.mem_cons_self | assumption | refine List.mem_cons_of_mem _ ?_)) (by repeat (first | exact List.mem_cons_self | assumption | refine List.mem_cons_of_mem _ ?_)) (by repeat (first | exact List.mem_cons_self | assumption | refine List.mem_cons_of_mem _ ?_)) (by repeat (first | exact List.mem_cons_self | assumption | refine List.mem_cons_of_mem _ ?_)) (by repeat (first | exact List.mem_cons_self | assumption | refine List.mem_cons_of_mem _ ?_))).mono (by decide) (by decide)
theorem thrS {Z : State} {args : Array Value} (h1 : (Jvm.Cond.initializedFor "java/lang/Throwable" "UNASSIGNED_STACK" "[Ljava/lang/StackTraceElement;").before args Z = true) (h2 : (Jvm.Cond.arrayOf (Term.static "java/lang/Throwable" "UNASSIGNED_STACK" "[Ljava/lang/StackTraceElement;") (.object "java/lang/StackTraceElement")).before args Z = true) (h3 : (Jvm.Cond.eq (Term.length (Term.static "java/lang/Throwable" "UNASSIGNED_STACK" "[Ljava/lang/StackTraceElement;")) (.int 0)).before args Z = true) : ∃ u : Addr, Sta Z Z.heap "java/lang/Throwable" "UNASSIGNED_STACK" "[Ljava/lang/StackTraceElement;" (.ref u) := by
  obtain ⟨a, c, ev, -, -⟩ := arr0 h2 h3
  exact ⟨a, Sta.start (args := args) ev (Or.inl h1)⟩
theorem senS {Z : State} {args : Array Value} (h1 : (Jvm.Cond.initializedFor "java/lang/Throwable" "SUPPRESSED_SENTINEL" "Ljava/util/List;").before args Z = true) (h2 : (Jvm.Cond.exactly (Term.static "java/lang/Throwable" "SUPPRESSED_SENTINEL" "Ljava/util/List;") "java/util/Collections$EmptyList").before args Z = true) : ∃ u : Addr, Sta Z Z.heap "java/lang/Throwable" "SUPPRESSED_SENTINEL" "Ljava/util/List;" (.ref u) := by
  obtain ⟨a, ev⟩ := exa_v (Cond.before_iff.mp h2)
  exact ⟨a, Sta.start (args := args) ev (Or.inl h1)⟩
set_option maxRecDepth 65536 in
set_option maxHeartbeats 4000000 in
theorem comes_1 {Post : Tables → Env → Array Value → State → Outcome → State → Prop} (hpost : ∀ tb e args s v u, (limb_1_1.after args s (.returned v) u = true ∧ limb_1_2.after args s (.returned v) u = true) → ReturnedEndW s (.returned v) u (Jvm.fieldLocs frame_1_writes args s ++ Jvm.arrayLocs frame_1_arrays args s ++ Jvm.staticLocs frame_1_statics s) 48 9024 → Post tb e args s (.returned v) u) :
    ArmFor flags0 classFile x code maxLocals ret World_1 tables_1 room_1 Calls_1 rest_1 Pre_1 Post := by
  intro l hfl _ _ p e ha hc hk s m args below hf hA hF happ hP
  obtain ⟨hcalls, hrest, hpre⟩ := hP
  obtain ⟨-, -, -, hnamed, -, -, -, hat⟩ := (Spec.applies_iff hf).mp happ
  obtain ⟨hg, hn⟩ := and_e (Cond.before_iff.mp (show (Jvm.Cond.and given_1 narrow_1).before args s = true from hpre))
  obtain ⟨g_n, gr⟩ := and_e hg
  obtain ⟨g0, gr⟩ := and_e gr
  have g1 := gr
  obtain ⟨w0, w1, rfl⟩ : ∃ w0 w1 : Value, args = #[w0, w1] := by
    have hs : args.size = 2 := by simpa [Cond.value, given_1] using g_n
    obtain ⟨L⟩ := args
    match L, hs with
    | [w0, w1], _ => exact ⟨w0, w1, rfl⟩
  obtain ⟨i0, ei0⟩ := is_v g0
  obtain rfl : w0 = (.int i0) := Option.some.inj ei0
  obtain ⟨i1, ei1⟩ := is_v g1
  obtain rfl : w1 = (.int i1) := Option.some.inj ei1
  have hw := fun d (hd : d ∈ tables_1) => atoms_spec (ws := Jvm.Cond.code x code maxLocals ret :: tables_1) hat d (List.mem_cons_of_mem _ hd)
  obtain ⟨hsets, hown0⟩ := atoms_of _ (rest_1_c_eq ▸ (show rest_1_c.before _ s = true from hrest))
  have F := compact (hsets _ (List.mem_of_getElem? (i := 0) rfl)) (hsets _ (List.mem_of_getElem? (i := 1) rfl)) (hsets _ (List.mem_of_getElem? (i := 2) rfl))
  have hE : EW s _ EL0 := (EW.cons (hw _ (List.mem_of_getElem? (i := 18) rfl)) (by decide +kernel) (EW.cons (hw _ (List.mem_of_getElem? (i := 108) rfl)) (by decide +kernel) (EW.cons (hw _ (List.mem_of_getElem? (i := 109) rfl)) (by decide +kernel) EW.nil)))
  have hheld : constsHeld consts_1 s := hcalls.2.2.1
  have hCH : CHv s EL0 s.vm s.heap := CHv.start hE (fun p hp => hheld p hp) (hsets _ (List.mem_of_getElem? (i := 2) rfl)) (hw _ (List.mem_of_getElem? (i := 19) rfl)) (hw _ (List.mem_of_getElem? (i := 5) rfl))
  have hI : Inv s EL0 s.vm s.heap [] := ⟨⟨Nat.le_refl _, fun _ _ q => q⟩, hCH, (fun o ho => nomatch ho), (fun o ho => nomatch ho), List.Pairwise.nil⟩
  have hl : l.stackTraces = true := by rw [Launch.stackTraces, hfl]; decide +kernel
  have hknown : s.vm.MethodsKnown ∧ s.vm.FramesKnown below := ⟨MethodsKnown_of_tablesKnown hcalls.2.1, FramesKnown_of_framesKnown hcalls.1 hf⟩
  obtain ⟨u, FU⟩ := thrS (hsets _ (List.mem_of_getElem? (i := 15) rfl)) (hsets _ (List.mem_of_getElem? (i := 17) rfl)) (hsets _ (List.mem_of_getElem? (i := 18) rfl))
  obtain ⟨sv, FS⟩ := senS (hsets _ (List.mem_of_getElem? (i := 20) rfl)) (hsets _ (List.mem_of_getElem? (i := 22) rfl))
  obtain ⟨n, o, h1, h2, h3, v, Lc, L', rfl, ⟨u, rfl, rfl⟩, -, N, hq⟩ := ct_law hw hE hl FU FS F i0 i1 tables_1 p e ha hc hk s m _ below hf ((Spec.applies_iff_loose hf).mp happ).1 ⟨rfl, State.Warmed39.refl s, hI⟩ hknown
  exact ⟨n, _, h1, h2, h3, hpost _ _ _ _ _ _ ⟨Cond.after_iff.mpr rfl, Cond.after_iff.mpr (eq_i res_at (Term.int_eval (1)) rfl)⟩ ⟨hq.1, hq.2.1, hq.2.2.1, (hq.2.2.2.sift fun y hy => Or.inr (N y hy)).mono (by decide) (by decide)⟩⟩
theorem main_1_1 : Claimed_1_1 := comes_1 fun _ _ _ _ _ _ h hF => ⟨h.1, hF⟩
theorem main_1_2 : Claimed_1_2 := comes_1 fun _ _ _ _ _ _ h hF => ⟨h.2, hF⟩

end Jvm.Pilot.@@N@@
namespace Jvm.Pilot.@@N@@
open Jvm Jvm.ClassFile Sem Op Lib Jvm.Free Jvm.Stand Jvm.Pilot.@@N@@.Jvm.D
/-! MADE BY PROGRAM (witnessworld.py) out of the Statement's table words and the real class files: 41 classes; the members and pool entries that the words name. The judged class is class 1, her method 2. -/
namespace start1
open Jvm.ClassFile
def u (s : String) : CpInfo := .utf8 (stringToUtf16 s)
/-- a pool by its gaps: so many unusable entries, then the entry; so many at the end -/
def gap : Nat → List CpInfo → List CpInfo
  | 0, r => r
  | n + 1, r => .unusable :: gap n r
def poolList (es : List (Nat × CpInfo)) (last : Nat) : List CpInfo := es.foldr (fun e r => gap e.1 (e.2 :: r)) (gap last [])
def pool (es : List (Nat × CpInfo)) (last : Nat) : Array CpInfo := ⟨poolList es last⟩
def fileOf (pool : Array CpInfo) (this : Nat) (attrs : Array Attribute := #[]) (ms : Array MethodInfo := #[]) (fl : Nat := 33) (sup : Nat := 0) (ifs : Array Nat := #[]) (fds : Array FieldInfo := #[]) : ClassFile where
  minorVersion := 0
  majorVersion := 65
  constantPool := pool
  accessFlags := fl
  thisClass := this
  superClass := sup
  interfaces := ifs
  fields := fds
  methods := ms
  attributes := attrs
def plain (name : String) (sup : Option ClassId) : Class where
  name := name
  kind := .ordinary
  loader := none
  accessFlags := 33
  super := sup
  interfaces := #[]
  cf := none
  fields := #[]
  methods := #[]
  instanceTypes := #[]
  staticTypes := #[]
  resolved := #[]
  callSites := []
  init := .initialized
  statics := none
  mirror := none

def pool0 : Array CpInfo := pool [(5, u "<init>"), (0, u "()V"), (1, .class_ 10), (1, u "java/lang/Object"), (85, u "clone"), (0, u "()Ljava/lang/Object;")] 26

def k0c0 : Code := { maxStack := 0, maxLocals := 1, code := object_method_1_code, exceptionTable := #[], attributes := #[] }
def k0m0 : Method := { name := "<init>", desc := "()V", sig := { parameters := [], returnType := none }, accessFlags := 1, code := some k0c0 }
def k0m1 : Method := { name := "clone", desc := "()Ljava/lang/Object;", sig := { parameters := [], returnType := some (.object "java/lang/Object") }, accessFlags := 260, code := none }
/-- java/lang/Object -/
def k0 : Class := { plain "java/lang/Object" none with
  accessFlags := 33
  interfaces := #[]
  cf := some (fileOf pool0 8 #[] #[{ accessFlags := 1, nameIndex := 5, descriptorIndex := 6, attributes := #[] }, { accessFlags := 260, nameIndex := 96, descriptorIndex := 97, attributes := #[] }] 33 0 #[] #[])
  fields := #[]
  methods := #[k0m0, k0m1]
  instanceTypes := #[]
  staticTypes := #[]
  resolved := Array.replicate 124 none
  statics := none }

def pool1 : Array CpInfo := pool [(2, .class_ 4), (1, u "java/lang/Object"), (0, u "<init>"), (0, u "()V"), (0, .class_ 8), (0, u "java/lang/String"), (0, .methodref 7 10), (0, .nameAndType 5 11), (0, u "([C)V"), (0, .methodref 13 14), (0, .class_ 15), (0, .nameAndType 16 17), (0, u "org/claimbridge/cli/BadUsageExceptionGivenTogetherPinLaw"), (0, u "draw"), (0, u "(ICC)Ljava/lang/String;"), (0, .methodref 19 20), (0, .class_ 21), (0, .nameAndType 22 23), (0, u "org/claimbridge/cli/BadUsageException"), (0, u "givenTogether"), (0, u "(Ljava/lang/String;Ljava/lang/String;)Lorg/claimbridge/cli/BadUsageException;"), (0, .methodref 19 25), (0, .nameAndType 26 27), (0, u "getMessage"), (0, u "()Ljava/lang/String;"), (0, .methodref 7 29), (0, .nameAndType 30 31), (0, u "equals"), (0, u "(Ljava/lang/Object;)Z"), (3, u "law"), (0, u "(II)Z")] 4

def k1m0 : Method := { name := "<init>", desc := "()V", sig := { parameters := [], returnType := none }, accessFlags := 1, code := none }
def k1c1 : Code := { maxStack := 6, maxLocals := 3, code := method_2_code, exceptionTable := #[], attributes := #[] }
def k1m1 : Method := { name := "draw", desc := "(ICC)Ljava/lang/String;", sig := { parameters := [.int, .char, .char], returnType := some (.object "java/lang/String") }, accessFlags := 10, code := some k1c1 }
def k1c2 : Code := { maxStack := 3, maxLocals := 17, code := code, exceptionTable := #[], attributes := #[] }
def k1m2 : Method := { name := "law", desc := "(II)Z", sig := { parameters := [.int, .int], returnType := some .boolean }, accessFlags := 9, code := some k1c2 }
/-- org/claimbridge/cli/BadUsageExceptionGivenTogetherPinLaw -/
def k1 : Class := { plain "org/claimbridge/cli/BadUsageExceptionGivenTogetherPinLaw" (some 0) with
  accessFlags := 49
  interfaces := #[]
  cf := some (fileOf pool1 13 #[] #[{ accessFlags := 1, nameIndex := 5, descriptorIndex := 6, attributes := #[] }, { accessFlags := 10, nameIndex := 16, descriptorIndex := 17, attributes := #[] }, { accessFlags := 9, nameIndex := 35, descriptorIndex := 36, attributes := #[] }] 49 2 #[] #[])
  fields := #[]
  methods := #[k1m0, k1m1, k1m2]
  instanceTypes := #[]
  staticTypes := #[]
  resolved := Array.replicate 41 none
  statics := none }

def pool2 : Array CpInfo := pool [(1, .class_ 2), (0, u "java/io/Serializable"), (0, .class_ 4), (0, u "java/lang/Object")] 2

/-- java/io/Serializable -/
def k2 : Class := { plain "java/io/Serializable" (some 0) with
  accessFlags := 1537
  interfaces := #[]
  cf := some (fileOf pool2 1 #[] #[] 1537 3 #[] #[])
  fields := #[]
  methods := #[]
  instanceTypes := #[]
  staticTypes := #[]
  resolved := Array.replicate 7 none
  statics := none }

def pool3 : Array CpInfo := pool [(1, .class_ 2), (0, u "java/lang/Comparable"), (0, .class_ 4), (0, u "java/lang/Object")] 7

/-- java/lang/Comparable -/
def k3 : Class := { plain "java/lang/Comparable" (some 0) with
  accessFlags := 1537
  interfaces := #[]
  cf := some (fileOf pool3 1 #[] #[] 1537 3 #[] #[])
  fields := #[]
  methods := #[]
  instanceTypes := #[]
  staticTypes := #[]
  resolved := Array.replicate 12 none
  statics := none }

def pool4 : Array CpInfo := pool [(2, .class_ 4), (1, u "java/lang/CharSequence"), (42, .class_ 48), (0, u "java/lang/CharSequence$1CodePointIterator"), (10, .class_ 60), (0, u "java/lang/CharSequence$1CharIterator"), (5, .class_ 67), (0, u "java/lang/Object")] 63

/-- java/lang/CharSequence -/
def k4 : Class := { plain "java/lang/CharSequence" (some 0) with
  accessFlags := 1537
  interfaces := #[]
  cf := some (fileOf pool4 2 #[.nestMembers #[47, 59]] #[] 1537 66 #[] #[])
  fields := #[]
  methods := #[]
  instanceTypes := #[]
  staticTypes := #[]
  resolved := Array.replicate 131 none
  statics := none }

def pool5 : Array CpInfo := pool [(1, .class_ 2), (0, u "java/lang/constant/Constable"), (0, .class_ 4), (0, u "java/lang/Object")] 6

/-- java/lang/constant/Constable -/
def k5 : Class := { plain "java/lang/constant/Constable" (some 0) with
  accessFlags := 1537
  interfaces := #[]
  cf := some (fileOf pool5 1 #[] #[] 1537 3 #[] #[])
  fields := #[]
  methods := #[]
  instanceTypes := #[]
  staticTypes := #[]
  resolved := Array.replicate 11 none
  statics := none }

def pool6 : Array CpInfo := pool [(1, .class_ 2), (0, u "java/lang/constant/ConstantDesc"), (0, .class_ 4), (0, u "java/lang/Object")] 32

/-- java/lang/constant/ConstantDesc -/
def k6 : Class := { plain "java/lang/constant/ConstantDesc" (some 0) with
  accessFlags := 1537
  interfaces := #[]
  cf := some (fileOf pool6 1 #[] #[] 1537 3 #[] #[])
  fields := #[]
  methods := #[]
  instanceTypes := #[]
  staticTypes := #[]
  resolved := Array.replicate 37 none
  statics := none }

def pool7 : Array CpInfo := pool [(1, .methodref 2 3), (0, .class_ 4), (0, .nameAndType 5 6), (0, u "java/lang/Object"), (0, u "<init>"), (0, u "()V"), (0, .string 8), (0, u ""), (0, .fieldref 10 11), (0, .class_ 12), (0, .nameAndType 13 14), (0, u "java/lang/String"), (0, u "value"), (0, u "[B"), (0, .fieldref 10 16), (0, .nameAndType 17 18), (0, u "coder"), (0, u "B"), (2, u "hash"), (0, u "I"), (2, u "hashIsZero"), (0, u "Z"), (0, .methodref 10 28), (0, .nameAndType 5 29), (0, u "([CIILjava/lang/Void;)V"), (8, .fieldref 10 39), (0, .nameAndType 40 26), (0, u "COMPACT_STRINGS"), (1, .class_ 44), (1, u "java/lang/StringUTF16"), (0, u "compress"), (1, .methodref 42 48), (0, .nameAndType 49 50), (0, u "coderFromArrayLen"), (0, u "([BI)B"), (3, .methodref 55 56), (0, .class_ 57), (0, .nameAndType 58 59), (0, u "java/util/Arrays"), (0, u "copyOfRange"), (0, u "([BII)[B"), (47, .class_ 109), (1, u "java/lang/StringLatin1"), (32, u "()Z"), (34, .methodref 42 178), (0, .nameAndType 45 179), (0, u "([CII)[B"), (13, .class_ 195), (1, u "java/lang/System"), (16, .methodref 193 213), (0, .nameAndType 214 215), (0, u "arraycopy"), (0, u "(Ljava/lang/Object;ILjava/lang/Object;II)V"), (118, u "()I"), (0, .methodref 10 336), (0, .nameAndType 17 337), (0, u "()B"), (2, u "()[B"), (148, .methodref 10 490), (0, .nameAndType 5 491), (0, u "(Ljava/lang/AbstractStringBuilder;Ljava/lang/Void;)V"), (1, .nameAndType 494 142), (0, u "isLatin1"), (11, .nameAndType 507 334), (0, u "length"), (24, u "getBytes"), (8, .methodref 107 542), (0, .nameAndType 543 544), (0, u "equals"), (0, u "([B[B)Z"), (4, .methodref 550 506), (0, .class_ 551), (0, u "java/lang/AbstractStringBuilder"), (0, .methodref 550 553), (0, .nameAndType 554 340), (0, u "getValue"), (18, u "(Ljava/lang/Object;)Z"), (1, .class_ 576), (0, u "java/lang/CharSequence"), (22, u "CASE_INSENSITIVE_ORDER"), (0, u "Ljava/util/Comparator;"), (220, u "([BIB)V"), (188, u "([C)V"), (36, .methodref 550 493), (53, u "serialPersistentFields"), (0, u "[Ljava/io/ObjectStreamField;"), (0, .class_ 1104), (0, u "java/lang/String$CaseInsensitiveComparator"), (1, .class_ 1107), (0, u "java/io/Serializable"), (0, .class_ 1109), (0, u "java/lang/Comparable"), (0, .class_ 1111), (0, u "java/lang/constant/Constable"), (0, .class_ 1113), (0, u "java/lang/constant/ConstantDesc"), (2, u "serialVersionUID"), (0, u "J"), (3, u "REPL"), (0, u "C"), (2, u "LATIN1"), (1, u "UTF16"), (105, u "(Ljava/lang/StringBuilder;)V")] 217

def k7m0 : Method := { name := "<init>", desc := "()V", sig := { parameters := [], returnType := none }, accessFlags := 1, code := none }
def k7c1 : Code := { maxStack := 5, maxLocals := 2, code := jdk_42_method_3_code, exceptionTable := #[], attributes := #[] }
def k7m1 : Method := { name := "<init>", desc := "([C)V", sig := { parameters := [(.array .char)], returnType := none }, accessFlags := 1, code := some k7c1 }
def k7c2 : Code := { maxStack := 3, maxLocals := 2, code := jdk_42_method_53_code, exceptionTable := #[], attributes := #[] }
def k7m2 : Method := { name := "<init>", desc := "(Ljava/lang/StringBuilder;)V", sig := { parameters := [(.object "java/lang/StringBuilder")], returnType := none }, accessFlags := 1, code := some k7c2 }
def k7c3 : Code := { maxStack := 2, maxLocals := 1, code := jdk_42_method_54_code, exceptionTable := #[], attributes := #[] }
def k7m3 : Method := { name := "length", desc := "()I", sig := { parameters := [], returnType := some .int }, accessFlags := 1, code := some k7c3 }
def k7c4 : Code := { maxStack := 2, maxLocals := 3, code := jdk_42_method_66_code, exceptionTable := #[], attributes := #[] }
def k7m4 : Method := { name := "equals", desc := "(Ljava/lang/Object;)Z", sig := { parameters := [(.object "java/lang/Object")], returnType := some .boolean }, accessFlags := 1, code := some k7c4 }
def k7c5 : Code := { maxStack := 5, maxLocals := 4, code := jdk_42_method_147_code, exceptionTable := #[], attributes := #[] }
def k7m5 : Method := { name := "getBytes", desc := "([BIB)V", sig := { parameters := [(.array .byte), .int, .byte], returnType := none }, accessFlags := 0, code := some k7c5 }
def k7c6 : Code := { maxStack := 4, maxLocals := 6, code := jdk_42_method_149_code, exceptionTable := #[], attributes := #[] }
def k7m6 : Method := { name := "<init>", desc := "([CIILjava/lang/Void;)V", sig := { parameters := [(.array .char), .int, .int, (.object "java/lang/Void")], returnType := none }, accessFlags := 2, code := some k7c6 }
def k7c7 : Code := { maxStack := 5, maxLocals := 5, code := jdk_42_method_150_code, exceptionTable := #[], attributes := #[] }
def k7m7 : Method := { name := "<init>", desc := "(Ljava/lang/AbstractStringBuilder;Ljava/lang/Void;)V", sig := { parameters := [(.object "java/lang/AbstractStringBuilder"), (.object "java/lang/Void")], returnType := none }, accessFlags := 0, code := some k7c7 }
def k7c8 : Code := { maxStack := 1, maxLocals := 1, code := jdk_42_method_152_code, exceptionTable := #[], attributes := #[] }
def k7m8 : Method := { name := "coder", desc := "()B", sig := { parameters := [], returnType := some .byte }, accessFlags := 0, code := some k7c8 }
/-- java/lang/String -/
def k7 : Class := { plain "java/lang/String" (some 0) with
  accessFlags := 49
  interfaces := #[2, 3, 4, 5, 6]
  cf := some (fileOf pool7 10 #[.nestMembers #[1103]] #[{ accessFlags := 1, nameIndex := 5, descriptorIndex := 6, attributes := #[] }, { accessFlags := 1, nameIndex := 5, descriptorIndex := 1010, attributes := #[] }, { accessFlags := 1, nameIndex := 5, descriptorIndex := 1233, attributes := #[] }, { accessFlags := 1, nameIndex := 507, descriptorIndex := 334, attributes := #[] }, { accessFlags := 1, nameIndex := 543, descriptorIndex := 573, attributes := #[] }, { accessFlags := 0, nameIndex := 532, descriptorIndex := 821, attributes := #[] }, { accessFlags := 2, nameIndex := 5, descriptorIndex := 29, attributes := #[] }, { accessFlags := 0, nameIndex := 5, descriptorIndex := 491, attributes := #[] }, { accessFlags := 0, nameIndex := 17, descriptorIndex := 337, attributes := #[] }] 49 2 #[1106, 1108, 575, 1110, 1112] #[{ accessFlags := 18, nameIndex := 13, descriptorIndex := 14, attributes := #[] }, { accessFlags := 18, nameIndex := 17, descriptorIndex := 18, attributes := #[] }, { accessFlags := 2, nameIndex := 21, descriptorIndex := 22, attributes := #[] }, { accessFlags := 2, nameIndex := 25, descriptorIndex := 26, attributes := #[] }, { accessFlags := 26, nameIndex := 1116, descriptorIndex := 1117, attributes := #[] }, { accessFlags := 24, nameIndex := 40, descriptorIndex := 26, attributes := #[] }, { accessFlags := 26, nameIndex := 1101, descriptorIndex := 1102, attributes := #[] }, { accessFlags := 26, nameIndex := 1121, descriptorIndex := 1122, attributes := #[] }, { accessFlags := 25, nameIndex := 599, descriptorIndex := 600, attributes := #[] }, { accessFlags := 24, nameIndex := 1125, descriptorIndex := 18, attributes := #[] }, { accessFlags := 24, nameIndex := 1127, descriptorIndex := 18, attributes := #[] }])
  fields := #[{ name := "value", type := (.array .byte), accessFlags := 18, slot := 0, constantValue := 0 }, { name := "coder", type := .byte, accessFlags := 18, slot := 1, constantValue := 0 }, { name := "hash", type := .int, accessFlags := 2, slot := 2, constantValue := 0 }, { name := "hashIsZero", type := .boolean, accessFlags := 2, slot := 3, constantValue := 0 }, { name := "serialVersionUID", type := .long, accessFlags := 26, slot := 0, constantValue := 0 }, { name := "COMPACT_STRINGS", type := .boolean, accessFlags := 24, slot := 1, constantValue := 0 }, { name := "serialPersistentFields", type := (.array (.object "java/io/ObjectStreamField")), accessFlags := 26, slot := 2, constantValue := 0 }, { name := "REPL", type := .char, accessFlags := 26, slot := 3, constantValue := 0 }, { name := "CASE_INSENSITIVE_ORDER", type := (.object "java/util/Comparator"), accessFlags := 25, slot := 4, constantValue := 0 }, { name := "LATIN1", type := .byte, accessFlags := 24, slot := 5, constantValue := 0 }, { name := "UTF16", type := .byte, accessFlags := 24, slot := 6, constantValue := 0 }]
  methods := #[k7m0, k7m1, k7m2, k7m3, k7m4, k7m5, k7m6, k7m7, k7m8]
  instanceTypes := #[(.array .byte), .byte, .int, .boolean]
  staticTypes := #[.long, .boolean, (.array (.object "java/io/ObjectStreamField")), .char, (.object "java/util/Comparator"), .byte, .byte]
  resolved := Array.replicate 1451 none
  statics := some 0 }

def pool8 : Array CpInfo := pool [(6, .class_ 8), (1, u "java/lang/Object"), (0, u "<init>"), (0, u "()V"), (1, .class_ 14), (1, u "java/lang/StringUTF16"), (31, u "$assertionsDisabled"), (0, u "Z"), (13, u "HI_BYTE_SHIFT"), (0, u "I"), (2, u "LO_BYTE_SHIFT"), (49, .methodref 12 116), (0, .nameAndType 117 118), (0, u "compress"), (0, u "([CI[BII)I"), (3, u "([CII)[B"), (138, u "coderFromArrayLen"), (0, u "([BI)B"), (106, .class_ 371), (1, u "java/lang/StringUTF16$LinesSpliterator"), (58, u "MAX_LENGTH"), (196, .class_ 628), (0, u "java/lang/StringUTF16$CodePointsSpliterator"), (0, .class_ 630), (0, u "java/lang/StringUTF16$CharsSpliterator")] 4

def k8m0 : Method := { name := "<init>", desc := "()V", sig := { parameters := [], returnType := none }, accessFlags := 0, code := none }
def k8c1 : Code := { maxStack := 2, maxLocals := 2, code := jdk_52_method_15_code, exceptionTable := #[], attributes := #[] }
def k8m1 : Method := { name := "coderFromArrayLen", desc := "([BI)B", sig := { parameters := [(.array .byte), .int], returnType := some .byte }, accessFlags := 8, code := some k8c1 }
def k8c2 : Code := { maxStack := 5, maxLocals := 6, code := jdk_52_method_16_code, exceptionTable := #[], attributes := #[] }
def k8m2 : Method := { name := "compress", desc := "([CII)[B", sig := { parameters := [(.array .char), .int, .int], returnType := some (.array .byte) }, accessFlags := 9, code := some k8c2 }
def k8c3 : Code := { maxStack := 3, maxLocals := 7, code := jdk_52_method_21_code, exceptionTable := #[], attributes := #[] }
def k8m3 : Method := { name := "compress", desc := "([CI[BII)I", sig := { parameters := [(.array .char), .int, (.array .byte), .int, .int], returnType := some .int }, accessFlags := 9, code := some k8c3 }
/-- java/lang/StringUTF16 -/
def k8 : Class := { plain "java/lang/StringUTF16" (some 0) with
  accessFlags := 48
  interfaces := #[]
  cf := some (fileOf pool8 12 #[.nestMembers #[627, 629, 369]] #[{ accessFlags := 0, nameIndex := 9, descriptorIndex := 10, attributes := #[] }, { accessFlags := 8, nameIndex := 261, descriptorIndex := 262, attributes := #[] }, { accessFlags := 9, nameIndex := 117, descriptorIndex := 122, attributes := #[] }, { accessFlags := 9, nameIndex := 117, descriptorIndex := 118, attributes := #[] }] 48 6 #[] #[{ accessFlags := 26, nameIndex := 61, descriptorIndex := 62, attributes := #[] }, { accessFlags := 26, nameIndex := 65, descriptorIndex := 62, attributes := #[] }, { accessFlags := 24, nameIndex := 430, descriptorIndex := 62, attributes := #[] }, { accessFlags := 4120, nameIndex := 46, descriptorIndex := 47, attributes := #[] }])
  fields := #[{ name := "HI_BYTE_SHIFT", type := .int, accessFlags := 26, slot := 0, constantValue := 0 }, { name := "LO_BYTE_SHIFT", type := .int, accessFlags := 26, slot := 1, constantValue := 0 }, { name := "MAX_LENGTH", type := .int, accessFlags := 24, slot := 2, constantValue := 0 }, { name := "$assertionsDisabled", type := .boolean, accessFlags := 4120, slot := 3, constantValue := 0 }]
  methods := #[k8m0, k8m1, k8m2, k8m3]
  instanceTypes := #[]
  staticTypes := #[.int, .int, .int, .boolean]
  resolved := Array.replicate 635 none
  statics := none }

def pool9 : Array CpInfo := pool [(1, .methodref 2 3), (0, .class_ 4), (0, .nameAndType 5 6), (0, u "java/lang/Object"), (0, u "<init>"), (0, u "()V"), (0, .fieldref 8 9), (0, .class_ 10), (0, .nameAndType 11 12), (0, u "java/lang/Throwable"), (0, u "cause"), (0, u "Ljava/lang/Throwable;"), (0, .fieldref 8 14), (0, .nameAndType 15 16), (0, u "UNASSIGNED_STACK"), (0, u "[Ljava/lang/StackTraceElement;"), (0, .fieldref 8 18), (0, .nameAndType 19 16), (0, u "stackTrace"), (0, .fieldref 8 21), (0, .nameAndType 22 23), (0, u "SUPPRESSED_SENTINEL"), (0, u "Ljava/util/List;"), (0, .fieldref 8 25), (0, .nameAndType 26 23), (0, u "suppressedExceptions"), (0, .methodref 8 28), (0, .nameAndType 29 30), (0, u "fillInStackTrace"), (0, u "()Ljava/lang/Throwable;"), (0, .fieldref 8 32), (0, .nameAndType 33 34), (0, u "detailMessage"), (0, u "Ljava/lang/String;"), (3, u "()Ljava/lang/String;"), (2, u "getMessage"), (51, .class_ 94), (0, u "java/lang/Throwable$WrappedPrintStream"), (6, .class_ 103), (1, u "java/lang/Throwable$PrintStreamOrWriter"), (61, u "$assertionsDisabled"), (0, u "Z"), (26, .class_ 194), (0, u "java/lang/Throwable$WrappedPrintWriter"), (3, .fieldref 8 199), (0, .nameAndType 200 201), (0, u "backtrace"), (0, u "Ljava/lang/Object;"), (0, .methodref 8 203), (0, .nameAndType 29 204), (0, u "(I)Ljava/lang/Throwable;"), (6, u "depth"), (0, u "I"), (10, u "(Ljava/lang/String;)V"), (45, .class_ 271), (1, u "java/lang/Throwable$SentinelHolder"), (32, u "EMPTY_THROWABLE_ARRAY"), (0, u "[Ljava/lang/Throwable;"), (12, .class_ 319), (0, u "java/io/Serializable"), (0, u "serialVersionUID"), (0, u "J"), (5, u "NULL_CAUSE_MESSAGE"), (0, u "SELF_SUPPRESSION_MESSAGE"), (0, u "CAUSE_CAPTION"), (0, u "SUPPRESSED_CAPTION")] 73

def k9c0 : Code := { maxStack := 2, maxLocals := 1, code := jdk_78_method_1_code, exceptionTable := #[], attributes := #[] }
def k9m0 : Method := { name := "<init>", desc := "()V", sig := { parameters := [], returnType := none }, accessFlags := 1, code := some k9c0 }
def k9c1 : Code := { maxStack := 2, maxLocals := 2, code := jdk_78_method_2_code, exceptionTable := #[], attributes := #[] }
def k9m1 : Method := { name := "<init>", desc := "(Ljava/lang/String;)V", sig := { parameters := [(.object "java/lang/String")], returnType := none }, accessFlags := 1, code := some k9c1 }
def k9c2 : Code := { maxStack := 1, maxLocals := 1, code := jdk_78_method_6_code, exceptionTable := #[], attributes := #[] }
def k9m2 : Method := { name := "getMessage", desc := "()Ljava/lang/String;", sig := { parameters := [], returnType := some (.object "java/lang/String") }, accessFlags := 1, code := some k9c2 }
def k9c3 : Code := { maxStack := 2, maxLocals := 1, code := ⟨#[0x2a, 0xb4, 0x00, 0x11, 0xc7, 0x00, 0x0a, 0x2a, 0xb4, 0x00, 0xc6, 0xc6, 0x00, 0x10, 0x2a, 0x03, 0xb6, 0x00, 0xca, 0x57, 0x2a, 0xb2, 0x00, 0x0d, 0xb5, 0x00, 0x11, 0x2a, 0xb0]⟩, exceptionTable := #[], attributes := #[] }
def k9m3 : Method := { name := "fillInStackTrace", desc := "()Ljava/lang/Throwable;", sig := { parameters := [], returnType := some (.object "java/lang/Throwable") }, accessFlags := 33, code := some k9c3 }
def k9m4 : Method := { name := "fillInStackTrace", desc := "(I)Ljava/lang/Throwable;", sig := { parameters := [.int], returnType := some (.object "java/lang/Throwable") }, accessFlags := 258, code := none }
/-- java/lang/Throwable -/
def k9 : Class := { plain "java/lang/Throwable" (some 0) with
  accessFlags := 33
  interfaces := #[2]
  cf := some (fileOf pool9 8 #[.nestMembers #[193, 93, 101, 269]] #[{ accessFlags := 1, nameIndex := 5, descriptorIndex := 6, attributes := #[] }, { accessFlags := 1, nameIndex := 5, descriptorIndex := 223, attributes := #[] }, { accessFlags := 1, nameIndex := 41, descriptorIndex := 38, attributes := #[] }, { accessFlags := 33, nameIndex := 29, descriptorIndex := 30, attributes := #[] }, { accessFlags := 258, nameIndex := 29, descriptorIndex := 204, attributes := #[] }] 33 2 #[318] #[{ accessFlags := 26, nameIndex := 320, descriptorIndex := 321, attributes := #[] }, { accessFlags := 130, nameIndex := 200, descriptorIndex := 201, attributes := #[] }, { accessFlags := 2, nameIndex := 33, descriptorIndex := 34, attributes := #[] }, { accessFlags := 26, nameIndex := 15, descriptorIndex := 16, attributes := #[] }, { accessFlags := 2, nameIndex := 11, descriptorIndex := 12, attributes := #[] }, { accessFlags := 2, nameIndex := 19, descriptorIndex := 16, attributes := #[] }, { accessFlags := 130, nameIndex := 211, descriptorIndex := 212, attributes := #[] }, { accessFlags := 26, nameIndex := 22, descriptorIndex := 23, attributes := #[] }, { accessFlags := 2, nameIndex := 26, descriptorIndex := 23, attributes := #[] }, { accessFlags := 26, nameIndex := 327, descriptorIndex := 34, attributes := #[] }, { accessFlags := 26, nameIndex := 328, descriptorIndex := 34, attributes := #[] }, { accessFlags := 26, nameIndex := 329, descriptorIndex := 34, attributes := #[] }, { accessFlags := 26, nameIndex := 330, descriptorIndex := 34, attributes := #[] }, { accessFlags := 26, nameIndex := 304, descriptorIndex := 305, attributes := #[] }, { accessFlags := 4120, nameIndex := 165, descriptorIndex := 166, attributes := #[] }])
  fields := #[{ name := "serialVersionUID", type := .long, accessFlags := 26, slot := 0, constantValue := 0 }, { name := "backtrace", type := (.object "java/lang/Object"), accessFlags := 130, slot := 0, constantValue := 0 }, { name := "detailMessage", type := (.object "java/lang/String"), accessFlags := 2, slot := 1, constantValue := 0 }, { name := "UNASSIGNED_STACK", type := (.array (.object "java/lang/StackTraceElement")), accessFlags := 26, slot := 1, constantValue := 0 }, { name := "cause", type := (.object "java/lang/Throwable"), accessFlags := 2, slot := 2, constantValue := 0 }, { name := "stackTrace", type := (.array (.object "java/lang/StackTraceElement")), accessFlags := 2, slot := 3, constantValue := 0 }, { name := "depth", type := .int, accessFlags := 130, slot := 4, constantValue := 0 }, { name := "SUPPRESSED_SENTINEL", type := (.object "java/util/List"), accessFlags := 26, slot := 2, constantValue := 0 }, { name := "suppressedExceptions", type := (.object "java/util/List"), accessFlags := 2, slot := 5, constantValue := 0 }, { name := "NULL_CAUSE_MESSAGE", type := (.object "java/lang/String"), accessFlags := 26, slot := 3, constantValue := 0 }, { name := "SELF_SUPPRESSION_MESSAGE", type := (.object "java/lang/String"), accessFlags := 26, slot := 4, constantValue := 0 }, { name := "CAUSE_CAPTION", type := (.object "java/lang/String"), accessFlags := 26, slot := 5, constantValue := 0 }, { name := "SUPPRESSED_CAPTION", type := (.object "java/lang/String"), accessFlags := 26, slot := 6, constantValue := 0 }, { name := "EMPTY_THROWABLE_ARRAY", type := (.array (.object "java/lang/Throwable")), accessFlags := 26, slot := 7, constantValue := 0 }, { name := "$assertionsDisabled", type := .boolean, accessFlags := 4120, slot := 8, constantValue := 0 }]
  methods := #[k9m0, k9m1, k9m2, k9m3, k9m4]
  instanceTypes := #[(.object "java/lang/Object"), (.object "java/lang/String"), (.object "java/lang/Throwable"), (.array (.object "java/lang/StackTraceElement")), .int, (.object "java/util/List")]
  staticTypes := #[.long, (.array (.object "java/lang/StackTraceElement")), (.object "java/util/List"), (.object "java/lang/String"), (.object "java/lang/String"), (.object "java/lang/String"), (.object "java/lang/String"), (.array (.object "java/lang/Throwable")), .boolean]
  resolved := Array.replicate 404 none
  statics := some 1 }

def pool10 : Array CpInfo := pool [(2, .class_ 4), (1, u "java/lang/Throwable"), (0, u "<init>"), (0, u "()V"), (0, .methodref 2 8), (0, .nameAndType 5 9), (0, u "(Ljava/lang/String;)V"), (9, .class_ 20), (0, u "java/lang/Exception"), (0, u "serialVersionUID"), (0, u "J")] 17

def k10m0 : Method := { name := "<init>", desc := "()V", sig := { parameters := [], returnType := none }, accessFlags := 1, code := none }
def k10c1 : Code := { maxStack := 2, maxLocals := 2, code := jdk_59_method_2_code, exceptionTable := #[], attributes := #[] }
def k10m1 : Method := { name := "<init>", desc := "(Ljava/lang/String;)V", sig := { parameters := [(.object "java/lang/String")], returnType := none }, accessFlags := 1, code := some k10c1 }
/-- java/lang/Exception -/
def k10 : Class := { plain "java/lang/Exception" (some 9) with
  accessFlags := 33
  interfaces := #[]
  cf := some (fileOf pool10 19 #[] #[{ accessFlags := 1, nameIndex := 5, descriptorIndex := 6, attributes := #[] }, { accessFlags := 1, nameIndex := 5, descriptorIndex := 9, attributes := #[] }] 33 2 #[] #[{ accessFlags := 24, nameIndex := 21, descriptorIndex := 22, attributes := #[] }])
  fields := #[{ name := "serialVersionUID", type := .long, accessFlags := 24, slot := 0, constantValue := 0 }]
  methods := #[k10m0, k10m1]
  instanceTypes := #[(.object "java/lang/Object"), (.object "java/lang/String"), (.object "java/lang/Throwable"), (.array (.object "java/lang/StackTraceElement")), .int, (.object "java/util/List")]
  staticTypes := #[.long]
  resolved := Array.replicate 40 none
  statics := none }

def pool11 : Array CpInfo := pool [(1, .methodref 2 3), (0, .class_ 4), (0, .nameAndType 5 6), (0, u "java/lang/Exception"), (0, u "<init>"), (0, u "(Ljava/lang/String;)V"), (0, .class_ 8), (0, u "org/claimbridge/cli/BadUsageException"), (0, .class_ 10), (0, u "java/lang/StringBuilder"), (0, .methodref 9 12), (0, .nameAndType 5 13), (0, u "()V"), (0, .methodref 9 15), (0, .nameAndType 16 17), (0, u "append"), (0, u "(Ljava/lang/String;)Ljava/lang/StringBuilder;"), (0, .string 19), (0, u " and "), (0, .string 21), (0, u " cannot be given together"), (0, .methodref 9 23), (0, .nameAndType 24 25), (0, u "toString"), (0, u "()Ljava/lang/String;"), (0, .methodref 7 3), (0, u "serialVersionUID"), (0, u "J"), (5, u "givenTogether"), (0, u "(Ljava/lang/String;Ljava/lang/String;)Lorg/claimbridge/cli/BadUsageException;")] 2

def k11c0 : Code := { maxStack := 2, maxLocals := 2, code := prog_4_method_1_code, exceptionTable := #[], attributes := #[] }
def k11m0 : Method := { name := "<init>", desc := "(Ljava/lang/String;)V", sig := { parameters := [(.object "java/lang/String")], returnType := none }, accessFlags := 0, code := some k11c0 }
def k11c1 : Code := { maxStack := 4, maxLocals := 2, code := prog_4_method_2_code, exceptionTable := #[], attributes := #[] }
def k11m1 : Method := { name := "givenTogether", desc := "(Ljava/lang/String;Ljava/lang/String;)Lorg/claimbridge/cli/BadUsageException;", sig := { parameters := [(.object "java/lang/String"), (.object "java/lang/String")], returnType := some (.object "org/claimbridge/cli/BadUsageException") }, accessFlags := 8, code := some k11c1 }
/-- org/claimbridge/cli/BadUsageException -/
def k11 : Class := { plain "org/claimbridge/cli/BadUsageException" (some 10) with
  accessFlags := 48
  interfaces := #[]
  cf := some (fileOf pool11 7 #[] #[{ accessFlags := 0, nameIndex := 5, descriptorIndex := 6, attributes := #[] }, { accessFlags := 8, nameIndex := 34, descriptorIndex := 35, attributes := #[] }] 48 2 #[] #[{ accessFlags := 26, nameIndex := 27, descriptorIndex := 28, attributes := #[] }])
  fields := #[{ name := "serialVersionUID", type := .long, accessFlags := 26, slot := 0, constantValue := 0 }]
  methods := #[k11m0, k11m1]
  instanceTypes := #[(.object "java/lang/Object"), (.object "java/lang/String"), (.object "java/lang/Throwable"), (.array (.object "java/lang/StackTraceElement")), .int, (.object "java/util/List")]
  staticTypes := #[.long]
  resolved := Array.replicate 38 none
  statics := none }

def pool12 : Array CpInfo := pool [(1, .class_ 2), (0, u "java/lang/Appendable"), (0, .class_ 4), (0, u "java/lang/Object")] 9

/-- java/lang/Appendable -/
def k12 : Class := { plain "java/lang/Appendable" (some 0) with
  accessFlags := 1537
  interfaces := #[]
  cf := some (fileOf pool12 1 #[] #[] 1537 3 #[] #[])
  fields := #[]
  methods := #[]
  instanceTypes := #[]
  staticTypes := #[]
  resolved := Array.replicate 14 none
  statics := none }

def pool13 : Array CpInfo := pool [(1, .class_ 2), (0, u "java/lang/String"), (0, .methodref 4 5), (0, .class_ 6), (0, .nameAndType 7 8), (0, u "java/lang/Object"), (0, u "<init>"), (0, u "()V"), (1, .class_ 12), (1, u "java/lang/AbstractStringBuilder"), (0, u "EMPTYVALUE"), (0, u "[B"), (0, .fieldref 10 16), (0, .nameAndType 17 14), (0, u "value"), (0, .fieldref 1 19), (0, .nameAndType 20 21), (0, u "COMPACT_STRINGS"), (0, u "Z"), (0, .fieldref 10 23), (0, .nameAndType 24 25), (0, u "coder"), (0, u "B"), (6, .methodref 1 33), (0, .nameAndType 34 35), (0, u "length"), (0, u "()I"), (3, .integer 2147483647), (0, .methodref 1 41), (0, .nameAndType 24 42), (0, u "()B"), (2, u "append"), (0, u "(Ljava/lang/String;)Ljava/lang/AbstractStringBuilder;"), (1, .class_ 49), (0, u "java/lang/CharSequence"), (19, u "(Ljava/lang/String;)V"), (5, u "maybeLatin1"), (3, .fieldref 10 80), (0, .nameAndType 81 82), (0, u "count"), (0, u "I"), (2, u "isLatin1"), (0, u "()Z"), (13, .methodref 10 101), (0, .nameAndType 102 103), (0, u "ensureCapacityInternal"), (0, u "(I)V"), (0, .methodref 10 105), (0, .nameAndType 106 107), (0, u "newCapacity"), (0, u "(I)I"), (0, .methodref 109 110), (0, .class_ 111), (0, .nameAndType 112 113), (0, u "java/util/Arrays"), (0, u "copyOf"), (0, u "([BI)[B"), (0, .methodref 115 116), (0, .class_ 117), (0, .nameAndType 118 119), (0, u "jdk/internal/util/ArraysSupport"), (0, u "newLength"), (0, u "(III)I"), (88, .methodref 10 209), (0, .nameAndType 210 211), (0, u "putStringAt"), (0, u "(ILjava/lang/String;)V"), (5, u "inflateIfNeededFor"), (2, .nameAndType 221 222), (0, u "getBytes"), (0, u "([BIB)V"), (174, .methodref 10 398), (0, .nameAndType 217 69), (0, .methodref 1 220), (3, u "()[B"), (40, .class_ 445), (0, u "java/lang/Appendable"), (106, u "getValue")] 56

def k13m0 : Method := { name := "<init>", desc := "()V", sig := { parameters := [], returnType := none }, accessFlags := 0, code := none }
def k13c1 : Code := { maxStack := 2, maxLocals := 2, code := jdk_68_method_2_code, exceptionTable := #[], attributes := #[] }
def k13m1 : Method := { name := "<init>", desc := "(I)V", sig := { parameters := [.int], returnType := none }, accessFlags := 0, code := some k13c1 }
def k13c2 : Code := { maxStack := 1, maxLocals := 1, code := jdk_68_method_6_code, exceptionTable := #[], attributes := #[] }
def k13m2 : Method := { name := "length", desc := "()I", sig := { parameters := [], returnType := some .int }, accessFlags := 1, code := some k13c2 }
def k13c3 : Code := { maxStack := 4, maxLocals := 3, code := jdk_68_method_9_code, exceptionTable := #[], attributes := #[] }
def k13m3 : Method := { name := "ensureCapacityInternal", desc := "(I)V", sig := { parameters := [.int], returnType := none }, accessFlags := 2, code := some k13c3 }
def k13c4 : Code := { maxStack := 5, maxLocals := 6, code := jdk_68_method_10_code, exceptionTable := #[], attributes := #[] }
def k13m4 : Method := { name := "newCapacity", desc := "(I)I", sig := { parameters := [.int], returnType := some .int }, accessFlags := 2, code := some k13c4 }
def k13c5 : Code := { maxStack := 3, maxLocals := 3, code := jdk_68_method_22_code, exceptionTable := #[], attributes := #[] }
def k13m5 : Method := { name := "append", desc := "(Ljava/lang/String;)Ljava/lang/AbstractStringBuilder;", sig := { parameters := [(.object "java/lang/String")], returnType := some (.object "java/lang/AbstractStringBuilder") }, accessFlags := 1, code := some k13c5 }
def k13c6 : Code := { maxStack := 1, maxLocals := 1, code := jdk_68_method_64_code, exceptionTable := #[], attributes := #[] }
def k13m6 : Method := { name := "getValue", desc := "()[B", sig := { parameters := [], returnType := some (.array .byte) }, accessFlags := 16, code := some k13c6 }
def k13c7 : Code := { maxStack := 1, maxLocals := 1, code := jdk_68_method_68_code, exceptionTable := #[], attributes := #[] }
def k13m7 : Method := { name := "isLatin1", desc := "()Z", sig := { parameters := [], returnType := some .boolean }, accessFlags := 16, code := some k13c7 }
def k13c8 : Code := { maxStack := 2, maxLocals := 2, code := jdk_68_method_71_code, exceptionTable := #[], attributes := #[] }
def k13m8 : Method := { name := "inflateIfNeededFor", desc := "(Ljava/lang/String;)V", sig := { parameters := [(.object "java/lang/String")], returnType := none }, accessFlags := 2, code := some k13c8 }
def k13c9 : Code := { maxStack := 4, maxLocals := 3, code := jdk_68_method_73_code, exceptionTable := #[], attributes := #[] }
def k13m9 : Method := { name := "putStringAt", desc := "(ILjava/lang/String;)V", sig := { parameters := [.int, (.object "java/lang/String")], returnType := none }, accessFlags := 2, code := some k13c9 }
/-- java/lang/AbstractStringBuilder -/
def k13 : Class := { plain "java/lang/AbstractStringBuilder" (some 0) with
  accessFlags := 1056
  interfaces := #[12, 4]
  cf := some (fileOf pool13 10 #[] #[{ accessFlags := 0, nameIndex := 7, descriptorIndex := 8, attributes := #[] }, { accessFlags := 0, nameIndex := 7, descriptorIndex := 103, attributes := #[] }, { accessFlags := 1, nameIndex := 34, descriptorIndex := 35, attributes := #[] }, { accessFlags := 2, nameIndex := 102, descriptorIndex := 103, attributes := #[] }, { accessFlags := 2, nameIndex := 106, descriptorIndex := 107, attributes := #[] }, { accessFlags := 1, nameIndex := 45, descriptorIndex := 46, attributes := #[] }, { accessFlags := 16, nameIndex := 552, descriptorIndex := 403, attributes := #[] }, { accessFlags := 16, nameIndex := 85, descriptorIndex := 86, attributes := #[] }, { accessFlags := 2, nameIndex := 217, descriptorIndex := 69, attributes := #[] }, { accessFlags := 2, nameIndex := 210, descriptorIndex := 211, attributes := #[] }] 1056 4 #[444, 48] #[{ accessFlags := 0, nameIndex := 17, descriptorIndex := 14, attributes := #[] }, { accessFlags := 0, nameIndex := 24, descriptorIndex := 25, attributes := #[] }, { accessFlags := 0, nameIndex := 75, descriptorIndex := 21, attributes := #[] }, { accessFlags := 0, nameIndex := 81, descriptorIndex := 82, attributes := #[] }, { accessFlags := 26, nameIndex := 13, descriptorIndex := 14, attributes := #[] }])
  fields := #[{ name := "value", type := (.array .byte), accessFlags := 0, slot := 0, constantValue := 0 }, { name := "coder", type := .byte, accessFlags := 0, slot := 1, constantValue := 0 }, { name := "maybeLatin1", type := .boolean, accessFlags := 0, slot := 2, constantValue := 0 }, { name := "count", type := .int, accessFlags := 0, slot := 3, constantValue := 0 }, { name := "EMPTYVALUE", type := (.array .byte), accessFlags := 26, slot := 0, constantValue := 0 }]
  methods := #[k13m0, k13m1, k13m2, k13m3, k13m4, k13m5, k13m6, k13m7, k13m8, k13m9]
  instanceTypes := #[(.array .byte), .byte, .boolean, .int]
  staticTypes := #[(.array .byte)]
  resolved := Array.replicate 609 none
  statics := none }

def pool14 : Array CpInfo := pool [(1, .methodref 2 3), (0, .class_ 4), (0, .nameAndType 5 6), (0, u "java/lang/AbstractStringBuilder"), (0, u "<init>"), (0, u "(I)V"), (11, .class_ 20), (1, u "java/lang/String"), (3, .class_ 26), (1, u "java/lang/StringBuilder"), (0, u "append"), (0, u "(Ljava/lang/String;)Ljava/lang/StringBuilder;"), (0, .methodref 2 30), (0, .nameAndType 27 31), (0, u "(Ljava/lang/String;)Ljava/lang/AbstractStringBuilder;"), (105, .methodref 18 138), (0, .nameAndType 5 139), (0, u "(Ljava/lang/StringBuilder;)V"), (5, u "()V"), (10, u "()I"), (186, .methodref 2 344), (0, .nameAndType 345 156), (0, u "length"), (3, .class_ 350), (0, u "java/lang/Appendable"), (0, .class_ 352), (0, u "java/io/Serializable"), (0, .class_ 354), (0, u "java/lang/Comparable"), (0, .class_ 356), (0, u "java/lang/CharSequence"), (0, u "serialVersionUID"), (0, u "J"), (40, u "toString"), (0, u "()Ljava/lang/String;")] 21

def k14c0 : Code := { maxStack := 2, maxLocals := 1, code := jdk_67_method_1_code, exceptionTable := #[], attributes := #[] }
def k14m0 : Method := { name := "<init>", desc := "()V", sig := { parameters := [], returnType := none }, accessFlags := 1, code := some k14c0 }
def k14c1 : Code := { maxStack := 2, maxLocals := 2, code := jdk_67_method_7_code, exceptionTable := #[], attributes := #[] }
def k14m1 : Method := { name := "append", desc := "(Ljava/lang/String;)Ljava/lang/StringBuilder;", sig := { parameters := [(.object "java/lang/String")], returnType := some (.object "java/lang/StringBuilder") }, accessFlags := 1, code := some k14c1 }
def k14c2 : Code := { maxStack := 3, maxLocals := 1, code := jdk_67_method_42_code, exceptionTable := #[], attributes := #[] }
def k14m2 : Method := { name := "toString", desc := "()Ljava/lang/String;", sig := { parameters := [], returnType := some (.object "java/lang/String") }, accessFlags := 1, code := some k14c2 }
def k14c3 : Code := { maxStack := 1, maxLocals := 1, code := jdk_67_method_93_code, exceptionTable := #[], attributes := #[] }
def k14m3 : Method := { name := "length", desc := "()I", sig := { parameters := [], returnType := some .int }, accessFlags := 4161, code := some k14c3 }
/-- java/lang/StringBuilder -/
def k14 : Class := { plain "java/lang/StringBuilder" (some 13) with
  accessFlags := 49
  interfaces := #[12, 2, 3, 4]
  cf := some (fileOf pool14 24 #[] #[{ accessFlags := 1, nameIndex := 5, descriptorIndex := 145, attributes := #[] }, { accessFlags := 1, nameIndex := 27, descriptorIndex := 28, attributes := #[] }, { accessFlags := 1, nameIndex := 399, descriptorIndex := 400, attributes := #[] }, { accessFlags := 4161, nameIndex := 345, descriptorIndex := 156, attributes := #[] }] 49 2 #[349, 351, 353, 355] #[{ accessFlags := 24, nameIndex := 357, descriptorIndex := 358, attributes := #[] }])
  fields := #[{ name := "serialVersionUID", type := .long, accessFlags := 24, slot := 0, constantValue := 0 }]
  methods := #[k14m0, k14m1, k14m2, k14m3]
  instanceTypes := #[(.array .byte), .byte, .boolean, .int]
  staticTypes := #[.long]
  resolved := Array.replicate 422 none
  statics := none }

def pool15 : Array CpInfo := pool [(2, .class_ 4), (1, u "java/lang/Object"), (0, u "<init>"), (0, u "()V"), (1, .class_ 10), (1, u "java/lang/System"), (0, u "allowSecurityManager"), (0, u "I"), (16, u "cons"), (0, u "Ljava/io/Console;"), (77, .class_ 110), (1, u "java/lang/System$CallersHolder"), (43, u "initialErrStream"), (0, u "Ljava/io/PrintStream;"), (19, u "security"), (0, u "Ljava/lang/SecurityManager;"), (31, .class_ 209), (0, u "java/lang/System$1"), (7, u "props"), (0, u "Ljava/util/Properties;"), (2, u "lineSeparator"), (0, u "Ljava/lang/String;"), (96, .class_ 321), (1, u "java/lang/System$LoggerFinder"), (5, .class_ 328), (0, u "java/lang/System$Logger"), (67, u "err"), (2, u "out"), (91, u "notSupportedJnuEncoding"), (15, u "in"), (17, u "initialIn"), (0, u "Ljava/io/InputStream;"), (35, u "bootLayer"), (0, u "Ljava/lang/ModuleLayer;"), (99, .class_ 664), (0, u "java/lang/System$2"), (9, u "NEVER"), (2, u "MAYBE"), (49, u "arraycopy"), (0, u "(Ljava/lang/Object;ILjava/lang/Object;II)V"), (72, .class_ 802), (0, u "java/lang/System$Logger$Level")] 31

def k15m0 : Method := { name := "<init>", desc := "()V", sig := { parameters := [], returnType := none }, accessFlags := 2, code := none }
def k15m1 : Method := { name := "arraycopy", desc := "(Ljava/lang/Object;ILjava/lang/Object;II)V", sig := { parameters := [(.object "java/lang/Object"), .int, (.object "java/lang/Object"), .int, .int], returnType := none }, accessFlags := 265, code := none }
/-- java/lang/System -/
def k15 : Class := { plain "java/lang/System" (some 0) with
  accessFlags := 49
  interfaces := #[]
  cf := some (fileOf pool15 8 #[.nestMembers #[319, 327, 801, 108, 663, 208]] #[{ accessFlags := 2, nameIndex := 5, descriptorIndex := 6, attributes := #[] }, { accessFlags := 265, nameIndex := 727, descriptorIndex := 728, attributes := #[] }] 49 2 #[] #[{ accessFlags := 25, nameIndex := 507, descriptorIndex := 526, attributes := #[] }, { accessFlags := 25, nameIndex := 399, descriptorIndex := 155, attributes := #[] }, { accessFlags := 25, nameIndex := 396, descriptorIndex := 155, attributes := #[] }, { accessFlags := 10, nameIndex := 525, descriptorIndex := 526, attributes := #[] }, { accessFlags := 26, nameIndex := 674, descriptorIndex := 12, attributes := #[] }, { accessFlags := 26, nameIndex := 677, descriptorIndex := 12, attributes := #[] }, { accessFlags := 10, nameIndex := 11, descriptorIndex := 12, attributes := #[] }, { accessFlags := 74, nameIndex := 175, descriptorIndex := 176, attributes := #[] }, { accessFlags := 10, nameIndex := 491, descriptorIndex := 222, attributes := #[] }, { accessFlags := 74, nameIndex := 29, descriptorIndex := 30, attributes := #[] }, { accessFlags := 74, nameIndex := 154, descriptorIndex := 155, attributes := #[] }, { accessFlags := 10, nameIndex := 217, descriptorIndex := 218, attributes := #[] }, { accessFlags := 10, nameIndex := 221, descriptorIndex := 222, attributes := #[] }, { accessFlags := 8, nameIndex := 562, descriptorIndex := 563, attributes := #[] }])
  fields := #[{ name := "in", type := (.object "java/io/InputStream"), accessFlags := 25, slot := 0, constantValue := 0 }, { name := "out", type := (.object "java/io/PrintStream"), accessFlags := 25, slot := 1, constantValue := 0 }, { name := "err", type := (.object "java/io/PrintStream"), accessFlags := 25, slot := 2, constantValue := 0 }, { name := "initialIn", type := (.object "java/io/InputStream"), accessFlags := 10, slot := 3, constantValue := 0 }, { name := "NEVER", type := .int, accessFlags := 26, slot := 4, constantValue := 0 }, { name := "MAYBE", type := .int, accessFlags := 26, slot := 5, constantValue := 0 }, { name := "allowSecurityManager", type := .int, accessFlags := 10, slot := 6, constantValue := 0 }, { name := "security", type := (.object "java/lang/SecurityManager"), accessFlags := 74, slot := 7, constantValue := 0 }, { name := "notSupportedJnuEncoding", type := (.object "java/lang/String"), accessFlags := 10, slot := 8, constantValue := 0 }, { name := "cons", type := (.object "java/io/Console"), accessFlags := 74, slot := 9, constantValue := 0 }, { name := "initialErrStream", type := (.object "java/io/PrintStream"), accessFlags := 74, slot := 10, constantValue := 0 }, { name := "props", type := (.object "java/util/Properties"), accessFlags := 10, slot := 11, constantValue := 0 }, { name := "lineSeparator", type := (.object "java/lang/String"), accessFlags := 10, slot := 12, constantValue := 0 }, { name := "bootLayer", type := (.object "java/lang/ModuleLayer"), accessFlags := 8, slot := 13, constantValue := 0 }]
  methods := #[k15m0, k15m1]
  instanceTypes := #[]
  staticTypes := #[(.object "java/io/InputStream"), (.object "java/io/PrintStream"), (.object "java/io/PrintStream"), (.object "java/io/InputStream"), .int, .int, .int, (.object "java/lang/SecurityManager"), (.object "java/lang/String"), (.object "java/io/Console"), (.object "java/io/PrintStream"), (.object "java/util/Properties"), (.object "java/lang/String"), (.object "java/lang/ModuleLayer")]
  resolved := Array.replicate 834 none
  statics := none }

def pool16 : Array CpInfo := pool [(9, u "<init>"), (6, .class_ 18), (1, u "java/lang/Object"), (0, u "()V"), (1, .class_ 23), (1, u "jdk/internal/util/ArraysSupport"), (0, u "LOG2_ARRAY_LONG_INDEX_SCALE"), (0, u "I"), (2, u "U"), (0, u "Ljdk/internal/misc/Unsafe;"), (8, u "BIG_ENDIAN"), (0, u "Z"), (8, u "LOG2_BYTE_BIT_SIZE"), (4, u "LOG2_ARRAY_INT_INDEX_SCALE"), (54, u "JLA"), (0, u "Ljdk/internal/access/JavaLangAccess;"), (11, u "LOG2_ARRAY_BOOLEAN_INDEX_SCALE"), (9, u "LOG2_ARRAY_BYTE_INDEX_SCALE"), (5, u "LOG2_ARRAY_CHAR_INDEX_SCALE"), (5, u "LOG2_ARRAY_SHORT_INDEX_SCALE"), (18, u "LOG2_ARRAY_FLOAT_INDEX_SCALE"), (24, u "LOG2_ARRAY_DOUBLE_INDEX_SCALE"), (6, .methodref 195 196), (0, .class_ 197), (0, .nameAndType 198 199), (0, u "java/lang/Math"), (0, u "max"), (0, u "(II)I"), (0, .integer 2147483639), (76, u "T_BOOLEAN"), (2, u "T_CHAR"), (1, u "T_FLOAT"), (1, u "T_DOUBLE"), (1, u "T_BYTE"), (1, u "T_SHORT"), (1, u "T_INT"), (1, u "T_LONG"), (1, u "SOFT_MAX_ARRAY_LENGTH"), (56, u "newLength"), (0, u "(III)I")] 25

def k16m0 : Method := { name := "<init>", desc := "()V", sig := { parameters := [], returnType := none }, accessFlags := 2, code := none }
def k16c1 : Code := { maxStack := 3, maxLocals := 4, code := jdk_48_method_27_code, exceptionTable := #[], attributes := #[] }
def k16m1 : Method := { name := "newLength", desc := "(III)I", sig := { parameters := [.int, .int, .int], returnType := some .int }, accessFlags := 9, code := some k16c1 }
/-- jdk/internal/util/ArraysSupport -/
def k16 : Class := { plain "jdk/internal/util/ArraysSupport" (some 0) with
  accessFlags := 33
  interfaces := #[]
  cf := some (fileOf pool16 21 #[] #[{ accessFlags := 2, nameIndex := 9, descriptorIndex := 19, attributes := #[] }, { accessFlags := 9, nameIndex := 351, descriptorIndex := 352, attributes := #[] }] 33 16 #[] #[{ accessFlags := 24, nameIndex := 28, descriptorIndex := 29, attributes := #[] }, { accessFlags := 26, nameIndex := 38, descriptorIndex := 39, attributes := #[] }, { accessFlags := 25, nameIndex := 121, descriptorIndex := 25, attributes := #[] }, { accessFlags := 25, nameIndex := 131, descriptorIndex := 25, attributes := #[] }, { accessFlags := 25, nameIndex := 137, descriptorIndex := 25, attributes := #[] }, { accessFlags := 25, nameIndex := 143, descriptorIndex := 25, attributes := #[] }, { accessFlags := 25, nameIndex := 53, descriptorIndex := 25, attributes := #[] }, { accessFlags := 25, nameIndex := 24, descriptorIndex := 25, attributes := #[] }, { accessFlags := 25, nameIndex := 162, descriptorIndex := 25, attributes := #[] }, { accessFlags := 25, nameIndex := 187, descriptorIndex := 25, attributes := #[] }, { accessFlags := 26, nameIndex := 48, descriptorIndex := 25, attributes := #[] }, { accessFlags := 25, nameIndex := 277, descriptorIndex := 25, attributes := #[] }, { accessFlags := 25, nameIndex := 280, descriptorIndex := 25, attributes := #[] }, { accessFlags := 25, nameIndex := 282, descriptorIndex := 25, attributes := #[] }, { accessFlags := 25, nameIndex := 284, descriptorIndex := 25, attributes := #[] }, { accessFlags := 25, nameIndex := 286, descriptorIndex := 25, attributes := #[] }, { accessFlags := 25, nameIndex := 288, descriptorIndex := 25, attributes := #[] }, { accessFlags := 25, nameIndex := 290, descriptorIndex := 25, attributes := #[] }, { accessFlags := 25, nameIndex := 292, descriptorIndex := 25, attributes := #[] }, { accessFlags := 26, nameIndex := 108, descriptorIndex := 109, attributes := #[] }, { accessFlags := 25, nameIndex := 294, descriptorIndex := 25, attributes := #[] }])
  fields := #[{ name := "U", type := (.object "jdk/internal/misc/Unsafe"), accessFlags := 24, slot := 0, constantValue := 0 }, { name := "BIG_ENDIAN", type := .boolean, accessFlags := 26, slot := 1, constantValue := 0 }, { name := "LOG2_ARRAY_BOOLEAN_INDEX_SCALE", type := .int, accessFlags := 25, slot := 2, constantValue := 0 }, { name := "LOG2_ARRAY_BYTE_INDEX_SCALE", type := .int, accessFlags := 25, slot := 3, constantValue := 0 }, { name := "LOG2_ARRAY_CHAR_INDEX_SCALE", type := .int, accessFlags := 25, slot := 4, constantValue := 0 }, { name := "LOG2_ARRAY_SHORT_INDEX_SCALE", type := .int, accessFlags := 25, slot := 5, constantValue := 0 }, { name := "LOG2_ARRAY_INT_INDEX_SCALE", type := .int, accessFlags := 25, slot := 6, constantValue := 0 }, { name := "LOG2_ARRAY_LONG_INDEX_SCALE", type := .int, accessFlags := 25, slot := 7, constantValue := 0 }, { name := "LOG2_ARRAY_FLOAT_INDEX_SCALE", type := .int, accessFlags := 25, slot := 8, constantValue := 0 }, { name := "LOG2_ARRAY_DOUBLE_INDEX_SCALE", type := .int, accessFlags := 25, slot := 9, constantValue := 0 }, { name := "LOG2_BYTE_BIT_SIZE", type := .int, accessFlags := 26, slot := 10, constantValue := 0 }, { name := "T_BOOLEAN", type := .int, accessFlags := 25, slot := 11, constantValue := 0 }, { name := "T_CHAR", type := .int, accessFlags := 25, slot := 12, constantValue := 0 }, { name := "T_FLOAT", type := .int, accessFlags := 25, slot := 13, constantValue := 0 }, { name := "T_DOUBLE", type := .int, accessFlags := 25, slot := 14, constantValue := 0 }, { name := "T_BYTE", type := .int, accessFlags := 25, slot := 15, constantValue := 0 }, { name := "T_SHORT", type := .int, accessFlags := 25, slot := 16, constantValue := 0 }, { name := "T_INT", type := .int, accessFlags := 25, slot := 17, constantValue := 0 }, { name := "T_LONG", type := .int, accessFlags := 25, slot := 18, constantValue := 0 }, { name := "JLA", type := (.object "jdk/internal/access/JavaLangAccess"), accessFlags := 26, slot := 19, constantValue := 0 }, { name := "SOFT_MAX_ARRAY_LENGTH", type := .int, accessFlags := 25, slot := 20, constantValue := 0 }]
  methods := #[k16m0, k16m1]
  instanceTypes := #[]
  staticTypes := #[(.object "jdk/internal/misc/Unsafe"), .boolean, .int, .int, .int, .int, .int, .int, .int, .int, .int, .int, .int, .int, .int, .int, .int, .int, .int, (.object "jdk/internal/access/JavaLangAccess"), .int]
  resolved := Array.replicate 378 none
  statics := none }

def pool17 : Array CpInfo := pool [(1, .class_ 2), (0, u "java/lang/Math"), (1, .class_ 6), (1, u "java/lang/Object"), (0, u "<init>"), (0, u "()V"), (89, .class_ 100), (1, u "java/lang/Math$RandomNumberGeneratorHolder"), (71, u "negativeZeroFloatBits"), (0, u "J"), (2, u "negativeZeroDoubleBits"), (21, u "max"), (2, u "min"), (43, u "$assertionsDisabled"), (0, u "Z"), (88, u "(II)I"), (2, u "twoToTheDoubleScaleDown"), (0, u "D"), (4, u "twoToTheDoubleScaleUp"), (9, u "E"), (3, u "PI"), (2, u "TAU"), (2, u "DEGREES_TO_RADIANS"), (0, u "RADIANS_TO_DEGREES")] 94

def k17m0 : Method := { name := "<init>", desc := "()V", sig := { parameters := [], returnType := none }, accessFlags := 2, code := none }
def k17c1 : Code := { maxStack := 2, maxLocals := 2, code := jdk_29_method_65_code, exceptionTable := #[], attributes := #[] }
def k17m1 : Method := { name := "max", desc := "(II)I", sig := { parameters := [.int, .int], returnType := some .int }, accessFlags := 9, code := some k17c1 }
def k17c2 : Code := { maxStack := 2, maxLocals := 2, code := jdk_29_method_69_code, exceptionTable := #[], attributes := #[] }
def k17m2 : Method := { name := "min", desc := "(II)I", sig := { parameters := [.int, .int], returnType := some .int }, accessFlags := 9, code := some k17c2 }
/-- java/lang/Math -/
def k17 : Class := { plain "java/lang/Math" (some 0) with
  accessFlags := 49
  interfaces := #[]
  cf := some (fileOf pool17 1 #[.nestMembers #[98]] #[{ accessFlags := 2, nameIndex := 7, descriptorIndex := 8, attributes := #[] }, { accessFlags := 9, nameIndex := 198, descriptorIndex := 335, attributes := #[] }, { accessFlags := 9, nameIndex := 201, descriptorIndex := 335, attributes := #[] }] 49 4 #[] #[{ accessFlags := 25, nameIndex := 354, descriptorIndex := 339, attributes := #[] }, { accessFlags := 25, nameIndex := 358, descriptorIndex := 339, attributes := #[] }, { accessFlags := 25, nameIndex := 361, descriptorIndex := 339, attributes := #[] }, { accessFlags := 26, nameIndex := 364, descriptorIndex := 339, attributes := #[] }, { accessFlags := 26, nameIndex := 365, descriptorIndex := 339, attributes := #[] }, { accessFlags := 26, nameIndex := 172, descriptorIndex := 173, attributes := #[] }, { accessFlags := 26, nameIndex := 176, descriptorIndex := 173, attributes := #[] }, { accessFlags := 8, nameIndex := 344, descriptorIndex := 339, attributes := #[] }, { accessFlags := 8, nameIndex := 338, descriptorIndex := 339, attributes := #[] }, { accessFlags := 4120, nameIndex := 245, descriptorIndex := 246, attributes := #[] }])
  fields := #[{ name := "E", type := .double, accessFlags := 25, slot := 0, constantValue := 0 }, { name := "PI", type := .double, accessFlags := 25, slot := 1, constantValue := 0 }, { name := "TAU", type := .double, accessFlags := 25, slot := 2, constantValue := 0 }, { name := "DEGREES_TO_RADIANS", type := .double, accessFlags := 26, slot := 3, constantValue := 0 }, { name := "RADIANS_TO_DEGREES", type := .double, accessFlags := 26, slot := 4, constantValue := 0 }, { name := "negativeZeroFloatBits", type := .long, accessFlags := 26, slot := 5, constantValue := 0 }, { name := "negativeZeroDoubleBits", type := .long, accessFlags := 26, slot := 6, constantValue := 0 }, { name := "twoToTheDoubleScaleUp", type := .double, accessFlags := 8, slot := 7, constantValue := 0 }, { name := "twoToTheDoubleScaleDown", type := .double, accessFlags := 8, slot := 8, constantValue := 0 }, { name := "$assertionsDisabled", type := .boolean, accessFlags := 4120, slot := 9, constantValue := 0 }]
  methods := #[k17m0, k17m1, k17m2]
  instanceTypes := #[]
  staticTypes := #[.double, .double, .double, .double, .double, .long, .long, .double, .double, .boolean]
  resolved := Array.replicate 460 none
  statics := none }

def pool18 : Array CpInfo := pool [(2, .class_ 4), (1, u "java/lang/Object"), (0, u "<init>"), (0, u "()V"), (7, .class_ 16), (1, u "java/util/Arrays"), (57, .class_ 76), (1, u "java/util/Arrays$NaturalOrder"), (32, u "()Ljava/lang/Object;"), (3, .class_ 115), (1, u "java/util/Arrays$LegacyMergeSort"), (1, u "Z"), (10, .nameAndType 129 109), (0, u "clone"), (9, u "copyOfRange"), (10, .methodref 151 152), (0, .class_ 153), (0, .nameAndType 154 155), (0, u "java/lang/System"), (0, u "arraycopy"), (0, u "(Ljava/lang/Object;ILjava/lang/Object;II)V"), (146, u "copyOf"), (1, .methodref 305 306), (0, .class_ 307), (0, .nameAndType 308 309), (0, u "java/lang/Math"), (0, u "min"), (0, u "(II)I"), (0, .methodref 311 128), (0, .class_ 312), (0, u "[B"), (26, .methodref 14 340), (0, .nameAndType 341 342), (0, u "copyOfRangeByte"), (0, u "([BII)[B"), (0, .methodref 14 344), (0, .nameAndType 345 346), (0, u "checkLength"), (0, u "(II)V"), (28, .class_ 376), (0, u "java/util/Arrays$ArrayList"), (68, u "$assertionsDisabled"), (269, u "MIN_ARRAY_SORT_GRAN"), (0, u "I"), (2, u "INSERTIONSORT_THRESHOLD"), (149, u "([BI)[B"), (105, .class_ 976), (0, u "java/util/Arrays$ArrayItr")] 52

def k18m0 : Method := { name := "<init>", desc := "()V", sig := { parameters := [], returnType := none }, accessFlags := 2, code := none }
def k18c1 : Code := { maxStack := 6, maxLocals := 3, code := jdk_65_method_121_code, exceptionTable := #[], attributes := #[] }
def k18m1 : Method := { name := "copyOf", desc := "([BI)[B", sig := { parameters := [(.array .byte), .int], returnType := some (.array .byte) }, accessFlags := 9, code := some k18c1 }
def k18c2 : Code := { maxStack := 4, maxLocals := 2, code := jdk_65_method_131_code, exceptionTable := #[], attributes := #[] }
def k18m2 : Method := { name := "checkLength", desc := "(II)V", sig := { parameters := [.int, .int], returnType := none }, accessFlags := 10, code := some k18c2 }
def k18c3 : Code := { maxStack := 3, maxLocals := 3, code := jdk_65_method_132_code, exceptionTable := #[], attributes := #[] }
def k18m3 : Method := { name := "copyOfRange", desc := "([BII)[B", sig := { parameters := [(.array .byte), .int, .int], returnType := some (.array .byte) }, accessFlags := 9, code := some k18c3 }
def k18c4 : Code := { maxStack := 6, maxLocals := 5, code := jdk_65_method_133_code, exceptionTable := #[], attributes := #[] }
def k18m4 : Method := { name := "copyOfRangeByte", desc := "([BII)[B", sig := { parameters := [(.array .byte), .int, .int], returnType := some (.array .byte) }, accessFlags := 10, code := some k18c4 }
/-- java/util/Arrays -/
def k18 : Class := { plain "java/util/Arrays" (some 0) with
  accessFlags := 49
  interfaces := #[]
  cf := some (fileOf pool18 14 #[.nestMembers #[975, 375, 113, 74]] #[{ accessFlags := 2, nameIndex := 5, descriptorIndex := 6, attributes := #[] }, { accessFlags := 9, nameIndex := 302, descriptorIndex := 869, attributes := #[] }, { accessFlags := 10, nameIndex := 345, descriptorIndex := 346, attributes := #[] }, { accessFlags := 9, nameIndex := 139, descriptorIndex := 342, attributes := #[] }, { accessFlags := 10, nameIndex := 341, descriptorIndex := 342, attributes := #[] }] 49 2 #[] #[{ accessFlags := 26, nameIndex := 715, descriptorIndex := 716, attributes := #[] }, { accessFlags := 26, nameIndex := 719, descriptorIndex := 716, attributes := #[] }, { accessFlags := 4120, nameIndex := 445, descriptorIndex := 117, attributes := #[] }])
  fields := #[{ name := "MIN_ARRAY_SORT_GRAN", type := .int, accessFlags := 26, slot := 0, constantValue := 0 }, { name := "INSERTIONSORT_THRESHOLD", type := .int, accessFlags := 26, slot := 1, constantValue := 0 }, { name := "$assertionsDisabled", type := .boolean, accessFlags := 4120, slot := 2, constantValue := 0 }]
  methods := #[k18m0, k18m1, k18m2, k18m3, k18m4]
  instanceTypes := #[]
  staticTypes := #[.int, .int, .boolean]
  resolved := Array.replicate 1029 none
  statics := none }

def pool19 : Array CpInfo := pool [(4, .class_ 6), (1, u "java/lang/Object"), (0, u "<init>"), (0, u "()V"), (5, .class_ 16), (1, u "java/lang/StringLatin1"), (104, u "$assertionsDisabled"), (0, u "Z"), (98, .class_ 223), (1, u "java/lang/StringLatin1$LinesSpliterator"), (57, u "equals"), (0, u "([B[B)Z"), (107, .class_ 391), (0, u "java/lang/StringLatin1$CharsSpliterator")] 3

def k19m0 : Method := { name := "<init>", desc := "()V", sig := { parameters := [], returnType := none }, accessFlags := 0, code := none }
def k19c1 : Code := { maxStack := 3, maxLocals := 3, code := jdk_43_method_13_code, exceptionTable := #[], attributes := #[] }
def k19m1 : Method := { name := "equals", desc := "([B[B)Z", sig := { parameters := [(.array .byte), (.array .byte)], returnType := some .boolean }, accessFlags := 9, code := some k19c1 }
/-- java/lang/StringLatin1 -/
def k19 : Class := { plain "java/lang/StringLatin1" (some 0) with
  accessFlags := 48
  interfaces := #[]
  cf := some (fileOf pool19 14 #[.nestMembers #[390, 221]] #[{ accessFlags := 0, nameIndex := 7, descriptorIndex := 8, attributes := #[] }, { accessFlags := 9, nameIndex := 281, descriptorIndex := 282, attributes := #[] }] 48 4 #[] #[{ accessFlags := 4120, nameIndex := 121, descriptorIndex := 122, attributes := #[] }])
  fields := #[{ name := "$assertionsDisabled", type := .boolean, accessFlags := 4120, slot := 0, constantValue := 0 }]
  methods := #[k19m0, k19m1]
  instanceTypes := #[]
  staticTypes := #[.boolean]
  resolved := Array.replicate 395 none
  statics := none }

def pool20 : Array CpInfo := pool [(1, .class_ 2), (0, u "java/lang/Cloneable"), (0, .class_ 4), (0, u "java/lang/Object")] 2

/-- java/lang/Cloneable -/
def k20 : Class := { plain "java/lang/Cloneable" (some 0) with
  accessFlags := 1537
  interfaces := #[]
  cf := some (fileOf pool20 1 #[] #[] 1537 3 #[] #[])
  fields := #[]
  methods := #[]
  instanceTypes := #[]
  staticTypes := #[]
  resolved := Array.replicate 7 none
  statics := none }

def pool21 : Array CpInfo := pool [(2, .class_ 4), (1, u "java/lang/Object"), (0, u "<init>"), (0, u "()V"), (17, .class_ 26), (1, u "jdk/internal/util/Preconditions"), (28, .class_ 56), (0, u "jdk/internal/util/Preconditions$4"), (57, .class_ 115), (0, u "jdk/internal/util/Preconditions$1"), (7, u "SIOOBE_FORMATTER"), (0, u "Ljava/util/function/BiFunction;"), (0, .class_ 126), (0, u "jdk/internal/util/Preconditions$2"), (3, u "AIOOBE_FORMATTER"), (0, .class_ 132), (0, u "jdk/internal/util/Preconditions$3"), (3, u "IOOBE_FORMATTER")] 57

def k21m0 : Method := { name := "<init>", desc := "()V", sig := { parameters := [], returnType := none }, accessFlags := 1, code := none }
/-- jdk/internal/util/Preconditions -/
def k21 : Class := { plain "jdk/internal/util/Preconditions" (some 0) with
  accessFlags := 33
  interfaces := #[]
  cf := some (fileOf pool21 24 #[.nestMembers #[55, 131, 125, 114]] #[{ accessFlags := 1, nameIndex := 5, descriptorIndex := 6, attributes := #[] }] 33 2 #[] #[{ accessFlags := 25, nameIndex := 123, descriptorIndex := 124, attributes := #[] }, { accessFlags := 25, nameIndex := 130, descriptorIndex := 124, attributes := #[] }, { accessFlags := 25, nameIndex := 136, descriptorIndex := 124, attributes := #[] }])
  fields := #[{ name := "SIOOBE_FORMATTER", type := (.object "java/util/function/BiFunction"), accessFlags := 25, slot := 0, constantValue := 0 }, { name := "AIOOBE_FORMATTER", type := (.object "java/util/function/BiFunction"), accessFlags := 25, slot := 1, constantValue := 0 }, { name := "IOOBE_FORMATTER", type := (.object "java/util/function/BiFunction"), accessFlags := 25, slot := 2, constantValue := 0 }]
  methods := #[k21m0]
  instanceTypes := #[]
  staticTypes := #[(.object "java/util/function/BiFunction"), (.object "java/util/function/BiFunction"), (.object "java/util/function/BiFunction")]
  resolved := Array.replicate 194 none
  statics := some 2 }

def pool22 : Array CpInfo := pool [(2, .class_ 4), (1, u "java/lang/Object"), (0, u "<init>"), (0, u "()V"), (12, .class_ 20), (0, u "java/util/Collections"), (63, u "r"), (0, u "Ljava/util/Random;"), (80, .class_ 167), (0, u "java/util/Collections$UnmodifiableCollection"), (6, .class_ 175), (0, u "java/util/Collections$UnmodifiableSequencedCollection"), (6, .class_ 183), (0, u "java/util/Collections$UnmodifiableSet"), (6, .class_ 191), (0, u "java/util/Collections$UnmodifiableSequencedSet"), (6, .class_ 199), (0, u "java/util/Collections$UnmodifiableSortedSet"), (6, .class_ 207), (0, u "java/util/Collections$UnmodifiableNavigableSet"), (4, .class_ 213), (0, u "java/util/Collections$UnmodifiableList"), (1, .class_ 216), (0, u "java/util/Collections$UnmodifiableRandomAccessList"), (6, .class_ 224), (0, u "java/util/Collections$UnmodifiableMap"), (6, .class_ 232), (0, u "java/util/Collections$UnmodifiableSequencedMap"), (4, .class_ 238), (0, u "java/util/Collections$UnmodifiableSortedMap"), (6, .class_ 246), (0, u "java/util/Collections$UnmodifiableNavigableMap"), (3, .class_ 251), (0, u "java/util/Collections$SynchronizedCollection"), (4, .class_ 257), (0, u "java/util/Collections$SynchronizedSet"), (4, .class_ 263), (0, u "java/util/Collections$SynchronizedSortedSet"), (1, .class_ 266), (0, u "java/util/Collections$SynchronizedNavigableSet"), (1, .class_ 269), (0, u "java/util/Collections$SynchronizedRandomAccessList"), (1, .class_ 272), (0, u "java/util/Collections$SynchronizedList"), (5, .class_ 279), (0, u "java/util/Collections$SynchronizedMap"), (1, .class_ 282), (0, u "java/util/Collections$SynchronizedSortedMap"), (1, .class_ 285), (0, u "java/util/Collections$SynchronizedNavigableMap"), (1, .class_ 288), (0, u "java/util/Collections$CheckedCollection"), (11, .class_ 301), (0, u "java/util/Collections$CheckedQueue"), (3, .class_ 306), (0, u "java/util/Collections$CheckedSet"), (3, .class_ 311), (0, u "java/util/Collections$CheckedSortedSet"), (3, .class_ 316), (0, u "java/util/Collections$CheckedNavigableSet"), (3, .class_ 321), (0, u "java/util/Collections$CheckedRandomAccessList"), (3, .class_ 326), (0, u "java/util/Collections$CheckedList"), (1, .class_ 329), (0, u "java/util/Collections$CheckedMap"), (3, .class_ 334), (0, u "java/util/Collections$CheckedSortedMap"), (3, .class_ 339), (0, u "java/util/Collections$CheckedNavigableMap"), (4, .class_ 346), (1, u "java/util/Collections$EmptyIterator"), (3, .class_ 352), (1, u "java/util/Collections$EmptyListIterator"), (2, .class_ 357), (1, u "java/util/Collections$EmptyEnumeration"), (4, u "EMPTY_SET"), (0, u "Ljava/util/Set;"), (6, u "EMPTY_LIST"), (0, u "Ljava/util/List;"), (2, u "EMPTY_MAP"), (0, u "Ljava/util/Map;"), (4, .class_ 381), (0, u "java/util/Collections$SingletonSet"), (2, .class_ 385), (0, u "java/util/Collections$1"), (1, .class_ 388), (0, u "java/util/Collections$2"), (1, .class_ 391), (0, u "java/util/Collections$SingletonList"), (1, .class_ 394), (0, u "java/util/Collections$SingletonMap"), (22, .class_ 418), (0, u "java/util/Collections$CopiesList"), (4, .class_ 425), (1, u "java/util/Collections$ReverseComparator"), (8, .class_ 435), (0, u "java/util/Collections$ReverseComparator2"), (6, .class_ 443), (0, u "java/util/Collections$3"), (25, .class_ 470), (0, u "java/util/Collections$SetFromMap"), (2, .class_ 474), (0, u "java/util/Collections$SequencedSetFromMap"), (3, .class_ 479), (0, u "java/util/Collections$AsLIFOQueue"), (11, .class_ 492), (0, u "java/util/Collections$EmptySet"), (1, .class_ 495), (0, u "java/util/Collections$EmptyList"), (1, .class_ 498), (0, u "java/util/Collections$EmptyMap"), (1, u "BINARYSEARCH_THRESHOLD"), (0, u "I"), (2, u "REVERSE_THRESHOLD"), (1, u "SHUFFLE_THRESHOLD"), (1, u "FILL_THRESHOLD"), (1, u "ROTATE_THRESHOLD"), (1, u "COPY_THRESHOLD"), (1, u "REPLACEALL_THRESHOLD"), (1, u "INDEXOFSUBLIST_THRESHOLD"), (333, .class_ 851), (0, u "java/util/Collections$CheckedMap$CheckedEntrySet"), (0, .class_ 853), (0, u "java/util/Collections$CheckedMap$CheckedEntrySet$CheckedEntry"), (0, .class_ 855), (0, u "java/util/Collections$CheckedMap$CheckedEntrySet$1"), (0, .class_ 857), (0, u "java/util/Collections$CheckedList$1"), (0, .class_ 859), (0, u "java/util/Collections$CheckedCollection$1"), (0, .class_ 861), (0, u "java/util/Collections$UnmodifiableNavigableMap$EmptyNavigableMap"), (0, .class_ 863), (0, u "java/util/Collections$UnmodifiableMap$UnmodifiableEntrySet"), (0, .class_ 865), (0, u "java/util/Collections$UnmodifiableMap$UnmodifiableEntrySet$UnmodifiableEntry"), (0, .class_ 867), (0, u "java/util/Collections$UnmodifiableMap$UnmodifiableEntrySet$UnmodifiableEntrySetSpliterator"), (0, .class_ 869), (0, u "java/util/Collections$UnmodifiableMap$UnmodifiableEntrySet$1"), (0, .class_ 871), (0, u "java/util/Collections$UnmodifiableList$1"), (0, .class_ 873), (0, u "java/util/Collections$UnmodifiableNavigableSet$EmptyNavigableSet"), (0, .class_ 875), (0, u "java/util/Collections$UnmodifiableCollection$1")] 57

def k22m0 : Method := { name := "<init>", desc := "()V", sig := { parameters := [], returnType := none }, accessFlags := 2, code := none }
/-- java/util/Collections -/
def k22 : Class := { plain "java/util/Collections" (some 0) with
  accessFlags := 33
  interfaces := #[]
  cf := some (fileOf pool22 19 #[.nestMembers #[478, 473, 469, 434, 423, 417, 393, 390, 380, 497, 494, 491, 355, 350, 344, 338, 333, 328, 850, 852, 854, 320, 325, 856, 315, 310, 305, 300, 287, 858, 284, 281, 278, 268, 271, 265, 262, 256, 250, 245, 860, 237, 231, 223, 862, 864, 866, 868, 215, 212, 870, 206, 872, 198, 190, 182, 174, 166, 874, 442, 387, 384]] #[{ accessFlags := 2, nameIndex := 5, descriptorIndex := 6, attributes := #[] }] 33 2 #[] #[{ accessFlags := 26, nameIndex := 500, descriptorIndex := 501, attributes := #[] }, { accessFlags := 26, nameIndex := 504, descriptorIndex := 501, attributes := #[] }, { accessFlags := 26, nameIndex := 506, descriptorIndex := 501, attributes := #[] }, { accessFlags := 26, nameIndex := 508, descriptorIndex := 501, attributes := #[] }, { accessFlags := 26, nameIndex := 510, descriptorIndex := 501, attributes := #[] }, { accessFlags := 26, nameIndex := 512, descriptorIndex := 501, attributes := #[] }, { accessFlags := 26, nameIndex := 514, descriptorIndex := 501, attributes := #[] }, { accessFlags := 26, nameIndex := 516, descriptorIndex := 501, attributes := #[] }, { accessFlags := 10, nameIndex := 84, descriptorIndex := 85, attributes := #[] }, { accessFlags := 25, nameIndex := 362, descriptorIndex := 363, attributes := #[] }, { accessFlags := 25, nameIndex := 370, descriptorIndex := 371, attributes := #[] }, { accessFlags := 25, nameIndex := 374, descriptorIndex := 375, attributes := #[] }])
  fields := #[{ name := "BINARYSEARCH_THRESHOLD", type := .int, accessFlags := 26, slot := 0, constantValue := 0 }, { name := "REVERSE_THRESHOLD", type := .int, accessFlags := 26, slot := 1, constantValue := 0 }, { name := "SHUFFLE_THRESHOLD", type := .int, accessFlags := 26, slot := 2, constantValue := 0 }, { name := "FILL_THRESHOLD", type := .int, accessFlags := 26, slot := 3, constantValue := 0 }, { name := "ROTATE_THRESHOLD", type := .int, accessFlags := 26, slot := 4, constantValue := 0 }, { name := "COPY_THRESHOLD", type := .int, accessFlags := 26, slot := 5, constantValue := 0 }, { name := "REPLACEALL_THRESHOLD", type := .int, accessFlags := 26, slot := 6, constantValue := 0 }, { name := "INDEXOFSUBLIST_THRESHOLD", type := .int, accessFlags := 26, slot := 7, constantValue := 0 }, { name := "r", type := (.object "java/util/Random"), accessFlags := 10, slot := 8, constantValue := 0 }, { name := "EMPTY_SET", type := (.object "java/util/Set"), accessFlags := 25, slot := 9, constantValue := 0 }, { name := "EMPTY_LIST", type := (.object "java/util/List"), accessFlags := 25, slot := 10, constantValue := 0 }, { name := "EMPTY_MAP", type := (.object "java/util/Map"), accessFlags := 25, slot := 11, constantValue := 0 }]
  methods := #[k22m0]
  instanceTypes := #[]
  staticTypes := #[.int, .int, .int, .int, .int, .int, .int, .int, (.object "java/util/Random"), (.object "java/util/Set"), (.object "java/util/List"), (.object "java/util/Map")]
  resolved := Array.replicate 933 none
  statics := some 3 }

def pool23 : Array CpInfo := pool [(8, .class_ 10), (1, u "java/lang/Iterable"), (24, .class_ 36), (0, u "java/lang/Object")] 25

/-- java/lang/Iterable -/
def k23 : Class := { plain "java/lang/Iterable" (some 0) with
  accessFlags := 1537
  interfaces := #[]
  cf := some (fileOf pool23 8 #[] #[] 1537 35 #[] #[])
  fields := #[]
  methods := #[]
  instanceTypes := #[]
  staticTypes := #[]
  resolved := Array.replicate 62 none
  statics := none }

def pool24 : Array CpInfo := pool [(10, .class_ 12), (1, u "java/util/Collection"), (47, .class_ 61), (0, u "java/lang/Object"), (0, .class_ 63), (0, u "java/lang/Iterable")] 51

/-- java/util/Collection -/
def k24 : Class := { plain "java/util/Collection" (some 0) with
  accessFlags := 1537
  interfaces := #[23]
  cf := some (fileOf pool24 10 #[] #[] 1537 60 #[62] #[])
  fields := #[]
  methods := #[]
  instanceTypes := #[]
  staticTypes := #[]
  resolved := Array.replicate 115 none
  statics := none }

def pool25 : Array CpInfo := pool [(2, .class_ 4), (1, u "java/lang/Object"), (0, u "<init>"), (0, u "()V"), (1, .class_ 10), (1, u "java/util/AbstractCollection"), (66, .class_ 78), (0, u "java/util/Collection")] 81

def k25m0 : Method := { name := "<init>", desc := "()V", sig := { parameters := [], returnType := none }, accessFlags := 4, code := none }
/-- java/util/AbstractCollection -/
def k25 : Class := { plain "java/util/AbstractCollection" (some 0) with
  accessFlags := 1057
  interfaces := #[24]
  cf := some (fileOf pool25 8 #[] #[{ accessFlags := 4, nameIndex := 5, descriptorIndex := 6, attributes := #[] }] 1057 2 #[77] #[])
  fields := #[]
  methods := #[k25m0]
  instanceTypes := #[]
  staticTypes := #[]
  resolved := Array.replicate 160 none
  statics := none }

def pool26 : Array CpInfo := pool [(8, .class_ 10), (1, u "java/util/SequencedCollection"), (15, .class_ 27), (0, u "java/lang/Object"), (0, .class_ 29), (0, u "java/util/Collection")] 27

/-- java/util/SequencedCollection -/
def k26 : Class := { plain "java/util/SequencedCollection" (some 0) with
  accessFlags := 1537
  interfaces := #[24]
  cf := some (fileOf pool26 8 #[] #[] 1537 26 #[28] #[])
  fields := #[]
  methods := #[]
  instanceTypes := #[]
  staticTypes := #[]
  resolved := Array.replicate 57 none
  statics := none }

def pool27 : Array CpInfo := pool [(8, .class_ 10), (1, u "java/util/List"), (92, .class_ 104), (0, u "java/lang/Object"), (15, .class_ 121), (0, u "java/util/SequencedCollection")] 129

/-- java/util/List -/
def k27 : Class := { plain "java/util/List" (some 0) with
  accessFlags := 1537
  interfaces := #[26]
  cf := some (fileOf pool27 8 #[] #[] 1537 103 #[120] #[])
  fields := #[]
  methods := #[]
  instanceTypes := #[]
  staticTypes := #[]
  resolved := Array.replicate 251 none
  statics := none }

def pool28 : Array CpInfo := pool [(2, .class_ 4), (1, u "java/util/AbstractCollection"), (0, u "<init>"), (0, u "()V"), (1, .class_ 10), (1, u "java/util/AbstractList"), (0, u "modCount"), (0, u "I"), (64, .class_ 78), (0, u "java/util/AbstractList$Itr"), (3, .class_ 83), (0, u "java/util/AbstractList$ListItr"), (9, .class_ 94), (0, u "java/util/AbstractList$RandomAccessSubList"), (3, .class_ 99), (0, u "java/util/AbstractList$SubList"), (33, .class_ 134), (0, u "java/util/List"), (73, .class_ 209), (0, u "java/util/AbstractList$SubList$1"), (0, .class_ 211), (0, u "java/util/AbstractList$RandomAccessSpliterator")] 6

def k28m0 : Method := { name := "<init>", desc := "()V", sig := { parameters := [], returnType := none }, accessFlags := 4, code := none }
/-- java/util/AbstractList -/
def k28 : Class := { plain "java/util/AbstractList" (some 25) with
  accessFlags := 1057
  interfaces := #[27]
  cf := some (fileOf pool28 8 #[.nestMembers #[93, 98, 208, 210, 82, 77]] #[{ accessFlags := 4, nameIndex := 5, descriptorIndex := 6, attributes := #[] }] 1057 2 #[133] #[{ accessFlags := 132, nameIndex := 11, descriptorIndex := 12, attributes := #[] }])
  fields := #[{ name := "modCount", type := .int, accessFlags := 132, slot := 0, constantValue := 0 }]
  methods := #[k28m0]
  instanceTypes := #[.int]
  staticTypes := #[]
  resolved := Array.replicate 218 none
  statics := none }

def pool29 : Array CpInfo := pool [(1, .class_ 2), (0, u "java/util/RandomAccess"), (0, .class_ 4), (0, u "java/lang/Object")] 2

/-- java/util/RandomAccess -/
def k29 : Class := { plain "java/util/RandomAccess" (some 0) with
  accessFlags := 1537
  interfaces := #[]
  cf := some (fileOf pool29 1 #[] #[] 1537 3 #[] #[])
  fields := #[]
  methods := #[]
  instanceTypes := #[]
  staticTypes := #[]
  resolved := Array.replicate 7 none
  statics := none }

def pool30 : Array CpInfo := pool [(2, .class_ 4), (1, u "java/util/AbstractList"), (0, u "<init>"), (0, u "()V"), (1, .class_ 10), (1, u "java/util/Collections"), (54, .class_ 66), (0, u "java/util/Collections$EmptyList"), (0, .class_ 68), (0, u "java/util/RandomAccess"), (0, .class_ 70), (0, u "java/io/Serializable"), (0, u "serialVersionUID"), (0, u "J")] 77

def k30m0 : Method := { name := "<init>", desc := "()V", sig := { parameters := [], returnType := none }, accessFlags := 2, code := none }
/-- java/util/Collections$EmptyList -/
def k30 : Class := { plain "java/util/Collections$EmptyList" (some 28) with
  accessFlags := 32
  interfaces := #[29, 2]
  cf := some (fileOf pool30 65 #[.nestHost 8] #[{ accessFlags := 2, nameIndex := 5, descriptorIndex := 6, attributes := #[] }] 32 2 #[67, 69] #[{ accessFlags := 26, nameIndex := 71, descriptorIndex := 72, attributes := #[] }])
  fields := #[{ name := "serialVersionUID", type := .long, accessFlags := 26, slot := 0, constantValue := 0 }]
  methods := #[k30m0]
  instanceTypes := #[.int]
  staticTypes := #[.long]
  resolved := Array.replicate 150 none
  statics := none }

def pool31 : Array CpInfo := pool [(2, .class_ 4), (1, u "java/lang/StackTraceElement"), (0, u "<init>"), (2, .class_ 10), (1, u "java/lang/Object"), (0, u "()V"), (2, u "format"), (0, u "B"), (2, u "classLoaderName"), (0, u "Ljava/lang/String;"), (2, u "moduleName"), (2, u "moduleVersion"), (12, u "declaringClass"), (4, u "methodName"), (2, u "fileName"), (2, u "lineNumber"), (0, u "I"), (65, u "declaringClassObject"), (0, u "Ljava/lang/Class;"), (33, .class_ 153), (1, u "java/lang/StackTraceElement$HashedModules"), (17, .class_ 172), (0, u "java/io/Serializable"), (0, u "NATIVE_METHOD"), (1, u "UNKNOWN_SOURCE"), (2, u "BUILTIN_CLASS_LOADER"), (1, u "JDK_NON_UPGRADEABLE_MODULE"), (1, u "serialVersionUID"), (0, u "J")] 51

def k31m0 : Method := { name := "<init>", desc := "()V", sig := { parameters := [], returnType := none }, accessFlags := 2, code := none }
/-- java/lang/StackTraceElement -/
def k31 : Class := { plain "java/lang/StackTraceElement" (some 0) with
  accessFlags := 49
  interfaces := #[2]
  cf := some (fileOf pool31 2 #[.nestMembers #[151]] #[{ accessFlags := 2, nameIndex := 5, descriptorIndex := 11, attributes := #[] }] 49 8 #[171] #[{ accessFlags := 26, nameIndex := 173, descriptorIndex := 19, attributes := #[] }, { accessFlags := 26, nameIndex := 175, descriptorIndex := 19, attributes := #[] }, { accessFlags := 130, nameIndex := 116, descriptorIndex := 117, attributes := #[] }, { accessFlags := 2, nameIndex := 18, descriptorIndex := 19, attributes := #[] }, { accessFlags := 2, nameIndex := 22, descriptorIndex := 19, attributes := #[] }, { accessFlags := 2, nameIndex := 25, descriptorIndex := 19, attributes := #[] }, { accessFlags := 2, nameIndex := 38, descriptorIndex := 19, attributes := #[] }, { accessFlags := 2, nameIndex := 43, descriptorIndex := 19, attributes := #[] }, { accessFlags := 2, nameIndex := 46, descriptorIndex := 19, attributes := #[] }, { accessFlags := 2, nameIndex := 49, descriptorIndex := 50, attributes := #[] }, { accessFlags := 2, nameIndex := 14, descriptorIndex := 15, attributes := #[] }, { accessFlags := 26, nameIndex := 178, descriptorIndex := 15, attributes := #[] }, { accessFlags := 26, nameIndex := 180, descriptorIndex := 15, attributes := #[] }, { accessFlags := 26, nameIndex := 182, descriptorIndex := 183, attributes := #[] }])
  fields := #[{ name := "NATIVE_METHOD", type := (.object "java/lang/String"), accessFlags := 26, slot := 0, constantValue := 0 }, { name := "UNKNOWN_SOURCE", type := (.object "java/lang/String"), accessFlags := 26, slot := 1, constantValue := 0 }, { name := "declaringClassObject", type := (.object "java/lang/Class"), accessFlags := 130, slot := 0, constantValue := 0 }, { name := "classLoaderName", type := (.object "java/lang/String"), accessFlags := 2, slot := 1, constantValue := 0 }, { name := "moduleName", type := (.object "java/lang/String"), accessFlags := 2, slot := 2, constantValue := 0 }, { name := "moduleVersion", type := (.object "java/lang/String"), accessFlags := 2, slot := 3, constantValue := 0 }, { name := "declaringClass", type := (.object "java/lang/String"), accessFlags := 2, slot := 4, constantValue := 0 }, { name := "methodName", type := (.object "java/lang/String"), accessFlags := 2, slot := 5, constantValue := 0 }, { name := "fileName", type := (.object "java/lang/String"), accessFlags := 2, slot := 6, constantValue := 0 }, { name := "lineNumber", type := .int, accessFlags := 2, slot := 7, constantValue := 0 }, { name := "format", type := .byte, accessFlags := 2, slot := 8, constantValue := 0 }, { name := "BUILTIN_CLASS_LOADER", type := .byte, accessFlags := 26, slot := 2, constantValue := 0 }, { name := "JDK_NON_UPGRADEABLE_MODULE", type := .byte, accessFlags := 26, slot := 3, constantValue := 0 }, { name := "serialVersionUID", type := .long, accessFlags := 26, slot := 4, constantValue := 0 }]
  methods := #[k31m0]
  instanceTypes := #[(.object "java/lang/Class"), (.object "java/lang/String"), (.object "java/lang/String"), (.object "java/lang/String"), (.object "java/lang/String"), (.object "java/lang/String"), (.object "java/lang/String"), .int, .byte]
  staticTypes := #[(.object "java/lang/String"), (.object "java/lang/String"), .byte, .byte, .long]
  resolved := Array.replicate 235 none
  statics := none }

/-- the primitive byte -/
def k32 : Class := { plain "byte" none with kind := .primitive 'B', accessFlags := 0x411 }
/-- [B -/
def k33 : Class := { plain "[B" (some 0) with kind := .array 32 .byte, interfaces := #[20, 2], accessFlags := 1041 }

/-- the primitive char -/
def k34 : Class := { plain "char" none with kind := .primitive 'C', accessFlags := 0x411 }
/-- [C -/
def k35 : Class := { plain "[C" (some 0) with kind := .array 34 .char, interfaces := #[20, 2], accessFlags := 1041 }

/-- the primitive int -/
def k36 : Class := { plain "int" none with kind := .primitive 'I', accessFlags := 0x411 }
/-- [I -/
def k37 : Class := { plain "[I" (some 0) with kind := .array 36 .int, interfaces := #[20, 2], accessFlags := 1041 }

/-- [Ljava/lang/Object; -/
def k38 : Class := { plain "[Ljava/lang/Object;" (some 0) with kind := .array 0 (.object "java/lang/Object"), interfaces := #[20, 2], accessFlags := 1041 }

/-- [Ljava/lang/StackTraceElement; -/
def k39 : Class := { plain "[Ljava/lang/StackTraceElement;" (some 0) with kind := .array 31 (.object "java/lang/StackTraceElement"), interfaces := #[20, 2], accessFlags := 1041 }

/-- [Ljava/lang/Throwable; -/
def k40 : Class := { plain "[Ljava/lang/Throwable;" (some 0) with kind := .array 9 (.object "java/lang/Throwable"), interfaces := #[20, 2], accessFlags := 1041 }

def heap : Heap := #[{ cls := 7, slots := #[.long 0, .int 1, .null, .int 0, .null, .int 0, .int 0], vm := .statics 7 },
  { cls := 9, slots := #[.long 0, .ref 4, .ref 5, .null, .null, .null, .null, .ref 6, .int 1], vm := .statics 9 },
  { cls := 21, slots := #[.null, .null, .null], vm := .statics 21 },
  { cls := 22, slots := #[.int 0, .int 0, .int 0, .int 0, .int 0, .int 0, .int 0, .int 0, .null, .null, .ref 5, .null], vm := .statics 22 },
  { cls := 39, slots := #[], vm := .none },
  { cls := 30, slots := #[.int 0], vm := .none },
  { cls := 40, slots := #[], vm := .none }]
def classes : Array Class := #[k0, k1, k2, k3, k4, k5, k6, k7, k8, k9, k10, k11, k12, k13, k14, k15, k16, k17, k18, k19, k20, k21, k22, k23, k24, k25, k26, k27, k28, k29, k30, k31, k32, k33, k34, k35, k36, k37, k38, k39, k40]
def interned : List (Array UInt16 × Addr) := []
def slotsUsed : Nat := 32
def theMethod : MethodId := ⟨1, 2⟩
def args0 : Array Value := #[.int 5, .int 5]
def aboutOver (below : List Frame) : State where
  vm := { classes := classes, interned := interned.toArray }
  heap := heap
  slotsUsed := slotsUsed
  threads := #[{ frames := .invoking theMethod args0 :: below }]
def below0 : List Frame := [.native { method := ⟨0, 0⟩, args := #[] }]
def about1 : State := aboutOver below0
def p0 : Program := .bare "" "" ""
def e0 : Env := launch0.env 0 0 0
theorem w_frames : about1.frames = Frame.invoking theMethod args0 :: below0 := rfl
set_option maxRecDepth 65536 in
theorem w_args : argsFit about1.vm theMethod args0 = true := by decide +kernel
set_option maxRecDepth 65536 in
theorem w_heap : heapFits about1 = true := by decide +kernel
set_option maxRecDepth 65536 in
theorem w_runnable : about1.curStatus? = some .runnable := by decide +kernel
set_option maxRecDepth 65536 in
theorem w_alone : about1.alone = true := by decide +kernel
set_option maxRecDepth 65536 in
theorem w_named : about1.methodNamed? x = some theMethod := by decide +kernel
set_option maxRecDepth 65536 in
theorem w_hears : about1.hears theMethod below0 = true := by decide +kernel
set_option maxRecDepth 65536 in
theorem w_ripe : about1.ripe theMethod args0 below0 = true := by decide +kernel
theorem w_running : about1.status = .running := rfl
set_option maxRecDepth 65536 in
theorem w_room : about1.hasRoom e0.platform room_1 = true :=
  launch0.hasRoom_least _ room_1 (by decide +kernel) (by decide +kernel) (by decide +kernel) (by decide +kernel) (by decide +kernel) (by decide +kernel)
theorem allAtoms_all (ts : List Jvm.Cond) (a : Array Jvm.Value) (st : Jvm.State) : (allAtoms ts).before a st = ts.all (fun c => c.before a st) := by
  induction ts with
  | nil => rfl
  | cons c t ih =>
    show (Jvm.Cond.and c (allAtoms t)).before a st = _
    rw [Jvm.Cond.before_and, ih, List.all_cons]
def words1 : List Jvm.Cond := Jvm.Cond.code x code maxLocals ret :: tables_1
/-- a 'code' word, met by the world's own term for the bytes: nothing is compared byte by byte -/
theorem code_word {y : MethodName} {bytes : ByteArray} {mx : Nat} {rt : Option FieldType} {a : Array Value} {s : State} {m : MethodId} {meth : Method} {c : Code} (h1 : s.methodNamed? y = some m) (h2 : s.vm.method? m = some meth) (h3 : meth.code = some c) (h4 : c.code = bytes)
    (h5 : (c.maxLocals == mx && c.exceptionTable.isEmpty && decide (c.maxStack ≤ mostOperands) && decide (meth.sig.returnType = rt) && !meth.locks && decide (parseMethodDescriptor y.desc = some meth.sig)) = true) : (Jvm.Cond.code y bytes mx rt).before a s = true := by
  simp only [Bool.and_eq_true, beq_iff_eq, Bool.not_eq_true', decide_eq_true_eq] at h5
  obtain ⟨⟨⟨⟨⟨g1, g2⟩, g3⟩, g4⟩, g5⟩, g6⟩ := h5
  simp [Cond.before, Cond.holds, Cond.value, h1, h2, h3, h4, g1, g2, g3, g4, g5, g6]
def isCode : Jvm.Cond → Bool
  | .code _ _ _ _ => true
  | _ => false
theorem all_split {L : List Jvm.Cond} {P : Jvm.Cond → Bool} (h1 : L.all (fun c => isCode c || P c) = true) (h2 : ∀ c ∈ L.filter isCode, P c = true) : L.all P = true := by
  refine List.all_eq_true.mpr fun c hc => ?_
  have h := List.all_eq_true.mp h1 c hc
  rcases Bool.eq_false_or_eq_true (isCode c) with hi | hi
  · exact h2 c (List.mem_filter.mpr ⟨hc, hi⟩)
  · simpa [hi] using h
set_option maxRecDepth 65536 in
theorem w_c0 : (Jvm.Cond.code x code maxLocals ret).before args0 about1 = true := code_word (m := ⟨1, 2⟩) (meth := k1m2) (c := k1c2) (by decide +kernel) rfl rfl rfl (by decide +kernel)
set_option maxRecDepth 65536 in
theorem w_c1 : (Jvm.Cond.code ({ cls := "org/claimbridge/cli/BadUsageExceptionGivenTogetherPinLaw", name := "draw", desc := "(ICC)Ljava/lang/String;" } : Jvm.MethodName) method_2_code (3 : Nat) (Option.some (Jvm.ClassFile.FieldType.object "java/lang/String"))).before args0 about1 = true := code_word (m := ⟨1, 1⟩) (meth := k1m1) (c := k1c1) (by decide +kernel) rfl rfl rfl (by decide +kernel)
set_option maxRecDepth 65536 in
theorem w_c2 : (Jvm.Cond.code ({ cls := "java/lang/String", name := "<init>", desc := "([C)V" } : Jvm.MethodName) jdk_42_method_3_code (2 : Nat) (Option.none : Option Jvm.ClassFile.FieldType)).before args0 about1 = true := code_word (m := ⟨7, 1⟩) (meth := k7m1) (c := k7c1) (by decide +kernel) rfl rfl rfl (by decide +kernel)
set_option maxRecDepth 65536 in
theorem w_c3 : (Jvm.Cond.code ({ cls := "java/lang/String", name := "<init>", desc := "([CIILjava/lang/Void;)V" } : Jvm.MethodName) jdk_42_method_149_code (6 : Nat) (Option.none : Option Jvm.ClassFile.FieldType)).before args0 about1 = true := code_word (m := ⟨7, 6⟩) (meth := k7m6) (c := k7c6) (by decide +kernel) rfl rfl rfl (by decide +kernel)
set_option maxRecDepth 65536 in
theorem w_c4 : (Jvm.Cond.code ({ cls := "java/lang/Object", name := "<init>", desc := "()V" } : Jvm.MethodName) object_method_1_code (1 : Nat) (Option.none : Option Jvm.ClassFile.FieldType)).before args0 about1 = true := code_word (m := ⟨0, 0⟩) (meth := k0m0) (c := k0c0) (by decide +kernel) rfl rfl rfl (by decide +kernel)
set_option maxRecDepth 65536 in
theorem w_c5 : (Jvm.Cond.code ({ cls := "java/lang/StringUTF16", name := "compress", desc := "([CII)[B" } : Jvm.MethodName) jdk_52_method_16_code (6 : Nat) (Option.some (Jvm.ClassFile.FieldType.array Jvm.ClassFile.FieldType.byte))).before args0 about1 = true := code_word (m := ⟨8, 2⟩) (meth := k8m2) (c := k8c2) (by decide +kernel) rfl rfl rfl (by decide +kernel)
set_option maxRecDepth 65536 in
theorem w_c6 : (Jvm.Cond.code ({ cls := "java/lang/StringUTF16", name := "compress", desc := "([CI[BII)I" } : Jvm.MethodName) jdk_52_method_21_code (7 : Nat) (Option.some Jvm.ClassFile.FieldType.int)).before args0 about1 = true := code_word (m := ⟨8, 3⟩) (meth := k8m3) (c := k8c3) (by decide +kernel) rfl rfl rfl (by decide +kernel)
set_option maxRecDepth 65536 in
theorem w_c7 : (Jvm.Cond.code ({ cls := "java/lang/StringUTF16", name := "coderFromArrayLen", desc := "([BI)B" } : Jvm.MethodName) jdk_52_method_15_code (2 : Nat) (Option.some Jvm.ClassFile.FieldType.byte)).before args0 about1 = true := code_word (m := ⟨8, 1⟩) (meth := k8m1) (c := k8c1) (by decide +kernel) rfl rfl rfl (by decide +kernel)
set_option maxRecDepth 65536 in
theorem w_c8 : (Jvm.Cond.code ({ cls := "org/claimbridge/cli/BadUsageException", name := "givenTogether", desc := "(Ljava/lang/String;Ljava/lang/String;)Lorg/claimbridge/cli/BadUsageException;" } : Jvm.MethodName) prog_4_method_2_code (2 : Nat) (Option.some (Jvm.ClassFile.FieldType.object "org/claimbridge/cli/BadUsageException"))).before args0 about1 = true := code_word (m := ⟨11, 1⟩) (meth := k11m1) (c := k11c1) (by decide +kernel) rfl rfl rfl (by decide +kernel)
set_option maxRecDepth 65536 in
theorem w_c9 : (Jvm.Cond.code ({ cls := "java/lang/StringBuilder", name := "<init>", desc := "()V" } : Jvm.MethodName) jdk_67_method_1_code (1 : Nat) (Option.none : Option Jvm.ClassFile.FieldType)).before args0 about1 = true := code_word (m := ⟨14, 0⟩) (meth := k14m0) (c := k14c0) (by decide +kernel) rfl rfl rfl (by decide +kernel)
set_option maxRecDepth 65536 in
theorem w_c10 : (Jvm.Cond.code ({ cls := "java/lang/AbstractStringBuilder", name := "<init>", desc := "(I)V" } : Jvm.MethodName) jdk_68_method_2_code (2 : Nat) (Option.none : Option Jvm.ClassFile.FieldType)).before args0 about1 = true := code_word (m := ⟨13, 1⟩) (meth := k13m1) (c := k13c1) (by decide +kernel) rfl rfl rfl (by decide +kernel)
set_option maxRecDepth 65536 in
theorem w_c11 : (Jvm.Cond.code ({ cls := "java/lang/StringBuilder", name := "append", desc := "(Ljava/lang/String;)Ljava/lang/StringBuilder;" } : Jvm.MethodName) jdk_67_method_7_code (2 : Nat) (Option.some (Jvm.ClassFile.FieldType.object "java/lang/StringBuilder"))).before args0 about1 = true := code_word (m := ⟨14, 1⟩) (meth := k14m1) (c := k14c1) (by decide +kernel) rfl rfl rfl (by decide +kernel)
set_option maxRecDepth 65536 in
theorem w_c12 : (Jvm.Cond.code ({ cls := "java/lang/AbstractStringBuilder", name := "append", desc := "(Ljava/lang/String;)Ljava/lang/AbstractStringBuilder;" } : Jvm.MethodName) jdk_68_method_22_code (3 : Nat) (Option.some (Jvm.ClassFile.FieldType.object "java/lang/AbstractStringBuilder"))).before args0 about1 = true := code_word (m := ⟨13, 5⟩) (meth := k13m5) (c := k13c5) (by decide +kernel) rfl rfl rfl (by decide +kernel)
set_option maxRecDepth 65536 in
theorem w_c13 : (Jvm.Cond.code ({ cls := "java/lang/String", name := "length", desc := "()I" } : Jvm.MethodName) jdk_42_method_54_code (1 : Nat) (Option.some Jvm.ClassFile.FieldType.int)).before args0 about1 = true := code_word (m := ⟨7, 3⟩) (meth := k7m3) (c := k7c3) (by decide +kernel) rfl rfl rfl (by decide +kernel)
set_option maxRecDepth 65536 in
theorem w_c14 : (Jvm.Cond.code ({ cls := "java/lang/String", name := "coder", desc := "()B" } : Jvm.MethodName) jdk_42_method_152_code (1 : Nat) (Option.some Jvm.ClassFile.FieldType.byte)).before args0 about1 = true := code_word (m := ⟨7, 8⟩) (meth := k7m8) (c := k7c8) (by decide +kernel) rfl rfl rfl (by decide +kernel)
set_option maxRecDepth 65536 in
theorem w_c15 : (Jvm.Cond.code ({ cls := "java/lang/AbstractStringBuilder", name := "ensureCapacityInternal", desc := "(I)V" } : Jvm.MethodName) jdk_68_method_9_code (3 : Nat) (Option.none : Option Jvm.ClassFile.FieldType)).before args0 about1 = true := code_word (m := ⟨13, 3⟩) (meth := k13m3) (c := k13c3) (by decide +kernel) rfl rfl rfl (by decide +kernel)
set_option maxRecDepth 65536 in
theorem w_c16 : (Jvm.Cond.code ({ cls := "java/lang/AbstractStringBuilder", name := "putStringAt", desc := "(ILjava/lang/String;)V" } : Jvm.MethodName) jdk_68_method_73_code (3 : Nat) (Option.none : Option Jvm.ClassFile.FieldType)).before args0 about1 = true := code_word (m := ⟨13, 9⟩) (meth := k13m9) (c := k13c9) (by decide +kernel) rfl rfl rfl (by decide +kernel)
set_option maxRecDepth 65536 in
theorem w_c17 : (Jvm.Cond.code ({ cls := "java/lang/AbstractStringBuilder", name := "inflateIfNeededFor", desc := "(Ljava/lang/String;)V" } : Jvm.MethodName) jdk_68_method_71_code (2 : Nat) (Option.none : Option Jvm.ClassFile.FieldType)).before args0 about1 = true := code_word (m := ⟨13, 8⟩) (meth := k13m8) (c := k13c8) (by decide +kernel) rfl rfl rfl (by decide +kernel)
set_option maxRecDepth 65536 in
theorem w_c18 : (Jvm.Cond.code ({ cls := "java/lang/String", name := "getBytes", desc := "([BIB)V" } : Jvm.MethodName) jdk_42_method_147_code (4 : Nat) (Option.none : Option Jvm.ClassFile.FieldType)).before args0 about1 = true := code_word (m := ⟨7, 5⟩) (meth := k7m5) (c := k7c5) (by decide +kernel) rfl rfl rfl (by decide +kernel)
set_option maxRecDepth 65536 in
theorem w_c19 : (Jvm.Cond.code ({ cls := "java/lang/AbstractStringBuilder", name := "newCapacity", desc := "(I)I" } : Jvm.MethodName) jdk_68_method_10_code (6 : Nat) (Option.some Jvm.ClassFile.FieldType.int)).before args0 about1 = true := code_word (m := ⟨13, 4⟩) (meth := k13m4) (c := k13c4) (by decide +kernel) rfl rfl rfl (by decide +kernel)
set_option maxRecDepth 65536 in
theorem w_c20 : (Jvm.Cond.code ({ cls := "jdk/internal/util/ArraysSupport", name := "newLength", desc := "(III)I" } : Jvm.MethodName) jdk_48_method_27_code (4 : Nat) (Option.some Jvm.ClassFile.FieldType.int)).before args0 about1 = true := code_word (m := ⟨16, 1⟩) (meth := k16m1) (c := k16c1) (by decide +kernel) rfl rfl rfl (by decide +kernel)
set_option maxRecDepth 65536 in
theorem w_c21 : (Jvm.Cond.code ({ cls := "java/lang/Math", name := "max", desc := "(II)I" } : Jvm.MethodName) jdk_29_method_65_code (2 : Nat) (Option.some Jvm.ClassFile.FieldType.int)).before args0 about1 = true := code_word (m := ⟨17, 1⟩) (meth := k17m1) (c := k17c1) (by decide +kernel) rfl rfl rfl (by decide +kernel)
set_option maxRecDepth 65536 in
theorem w_c22 : (Jvm.Cond.code ({ cls := "java/util/Arrays", name := "copyOf", desc := "([BI)[B" } : Jvm.MethodName) jdk_65_method_121_code (3 : Nat) (Option.some (Jvm.ClassFile.FieldType.array Jvm.ClassFile.FieldType.byte))).before args0 about1 = true := code_word (m := ⟨18, 1⟩) (meth := k18m1) (c := k18c1) (by decide +kernel) rfl rfl rfl (by decide +kernel)
set_option maxRecDepth 65536 in
theorem w_c23 : (Jvm.Cond.code ({ cls := "java/lang/Math", name := "min", desc := "(II)I" } : Jvm.MethodName) jdk_29_method_69_code (2 : Nat) (Option.some Jvm.ClassFile.FieldType.int)).before args0 about1 = true := code_word (m := ⟨17, 2⟩) (meth := k17m2) (c := k17c2) (by decide +kernel) rfl rfl rfl (by decide +kernel)
set_option maxRecDepth 65536 in
theorem w_c24 : (Jvm.Cond.code ({ cls := "java/lang/StringBuilder", name := "toString", desc := "()Ljava/lang/String;" } : Jvm.MethodName) jdk_67_method_42_code (1 : Nat) (Option.some (Jvm.ClassFile.FieldType.object "java/lang/String"))).before args0 about1 = true := code_word (m := ⟨14, 2⟩) (meth := k14m2) (c := k14c2) (by decide +kernel) rfl rfl rfl (by decide +kernel)
set_option maxRecDepth 65536 in
theorem w_c25 : (Jvm.Cond.code ({ cls := "java/lang/String", name := "<init>", desc := "(Ljava/lang/StringBuilder;)V" } : Jvm.MethodName) jdk_42_method_53_code (2 : Nat) (Option.none : Option Jvm.ClassFile.FieldType)).before args0 about1 = true := code_word (m := ⟨7, 2⟩) (meth := k7m2) (c := k7c2) (by decide +kernel) rfl rfl rfl (by decide +kernel)
set_option maxRecDepth 65536 in
theorem w_c26 : (Jvm.Cond.code ({ cls := "java/lang/String", name := "<init>", desc := "(Ljava/lang/AbstractStringBuilder;Ljava/lang/Void;)V" } : Jvm.MethodName) jdk_42_method_150_code (5 : Nat) (Option.none : Option Jvm.ClassFile.FieldType)).before args0 about1 = true := code_word (m := ⟨7, 7⟩) (meth := k7m7) (c := k7c7) (by decide +kernel) rfl rfl rfl (by decide +kernel)
set_option maxRecDepth 65536 in
theorem w_c27 : (Jvm.Cond.code ({ cls := "java/lang/AbstractStringBuilder", name := "getValue", desc := "()[B" } : Jvm.MethodName) jdk_68_method_64_code (1 : Nat) (Option.some (Jvm.ClassFile.FieldType.array Jvm.ClassFile.FieldType.byte))).before args0 about1 = true := code_word (m := ⟨13, 6⟩) (meth := k13m6) (c := k13c6) (by decide +kernel) rfl rfl rfl (by decide +kernel)
set_option maxRecDepth 65536 in
theorem w_c28 : (Jvm.Cond.code ({ cls := "java/lang/StringBuilder", name := "length", desc := "()I" } : Jvm.MethodName) jdk_67_method_93_code (1 : Nat) (Option.some Jvm.ClassFile.FieldType.int)).before args0 about1 = true := code_word (m := ⟨14, 3⟩) (meth := k14m3) (c := k14c3) (by decide +kernel) rfl rfl rfl (by decide +kernel)
set_option maxRecDepth 65536 in
theorem w_c29 : (Jvm.Cond.code ({ cls := "java/lang/AbstractStringBuilder", name := "length", desc := "()I" } : Jvm.MethodName) jdk_68_method_6_code (1 : Nat) (Option.some Jvm.ClassFile.FieldType.int)).before args0 about1 = true := code_word (m := ⟨13, 2⟩) (meth := k13m2) (c := k13c2) (by decide +kernel) rfl rfl rfl (by decide +kernel)
set_option maxRecDepth 65536 in
theorem w_c30 : (Jvm.Cond.code ({ cls := "java/lang/AbstractStringBuilder", name := "isLatin1", desc := "()Z" } : Jvm.MethodName) jdk_68_method_68_code (1 : Nat) (Option.some Jvm.ClassFile.FieldType.boolean)).before args0 about1 = true := code_word (m := ⟨13, 7⟩) (meth := k13m7) (c := k13c7) (by decide +kernel) rfl rfl rfl (by decide +kernel)
set_option maxRecDepth 65536 in
theorem w_c31 : (Jvm.Cond.code ({ cls := "java/util/Arrays", name := "copyOfRange", desc := "([BII)[B" } : Jvm.MethodName) jdk_65_method_132_code (3 : Nat) (Option.some (Jvm.ClassFile.FieldType.array Jvm.ClassFile.FieldType.byte))).before args0 about1 = true := code_word (m := ⟨18, 3⟩) (meth := k18m3) (c := k18c3) (by decide +kernel) rfl rfl rfl (by decide +kernel)
set_option maxRecDepth 65536 in
theorem w_c32 : (Jvm.Cond.code ({ cls := "java/util/Arrays", name := "copyOfRangeByte", desc := "([BII)[B" } : Jvm.MethodName) jdk_65_method_133_code (5 : Nat) (Option.some (Jvm.ClassFile.FieldType.array Jvm.ClassFile.FieldType.byte))).before args0 about1 = true := code_word (m := ⟨18, 4⟩) (meth := k18m4) (c := k18c4) (by decide +kernel) rfl rfl rfl (by decide +kernel)
set_option maxRecDepth 65536 in
theorem w_c33 : (Jvm.Cond.code ({ cls := "java/util/Arrays", name := "checkLength", desc := "(II)V" } : Jvm.MethodName) jdk_65_method_131_code (2 : Nat) (Option.none : Option Jvm.ClassFile.FieldType)).before args0 about1 = true := code_word (m := ⟨18, 2⟩) (meth := k18m2) (c := k18c2) (by decide +kernel) rfl rfl rfl (by decide +kernel)
set_option maxRecDepth 65536 in
theorem w_c34 : (Jvm.Cond.code ({ cls := "org/claimbridge/cli/BadUsageException", name := "<init>", desc := "(Ljava/lang/String;)V" } : Jvm.MethodName) prog_4_method_1_code (2 : Nat) (Option.none : Option Jvm.ClassFile.FieldType)).before args0 about1 = true := code_word (m := ⟨11, 0⟩) (meth := k11m0) (c := k11c0) (by decide +kernel) rfl rfl rfl (by decide +kernel)
set_option maxRecDepth 65536 in
theorem w_c35 : (Jvm.Cond.code ({ cls := "java/lang/Exception", name := "<init>", desc := "(Ljava/lang/String;)V" } : Jvm.MethodName) jdk_59_method_2_code (2 : Nat) (Option.none : Option Jvm.ClassFile.FieldType)).before args0 about1 = true := code_word (m := ⟨10, 1⟩) (meth := k10m1) (c := k10c1) (by decide +kernel) rfl rfl rfl (by decide +kernel)
set_option maxRecDepth 65536 in
theorem w_c36 : (Jvm.Cond.code ({ cls := "java/lang/Throwable", name := "<init>", desc := "(Ljava/lang/String;)V" } : Jvm.MethodName) jdk_78_method_2_code (2 : Nat) (Option.none : Option Jvm.ClassFile.FieldType)).before args0 about1 = true := code_word (m := ⟨9, 1⟩) (meth := k9m1) (c := k9c1) (by decide +kernel) rfl rfl rfl (by decide +kernel)
set_option maxRecDepth 65536 in
theorem w_c37 : (Jvm.Cond.code ({ cls := "java/lang/Throwable", name := "<init>", desc := "()V" } : Jvm.MethodName) jdk_78_method_1_code (1 : Nat) (Option.none : Option Jvm.ClassFile.FieldType)).before args0 about1 = true := code_word (m := ⟨9, 0⟩) (meth := k9m0) (c := k9c0) (by decide +kernel) rfl rfl rfl (by decide +kernel)
set_option maxRecDepth 65536 in
theorem w_c38 : (Jvm.Cond.code ({ cls := "java/lang/Throwable", name := "getMessage", desc := "()Ljava/lang/String;" } : Jvm.MethodName) jdk_78_method_6_code (1 : Nat) (Option.some (Jvm.ClassFile.FieldType.object "java/lang/String"))).before args0 about1 = true := code_word (m := ⟨9, 2⟩) (meth := k9m2) (c := k9c2) (by decide +kernel) rfl rfl rfl (by decide +kernel)
set_option maxRecDepth 65536 in
theorem w_c39 : (Jvm.Cond.code ({ cls := "java/lang/String", name := "equals", desc := "(Ljava/lang/Object;)Z" } : Jvm.MethodName) jdk_42_method_66_code (3 : Nat) (Option.some Jvm.ClassFile.FieldType.boolean)).before args0 about1 = true := code_word (m := ⟨7, 4⟩) (meth := k7m4) (c := k7c4) (by decide +kernel) rfl rfl rfl (by decide +kernel)
set_option maxRecDepth 65536 in
theorem w_c40 : (Jvm.Cond.code ({ cls := "java/lang/StringLatin1", name := "equals", desc := "([B[B)Z" } : Jvm.MethodName) jdk_43_method_13_code (3 : Nat) (Option.some Jvm.ClassFile.FieldType.boolean)).before args0 about1 = true := code_word (m := ⟨19, 1⟩) (meth := k19m1) (c := k19c1) (by decide +kernel) rfl rfl rfl (by decide +kernel)
def codes1 : List Jvm.Cond := [Jvm.Cond.code x code maxLocals ret, Jvm.Cond.code ({ cls := "org/claimbridge/cli/BadUsageExceptionGivenTogetherPinLaw", name := "draw", desc := "(ICC)Ljava/lang/String;" } : Jvm.MethodName) method_2_code (3 : Nat) (Option.some (Jvm.ClassFile.FieldType.object "java/lang/String")), Jvm.Cond.code ({ cls := "java/lang/String", name := "<init>", desc := "([C)V" } : Jvm.MethodName) jdk_42_method_3_code (2 : Nat) (Option.none : Option Jvm.ClassFile.FieldType), Jvm.Cond.code ({ cls := "java/lang/String", name := "<init>", desc := "([CIILjava/lang/Void;)V" } : Jvm.MethodName) jdk_42_method_149_code (6 : Nat) (Option.none : Option Jvm.ClassFile.FieldType), Jvm.Cond.code ({ cls := "java/lang/Object", name := "<init>", desc := "()V" } : Jvm.MethodName) object_method_1_code (1 : Nat) (Option.none : Option Jvm.ClassFile.FieldType), Jvm.Cond.code ({ cls := "java/lang/StringUTF16", name := "compress", desc := "([CII)[B" } : Jvm.MethodName) jdk_52_method_16_code (6 : Nat) (Option.some (Jvm.ClassFile.FieldType.array Jvm.ClassFile.FieldType.byte)), Jvm.Cond.code ({ cls := "java/lang/StringUTF16", name := "compress", desc := "([CI[BII)I" } : Jvm.MethodName) jdk_52_method_21_code (7 : Nat) (Option.some Jvm.ClassFile.FieldType.int), Jvm.Cond.code ({ cls := "java/lang/StringUTF16", name := "coderFromArrayLen", desc := "([BI)B" } : Jvm.MethodName) jdk_52_method_15_code (2 : Nat) (Option.some Jvm.ClassFile.FieldType.byte), Jvm.Cond.code ({ cls := "org/claimbridge/cli/BadUsageException", name := "givenTogether", desc := "(Ljava/lang/String;Ljava/lang/String;)Lorg/claimbridge/cli/BadUsageException;" } : Jvm.MethodName) prog_4_method_2_code (2 : Nat) (Option.some (Jvm.ClassFile.FieldType.object "org/claimbridge/cli/BadUsageException")), Jvm.Cond.code ({ cls := "java/lang/StringBuilder", name := "<init>", desc := "()V" } : Jvm.MethodName) jdk_67_method_1_code (1 : Nat) (Option.none : Option Jvm.ClassFile.FieldType), Jvm.Cond.code ({ cls := "java/lang/AbstractStringBuilder", name := "<init>", desc := "(I)V" } : Jvm.MethodName) jdk_68_method_2_code (2 : Nat) (Option.none : Option Jvm.ClassFile.FieldType), Jvm.Cond.code ({ cls := "java/lang/StringBuilder", name := "append", desc := "(Ljava/lang/String;)Ljava/lang/StringBuilder;" } : Jvm.MethodName) jdk_67_method_7_code (2 : Nat) (Option.some (Jvm.ClassFile.FieldType.object "java/lang/StringBuilder")), Jvm.Cond.code ({ cls := "java/lang/AbstractStringBuilder", name := "append", desc := "(Ljava/lang/String;)Ljava/lang/AbstractStringBuilder;" } : Jvm.MethodName) jdk_68_method_22_code (3 : Nat) (Option.some (Jvm.ClassFile.FieldType.object "java/lang/AbstractStringBuilder")), Jvm.Cond.code ({ cls := "java/lang/String", name := "length", desc := "()I" } : Jvm.MethodName) jdk_42_method_54_code (1 : Nat) (Option.some Jvm.ClassFile.FieldType.int), Jvm.Cond.code ({ cls := "java/lang/String", name := "coder", desc := "()B" } : Jvm.MethodName) jdk_42_method_152_code (1 : Nat) (Option.some Jvm.ClassFile.FieldType.byte), Jvm.Cond.code ({ cls := "java/lang/AbstractStringBuilder", name := "ensureCapacityInternal", desc := "(I)V" } : Jvm.MethodName) jdk_68_method_9_code (3 : Nat) (Option.none : Option Jvm.ClassFile.FieldType), Jvm.Cond.code ({ cls := "java/lang/AbstractStringBuilder", name := "putStringAt", desc := "(ILjava/lang/String;)V" } : Jvm.MethodName) jdk_68_method_73_code (3 : Nat) (Option.none : Option Jvm.ClassFile.FieldType), Jvm.Cond.code ({ cls := "java/lang/AbstractStringBuilder", name := "inflateIfNeededFor", desc := "(Ljava/lang/String;)V" } : Jvm.MethodName) jdk_68_method_71_code (2 : Nat) (Option.none : Option Jvm.ClassFile.FieldType), Jvm.Cond.code ({ cls := "java/lang/String", name := "getBytes", desc := "([BIB)V" } : Jvm.MethodName) jdk_42_method_147_code (4 : Nat) (Option.none : Option Jvm.ClassFile.FieldType), Jvm.Cond.code ({ cls := "java/lang/AbstractStringBuilder", name := "newCapacity", desc := "(I)I" } : Jvm.MethodName) jdk_68_method_10_code (6 : Nat) (Option.some Jvm.ClassFile.FieldType.int), Jvm.Cond.code ({ cls := "jdk/internal/util/ArraysSupport", name := "newLength", desc := "(III)I" } : Jvm.MethodName) jdk_48_method_27_code (4 : Nat) (Option.some Jvm.ClassFile.FieldType.int), Jvm.Cond.code ({ cls := "java/lang/Math", name := "max", desc := "(II)I" } : Jvm.MethodName) jdk_29_method_65_code (2 : Nat) (Option.some Jvm.ClassFile.FieldType.int), Jvm.Cond.code ({ cls := "java/util/Arrays", name := "copyOf", desc := "([BI)[B" } : Jvm.MethodName) jdk_65_method_121_code (3 : Nat) (Option.some (Jvm.ClassFile.FieldType.array Jvm.ClassFile.FieldType.byte)), Jvm.Cond.code ({ cls := "java/lang/Math", name := "min", desc := "(II)I" } : Jvm.MethodName) jdk_29_method_69_code (2 : Nat) (Option.some Jvm.ClassFile.FieldType.int), Jvm.Cond.code ({ cls := "java/lang/StringBuilder", name := "toString", desc := "()Ljava/lang/String;" } : Jvm.MethodName) jdk_67_method_42_code (1 : Nat) (Option.some (Jvm.ClassFile.FieldType.object "java/lang/String")), Jvm.Cond.code ({ cls := "java/lang/String", name := "<init>", desc := "(Ljava/lang/StringBuilder;)V" } : Jvm.MethodName) jdk_42_method_53_code (2 : Nat) (Option.none : Option Jvm.ClassFile.FieldType), Jvm.Cond.code ({ cls := "java/lang/String", name := "<init>", desc := "(Ljava/lang/AbstractStringBuilder;Ljava/lang/Void;)V" } : Jvm.MethodName) jdk_42_method_150_code (5 : Nat) (Option.none : Option Jvm.ClassFile.FieldType), Jvm.Cond.code ({ cls := "java/lang/AbstractStringBuilder", name := "getValue", desc := "()[B" } : Jvm.MethodName) jdk_68_method_64_code (1 : Nat) (Option.some (Jvm.ClassFile.FieldType.array Jvm.ClassFile.FieldType.byte)), Jvm.Cond.code ({ cls := "java/lang/StringBuilder", name := "length", desc := "()I" } : Jvm.MethodName) jdk_67_method_93_code (1 : Nat) (Option.some Jvm.ClassFile.FieldType.int), Jvm.Cond.code ({ cls := "java/lang/AbstractStringBuilder", name := "length", desc := "()I" } : Jvm.MethodName) jdk_68_method_6_code (1 : Nat) (Option.some Jvm.ClassFile.FieldType.int), Jvm.Cond.code ({ cls := "java/lang/AbstractStringBuilder", name := "isLatin1", desc := "()Z" } : Jvm.MethodName) jdk_68_method_68_code (1 : Nat) (Option.some Jvm.ClassFile.FieldType.boolean), Jvm.Cond.code ({ cls := "java/util/Arrays", name := "copyOfRange", desc := "([BII)[B" } : Jvm.MethodName) jdk_65_method_132_code (3 : Nat) (Option.some (Jvm.ClassFile.FieldType.array Jvm.ClassFile.FieldType.byte)), Jvm.Cond.code ({ cls := "java/util/Arrays", name := "copyOfRangeByte", desc := "([BII)[B" } : Jvm.MethodName) jdk_65_method_133_code (5 : Nat) (Option.some (Jvm.ClassFile.FieldType.array Jvm.ClassFile.FieldType.byte)), Jvm.Cond.code ({ cls := "java/util/Arrays", name := "checkLength", desc := "(II)V" } : Jvm.MethodName) jdk_65_method_131_code (2 : Nat) (Option.none : Option Jvm.ClassFile.FieldType), Jvm.Cond.code ({ cls := "org/claimbridge/cli/BadUsageException", name := "<init>", desc := "(Ljava/lang/String;)V" } : Jvm.MethodName) prog_4_method_1_code (2 : Nat) (Option.none : Option Jvm.ClassFile.FieldType), Jvm.Cond.code ({ cls := "java/lang/Exception", name := "<init>", desc := "(Ljava/lang/String;)V" } : Jvm.MethodName) jdk_59_method_2_code (2 : Nat) (Option.none : Option Jvm.ClassFile.FieldType), Jvm.Cond.code ({ cls := "java/lang/Throwable", name := "<init>", desc := "(Ljava/lang/String;)V" } : Jvm.MethodName) jdk_78_method_2_code (2 : Nat) (Option.none : Option Jvm.ClassFile.FieldType), Jvm.Cond.code ({ cls := "java/lang/Throwable", name := "<init>", desc := "()V" } : Jvm.MethodName) jdk_78_method_1_code (1 : Nat) (Option.none : Option Jvm.ClassFile.FieldType), Jvm.Cond.code ({ cls := "java/lang/Throwable", name := "getMessage", desc := "()Ljava/lang/String;" } : Jvm.MethodName) jdk_78_method_6_code (1 : Nat) (Option.some (Jvm.ClassFile.FieldType.object "java/lang/String")), Jvm.Cond.code ({ cls := "java/lang/String", name := "equals", desc := "(Ljava/lang/Object;)Z" } : Jvm.MethodName) jdk_42_method_66_code (3 : Nat) (Option.some Jvm.ClassFile.FieldType.boolean), Jvm.Cond.code ({ cls := "java/lang/StringLatin1", name := "equals", desc := "([B[B)Z" } : Jvm.MethodName) jdk_43_method_13_code (3 : Nat) (Option.some Jvm.ClassFile.FieldType.boolean)]
set_option maxRecDepth 65536 in
theorem codes_eq : words1.filter isCode = codes1 := rfl
theorem w_codes : ∀ c ∈ words1.filter isCode, c.before args0 about1 = true := by
  rw [codes_eq]
  intro c hc
  simp only [codes1, List.mem_cons, List.not_mem_nil, or_false] at hc
  rcases hc with rfl | rfl | rfl | rfl | rfl | rfl | rfl | rfl | rfl | rfl | rfl | rfl | rfl | rfl | rfl | rfl | rfl | rfl | rfl | rfl | rfl | rfl | rfl | rfl | rfl | rfl | rfl | rfl | rfl | rfl | rfl | rfl | rfl | rfl | rfl | rfl | rfl | rfl | rfl | rfl | rfl
  · exact w_c0
  · exact w_c1
  · exact w_c2
  · exact w_c3
  · exact w_c4
  · exact w_c5
  · exact w_c6
  · exact w_c7
  · exact w_c8
  · exact w_c9
  · exact w_c10
  · exact w_c11
  · exact w_c12
  · exact w_c13
  · exact w_c14
  · exact w_c15
  · exact w_c16
  · exact w_c17
  · exact w_c18
  · exact w_c19
  · exact w_c20
  · exact w_c21
  · exact w_c22
  · exact w_c23
  · exact w_c24
  · exact w_c25
  · exact w_c26
  · exact w_c27
  · exact w_c28
  · exact w_c29
  · exact w_c30
  · exact w_c31
  · exact w_c32
  · exact w_c33
  · exact w_c34
  · exact w_c35
  · exact w_c36
  · exact w_c37
  · exact w_c38
  · exact w_c39
  · exact w_c40
set_option maxRecDepth 65536 in
theorem w_t1 : (words1.take 24).all (fun c => isCode c || c.before args0 about1) = true := by decide +kernel
set_option maxRecDepth 65536 in
theorem w_t2 : ((words1.drop 24).take 24).all (fun c => isCode c || c.before args0 about1) = true := by decide +kernel
set_option maxRecDepth 65536 in
theorem w_t3 : (((words1.drop 24).drop 24).take 24).all (fun c => isCode c || c.before args0 about1) = true := by decide +kernel
set_option maxRecDepth 65536 in
theorem w_t4 : ((((words1.drop 24).drop 24).drop 24).take 24).all (fun c => isCode c || c.before args0 about1) = true := by decide +kernel
set_option maxRecDepth 65536 in
theorem w_t5 : (((((words1.drop 24).drop 24).drop 24).drop 24).take 24).all (fun c => isCode c || c.before args0 about1) = true := by decide +kernel
set_option maxRecDepth 65536 in
theorem w_t6 : ((((((words1.drop 24).drop 24).drop 24).drop 24).drop 24).take 24).all (fun c => isCode c || c.before args0 about1) = true := by decide +kernel
set_option maxRecDepth 65536 in
theorem w_t7 : (((((((words1.drop 24).drop 24).drop 24).drop 24).drop 24).drop 24).take 24).all (fun c => isCode c || c.before args0 about1) = true := by decide +kernel
set_option maxRecDepth 65536 in
theorem w_t8 : ((((((((words1.drop 24).drop 24).drop 24).drop 24).drop 24).drop 24).drop 24).take 24).all (fun c => isCode c || c.before args0 about1) = true := by decide +kernel
set_option maxRecDepth 65536 in
theorem w_t9 : (((((((((words1.drop 24).drop 24).drop 24).drop 24).drop 24).drop 24).drop 24).drop 24).take 24).all (fun c => isCode c || c.before args0 about1) = true := by decide +kernel
set_option maxRecDepth 65536 in
theorem w_t10 : ((((((((((words1.drop 24).drop 24).drop 24).drop 24).drop 24).drop 24).drop 24).drop 24).drop 24).take 24).all (fun c => isCode c || c.before args0 about1) = true := by decide +kernel
set_option maxRecDepth 65536 in
theorem w_t11 : ((((((((((words1.drop 24).drop 24).drop 24).drop 24).drop 24).drop 24).drop 24).drop 24).drop 24).drop 24).all (fun c => isCode c || c.before args0 about1) = true := by decide +kernel
theorem w_tables : (allAtoms (Jvm.Cond.code x code maxLocals ret :: tables_1)).before args0 about1 = true := by
  rw [allAtoms_all]
  show words1.all (fun c => c.before args0 about1) = true
  refine all_split ?_ w_codes
  rw [← List.take_append_drop 24 words1, List.all_append, w_t1, ← List.take_append_drop 24 (words1.drop 24), List.all_append, w_t2, ← List.take_append_drop 24 ((words1.drop 24).drop 24), List.all_append, w_t3, ← List.take_append_drop 24 (((words1.drop 24).drop 24).drop 24), List.all_append, w_t4, ← List.take_append_drop 24 ((((words1.drop 24).drop 24).drop 24).drop 24), List.all_append, w_t5, ← List.take_append_drop 24 (((((words1.drop 24).drop 24).drop 24).drop 24).drop 24), List.all_append, w_t6, ← List.take_append_drop 24 ((((((words1.drop 24).drop 24).drop 24).drop 24).drop 24).drop 24), List.all_append, w_t7, ← List.take_append_drop 24 (((((((words1.drop 24).drop 24).drop 24).drop 24).drop 24).drop 24).drop 24), List.all_append, w_t8, ← List.take_append_drop 24 ((((((((words1.drop 24).drop 24).drop 24).drop 24).drop 24).drop 24).drop 24).drop 24), List.all_append, w_t9, ← List.take_append_drop 24 (((((((((words1.drop 24).drop 24).drop 24).drop 24).drop 24).drop 24).drop 24).drop 24).drop 24), List.all_append, w_t10, w_t11]
  rfl
set_option maxRecDepth 65536 in
theorem w_rest : rest_1_c.before args0 about1 = true := by decide +kernel
set_option maxRecDepth 65536 in
theorem w_case : (Jvm.Cond.and given_1 narrow_1).before args0 about1 = true := by decide +kernel
set_option maxRecDepth 65536 in
theorem w_consts : constsHeld consts_1 about1 := Jvm.Lit.constsHeldB_iff.mp (by decide +kernel)
theorem w_applies : (headSpec (Jvm.Cond.code x code maxLocals ret :: tables_1) room_1).applies x e0.platform about1 = true :=
  (Spec.applies_iff w_frames).mpr ⟨w_running, w_runnable, w_alone, w_named, w_hears, w_ripe, w_room, w_tables⟩
theorem atStart : AtStart classFile x code maxLocals ret World_1 tables_1 room_1 Calls_1 rest_1 Pre_1 launch0 p0 e0 about1 theMethod args0 below0 :=
  ⟨lists_1, trivial, launch0.admits_env _ _ _, launch0.least_env, fairChoices_fair.cas, fairChoices_fair.clock, w_frames, w_args, w_heap, w_applies, ⟨(by decide +kernel : framesKnown about1 = true), ⟨(by decide +kernel : tablesKnown about1 = true), ⟨w_consts, trivial⟩⟩⟩, w_rest, w_case⟩
end start1
theorem witness_1 : WitnessClaimed_1 := ⟨start1.p0, start1.e0, start1.about1, start1.theMethod, start1.args0, start1.below0, start1.atStart⟩
end Jvm.Pilot.@@N@@
