import JvmDerived
import JvmDerived.Pilot.@@N@@Statement
import JvmDerived.Pilot.@@N@@Code
set_option linter.unusedVariables false
set_option linter.unusedSimpArgs false
namespace Jvm.OwnW
open Jvm Jvm.ClassFile Sem Op Lib Jvm.Free Jvm.Stand Jvm.LawKit Jvm.RoadKit
/-! A small logic of walks of its own: a store L (what is known of single cells), one rule an instruction. -/
abbrev Ent : Type := Addr × Bool × (Cell → Prop)
abbrev Store : Type := List Ent
abbrev Lay : Type := List (String × String × String)
def FldC (Z : State) (C n d : String) (v : Value) (cell : Cell) : Prop := ∃ (cf : ClassId) (k : Class) (i : Nat) (f : Field), Z.fieldFound? C n d = some (cf, k, i, f) ∧ f.isStatic = false ∧ cell.vm ≠ .unknown ∧ cell.vm.isStatics = false ∧ Z.vm.assignable cell.cls cf = true ∧ cell.slots[f.slot]? = some v
def ExaC (Z : State) (C : String) (cell : Cell) : Prop := ∃ k : Class, Z.vm.findClass C = some cell.cls ∧ Z.vm.classes[cell.cls]? = some k ∧ cell.vm.isStatics = false ∧ (k.kind = .ordinary → cell.slots.size = k.instanceTypes.size)
/-- an object of exactly the class C, the fields of lay hold vs -/
def OB (Z : State) (C : String) (lay : Lay) (vs : List Value) (c : Cell) : Prop := ExaC Z C c ∧ ∀ (j : Nat) (f : String × String × String) (v : Value), lay[j]? = some f → vs[j]? = some v → FldC Z f.1 f.2.1 f.2.2 v c
/-- an array of ty that holds vs -/
def AR (Z : State) (ty : FieldType) (vs : List Value) (c : Cell) : Prop := Z.isArrayOf c ty ∧ c.vm ≠ .unknown ∧ c.slots.toList = vs ∧ vs.length < 2 ^ 31
/-- an array of references over the class C -/
def RA (Z : State) (C : String) (vs : List Value) (c : Cell) : Prop := AR Z (.object C) vs c ∧ Ovr Z c.cls C
def Inv (Z : State) (EL : List (String × Nat)) (vm : Vm) (h : Heap) (L : Store) : Prop :=
  Ext Z.heap h ∧ CHv Z EL vm h ∧ (∀ o ∈ L, ∃ c : Cell, h[o.1]? = some c ∧ o.2.2 c) ∧ (∀ o ∈ L, o.2.1 = true → Z.heap.size ≤ o.1 ∧ Safe Z EL vm h o.1) ∧ L.Pairwise (fun o o' => (o.2.1 = true ∨ o'.2.1 = true) → o.1 ≠ o'.1)
section Facts
variable {Z : State} {EL : List (String × Nat)} {vm vm' : Vm} {h h' : Heap} {L L' L0 : Store} {a b : Addr} {C n d : String} {v w : Value} {c c' : Cell} {P P' : Cell → Prop} {lay : Lay} {vs : List Value} {j sl : Nat} {ty : FieldType} {a0 : Array Value} {fl : Bool}
theorem fld_of (hc : h[a]? = some c) (F : FldC Z C n d v c) : Fld Z h a C n d v := by obtain ⟨cf, k, i, f, r⟩ := F; exact ⟨c, cf, k, i, f, hc, r⟩
theorem of_fld (hc : h[a]? = some c) (F : Fld Z h a C n d v) : FldC Z C n d v c := by
  obtain ⟨c1, cf, k, i, f, h1, r⟩ := F
  cases hc.symm.trans h1
  exact ⟨cf, k, i, f, r⟩
theorem exa_of (hc : h[a]? = some c) (F : ExaC Z C c) : Exa Z h a C := by obtain ⟨k, r⟩ := F; exact ⟨c, k, hc, r⟩
theorem of_exa (hc : h[a]? = some c) (F : Exa Z h a C) : ExaC Z C c := by
  obtain ⟨c1, k, h1, r⟩ := F
  cases hc.symm.trans h1
  exact ⟨k, r⟩
theorem OB.exa (F : OB Z C lay vs c) (hc : h[a]? = some c) : Exa Z h a C := exa_of hc F.1
theorem OB.fld {f : String × String × String} (F : OB Z C lay vs c) (hc : h[a]? = some c) (hj : lay[j]? = some f) (hv : vs[j]? = some v) : Fld Z h a f.1 f.2.1 f.2.2 v := fld_of hc (F.2 j f v hj hv)
theorem AR.arr (F : AR Z ty vs c) (hc : h[a]? = some c) : Arr Z h a c ty := ⟨hc, F.1, F.2.1⟩
theorem AR.size (F : AR Z ty vs c) : c.slots.size = vs.length := by rw [← F.2.2.1]; simp
theorem AR.get (F : AR Z ty vs c) (hv : vs[j]? = some v) : c.slots[j]? = some v := by rw [← F.2.2.1] at hv; simpa using hv
theorem AR.set (F : AR Z ty vs c) (j : Nat) (v : Value) : AR Z ty (vs.set j v) (c.setSlot j v) :=
  ⟨F.1, F.2.1, by rw [← F.2.2.1]; simp [Cell.setSlot], by rw [List.length_set]; exact F.2.2.2⟩
theorem Inv.at_ (I : Inv Z EL vm h L) (m : (a, fl, P) ∈ L) : ∃ c : Cell, h[a]? = some c ∧ P c := I.2.2.1 _ m
theorem Inv.perm (p : L.Perm L') (I : Inv Z EL vm h L) : Inv Z EL vm h L' :=
  ⟨I.1, I.2.1, fun o ho => I.2.2.1 o (p.symm.subset ho), fun o ho => I.2.2.2.1 o (p.symm.subset ho), (p.pairwise_iff (fun {x y} q r => (q r.symm).symm)).mp I.2.2.2.2⟩
theorem Inv.sub (p : L'.Sublist L) (I : Inv Z EL vm h L) : Inv Z EL vm h L' :=
  ⟨I.1, I.2.1, fun o ho => I.2.2.1 o (p.subset ho), fun o ho => I.2.2.2.1 o (p.subset ho), I.2.2.2.2.sublist p⟩
theorem Inv.weak (hP : ∀ c, P c → P' c) (I : Inv Z EL vm h ((a, fl, P) :: L)) : Inv Z EL vm h ((a, fl, P') :: L) := by
  obtain ⟨h1, h2, h3, h4, h5⟩ := I
  rw [List.pairwise_cons] at h5
  refine ⟨h1, h2, fun o ho => ?_, fun o ho => ?_, List.pairwise_cons.mpr ⟨fun o ho q => h5.1 o ho q, h5.2⟩⟩
  · rcases List.mem_cons.mp ho with rfl | ho
    · obtain ⟨c, e1, e2⟩ := h3 (a, fl, P) (List.mem_cons_self ..); exact ⟨c, e1, hP c e2⟩
    · exact h3 o (List.mem_cons_of_mem _ ho)
  · rcases List.mem_cons.mp ho with rfl | ho
    · exact h4 (a, fl, P) (List.mem_cons_self ..)
    · exact h4 o (List.mem_cons_of_mem _ ho)
theorem Inv.lt (I : Inv Z EL vm h L) {o : Ent} (m : o ∈ L) : o.1 < h.size := by obtain ⟨c, e, -⟩ := I.2.2.1 o m; exact (Array.getElem?_eq_some_iff.mp e).1
/-- a new cell -/
theorem Inv.new (I : Inv Z EL vm h L) (E : Ext h h') (hc : h'[h.size]? = some c) (hP : P c) : Inv Z EL vm h' ((h.size, true, P) :: L) := by
  have I0 := I
  obtain ⟨h1, h2, h3, h4, h5⟩ := I
  refine ⟨⟨Nat.le_trans h1.1 E.1, fun x c q => E.2 x c (h1.2 x c q)⟩, h2.ext E, fun o ho => ?_, fun o ho q => ?_, List.pairwise_cons.mpr ⟨fun o ho _ q => ?_, h5⟩⟩
  · rcases List.mem_cons.mp ho with rfl | ho
    · exact ⟨c, hc, hP⟩
    · obtain ⟨c1, e1, e2⟩ := h3 o ho; exact ⟨c1, E.2 _ _ e1, e2⟩
  · rcases List.mem_cons.mp ho with rfl | ho
    · exact ⟨h1.1, Safe.ext E h2 (Safe.new (Nat.le_refl _))⟩
    · exact ⟨(h4 o ho q).1, Safe.ext E h2 (h4 o ho q).2⟩
  · have := I0.lt ho
    exact absurd q (Nat.ne_of_gt this)
/-- a write to the first -/
theorem Inv.wr (I : Inv Z EL vm h ((a, true, P) :: L)) (W : Wr h h' a sl v) (hP : ∀ c, h[a]? = some c → P c → P' (c.setSlot sl v)) : Inv Z EL vm h' ((a, true, P') :: L) := by
  have I0 := I
  obtain ⟨h1, h2, h3, h4, h5⟩ := I
  have hs := (h4 _ (List.mem_cons_self ..) rfl)
  rw [List.pairwise_cons] at h5
  have W0 := W
  obtain ⟨cell, e1, e2, e3, rfl⟩ := W
  refine ⟨⟨by simpa using h1.1, fun x c q => ?_⟩, h2.wr W0 hs.2, fun o ho => ?_, fun o ho q => ?_, List.pairwise_cons.mpr ⟨fun o ho q => h5.1 o ho q, h5.2⟩⟩
  · have hx : x < Z.heap.size := (Array.getElem?_eq_some_iff.mp q).1
    have hne : a ≠ x := fun e => by have := hs.1; rw [e] at this; exact absurd hx (Nat.not_lt.mpr this)
    rw [Array.getElem?_setIfInBounds_ne hne]; exact h1.2 x c q
  · rcases List.mem_cons.mp ho with rfl | ho
    · obtain ⟨c1, q1, q2⟩ := h3 (a, true, P) (List.mem_cons_self ..)
      cases e1.symm.trans q1
      exact ⟨_, Array.getElem?_setIfInBounds_self_of_lt (Array.getElem?_eq_some_iff.mp e1).1, hP _ e1 q2⟩
    · obtain ⟨c1, q1, q2⟩ := h3 o (List.mem_cons_of_mem _ ho)
      have hne : a ≠ o.1 := h5.1 o ho (Or.inl rfl)
      exact ⟨c1, by rw [Array.getElem?_setIfInBounds_ne hne]; exact q1, q2⟩
  · rcases List.mem_cons.mp ho with rfl | ho
    · exact ⟨hs.1, Safe.wr W0 hs.2 h2 hs.2⟩
    · have q2 := h4 o (List.mem_cons_of_mem _ ho) q
      exact ⟨q2.1, Safe.wr W0 hs.2 h2 q2.2⟩
/-- the tables go on -/
theorem Inv.later (I : Inv Z EL vm h L) (E : Ext h h') (A : CHr Z EL vm h vm' h') : Inv Z EL vm' h' L := by
  have I0 := I
  obtain ⟨h1, h2, h3, h4, h5⟩ := I
  refine ⟨⟨Nat.le_trans h1.1 E.1, fun x c q => E.2 x c (h1.2 x c q)⟩, A.1, fun o ho => ?_, fun o ho q => ?_, h5⟩
  · obtain ⟨c1, e1, e2⟩ := h3 o ho; exact ⟨c1, E.2 _ _ e1, e2⟩
  · exact ⟨(h4 o ho q).1, A.safe (I0.lt ho) (h4 o ho q).2⟩
/-- a cell that isn't written -/
theorem Inv.old (I : Inv Z EL vm h L) (hc : h[a]? = some c) (hP : P c) (hne : ∀ x, Z.heap.size ≤ x → Safe Z EL vm h x → x ≠ a) : Inv Z EL vm h ((a, false, P) :: L) := by
  obtain ⟨h1, h2, h3, h4, h5⟩ := I
  refine ⟨h1, h2, fun o ho => ?_, fun o ho q => ?_, List.pairwise_cons.mpr ⟨fun o ho q r => ?_, h5⟩⟩
  · rcases List.mem_cons.mp ho with rfl | ho
    · exact ⟨c, hc, hP⟩
    · exact h3 o ho
  · rcases List.mem_cons.mp ho with rfl | ho
    · cases q
    · exact h4 o ho q
  · rcases q with q | q
    · cases q
    · exact hne o.1 (h4 o ho q).1 (h4 o ho q).2 r.symm
theorem Inv.ne {o o' : Ent} (I : Inv Z EL vm h L) {i j : Nat} (hi : L[i]? = some o) (hj : L[j]? = some o') (hij : i < j) (hf : o.2.1 = true ∨ o'.2.1 = true) : o.1 ≠ o'.1 := by
  obtain ⟨h1, e1⟩ := List.getElem?_eq_some_iff.mp hi
  obtain ⟨h2, e2⟩ := List.getElem?_eq_some_iff.mp hj
  have := List.pairwise_iff_getElem.mp I.2.2.2.2 i j h1 h2 hij
  rw [e1, e2] at this
  exact this hf
/-- the slots of a layout are unlike -/
def LayOk (Z : State) (a0 : Array Value) (C : String) (lay : Lay) : Prop := (∀ f ∈ lay, Laid Z a0 C f.1 f.2.1 f.2.2) ∧ (lay.map (·.2.1)).Nodup ∧ ∀ f ∈ lay, ∃ t, parseFieldDescriptor f.2.2 = some t
theorem LayOk.ne {f f' : String × String × String} {j' : Nat} (K : LayOk Z a0 C lay) (hj : lay[j]? = some f) (hj' : lay[j']? = some f') (hne : j ≠ j') : RoadKit.slotOf Z f.1 f.2.1 f.2.2 ≠ RoadKit.slotOf Z f'.1 f'.2.1 f'.2.2 := by
  have m1 := List.mem_of_getElem? hj
  have m2 := List.mem_of_getElem? hj'
  obtain ⟨t1, q1⟩ := K.2.2 f m1
  obtain ⟨t2, q2⟩ := K.2.2 f' m2
  refine slot_ne (K.1 f m1) (K.1 f' m2) (fun e => ?_) q1 q2
  have n1 : (lay.map (·.2.1))[j]? = some f.2.1 := by simp [hj]
  have n2 : (lay.map (·.2.1))[j']? = some f'.2.1 := by simp [hj']
  obtain ⟨l1, g1⟩ := List.getElem?_eq_some_iff.mp n1
  obtain ⟨l2, g2⟩ := List.getElem?_eq_some_iff.mp n2
  have := List.pairwise_iff_getElem.mp (show (lay.map (·.2.1)).Pairwise (· ≠ ·) from K.2.1)
  rcases Nat.lt_or_gt_of_ne hne with q | q
  · exact this j j' l1 l2 q (by rw [g1, g2]; exact e)
  · exact this j' j l2 l1 q (by rw [g1, g2]; exact e.symm)
theorem OB.set {f : String × String × String} (K : LayOk Z a0 C lay) (F : OB Z C lay vs c) (hj : lay[j]? = some f) (hv : vs[j]? = some w) (v : Value) : OB Z C lay (vs.set j v) (c.setSlot (RoadKit.slotOf Z f.1 f.2.1 f.2.2) v) := by
  obtain ⟨⟨k, x1, x2, x3, x4⟩, F2⟩ := F
  have Fj := F2 j f w hj hv
  obtain ⟨cf, kf, i, fi, y1, y2, y3, y4, y5, y6⟩ := Fj
  have es : RoadKit.slotOf Z f.1 f.2.1 f.2.2 = fi.slot := by simp [RoadKit.slotOf, y1]
  refine ⟨⟨k, x1, x2, x3, fun q => by rw [sz_set]; exact x4 q⟩, fun j' f' v' h1 h2 => ?_⟩
  by_cases e : j = j'
  · subst e
    cases hj.symm.trans h1
    have hlt : j < vs.length := (List.getElem?_eq_some_iff.mp hv).1
    have : v' = v := by rw [List.getElem?_set_self hlt] at h2; exact (Option.some.inj h2).symm
    subst this
    have hsl := (Array.getElem?_eq_some_iff.mp y6).1
    exact ⟨cf, kf, i, fi, y1, y2, y3, y4, y5, by rw [es]; simp [Cell.setSlot, hsl]⟩
  · rw [List.getElem?_set_ne e] at h2
    obtain ⟨cf', kf', i', fi', z1, z2, z3, z4, z5, z6⟩ := F2 j' f' v' h1 h2
    have es' : RoadKit.slotOf Z f'.1 f'.2.1 f'.2.2 = fi'.slot := by simp [RoadKit.slotOf, z1]
    have hne := K.ne hj h1 e
    rw [es, es'] at hne
    exact ⟨cf', kf', i', fi', z1, z2, z3, z4, z5, by rw [es]; simp only [Cell.setSlot]; rw [Array.getElem?_setIfInBounds_ne hne]; exact z6⟩
end Facts
/-- the store with the entry o taken out -/
def Ex (L : Store) (o : Ent) (L0 : Store) : Prop := L.Perm (o :: L0)
theorem Ex.here {o : Ent} {L : Store} : Ex (o :: L) o L := List.Perm.refl _
theorem Ex.there {o x : Ent} {L L0 : Store} (h : Ex L o L0) : Ex (x :: L) o (x :: L0) := (List.Perm.cons x h).trans (List.Perm.swap o x L0)
/-- a local is written over -/
def LS1 (k : Nat) (v : Value) (Ls Ls' : List Slot) : Prop := v.category = 1 → storeLocals ⟨Ls⟩ k v = some ⟨Ls'⟩ ∧ ∃ o, Ls[k]? = some o ∧ One o ∧ Ls' = Ls.set k (.val v)
theorem LS1.of {Ls : List Slot} {i : Nat} {v : Value} {o : Slot} (hold : Ls[i]? = some o) (ho : One o) : LS1 i v Ls (Ls.set i (.val v)) := fun hv => by
  have q := XS.store1 (l := ⟨Ls⟩) (i := i) (v := v) (o := o) (by simpa using hold) ho hv
  exact ⟨by simpa using q, o, hold, ho, rfl⟩
theorem LS1.here {v : Value} {o : Slot} {Ls : List Slot} (ho : One o) : LS1 0 v (o :: Ls) (.val v :: Ls) := LS1.of (Ls := o :: Ls) (i := 0) rfl ho
theorem LS1.there {k : Nat} {v : Value} {x : Slot} {Ls Ls' : List Slot} (h : LS1 k v Ls Ls') : LS1 (k + 1) v (x :: Ls) (x :: Ls') := fun hv => by
  obtain ⟨-, o, h1, h2, rfl⟩ := h hv
  exact LS1.of (Ls := x :: Ls) (i := k + 1) (by simpa using h1) h2 hv
def LS2 (k : Nat) (v : Int64) (Ls Ls' : List Slot) : Prop := ∃ (A B : List Slot) (o1 o2 : Slot), Ls = A ++ o1 :: o2 :: B ∧ A.length = k ∧ ((One o1 ∧ One o2) ∨ ∃ x, o1 = .val (.long x) ∧ o2 = .second) ∧ Ls' = A ++ .val (.long v) :: .second :: B
theorem LS2.here {v : Int64} {o1 o2 : Slot} {Ls : List Slot} (ho : (One o1 ∧ One o2) ∨ ∃ x, o1 = .val (.long x) ∧ o2 = .second) : LS2 0 v (o1 :: o2 :: Ls) (.val (.long v) :: .second :: Ls) := ⟨[], Ls, o1, o2, rfl, rfl, ho, rfl⟩
theorem LS2.there {k : Nat} {v : Int64} {x : Slot} {Ls Ls' : List Slot} (h : LS2 k v Ls Ls') : LS2 (k + 1) v (x :: Ls) (x :: Ls') := by
  obtain ⟨A, B, o1, o2, rfl, h2, h3, rfl⟩ := h
  exact ⟨x :: A, B, o1, o2, rfl, by simp [h2], h3, rfl⟩
theorem LS2.store {k : Nat} {v : Int64} {Ls Ls' : List Slot} (h : LS2 k v Ls Ls') : storeLocals ⟨Ls⟩ k (.long v) = some ⟨Ls'⟩ := by
  obtain ⟨A, B, o1, o2, rfl, rfl, h3, rfl⟩ := h
  have hv : (Value.long v).category = 2 := rfl
  rcases h3 with ⟨h1 | ⟨w1, h1, g1⟩, h2 | ⟨w2, h2, g2⟩⟩ | ⟨x, h1, h2⟩
  · subst h1 h2; simp [storeLocals, storeSelf, setAt, hv]
  · subst h1 h2; simp [storeLocals, storeSelf, setAt, hv, g2]
  · subst h1 h2; simp [storeLocals, storeSelf, setAt, hv, g1]
  · subst h1 h2; simp [storeLocals, storeSelf, setAt, hv, g1, g2]
  · have hx : (Value.long x).category = 2 := rfl
    subst h1 h2; simp [storeLocals, storeSelf, setAt, hv, hx]
/-- nothing is asked of the frames below -/
def KF (_ : State) (_ : Vm) (_ : List Frame) (_ : State) : Prop := True
abbrev KC : Program → Env → List Frame → State → Array Value → Prop := fun _ _ _ _ _ => True
section Kn
variable {p : Program} {l : Launch} {e : Env} {R : Room} {Z s : State} {m : MethodId} {args : Array Value} {below : List Frame} {meth : Method} {c : Code} {T : State} {locs : List Loc} {cells slots : Nat} {vm0 vm1 : Vm}
theorem KF.move (h : KF Z vm0 below s) (A : vm0.Alike vm1) : KF Z vm1 below s := trivial
theorem KF.start (h : KC p e below s args) (E : Ext Z.heap s.heap) : KF Z s.vm below s := trivial
theorem KF.call (h : KF Z vm0 below s) (X : Stand p l e R (s.setVm vm0) m args below meth c T locs cells slots) {g : JFrame} (hg : g.method = m) {mk : MethodId} {a : Array Value} : KC p e (T.setTop g).frames (T.calling g mk a) a := trivial
end Kn
/-- what is known of the frame and of those below -/
def KN (Z : State) (vm0 : Vm) (below : List Frame) (s : State) (y : MethodName) (m : MethodId) : Prop := KF Z vm0 below s ∧ (s.setVm vm0).methodNamed? y = some m
theorem KN.move {Z s : State} {vm0 vm1 : Vm} {below : List Frame} {y : MethodName} {m : MethodId} (h : KN Z vm0 below s y m) (A : vm0.Alike vm1) : KN Z vm1 below s y m := ⟨h.1.move A, (State.methodNamed?_setVm (s := s.setVm vm0) A y).trans h.2⟩
/-- THE WALK: from pc with these locals and this stack, the store L, cb cells and sb slots yet to be made, the body comes to its return, and Q holds there -/
def Wk (l : Launch) (Z : State) (a0 : Array Value) (EL : List (String × Nat)) (y : MethodName) (bytes : ByteArray) (mx : Nat) (ret : Option FieldType) (R : Room) (Q : Option Value → Store → Prop) (L : Store) (cb sb pc : Nat) (Ls : List Slot) (St : List Value) : Prop :=
  ∀ (p : Program) (e : Env) (s : State) (m : MethodId) (args : Array Value) (below : List Frame) (meth : Method) (c : Code) (T : State) (vm0 : Vm) (k0 : Nat) (locs : List Loc) (cells slots : Nat),
    p.tables.exec = Jvm.exec → c.code = bytes → c.maxLocals = mx → meth.sig.returnType = ret → meth.locks = false → meth.name = y.name → vm0.findClass y.cls = some m.cls → KN Z vm0 below s y m →
    Stand p l e R (s.setVm vm0) m args below meth c T locs cells slots → s.Since vm0 k0 → k0 ≤ T.heap.size → Z.Warmed39 vm0 → EW Z a0 EL → Inv Z EL vm0 T.heap L → Fr Z.heap.size locs → cells + cb ≤ R.cells → slots + sb ≤ R.slots →
    ∃ (fin : State) (v : Option Value) (Lc : List Loc) (L' : Store), Steps p.tables e below (T.setTop (mkF m pc ⟨Ls⟩ St)) fin ∧ fin.status = .running ∧ Ended fin below (.returned v) ∧ Q v L' ∧ Inv Z EL fin.vm fin.heap L' ∧ Fr Z.heap.size Lc ∧ ReturnedEndW s (.returned v) fin Lc R.cells R.slots
/-- THE CONTRACT of a body -/
def Ct (l : Launch) (Z : State) (EL : List (String × Nat)) (y : MethodName) (bytes : ByteArray) (mx : Nat) (ret : Option FieldType) (R : Room) (as' : Array Value) (L : Store) (Q : Option Value → Store → Prop) : Prop :=
  ∀ ws : List Jvm.Cond, MetFree l y (head1 (Jvm.Cond.code y bytes mx ret :: ws) R) (fun a U => a = as' ∧ Z.Warmed39 U.vm ∧ Inv Z EL U.vm U.heap L) KC (fun _ U o U' => ∃ v Lc L', o = .returned v ∧ Q v L' ∧ Inv Z EL U'.vm U'.heap L' ∧ Fr Z.heap.size Lc ∧ ReturnedEndW U o U' Lc R.cells R.slots)
theorem endMono {s t : State} {o : Outcome} {L : List Loc} {k n k' n' : Nat} (h : ReturnedEndW s o t L k n) (hk : k ≤ k') (hn : n ≤ n') : ReturnedEndW s o t L k' n' := ⟨h.1, h.2.1, h.2.2.1, h.2.2.2.mono hk hn⟩
section Rules
variable {l : Launch} {Z : State} {a0 : Array Value} {EL : List (String × Nat)} {y : MethodName} {bytes : ByteArray} {mx : Nat} {ret : Option FieldType} {R : Room} {Q Q' : Option Value → Store → Prop} {L L0 L' : Store} {cb sb pc q : Nat} {Ls Ls' : List Slot} {St rest : List Value}
theorem Wk.mono (k : Wk l Z a0 EL y bytes mx ret R Q L cb sb pc Ls St) {cb' sb' : Nat} (h1 : cb ≤ cb') (h2 : sb ≤ sb') : Wk l Z a0 EL y bytes mx ret R Q L cb' sb' pc Ls St := by
  intro p e s m args below meth c T vm0 k0 locs cells slots hx hby hmx hret hlk hnm hown hkn X hS hk hZ hE hI hF hc hs
  exact k p e s m args below meth c T vm0 k0 locs cells slots hx hby hmx hret hlk hnm hown hkn X hS hk hZ hE hI hF (Nat.le_trans (Nat.add_le_add_left h1 _) hc) (Nat.le_trans (Nat.add_le_add_left h2 _) hs)
theorem Wk.imp (hq : ∀ v L, Q v L → Q' v L) (k : Wk l Z a0 EL y bytes mx ret R Q L cb sb pc Ls St) : Wk l Z a0 EL y bytes mx ret R Q' L cb sb pc Ls St := by
  intro p e s m args below meth c T vm0 k0 locs cells slots hx hby hmx hret hlk hnm hown hkn X hS hk hZ hE hI hF hc hs
  obtain ⟨fin, v, Lc, L', h1, h2, h3, h4, r⟩ := k p e s m args below meth c T vm0 k0 locs cells slots hx hby hmx hret hlk hnm hown hkn X hS hk hZ hE hI hF hc hs
  exact ⟨fin, v, Lc, L', h1, h2, h3, hq _ _ h4, r⟩
theorem Wk.inv (hi : ∀ vm h, Inv Z EL vm h L → Inv Z EL vm h L') (k : Wk l Z a0 EL y bytes mx ret R Q L' cb sb pc Ls St) : Wk l Z a0 EL y bytes mx ret R Q L cb sb pc Ls St := by
  intro p e s m args below meth c T vm0 k0 locs cells slots hx hby hmx hret hlk hnm hown hkn X hS hk hZ hE hI hF hc hs
  exact k p e s m args below meth c T vm0 k0 locs cells slots hx hby hmx hret hlk hnm hown hkn X hS hk hZ hE (hi _ _ hI) hF hc hs
/-- the entry o comes to the front -/
theorem Wk.pull {o : Ent} (h : Ex L o L0) (k : Wk l Z a0 EL y bytes mx ret R Q (o :: L0) cb sb pc Ls St) : Wk l Z a0 EL y bytes mx ret R Q L cb sb pc Ls St := Wk.inv (fun _ _ I => I.perm h) k
theorem Wk.perm (h : L.Perm L') (k : Wk l Z a0 EL y bytes mx ret R Q L' cb sb pc Ls St) : Wk l Z a0 EL y bytes mx ret R Q L cb sb pc Ls St := Wk.inv (fun _ _ I => I.perm h) k
theorem Wk.sub (h : L'.Sublist L) (k : Wk l Z a0 EL y bytes mx ret R Q L' cb sb pc Ls St) : Wk l Z a0 EL y bytes mx ret R Q L cb sb pc Ls St := Wk.inv (fun _ _ I => I.sub h) k
theorem Wk.distinct {i j : Nat} {o o' : Ent} (hi : L[i]? = some o) (hj : L[j]? = some o') (hij : i < j) (hf : o.2.1 = true ∨ o'.2.1 = true) (k : o.1 ≠ o'.1 → Wk l Z a0 EL y bytes mx ret R Q L cb sb pc Ls St) : Wk l Z a0 EL y bytes mx ret R Q L cb sb pc Ls St := by
  intro p e s m args below meth c T vm0 k0 locs cells slots hx hby hmx hret hlk hnm hown hkn X hS hk hZ hE hI hF hc hs
  exact k (hI.ne hi hj hij hf) p e s m args below meth c T vm0 k0 locs cells slots hx hby hmx hret hlk hnm hown hkn X hS hk hZ hE hI hF hc hs
/-- an old object, known at the start -/
theorem Wk.old {a : Addr} {c0 : Cell} {P : Cell → Prop} (h0 : Z.heap[a]? = some c0) (hP : P c0) (k : Wk l Z a0 EL y bytes mx ret R Q ((a, false, P) :: L) cb sb pc Ls St) : Wk l Z a0 EL y bytes mx ret R Q L cb sb pc Ls St := by
  refine Wk.inv (fun vm h I => I.old (I.1.2 _ _ h0) hP fun x hx _ e => ?_) k
  subst e
  exact absurd (Array.getElem?_eq_some_iff.mp h0).1 (Nat.not_lt.mpr hx)
/-- one plain step -/
theorem Wk.pure {q : Nat} {Ls' : List Slot} {St' : List Value} (st : ∀ {p : Program} {e : Env} {below : List Frame} {T : State} {m : MethodId} {c : Code} {target : State}, At T m c below → p.tables.exec = Jvm.exec → c.code = bytes → Steps p.tables e below (T.setTop (mkF m q ⟨Ls'⟩ St')) target → Steps p.tables e below (T.setTop (mkF m pc ⟨Ls⟩ St)) target)
    (k : Wk l Z a0 EL y bytes mx ret R Q L cb sb q Ls' St') : Wk l Z a0 EL y bytes mx ret R Q L cb sb pc Ls St := by
  intro p e s m args below meth c T vm0 k0 locs cells slots hx hby hmx hret hlk hnm hown hkn X hS hk hZ hE hI hF hc hs
  obtain ⟨fin, v, Lc, L', h1, r⟩ := k p e s m args below meth c T vm0 k0 locs cells slots hx hby hmx hret hlk hnm hown hkn X hS hk hZ hE hI hF hc hs
  exact ⟨fin, v, Lc, L', st X.here hx hby h1, r⟩
theorem getL {k : Nat} {o : Slot} (h : Ls[k]? = some o) : (⟨Ls⟩ : Array Slot)[k]? = some o := by simpa using h
theorem Wk.iload_n {i : Fin 4} {u : Int32} (hd : decode bytes pc = .ok (.iload_n i, 1)) (hq : pc + 1 = q) (hl : Ls[i.val]? = some (.val (.int u))) (k : Wk l Z a0 EL y bytes mx ret R Q L cb sb q Ls (.int u :: St)) : Wk l Z a0 EL y bytes mx ret R Q L cb sb pc Ls (St) := by
  subst hq; exact Wk.pure (fun X hx hby r => XS.iloadN X hx rfl (hb hby hd) (getL hl) r) k
theorem Wk.iload {i : Nat} {u : Int32} (hd : decode bytes pc = .ok (.iload i, 2)) (hq : pc + 2 = q) (hl : Ls[i]? = some (.val (.int u))) (k : Wk l Z a0 EL y bytes mx ret R Q L cb sb q Ls (.int u :: St)) : Wk l Z a0 EL y bytes mx ret R Q L cb sb pc Ls (St) := by
  subst hq; exact Wk.pure (fun X hx hby r => XS.iload X hx rfl (hb hby hd) (getL hl) r) k
theorem Wk.aload_n {i : Fin 4} {u : Value} (hd : decode bytes pc = .ok (.aload_n i, 1)) (hq : pc + 1 = q) (hl : Ls[i.val]? = some (.val u)) (hr : u.isRef = true) (k : Wk l Z a0 EL y bytes mx ret R Q L cb sb q Ls (u :: St)) : Wk l Z a0 EL y bytes mx ret R Q L cb sb pc Ls (St) := by
  subst hq; exact Wk.pure (fun X hx hby r => XS.aloadN X hx rfl (hb hby hd) (getL hl) hr r) k
theorem Wk.aload {i : Nat} {u : Value} (hd : decode bytes pc = .ok (.aload i, 2)) (hq : pc + 2 = q) (hl : Ls[i]? = some (.val u)) (hr : u.isRef = true) (k : Wk l Z a0 EL y bytes mx ret R Q L cb sb q Ls (u :: St)) : Wk l Z a0 EL y bytes mx ret R Q L cb sb pc Ls (St) := by
  subst hq; exact Wk.pure (fun X hx hby r => XS.aload X hx rfl (hb hby hd) (getL hl) hr r) k
theorem Wk.lload_n {i : Fin 4} {u : Int64} (hd : decode bytes pc = .ok (.lload_n i, 1)) (hq : pc + 1 = q) (hl : Ls[i.val]? = some (.val (.long u))) (k : Wk l Z a0 EL y bytes mx ret R Q L cb sb q Ls (.long u :: St)) : Wk l Z a0 EL y bytes mx ret R Q L cb sb pc Ls (St) := by
  subst hq; exact Wk.pure (fun X hx hby r => XT.lloadN X hx rfl (hb hby hd) (getL hl) r) k
theorem Wk.lload {i : Nat} {u : Int64} (hd : decode bytes pc = .ok (.lload i, 2)) (hq : pc + 2 = q) (hl : Ls[i]? = some (.val (.long u))) (k : Wk l Z a0 EL y bytes mx ret R Q L cb sb q Ls (.long u :: St)) : Wk l Z a0 EL y bytes mx ret R Q L cb sb pc Ls (St) := by
  subst hq; exact Wk.pure (fun X hx hby r => XT.lload X hx rfl (hb hby hd) (getL hl) r) k
theorem Wk.istore_n {i : Fin 4} {u : Int32} (hd : decode bytes pc = .ok (.istore_n i, 1)) (hq : pc + 1 = q) (hl : LS1 i.val (.int u) Ls Ls') (k : Wk l Z a0 EL y bytes mx ret R Q L cb sb q Ls' (St)) : Wk l Z a0 EL y bytes mx ret R Q L cb sb pc Ls (.int u :: St) := by
  subst hq; exact Wk.pure (fun X hx hby r => XS.istoreN X hx rfl (hb hby hd) rfl (hl rfl).1 r) k
theorem Wk.istore {i : Nat} {u : Int32} (hd : decode bytes pc = .ok (.istore i, 2)) (hq : pc + 2 = q) (hl : LS1 i (.int u) Ls Ls') (k : Wk l Z a0 EL y bytes mx ret R Q L cb sb q Ls' (St)) : Wk l Z a0 EL y bytes mx ret R Q L cb sb pc Ls (.int u :: St) := by
  subst hq; exact Wk.pure (fun X hx hby r => XS.istore X hx rfl (hb hby hd) rfl (hl rfl).1 r) k
theorem Wk.astore_n {i : Fin 4} {u : Value} (hd : decode bytes pc = .ok (.astore_n i, 1)) (hq : pc + 1 = q) (hr : u.isRef = true) (hl : LS1 i.val u Ls Ls') (k : Wk l Z a0 EL y bytes mx ret R Q L cb sb q Ls' (St)) : Wk l Z a0 EL y bytes mx ret R Q L cb sb pc Ls (u :: St) := by
  subst hq; exact Wk.pure (fun X hx hby r => XS.astoreN X hx rfl (hb hby hd) rfl hr (hl (XT.cat1 hr)).1 r) k
theorem Wk.astore {i : Nat} {u : Value} (hd : decode bytes pc = .ok (.astore i, 2)) (hq : pc + 2 = q) (hr : u.isRef = true) (hl : LS1 i u Ls Ls') (k : Wk l Z a0 EL y bytes mx ret R Q L cb sb q Ls' (St)) : Wk l Z a0 EL y bytes mx ret R Q L cb sb pc Ls (u :: St) := by
  subst hq; exact Wk.pure (fun X hx hby r => XS.astore X hx rfl (hb hby hd) rfl hr (hl (XT.cat1 hr)).1 r) k
theorem Wk.lstore_n {i : Fin 4} {u : Int64} (hd : decode bytes pc = .ok (.lstore_n i, 1)) (hq : pc + 1 = q) (hl : LS2 i.val u Ls Ls') (k : Wk l Z a0 EL y bytes mx ret R Q L cb sb q Ls' (St)) : Wk l Z a0 EL y bytes mx ret R Q L cb sb pc Ls (.long u :: St) := by
  subst hq; exact Wk.pure (fun X hx hby r => XT.lstoreN X hx rfl (hb hby hd) rfl hl.store r) k
theorem Wk.lstore {i : Nat} {u : Int64} (hd : decode bytes pc = .ok (.lstore i, 2)) (hq : pc + 2 = q) (hl : LS2 i u Ls Ls') (k : Wk l Z a0 EL y bytes mx ret R Q L cb sb q Ls' (St)) : Wk l Z a0 EL y bytes mx ret R Q L cb sb pc Ls (.long u :: St) := by
  subst hq; exact Wk.pure (fun X hx hby r => XT.lstore X hx rfl (hb hby hd) rfl hl.store r) k
theorem Wk.iconst {i : Int} (u : Int32) (hd : decode bytes pc = .ok (.iconst i, 1)) (hq : pc + 1 = q) (hu : Int32.ofInt i = u) (k : Wk l Z a0 EL y bytes mx ret R Q L cb sb q Ls (.int u :: St)) : Wk l Z a0 EL y bytes mx ret R Q L cb sb pc Ls (St) := by
  subst hq; exact Wk.pure (fun X hx hby r => XS.iconst X hx rfl (hb hby hd) (by rw [hu]; exact r)) k
theorem Wk.bipush {i : Int} (u : Int32) (hd : decode bytes pc = .ok (.bipush i, 2)) (hq : pc + 2 = q) (hu : (Int8.ofInt i).toInt32 = u) (k : Wk l Z a0 EL y bytes mx ret R Q L cb sb q Ls (.int u :: St)) : Wk l Z a0 EL y bytes mx ret R Q L cb sb pc Ls (St) := by
  subst hq; exact Wk.pure (fun X hx hby r => XS.bipush X hx rfl (hb hby hd) (by rw [hu]; exact r)) k
theorem Wk.sipush {i : Int} (u : Int32) (hd : decode bytes pc = .ok (.sipush i, 3)) (hq : pc + 3 = q) (hu : (Int16.ofInt i).toInt32 = u) (k : Wk l Z a0 EL y bytes mx ret R Q L cb sb q Ls (.int u :: St)) : Wk l Z a0 EL y bytes mx ret R Q L cb sb pc Ls (St) := by
  subst hq; exact Wk.pure (fun X hx hby r => XS.sipush X hx rfl (hb hby hd) (by rw [hu]; exact r)) k
theorem Wk.lconst {i : Fin 2} (u : Int64) (hd : decode bytes pc = .ok (.lconst i, 1)) (hq : pc + 1 = q) (hu : Int64.ofNat i = u) (k : Wk l Z a0 EL y bytes mx ret R Q L cb sb q Ls (.long u :: St)) : Wk l Z a0 EL y bytes mx ret R Q L cb sb pc Ls (St) := by
  subst hq; exact Wk.pure (fun X hx hby r => XT.lconst X hx rfl (hb hby hd) (by rw [hu]; exact r)) k
theorem Wk.aconst_null  (hd : decode bytes pc = .ok (.aconst_null, 1)) (hq : pc + 1 = q) (k : Wk l Z a0 EL y bytes mx ret R Q L cb sb q Ls (.null :: St)) : Wk l Z a0 EL y bytes mx ret R Q L cb sb pc Ls (St) := by
  subst hq; exact Wk.pure (fun X hx hby r => XS.aconstNull X hx rfl (hb hby hd)  r) k
theorem Wk.iadd {u w : Int32} (hd : decode bytes pc = .ok (.iadd, 1)) (hq : pc + 1 = q) (k : Wk l Z a0 EL y bytes mx ret R Q L cb sb q Ls (.int (u + w) :: St)) : Wk l Z a0 EL y bytes mx ret R Q L cb sb pc Ls (.int w :: .int u :: St) := by
  subst hq; exact Wk.pure (fun X hx hby r => XS.iadd X hx rfl (hb hby hd) rfl r) k
theorem Wk.isub {u w : Int32} (hd : decode bytes pc = .ok (.isub, 1)) (hq : pc + 1 = q) (k : Wk l Z a0 EL y bytes mx ret R Q L cb sb q Ls (.int (u - w) :: St)) : Wk l Z a0 EL y bytes mx ret R Q L cb sb pc Ls (.int w :: .int u :: St) := by
  subst hq; exact Wk.pure (fun X hx hby r => XS.isub X hx rfl (hb hby hd) rfl r) k
theorem Wk.imul {u w : Int32} (hd : decode bytes pc = .ok (.imul, 1)) (hq : pc + 1 = q) (k : Wk l Z a0 EL y bytes mx ret R Q L cb sb q Ls (.int (u * w) :: St)) : Wk l Z a0 EL y bytes mx ret R Q L cb sb pc Ls (.int w :: .int u :: St) := by
  subst hq; exact Wk.pure (fun X hx hby r => XS.imul X hx rfl (hb hby hd) rfl r) k
theorem Wk.iand {u w : Int32} (hd : decode bytes pc = .ok (.iand, 1)) (hq : pc + 1 = q) (k : Wk l Z a0 EL y bytes mx ret R Q L cb sb q Ls (.int (u &&& w) :: St)) : Wk l Z a0 EL y bytes mx ret R Q L cb sb pc Ls (.int w :: .int u :: St) := by
  subst hq; exact Wk.pure (fun X hx hby r => XS.iand X hx rfl (hb hby hd) rfl r) k
theorem Wk.irem {u w : Int32} (hd : decode bytes pc = .ok (.irem, 1)) (hq : pc + 1 = q) (hy : w ≠ 0) (k : Wk l Z a0 EL y bytes mx ret R Q L cb sb q Ls (.int (u % w) :: St)) : Wk l Z a0 EL y bytes mx ret R Q L cb sb pc Ls (.int w :: .int u :: St) := by
  subst hq; exact Wk.pure (fun X hx hby r => XS.irem X hx rfl (hb hby hd) rfl hy (by rw [show u - u / w * w = u % w from irem_eq_mod u w]; exact r)) k
theorem Wk.idiv {u w : Int32} (hd : decode bytes pc = .ok (.idiv, 1)) (hq : pc + 1 = q) (hy : w ≠ 0) (k : Wk l Z a0 EL y bytes mx ret R Q L cb sb q Ls (.int (u / w) :: St)) : Wk l Z a0 EL y bytes mx ret R Q L cb sb pc Ls (.int w :: .int u :: St) := by
  subst hq; exact Wk.pure (fun X hx hby r => XS.idiv X hx rfl (hb hby hd) rfl hy r) k
theorem Wk.ineg {u : Int32} (hd : decode bytes pc = .ok (.ineg, 1)) (hq : pc + 1 = q) (k : Wk l Z a0 EL y bytes mx ret R Q L cb sb q Ls (.int (-u) :: St)) : Wk l Z a0 EL y bytes mx ret R Q L cb sb pc Ls (.int u :: St) := by
  subst hq; exact Wk.pure (fun X hx hby r => XS.ineg X hx rfl (hb hby hd) rfl r) k
theorem Wk.ior {u w : Int32} (hd : decode bytes pc = .ok (.ior, 1)) (hq : pc + 1 = q) (k : Wk l Z a0 EL y bytes mx ret R Q L cb sb q Ls (.int (u ||| w) :: St)) : Wk l Z a0 EL y bytes mx ret R Q L cb sb pc Ls (.int w :: .int u :: St) := by
  subst hq; exact Wk.pure (fun X hx hby r => XT.ior X hx rfl (hb hby hd) rfl r) k
theorem Wk.ixor {u w : Int32} (hd : decode bytes pc = .ok (.ixor, 1)) (hq : pc + 1 = q) (k : Wk l Z a0 EL y bytes mx ret R Q L cb sb q Ls (.int (u ^^^ w) :: St)) : Wk l Z a0 EL y bytes mx ret R Q L cb sb pc Ls (.int w :: .int u :: St) := by
  subst hq; exact Wk.pure (fun X hx hby r => XT.ixor X hx rfl (hb hby hd) rfl r) k
theorem Wk.ishl {u w : Int32} (hd : decode bytes pc = .ok (.ishl, 1)) (hq : pc + 1 = q) (k : Wk l Z a0 EL y bytes mx ret R Q L cb sb q Ls (.int (u <<< (w &&& 31)) :: St)) : Wk l Z a0 EL y bytes mx ret R Q L cb sb pc Ls (.int w :: .int u :: St) := by
  subst hq; exact Wk.pure (fun X hx hby r => XT.ishl X hx rfl (hb hby hd) rfl r) k
theorem Wk.ishr {u w : Int32} (hd : decode bytes pc = .ok (.ishr, 1)) (hq : pc + 1 = q) (k : Wk l Z a0 EL y bytes mx ret R Q L cb sb q Ls (.int (u >>> (w &&& 31)) :: St)) : Wk l Z a0 EL y bytes mx ret R Q L cb sb pc Ls (.int w :: .int u :: St) := by
  subst hq; exact Wk.pure (fun X hx hby r => XT.ishr X hx rfl (hb hby hd) rfl r) k
theorem Wk.iushr {u w : Int32} (hd : decode bytes pc = .ok (.iushr, 1)) (hq : pc + 1 = q) (k : Wk l Z a0 EL y bytes mx ret R Q L cb sb q Ls (.int (XT.ushr u w) :: St)) : Wk l Z a0 EL y bytes mx ret R Q L cb sb pc Ls (.int w :: .int u :: St) := by
  subst hq; exact Wk.pure (fun X hx hby r => XT.iushr X hx rfl (hb hby hd) rfl r) k
theorem Wk.ladd {u w : Int64} (hd : decode bytes pc = .ok (.ladd, 1)) (hq : pc + 1 = q) (k : Wk l Z a0 EL y bytes mx ret R Q L cb sb q Ls (.long (u + w) :: St)) : Wk l Z a0 EL y bytes mx ret R Q L cb sb pc Ls (.long w :: .long u :: St) := by
  subst hq; exact Wk.pure (fun X hx hby r => XT.ladd X hx rfl (hb hby hd) rfl r) k
theorem Wk.lsub {u w : Int64} (hd : decode bytes pc = .ok (.lsub, 1)) (hq : pc + 1 = q) (k : Wk l Z a0 EL y bytes mx ret R Q L cb sb q Ls (.long (u - w) :: St)) : Wk l Z a0 EL y bytes mx ret R Q L cb sb pc Ls (.long w :: .long u :: St) := by
  subst hq; exact Wk.pure (fun X hx hby r => XT.lsub X hx rfl (hb hby hd) rfl r) k
theorem Wk.lmul {u w : Int64} (hd : decode bytes pc = .ok (.lmul, 1)) (hq : pc + 1 = q) (k : Wk l Z a0 EL y bytes mx ret R Q L cb sb q Ls (.long (u * w) :: St)) : Wk l Z a0 EL y bytes mx ret R Q L cb sb pc Ls (.long w :: .long u :: St) := by
  subst hq; exact Wk.pure (fun X hx hby r => XT.lmul X hx rfl (hb hby hd) rfl r) k
theorem Wk.land {u w : Int64} (hd : decode bytes pc = .ok (.land, 1)) (hq : pc + 1 = q) (k : Wk l Z a0 EL y bytes mx ret R Q L cb sb q Ls (.long (u &&& w) :: St)) : Wk l Z a0 EL y bytes mx ret R Q L cb sb pc Ls (.long w :: .long u :: St) := by
  subst hq; exact Wk.pure (fun X hx hby r => XT.land X hx rfl (hb hby hd) rfl r) k
theorem Wk.ldiv {u w : Int64} (hd : decode bytes pc = .ok (.ldiv, 1)) (hq : pc + 1 = q) (hy : w ≠ 0) (k : Wk l Z a0 EL y bytes mx ret R Q L cb sb q Ls (.long (u / w) :: St)) : Wk l Z a0 EL y bytes mx ret R Q L cb sb pc Ls (.long w :: .long u :: St) := by
  subst hq; exact Wk.pure (fun X hx hby r => XT.ldiv X hx rfl (hb hby hd) rfl hy r) k
theorem Wk.lrem {u w : Int64} (hd : decode bytes pc = .ok (.lrem, 1)) (hq : pc + 1 = q) (hy : w ≠ 0) (k : Wk l Z a0 EL y bytes mx ret R Q L cb sb q Ls (.long (u % w) :: St)) : Wk l Z a0 EL y bytes mx ret R Q L cb sb pc Ls (.long w :: .long u :: St) := by
  subst hq; exact Wk.pure (fun X hx hby r => XT.lrem X hx rfl (hb hby hd) rfl hy (by rw [show u - u / w * w = u % w from lrem_mod u w]; exact r)) k
theorem Wk.i2l {u : Int32} (hd : decode bytes pc = .ok (.i2l, 1)) (hq : pc + 1 = q) (k : Wk l Z a0 EL y bytes mx ret R Q L cb sb q Ls (.long u.toInt64 :: St)) : Wk l Z a0 EL y bytes mx ret R Q L cb sb pc Ls (.int u :: St) := by
  subst hq; exact Wk.pure (fun X hx hby r => XT.i2l X hx rfl (hb hby hd) rfl r) k
theorem Wk.l2i {u : Int64} (hd : decode bytes pc = .ok (.l2i, 1)) (hq : pc + 1 = q) (k : Wk l Z a0 EL y bytes mx ret R Q L cb sb q Ls (.int u.toInt32 :: St)) : Wk l Z a0 EL y bytes mx ret R Q L cb sb pc Ls (.long u :: St) := by
  subst hq; exact Wk.pure (fun X hx hby r => XT.l2i X hx rfl (hb hby hd) rfl r) k
theorem Wk.i2b {u : Int32} (hd : decode bytes pc = .ok (.i2b, 1)) (hq : pc + 1 = q) (k : Wk l Z a0 EL y bytes mx ret R Q L cb sb q Ls (.int u.toInt8.toInt32 :: St)) : Wk l Z a0 EL y bytes mx ret R Q L cb sb pc Ls (.int u :: St) := by
  subst hq; exact Wk.pure (fun X hx hby r => XT.i2b X hx rfl (hb hby hd) rfl r) k
theorem Wk.i2c {u : Int32} (hd : decode bytes pc = .ok (.i2c, 1)) (hq : pc + 1 = q) (k : Wk l Z a0 EL y bytes mx ret R Q L cb sb q Ls (.int u.toUInt32.toUInt16.toUInt32.toInt32 :: St)) : Wk l Z a0 EL y bytes mx ret R Q L cb sb pc Ls (.int u :: St) := by
  subst hq; exact Wk.pure (fun X hx hby r => XT.i2c X hx rfl (hb hby hd) rfl r) k
theorem Wk.lcmp {u w : Int64} (hd : decode bytes pc = .ok (.lcmp, 1)) (hq : pc + 1 = q) (k : Wk l Z a0 EL y bytes mx ret R Q L cb sb q Ls (.int (XT.cmpL u w) :: St)) : Wk l Z a0 EL y bytes mx ret R Q L cb sb pc Ls (.long w :: .long u :: St) := by
  subst hq; exact Wk.pure (fun X hx hby r => XT.lcmp X hx rfl (hb hby hd) rfl r) k
theorem Wk.dup {u : Value} (hd : decode bytes pc = .ok (.dup, 1)) (hq : pc + 1 = q) (hc : u.category = 1) (k : Wk l Z a0 EL y bytes mx ret R Q L cb sb q Ls (u :: u :: St)) : Wk l Z a0 EL y bytes mx ret R Q L cb sb pc Ls (u :: St) := by
  subst hq; exact Wk.pure (fun X hx hby r => XS.dup X hx rfl (hb hby hd) rfl hc r) k
theorem Wk.pop {u : Value} (hd : decode bytes pc = .ok (.pop, 1)) (hq : pc + 1 = q) (hc : u.category = 1) (k : Wk l Z a0 EL y bytes mx ret R Q L cb sb q Ls (St)) : Wk l Z a0 EL y bytes mx ret R Q L cb sb pc Ls (u :: St) := by
  subst hq; exact Wk.pure (fun X hx hby r => XT.pop X hx rfl (hb hby hd) rfl hc r) k
theorem Wk.dup_x1 {u w : Value} (hd : decode bytes pc = .ok (.dup_x1, 1)) (hq : pc + 1 = q) (hc : u.category = 1) (hc' : w.category = 1) (k : Wk l Z a0 EL y bytes mx ret R Q L cb sb q Ls (u :: w :: u :: St)) : Wk l Z a0 EL y bytes mx ret R Q L cb sb pc Ls (u :: w :: St) := by
  subst hq; exact Wk.pure (fun X hx hby r => XT.dupX1 X hx rfl (hb hby hd) rfl hc hc' r) k
theorem Wk.iinc {i : Nat} {cst : Int} {u : Int32} (w : Int32) (hd : decode bytes pc = .ok (.iinc i cst, 3)) (hq : pc + 3 = q) (hu : Int32.ofInt cst = w) (hl : Ls[i]? = some (.val (.int u))) (hl' : LS1 i (.int (u + w)) Ls Ls') (k : Wk l Z a0 EL y bytes mx ret R Q L cb sb q Ls' (St)) : Wk l Z a0 EL y bytes mx ret R Q L cb sb pc Ls (St) := by
  subst hq; exact Wk.pure (fun X hx hby r => XS.iinc X hx rfl (hb hby hd) (getL hl) (by rw [hu]; exact (hl' rfl).1) r) k
theorem Wk.goto  {o : Int} (hd : decode bytes pc = .ok (.goto o, 3)) (ho : 0 ≤ (pc : Int) + o) (hq : ((pc : Int) + o).toNat = q) (k : Wk l Z a0 EL y bytes mx ret R Q L cb sb q Ls (St)) : Wk l Z a0 EL y bytes mx ret R Q L cb sb pc Ls (St) :=
  Wk.pure (fun X hx hby r => XS.goto X hx rfl rfl (hb hby hd)  ho hq r) k
theorem Wk.if_t {cd : ClassFile.Cond} {u : Int32} {o : Int} (hd : decode bytes pc = .ok (.ifCond cd o, 3)) (ho : 0 ≤ (pc : Int) + o) (hq : ((pc : Int) + o).toNat = q) (hc : ifCond.holds cd u = true) (k : Wk l Z a0 EL y bytes mx ret R Q L cb sb q Ls (St)) : Wk l Z a0 EL y bytes mx ret R Q L cb sb pc Ls (.int u :: St) :=
  Wk.pure (fun X hx hby r => XS.ifYes X hx rfl rfl (hb hby hd) rfl hc ho hq r) k
theorem Wk.if_f {cd : ClassFile.Cond} {o : Int} {u : Int32} (hd : decode bytes pc = .ok (.ifCond cd o, 3)) (hq : pc + 3 = q) (hc : ifCond.holds cd u = false) (k : Wk l Z a0 EL y bytes mx ret R Q L cb sb q Ls (St)) : Wk l Z a0 EL y bytes mx ret R Q L cb sb pc Ls (.int u :: St) := by
  subst hq; exact Wk.pure (fun X hx hby r => XS.ifNo X hx rfl (hb hby hd) rfl hc r) k
theorem Wk.icmp_t {cd : ClassFile.Cond} {u w : Int32} {o : Int} (hd : decode bytes pc = .ok (.if_icmp cd o, 3)) (ho : 0 ≤ (pc : Int) + o) (hq : ((pc : Int) + o).toNat = q) (hc : if_icmp.holds cd u w = true) (k : Wk l Z a0 EL y bytes mx ret R Q L cb sb q Ls (St)) : Wk l Z a0 EL y bytes mx ret R Q L cb sb pc Ls (.int w :: .int u :: St) :=
  Wk.pure (fun X hx hby r => XS.icmpYes X hx rfl rfl (hb hby hd) rfl hc ho hq r) k
theorem Wk.icmp_f {cd : ClassFile.Cond} {o : Int} {u w : Int32} (hd : decode bytes pc = .ok (.if_icmp cd o, 3)) (hq : pc + 3 = q) (hc : if_icmp.holds cd u w = false) (k : Wk l Z a0 EL y bytes mx ret R Q L cb sb q Ls (St)) : Wk l Z a0 EL y bytes mx ret R Q L cb sb pc Ls (.int w :: .int u :: St) := by
  subst hq; exact Wk.pure (fun X hx hby r => XS.icmpNo X hx rfl (hb hby hd) rfl hc r) k
theorem Wk.null_t  {o : Int} (hd : decode bytes pc = .ok (.ifnull o, 3)) (ho : 0 ≤ (pc : Int) + o) (hq : ((pc : Int) + o).toNat = q) (k : Wk l Z a0 EL y bytes mx ret R Q L cb sb q Ls (St)) : Wk l Z a0 EL y bytes mx ret R Q L cb sb pc Ls (.null :: St) :=
  Wk.pure (fun X hx hby r => XS.ifnullYes X hx rfl rfl (hb hby hd) rfl ho hq r) k
theorem Wk.null_f {o : Int} {u : Addr} (hd : decode bytes pc = .ok (.ifnull o, 3)) (hq : pc + 3 = q) (k : Wk l Z a0 EL y bytes mx ret R Q L cb sb q Ls (St)) : Wk l Z a0 EL y bytes mx ret R Q L cb sb pc Ls (.ref u :: St) := by
  subst hq; exact Wk.pure (fun X hx hby r => XS.ifnullNo X hx rfl (hb hby hd) rfl r) k
theorem Wk.nonnull_t {u : Addr} {o : Int} (hd : decode bytes pc = .ok (.ifnonnull o, 3)) (ho : 0 ≤ (pc : Int) + o) (hq : ((pc : Int) + o).toNat = q) (k : Wk l Z a0 EL y bytes mx ret R Q L cb sb q Ls (St)) : Wk l Z a0 EL y bytes mx ret R Q L cb sb pc Ls (.ref u :: St) :=
  Wk.pure (fun X hx hby r => XT.ifnonnullYes X hx rfl rfl (hb hby hd) rfl ho hq r) k
theorem Wk.nonnull_f {o : Int} (hd : decode bytes pc = .ok (.ifnonnull o, 3)) (hq : pc + 3 = q) (k : Wk l Z a0 EL y bytes mx ret R Q L cb sb q Ls (St)) : Wk l Z a0 EL y bytes mx ret R Q L cb sb pc Ls (.null :: St) := by
  subst hq; exact Wk.pure (fun X hx hby r => XT.ifnonnullNo X hx rfl (hb hby hd) rfl r) k
theorem Wk.acmp_t {cd : ClassFile.ACond} {u w : Value} {o : Int} (hd : decode bytes pc = .ok (.if_acmp cd o, 3)) (ho : 0 ≤ (pc : Int) + o) (hq : ((pc : Int) + o).toNat = q) (h1 : u.isRef = true) (h2 : w.isRef = true) (hc : XT.acmp cd u w = true) (k : Wk l Z a0 EL y bytes mx ret R Q L cb sb q Ls (St)) : Wk l Z a0 EL y bytes mx ret R Q L cb sb pc Ls (w :: u :: St) :=
  Wk.pure (fun X hx hby r => XT.acmpYes X hx rfl rfl (hb hby hd) rfl h1 h2 hc ho hq r) k
theorem Wk.acmp_f {cd : ClassFile.ACond} {o : Int} {u w : Value} (hd : decode bytes pc = .ok (.if_acmp cd o, 3)) (hq : pc + 3 = q) (h1 : u.isRef = true) (h2 : w.isRef = true) (hc : XT.acmp cd u w = false) (k : Wk l Z a0 EL y bytes mx ret R Q L cb sb q Ls (St)) : Wk l Z a0 EL y bytes mx ret R Q L cb sb pc Ls (w :: u :: St) := by
  subst hq; exact Wk.pure (fun X hx hby r => XT.acmpNo X hx rfl (hb hby hd) rfl h1 h2 hc r) k

/-- a step that reads the tables or the heap and leaves the heap -/
theorem Wk.same {Ls' : List Slot} {St' : List Value} (st : ∀ {p : Program} {e : Env} {s : State} {m : MethodId} {args : Array Value} {below : List Frame} {meth : Method} {c : Code} {T : State} {vm0 : Vm} {locs : List Loc} {cells slots : Nat}, p.tables.exec = Jvm.exec → c.code = bytes → c.maxLocals = mx → vm0.findClass y.cls = some m.cls → Z.Warmed39 vm0 → Inv Z EL vm0 T.heap L →
      Stand p l e R (s.setVm vm0) m args below meth c T locs cells slots → ∃ T', Stand p l e R (s.setVm vm0) m args below meth c T' locs cells slots ∧ T'.heap = T.heap ∧ ∀ target, Steps p.tables e below (T'.setTop (mkF m q ⟨Ls'⟩ St')) target → Steps p.tables e below (T.setTop (mkF m pc ⟨Ls⟩ St)) target)
    (k : Wk l Z a0 EL y bytes mx ret R Q L cb sb q Ls' St') : Wk l Z a0 EL y bytes mx ret R Q L cb sb pc Ls St := by
  intro p e s m args below meth c T vm0 k0 locs cells slots hx hby hmx hret hlk hnm hown hkn X hS hk hZ hE hI hF hc hs
  obtain ⟨T', X', e', st'⟩ := st hx hby hmx hown hZ hI X
  obtain ⟨fin, v, Lc, L', h1, r⟩ := k p e s m args below meth c T' vm0 k0 locs cells slots hx hby hmx hret hlk hnm hown hkn X' hS (by rw [e']; exact hk) hZ hE (by rw [e']; exact hI) hF hc hs
  exact ⟨fin, v, Lc, L', st' _ h1, r⟩
theorem Wk.getfield {i : Nat} (j : Nat) {a : Addr} {fl : Bool} {C R0 O n d : String} {lay : Lay} {vs : List Value} {v : Value} (hd : decode bytes pc = .ok (.getfield i, 3)) (hq : pc + 3 = q) (w : (Jvm.Cond.fieldLink y.cls i R0 n d).before a0 Z = true) (via : Via Z R0 O n d)
    (hm : (a, fl, OB Z C lay vs) ∈ L) (hj : lay[j]? = some (O, n, d)) (hv : vs[j]? = some v) (k : Wk l Z a0 EL y bytes mx ret R Q L cb sb q Ls (v :: St)) : Wk l Z a0 EL y bytes mx ret R Q L cb sb pc Ls (.ref a :: St) := by
  subst hq
  refine Wk.same (fun {p e s m args below meth c T vm0 locs cells slots} hx hby hmx hown hZ hI X => ?_) k
  obtain ⟨cl, e1, e2⟩ := hI.at_ hm
  exact getF X hx hZ hown (host := "") (Or.inl w) via rfl (e2.fld e1 hj hv) (g := mkF m pc ⟨Ls⟩ (.ref a :: St)) rfl rfl (hb hby hd)
theorem Wk.getstatic {i : Nat} {R0 O n d : String} {v : Value} (hd : decode bytes pc = .ok (.getstatic i, 3)) (hq : pc + 3 = q) (w : (Jvm.Cond.fieldLink y.cls i R0 n d).before a0 Z = true) (via : Via Z R0 O n d) (F : Sta Z Z.heap O n d v)
    (k : Wk l Z a0 EL y bytes mx ret R Q L cb sb q Ls (v :: St)) : Wk l Z a0 EL y bytes mx ret R Q L cb sb pc Ls St := by
  subst hq
  refine Wk.same (fun {p e s m args below meth c T vm0 locs cells slots} hx hby hmx hown hZ hI X => ?_) k
  exact getS (host := "") X hx hZ hown w via rfl (F.ext hI.1) (g := mkF m pc ⟨Ls⟩ St) rfl (hb hby hd)
theorem Wk.checkcast {i : Nat} {a : Addr} {fl : Bool} {C K : String} {lay : Lay} {vs : List Value} (hd : decode bytes pc = .ok (.checkcast i, 3)) (hq : pc + 3 = q) (w : (Jvm.Cond.classLink y.cls i K).before a0 Z = true) (hm : (a, fl, OB Z C lay vs) ∈ L) (wc : (Jvm.Cond.castable C K).before a0 Z = true)
    (k : Wk l Z a0 EL y bytes mx ret R Q L cb sb q Ls (.ref a :: St)) : Wk l Z a0 EL y bytes mx ret R Q L cb sb pc Ls (.ref a :: St) := by
  subst hq
  refine Wk.same (fun {p e s m args below meth c T vm0 locs cells slots} hx hby hmx hown hZ hI X => ?_) k
  obtain ⟨cl, e1, e2⟩ := hI.at_ hm
  exact castY X hx hZ hown w rfl (Ins.of_exa (e2.exa e1) wc) (g := mkF m pc ⟨Ls⟩ (.ref a :: St)) rfl rfl (hb hby hd)
theorem Wk.instanceof_t {i : Nat} {a : Addr} {fl : Bool} {C K : String} {lay : Lay} {vs : List Value} (hd : decode bytes pc = .ok (.instanceof i, 3)) (hq : pc + 3 = q) (w : (Jvm.Cond.classLink y.cls i K).before a0 Z = true) (hm : (a, fl, OB Z C lay vs) ∈ L) (wc : (Jvm.Cond.castable C K).before a0 Z = true)
    (k : Wk l Z a0 EL y bytes mx ret R Q L cb sb q Ls (.int 1 :: St)) : Wk l Z a0 EL y bytes mx ret R Q L cb sb pc Ls (.ref a :: St) := by
  subst hq
  refine Wk.same (fun {p e s m args below meth c T vm0 locs cells slots} hx hby hmx hown hZ hI X => ?_) k
  obtain ⟨cl, e1, e2⟩ := hI.at_ hm
  exact instY X hx hZ hown w rfl (Ins.of_exa (e2.exa e1) wc) (g := mkF m pc ⟨Ls⟩ (.ref a :: St)) rfl rfl (hb hby hd)
theorem Wk.instanceof_f {i : Nat} {a : Addr} {fl : Bool} {C K : String} {lay : Lay} {vs : List Value} (hd : decode bytes pc = .ok (.instanceof i, 3)) (hq : pc + 3 = q) (w : (Jvm.Cond.classLink y.cls i K).before a0 Z = true) (hm : (a, fl, OB Z C lay vs) ∈ L) (F : ∃ c t, Z.vm.findClass C = some c ∧ Z.vm.findClass K = some t ∧ Z.vm.assignable c t = false)
    (k : Wk l Z a0 EL y bytes mx ret R Q L cb sb q Ls (.int 0 :: St)) : Wk l Z a0 EL y bytes mx ret R Q L cb sb pc Ls (.ref a :: St) := by
  subst hq
  refine Wk.same (fun {p e s m args below meth c T vm0 locs cells slots} hx hby hmx hown hZ hI X => ?_) k
  obtain ⟨cl, e1, e2⟩ := hI.at_ hm
  exact instNo X hx hZ hown w rfl (e2.exa e1) F (g := mkF m pc ⟨Ls⟩ (.ref a :: St)) rfl rfl (hb hby hd)
theorem Wk.ldc_int {i : Nat} {u : Int32} (hd : decode bytes pc = .ok (.ldc i, 2)) (hq : pc + 2 = q) (w : (Jvm.Cond.constant y.cls i u).before a0 Z = true) (k : Wk l Z a0 EL y bytes mx ret R Q L cb sb q Ls (.int u :: St)) : Wk l Z a0 EL y bytes mx ret R Q L cb sb pc Ls St := by
  subst hq
  refine Wk.same (fun {p e s m args below meth c T vm0 locs cells slots} hx hby hmx hown hZ hI X => ?_) k
  exact ⟨T, X, rfl, fun target r => ldcI X hx hown (mv (s := s.setVm vm0) hZ w) (g := mkF m pc ⟨Ls⟩ St) rfl (hb hby hd) r⟩
theorem Wk.ldc2_w {i : Nat} {u : Int64} (hd : decode bytes pc = .ok (.ldc2_w i, 3)) (hq : pc + 3 = q) (w : (Jvm.Cond.constantLong y.cls i u).before a0 Z = true) (k : Wk l Z a0 EL y bytes mx ret R Q L cb sb q Ls (.long u :: St)) : Wk l Z a0 EL y bytes mx ret R Q L cb sb pc Ls St := by
  subst hq
  refine Wk.same (fun {p e s m args below meth c T vm0 locs cells slots} hx hby hmx hown hZ hI X => ?_) k
  exact ⟨T, X, rfl, fun target r => ldc2J X hx hown (mv (s := s.setVm vm0) hZ w) (g := mkF m pc ⟨Ls⟩ St) rfl (hb hby hd) r⟩
theorem Wk.objinit {i : Nat} {a : Addr} (W : Nat) (hd : decode bytes pc = .ok (.invokespecial i, 3)) (hq : pc + 3 = q) (w1 : (Jvm.Cond.methodLink y.cls i Lib.objectInit).before a0 Z = true) (w2 : (Jvm.Cond.instanceMethod Lib.objectInit).before a0 Z = true) (w3 : (Jvm.Cond.code Lib.objectInit ⟨#[0xb1]⟩ 1 none).before a0 Z = true)
    (hz : Ls.length = mx) (hf : 1 ≤ R.frames) (hW : (St.map fun v => v.category).sum = W) (hl : W + 12 ≤ R.locals) (k : Wk l Z a0 EL y bytes mx ret R Q L cb sb q Ls St) : Wk l Z a0 EL y bytes mx ret R Q L cb sb pc Ls (.ref a :: St) := by
  subst hq
  refine Wk.same (fun {p e s m args below meth c T vm0 locs cells slots} hx hby hmx hown hZ hI X => ?_) k
  exact initO X hx hZ hown w1 w2 w3 rfl (g := mkF m pc ⟨Ls⟩ (.ref a :: St)) rfl (by rw [hmx]; simpa using hz) rfl (hb hby hd) hf (W := W) (by show 2 * 0 + _ ≤ _; rw [hW]; omega) hl
theorem Wk.arraylength {a : Addr} {fl : Bool} {ty : FieldType} {vs : List Value} {u : Int32} (hd : decode bytes pc = .ok (.arraylength, 1)) (hq : pc + 1 = q) (hm : (a, fl, AR Z ty vs) ∈ L) (hu : vs.length.toInt32 = u) (k : Wk l Z a0 EL y bytes mx ret R Q L cb sb q Ls (.int u :: St)) : Wk l Z a0 EL y bytes mx ret R Q L cb sb pc Ls (.ref a :: St) := by
  subst hq
  refine Wk.same (fun {p e s m args below meth c T vm0 locs cells slots} hx hby hmx hown hZ hI X => ?_) k
  obtain ⟨cl, e1, e2⟩ := hI.at_ hm
  exact ⟨T, X, rfl, fun target r => X.arraylength hx e1 (State.isArrayOf_alike (T := s.setVm vm0) hZ.alike e2.1) (g := mkF m pc ⟨Ls⟩ (.ref a :: St)) rfl rfl (hb hby hd) target (by rw [e2.size, hu]; exact r)⟩
theorem inside {Z : State} {ty : FieldType} {vs : List Value} {c : Cell} {j : Int32} {i : Nat} {v : Value} (F : AR Z ty vs c) (hj : ¬ j < 0) (hi : j.toNatClampNeg = i) (hv : vs[i]? = some v) : ¬ (j < 0 ∨ c.slots.size ≤ j.toNatClampNeg) := by
  have := (List.getElem?_eq_some_iff.mp hv).1
  rw [F.size, hi]
  rintro (q | q)
  · exact hj q
  · omega
theorem Wk.caload {a : Addr} {fl : Bool} {vs : List Value} {j : Int32} (i : Nat) {v : Value} (hd : decode bytes pc = .ok (.caload, 1)) (hq : pc + 1 = q) (hm : (a, fl, AR Z .char vs) ∈ L) (hj : ¬ j < 0) (hi : j.toNatClampNeg = i) (hv : vs[i]? = some v) (k : Wk l Z a0 EL y bytes mx ret R Q L cb sb q Ls (v :: St)) : Wk l Z a0 EL y bytes mx ret R Q L cb sb pc Ls (.int j :: .ref a :: St) := by
  subst hq
  refine Wk.same (fun {p e s m args below meth c T vm0 locs cells slots} hx hby hmx hown hZ hI X => ?_) k
  obtain ⟨cl, e1, e2⟩ := hI.at_ hm
  exact ⟨T, X, rfl, fun target r => X.caload hx e1 (State.isArrayOf_alike (T := s.setVm vm0) hZ.alike e2.1) e2.2.1 (inside e2 hj hi hv) (by rw [hi]; exact e2.get hv) (g := mkF m pc ⟨Ls⟩ (.int j :: .ref a :: St)) rfl rfl (hb hby hd) target r⟩
theorem Wk.baload {a : Addr} {fl : Bool} {vs : List Value} {j : Int32} (i : Nat) {v : Value} (hd : decode bytes pc = .ok (.baload, 1)) (hq : pc + 1 = q) (hm : (a, fl, AR Z .byte vs) ∈ L) (hj : ¬ j < 0) (hi : j.toNatClampNeg = i) (hv : vs[i]? = some v) (k : Wk l Z a0 EL y bytes mx ret R Q L cb sb q Ls (v :: St)) : Wk l Z a0 EL y bytes mx ret R Q L cb sb pc Ls (.int j :: .ref a :: St) := by
  subst hq
  refine Wk.same (fun {p e s m args below meth c T vm0 locs cells slots} hx hby hmx hown hZ hI X => ?_) k
  obtain ⟨cl, e1, e2⟩ := hI.at_ hm
  exact ⟨T, X, rfl, fun target r => X.baloadBytes hx e1 (State.isArrayOf_alike (T := s.setVm vm0) hZ.alike e2.1) e2.2.1 (inside e2 hj hi hv) (by rw [hi]; exact e2.get hv) (g := mkF m pc ⟨Ls⟩ (.int j :: .ref a :: St)) rfl rfl (hb hby hd) target r⟩
theorem Wk.aaload {a : Addr} {fl : Bool} {C : String} {vs : List Value} {j : Int32} (i : Nat) {v : Value} (hd : decode bytes pc = .ok (.aaload, 1)) (hq : pc + 1 = q) (hm : (a, fl, RA Z C vs) ∈ L) (hj : ¬ j < 0) (hi : j.toNatClampNeg = i) (hv : vs[i]? = some v) (k : Wk l Z a0 EL y bytes mx ret R Q L cb sb q Ls (v :: St)) : Wk l Z a0 EL y bytes mx ret R Q L cb sb pc Ls (.int j :: .ref a :: St) := by
  subst hq
  refine Wk.same (fun {p e s m args below meth c T vm0 locs cells slots} hx hby hmx hown hZ hI X => ?_) k
  obtain ⟨cl, e1, e2⟩ := hI.at_ hm
  exact ⟨T, X, rfl, fun target r => X.aaload hx e1 (State.isArrayOf_alike (T := s.setVm vm0) hZ.alike e2.1.1) rfl e2.1.2.1 (inside e2.1 hj hi hv) (by rw [hi]; exact e2.1.get hv) (g := mkF m pc ⟨Ls⟩ (.int j :: .ref a :: St)) rfl rfl (hb hby hd) target r⟩
/-- a list with one place written over -/
def VS (j : Nat) (v : Value) (vs vs' : List Value) : Prop := vs.set j v = vs' ∧ j < vs.length
theorem VS.here {v o : Value} {vs : List Value} : VS 0 v (o :: vs) (v :: vs) := ⟨rfl, Nat.succ_pos _⟩
theorem VS.there {j : Nat} {v o : Value} {vs vs' : List Value} (h : VS j v vs vs') : VS (j + 1) v (o :: vs) (o :: vs') := ⟨by rw [List.set_cons_succ, h.1], Nat.succ_lt_succ h.2⟩
theorem VS.of {j : Nat} {v : Value} {vs : List Value} (h : j < vs.length) : VS j v vs (vs.set j v) := ⟨rfl, h⟩
/-- a step that writes a place of the entry a -/
theorem Wk.write {a : Addr} {P P' : Cell → Prop} {St' : List Value} (hm : Ex L (a, true, P) L0)
    (st : ∀ {p : Program} {e : Env} {s : State} {m : MethodId} {args : Array Value} {below : List Frame} {meth : Method} {c : Code} {T : State} {vm0 : Vm} {locs : List Loc} {cells slots : Nat}, p.tables.exec = Jvm.exec → c.code = bytes → c.maxLocals = mx → meth.name = y.name → vm0.findClass y.cls = some m.cls → Z.Warmed39 vm0 → Inv Z EL vm0 T.heap ((a, true, P) :: L0) →
      Stand p l e R (s.setVm vm0) m args below meth c T locs cells slots → ∃ T' h' sl v, Stand p l e R (s.setVm vm0) m args below meth c T' (locs ++ [⟨a, sl⟩]) cells slots ∧ T'.heap = h' ∧ Wr T.heap h' a sl v ∧ (∀ cl, T.heap[a]? = some cl → P cl → P' (cl.setSlot sl v)) ∧ ∀ target, Steps p.tables e below (T'.setTop (mkF m q ⟨Ls⟩ St')) target → Steps p.tables e below (T.setTop (mkF m pc ⟨Ls⟩ St)) target)
    (k : Wk l Z a0 EL y bytes mx ret R Q ((a, true, P') :: L0) cb sb q Ls St') : Wk l Z a0 EL y bytes mx ret R Q L cb sb pc Ls St := by
  refine Wk.pull hm ?_
  intro p e s m args below meth c T vm0 k0 locs cells slots hx hby hmx hret hlk hnm hown hkn X hS hk hZ hE hI hF hc hs
  obtain ⟨T', h', sl, v, X', rfl, W, hP, st'⟩ := st hx hby hmx hnm hown hZ hI X
  obtain ⟨fin, v, Lc, L', h1, r⟩ := k p e s m args below meth c T' vm0 k0 _ cells slots hx hby hmx hret hlk hnm hown hkn X' hS (by rw [W.size]; exact hk) hZ hE (hI.wr W hP) (Fr.snoc X' hF (hI.2.2.2.1 _ (List.mem_cons_self ..) rfl).1) hc hs
  exact ⟨fin, v, Lc, L', st' _ h1, r⟩
theorem Wk.putfield {i : Nat} (j : Nat) {kk : Nat} {a : Addr} {C R0 O n d : String} {lay : Lay} {vs vs' : List Value} {v : Value} {ty : FieldType} (hd : decode bytes pc = .ok (.putfield i, 3)) (hq : pc + 3 = q) (w : (Jvm.Cond.fieldLink y.cls i R0 n d).before a0 Z = true) (via : Via Z R0 O n d)
    (K : LayOk Z a0 C lay) (wi : (Jvm.Cond.instantiable C kk).before a0 Z = true) (hl : (Jvm.Cond.lays C O n d).before a0 Z = true ∨ ((Jvm.Cond.laysFinal C O n d).before a0 Z = true ∧ y.cls = O ∧ y.name = "<init>")) (hj : lay[j]? = some (O, n, d)) (hty : parseFieldDescriptor d = some ty) (hm : Ex L (a, true, OB Z C lay vs) L0) (hvs : VS j v vs vs') (hn : narrow ty v = v) (hf : fits ty v = true)
    (k : Wk l Z a0 EL y bytes mx ret R Q ((a, true, OB Z C lay vs') :: L0) cb sb q Ls St) : Wk l Z a0 EL y bytes mx ret R Q L cb sb pc Ls (v :: .ref a :: St) := by
  subst hq
  obtain ⟨rfl, hlt⟩ := hvs
  have hv : vs[j]? = some vs[j] := List.getElem?_eq_getElem hlt
  refine Wk.write hm (fun {p e s m args below meth c T vm0 locs cells slots} hx hby hmx hnm hown hZ hI X => ?_) k
  obtain ⟨cl, e1, e2⟩ := hI.at_ (List.mem_cons_self ..)
  obtain ⟨T', h', X', eh, W, st⟩ := putF X hx hZ hown (host := "") (Or.inl w) via rfl (e2.fld e1 hj hv) (e2.exa e1) (hl.imp id fun h => ⟨h.1, h.2.1, hnm.trans h.2.2⟩) wi hty hn hf (g := mkF m pc ⟨Ls⟩ (v :: .ref a :: St)) rfl rfl (hb hby hd)
  exact ⟨T', h', _, v, X', eh, W, fun cl' e3 e4 => OB.set K e4 hj hv v, st⟩
theorem Wk.castore {a : Addr} {vs vs' : List Value} {j u u' : Int32} (i : Nat) (hd : decode bytes pc = .ok (.castore, 1)) (hq : pc + 1 = q) (hm : Ex L (a, true, AR Z .char vs) L0) (hj : ¬ j < 0) (hi : j.toNatClampNeg = i) (hu : nar .char u = u') (hvs : VS i (.int u') vs vs')
    (k : Wk l Z a0 EL y bytes mx ret R Q ((a, true, AR Z .char vs') :: L0) cb sb q Ls St) : Wk l Z a0 EL y bytes mx ret R Q L cb sb pc Ls (.int u :: .int j :: .ref a :: St) := by
  subst hq hu
  obtain ⟨rfl, hlt⟩ := hvs
  refine Wk.write hm (fun {p e s m args below meth c T vm0 locs cells slots} hx hby hmx hnm hown hZ hI X => ?_) k
  obtain ⟨cl, e1, e2⟩ := hI.at_ (List.mem_cons_self ..)
  obtain ⟨T', h', X', eh, W, st⟩ := stC X hx hZ rfl (e2.arr e1) (inside e2 hj hi (List.getElem?_eq_getElem hlt)) (g := mkF m pc ⟨Ls⟩ (.int u :: .int j :: .ref a :: St)) rfl rfl (hb hby hd)
  exact ⟨T', h', _, _, X', eh, W, fun cl' e3 e4 => by rw [hi]; exact e4.set _ _, st⟩
theorem Wk.bastore {a : Addr} {vs vs' : List Value} {j u u' : Int32} (i : Nat) (hd : decode bytes pc = .ok (.bastore, 1)) (hq : pc + 1 = q) (hm : Ex L (a, true, AR Z .byte vs) L0) (hj : ¬ j < 0) (hi : j.toNatClampNeg = i) (hu : nar .byte u = u') (hvs : VS i (.int u') vs vs')
    (k : Wk l Z a0 EL y bytes mx ret R Q ((a, true, AR Z .byte vs') :: L0) cb sb q Ls St) : Wk l Z a0 EL y bytes mx ret R Q L cb sb pc Ls (.int u :: .int j :: .ref a :: St) := by
  subst hq hu
  obtain ⟨rfl, hlt⟩ := hvs
  refine Wk.write hm (fun {p e s m args below meth c T vm0 locs cells slots} hx hby hmx hnm hown hZ hI X => ?_) k
  obtain ⟨cl, e1, e2⟩ := hI.at_ (List.mem_cons_self ..)
  obtain ⟨T', h', X', eh, W, st⟩ := stB X hx hZ rfl (e2.arr e1) (inside e2 hj hi (List.getElem?_eq_getElem hlt)) (g := mkF m pc ⟨Ls⟩ (.int u :: .int j :: .ref a :: St)) rfl rfl (hb hby hd)
  exact ⟨T', h', _, _, X', eh, W, fun cl' e3 e4 => by rw [hi]; exact e4.set _ _, st⟩
theorem Wk.aastore {a b : Addr} {fl : Bool} {C D : String} {lay : Lay} {ws : List Value} {vs vs' : List Value} {j : Int32} (i : Nat) (hd : decode bytes pc = .ok (.aastore, 1)) (hq : pc + 1 = q) (hm : Ex L (a, true, RA Z C vs) L0) (ho : (b, fl, OB Z D lay ws) ∈ L0) (wc : (Jvm.Cond.castable D C).before a0 Z = true) (hj : ¬ j < 0) (hi : j.toNatClampNeg = i) (hvs : VS i (.ref b) vs vs')
    (k : Wk l Z a0 EL y bytes mx ret R Q ((a, true, RA Z C vs') :: L0) cb sb q Ls St) : Wk l Z a0 EL y bytes mx ret R Q L cb sb pc Ls (.ref b :: .int j :: .ref a :: St) := by
  subst hq
  obtain ⟨rfl, hlt⟩ := hvs
  refine Wk.write hm (fun {p e s m args below meth c T vm0 locs cells slots} hx hby hmx hnm hown hZ hI X => ?_) k
  obtain ⟨cl, e1, e2⟩ := hI.at_ (List.mem_cons_self ..)
  obtain ⟨cb, f1, f2⟩ := hI.at_ (List.mem_cons_of_mem _ ho)
  obtain ⟨T', h', X', eh, W, st⟩ := stR X hx hZ rfl (e2.1.arr e1) (inside e2.1 hj hi (List.getElem?_eq_getElem hlt)) rfl (Sto.of (e2.1.arr e1) e2.2 (Ins.of_exa (f2.exa f1) wc)) (g := mkF m pc ⟨Ls⟩ (.ref b :: .int j :: .ref a :: St)) rfl rfl (hb hby hd)
  exact ⟨T', h', _, _, X', eh, W, fun cl' e3 e4 => by rw [hi]; exact ⟨e4.1.set _ _, e4.2⟩, st⟩
/-- the first values of a layout's fields -/
abbrev Dv (lay : Lay) (dv : List Value) : Prop := lay.map (fun f => (parseFieldDescriptor f.2.2).map defaultValue) = dv.map some
theorem Wk.new {i n : Nat} {C : String} {lay : Lay} {dv : List Value} (hd : decode bytes pc = .ok (.new i, 3)) (hq : pc + 3 = q) (w : (Jvm.Cond.classLink y.cls i C).before a0 Z = true) (wi : (Jvm.Cond.instantiable C n).before a0 Z = true) (wz : (Jvm.Cond.initialized C).before a0 Z = true) (K : LayOk Z a0 C lay) (hdv : Dv lay dv)
    (hcb : 1 ≤ cb) (hsb : n ≤ sb) (k : ∀ a : Addr, Wk l Z a0 EL y bytes mx ret R Q ((a, true, OB Z C lay dv) :: L) (cb - 1) (sb - n) q Ls (.ref a :: St)) : Wk l Z a0 EL y bytes mx ret R Q L cb sb pc Ls St := by
  subst hq
  intro p e s m args below meth c T vm0 k0 locs cells slots hx hby hmx hret hlk hnm hown hkn X hS hk hZ hE hI hF hc hs
  obtain ⟨T', h', X', rfl, E, A, D, -, st⟩ := newO X hx hZ hown w wi wz rfl (g := mkF m pc ⟨Ls⟩ St) rfl (hb hby hd) (by omega) (by omega)
  obtain ⟨cl, kc, e1, e2⟩ := A
  have hP : OB Z C lay dv cl := by
    refine ⟨⟨kc, e2⟩, fun j f v h1 h2 => of_fld e1 ?_⟩
    have q1 : (lay.map (fun f => (parseFieldDescriptor f.2.2).map defaultValue))[j]? = some ((parseFieldDescriptor f.2.2).map defaultValue) := by simp [h1]
    rw [show lay.map (fun f => (parseFieldDescriptor f.2.2).map defaultValue) = dv.map some from hdv] at q1
    simp only [List.getElem?_map, h2, Option.map_some, Option.some.injEq] at q1
    cases hp : parseFieldDescriptor f.2.2 with
    | none => rw [hp] at q1; cases q1
    | some t =>
      rw [hp] at q1
      simp only [Option.map_some, Option.some.injEq] at q1
      rw [q1]
      exact D (K.1 f (List.mem_of_getElem? h1)) hp
  obtain ⟨fin, v, Lc, L', h1, r⟩ := k T.heap.size p e s m args below meth c T' vm0 k0 locs (cells + 1) (slots + n) hx hby hmx hret hlk hnm hown hkn X' hS (Nat.le_trans hk E.1) hZ hE (hI.new E e1 hP) hF (by omega) (by omega)
  exact ⟨fin, v, Lc, L', st _ h1, r⟩
theorem Wk.newarray {aty : ArrayType} {u : Int32} (ty : FieldType) (N : Nat) (vs0 : List Value) (hd : decode bytes pc = .ok (.newarray aty, 2)) (hq : pc + 2 = q) (hty : newarray.typeOf aty = ty) (h0 : List.replicate N (defaultValue ty) = vs0) (w : (Jvm.Cond.arrayClass ty).before a0 Z = true) (hu : ¬ u < 0) (hN : u.toNatClampNeg = N) (hbig : N ≤ 67108864) (hcb : 1 ≤ cb) (hsb : N ≤ sb)
    (k : ∀ a : Addr, Wk l Z a0 EL y bytes mx ret R Q ((a, true, AR Z ty vs0) :: L) (cb - 1) (sb - N) q Ls (.ref a :: St)) : Wk l Z a0 EL y bytes mx ret R Q L cb sb pc Ls (.int u :: St) := by
  subst hq hty h0
  intro p e s m args below meth c T vm0 k0 locs cells slots hx hby hmx hret hlk hnm hown hkn X hS hk hZ hE hI hF hc hs
  obtain ⟨T', h', cA, X', rfl, E, A, st⟩ := newP X hx hZ w rfl (g := mkF m pc ⟨Ls⟩ (.int u :: St)) rfl (hb hby hd) rfl hu (cap := N) (Nat.le_of_eq hN) (by omega) (by omega) (by omega)
  have hP : AR Z (newarray.typeOf aty) (List.replicate N (defaultValue (newarray.typeOf aty))) (newA cA (newarray.typeOf aty) u) := ⟨A.2.1, A.2.2, by simp [newA, hN], by simp; omega⟩
  obtain ⟨fin, v, Lc, L', h1, r⟩ := k T.heap.size p e s m args below meth c T' vm0 k0 locs (cells + 1) (slots + N) hx hby hmx hret hlk hnm hown hkn X' hS (Nat.le_trans hk E.1) hZ hE (hI.new E A.1 hP) hF (by omega) (by omega)
  exact ⟨fin, v, Lc, L', st _ h1, r⟩
theorem Wk.anewarray {i : Nat} {C : String} {u : Int32} (N : Nat) (vs0 : List Value) (hd : decode bytes pc = .ok (.anewarray i, 3)) (hq : pc + 3 = q) (w1 : (Jvm.Cond.classLink y.cls i C).before a0 Z = true) (h0 : List.replicate N Value.null = vs0) (w2 : (Jvm.Cond.arrayOver (.object C)).before a0 Z = true) (hu : ¬ u < 0) (hN : u.toNatClampNeg = N) (hbig : N ≤ 67108864) (hcb : 1 ≤ cb) (hsb : N ≤ sb)
    (k : ∀ a : Addr, Wk l Z a0 EL y bytes mx ret R Q ((a, true, RA Z C vs0) :: L) (cb - 1) (sb - N) q Ls (.ref a :: St)) : Wk l Z a0 EL y bytes mx ret R Q L cb sb pc Ls (.int u :: St) := by
  subst hq h0
  intro p e s m args below meth c T vm0 k0 locs cells slots hx hby hmx hret hlk hnm hown hkn X hS hk hZ hE hI hF hc hs
  obtain ⟨T', h', cA, X', rfl, E, A, O, st⟩ := newR X hx hZ hown w1 w2 rfl (g := mkF m pc ⟨Ls⟩ (.int u :: St)) rfl (hb hby hd) rfl hu (cap := N) (Nat.le_of_eq hN) (by omega) (by omega) (by omega)
  have hP : RA Z C (List.replicate N .null) (newA cA (.object C) u) := ⟨⟨A.2.1, A.2.2, by simp [newA, hN, defaultValue], by simp; omega⟩, O⟩
  obtain ⟨fin, v, Lc, L', h1, r⟩ := k T.heap.size p e s m args below meth c T' vm0 k0 locs (cells + 1) (slots + N) hx hby hmx hret hlk hnm hown hkn X' hS (Nat.le_trans hk E.1) hZ hE (hI.new E A.1 hP) hF (by omega) (by omega)
  exact ⟨fin, v, Lc, L', st _ h1, r⟩
/-- a String constant, opaque -/
theorem Wk.ldcO {i : Nat} {text : String} (n : Nat) (hd : decode bytes pc = .ok (.ldc i, 2)) (hq : pc + 2 = q) (w : (Jvm.Cond.stringLink y.cls i text).before a0 Z = true) (wS : ∀ a ∈ Bundle.stringAtoms, a.before a0 Z = true) (hn : 4 * text.toList.length ≤ n) (hbig : n ≤ 536870912) (hcb : 2 ≤ cb) (hsb : n + 4 ≤ sb)
    (k : ∀ a : Addr, Wk l Z a0 EL y bytes mx ret R Q L (cb - 2) (sb - (n + 4)) q Ls (.ref a :: St)) : Wk l Z a0 EL y bytes mx ret R Q L cb sb pc Ls St := by
  subst hq
  intro p e s m args below meth c T vm0 k0 locs cells slots hx hby hmx hret hlk hnm hown hkn X hS hk hZ hE hI hF hc hs
  obtain ⟨a, T', h', k1, X', rfl, E, hS', hk', hW', hown', hC, -, st⟩ := ldcOH X hx hZ hown w wS rfl hS hk hE hI.2.1 (g := mkF m pc ⟨Ls⟩ St) rfl (hb hby hd) hn hbig (by omega) (by omega)
  obtain ⟨fin, v, Lc, L', h1, r⟩ := k a p e s m args below meth c T' T'.vm k1 locs (cells + 2) (slots + (n + 4)) hx hby hmx hret hlk hnm hown' (KN.move hkn (hZ.alike.symm.trans hW'.alike)) X' hS' hk' hW' hE (hI.later E hC) hF (by omega) (by omega)
  exact ⟨fin, v, Lc, L', st _ h1, r⟩
def layS : Lay := [("java/lang/String", "value", "[B"), ("java/lang/String", "coder", "B")]
theorem ar_of_arv {Z : State} {h : Heap} {a : Addr} {k : ClassId} {ty : FieldType} {z : Int32} {vs : List Value} {d : Value} (A : Arv Z h a k ty z vs d) (hz : z.toNatClampNeg = vs.length) : ∃ c : Cell, h[a]? = some c ∧ AR Z ty vs c := by
  obtain ⟨c, A, -, h2, h3, H, -⟩ := A
  refine ⟨c, A.1, A.2.1, A.2.2, ?_, ?_⟩
  · apply List.ext_getElem?
    intro i
    rw [hz] at h2
    by_cases q : i < c.slots.size
    · have := H i q
      rw [Array.getElem?_toList, this]
      have q' : i < vs.length := by omega
      simp [List.getD, List.getElem?_eq_getElem q']
    · rw [Array.getElem?_toList, Array.getElem?_eq_none (by omega), List.getElem?_eq_none (by omega)]
  · rw [← hz]; exact (back32 h3).2
/-- a String constant, read -/
theorem Wk.ldcS {i : Nat} {text : String} (n : Nat) (vs : List Value) (z : Int32) (hd : decode bytes pc = .ok (.ldc i, 2)) (hq : pc + 2 = q) (w : (Jvm.Cond.stringLink y.cls i text).before a0 Z = true) (wS : ∀ a ∈ Bundle.stringAtoms, a.before a0 Z = true) (hmem : (y.cls, i) ∈ EL)
    (ht : (∀ c ∈ text.toList, c.toNat < 256) ∧ text.toList.map (fun c => Value.int (Jvm.Lit.byteI c.toNat.toUInt16)) = vs) (hz : ¬ z < 0) (hz' : z.toNatClampNeg = vs.length) (hn : 4 * text.toList.length ≤ n) (hbig : n ≤ 536870912) (hcb : 2 ≤ cb) (hsb : n + 4 ≤ sb)
    (k : ∀ a b : Addr, Wk l Z a0 EL y bytes mx ret R Q ((a, false, OB Z "java/lang/String" layS [.ref b, .int 0]) :: (b, false, AR Z .byte vs) :: L) (cb - 2) (sb - (n + 4)) q Ls (.ref a :: St)) : Wk l Z a0 EL y bytes mx ret R Q L cb sb pc Ls St := by
  subst hq
  intro p e s m args below meth c T vm0 k0 locs cells slots hx hby hmx hret hlk hnm hown hkn X hS hk hZ hE hI hF hc hs
  obtain ⟨a, T', h', k1, b, kb, X', rfl, E, hS', hk', hW', hown', x1, x2, x3, x4, -, -, hC, -, hne, st⟩ := ldcCH X hx hZ hown w wS rfl hS hk hE hmem hI.2.1 ht hz hz' (g := mkF m pc ⟨Ls⟩ St) rfl (hb hby hd) hn hbig (by omega) (by omega)
  have I1 := hI.later E hC
  obtain ⟨cB, b1, b2⟩ := ar_of_arv x4 hz'
  have I2 := I1.old b1 b2 (fun x _ hs => (hne x hs).2)
  obtain ⟨cl, kc, e1, e2⟩ := x1
  have I3 := I2.old (P := OB Z "java/lang/String" layS [.ref b, .int 0]) e1 ⟨⟨kc, e2⟩, fun j f v h1 h2 => by
    match j, h1, h2 with
    | 0, h1, h2 => cases h1; cases h2; exact of_fld e1 x3
    | 1, h1, h2 => cases h1; cases h2; exact of_fld e1 x2
    | j + 2, h1, _ => cases h1⟩ (fun x _ hs => (hne x hs).1)
  obtain ⟨fin, v, Lc, L', h1, r⟩ := k a b p e s m args below meth c T' T'.vm k1 locs (cells + 2) (slots + (n + 4)) hx hby hmx hret hlk hnm hown' (KN.move hkn (hZ.alike.symm.trans hW'.alike)) X' hS' hk' hW' hE I3 hF (by omega) (by omega)
  exact ⟨fin, v, Lc, L', st _ h1, r⟩
/-- what a value that is returned says; what a body that returns nothing says -/
def RV (Q : Value → Store → Prop) : Option Value → Store → Prop := fun v L => ∃ u, v = some u ∧ Q u L
def R0 (Q : Store → Prop) : Option Value → Store → Prop := fun v L => v = none ∧ Q L
theorem Wk.leave (v : Option Value) (hv : ret = none → v = none) (hQ : Q v L)
    (st : ∀ {p : Program} {e : Env} {s : State} {m : MethodId} {args : Array Value} {below : List Frame} {meth : Method} {c : Code} {T : State} {vm0 : Vm} {locs : List Loc} {cells slots : Nat} {fs : List Frame}, p.tables.exec = Jvm.exec → c.code = bytes → meth.sig.returnType = ret → Stand p l e R (s.setVm vm0) m args below meth c T locs cells slots →
      (∀ (f : JFrame) (acts : List Action), f.method = m → f.locked = none → f.entered = [] → (doReturn e (T.setTop f) acts v).1 = T.setFrames fs) → Steps p.tables e below (T.setTop (mkF m pc ⟨Ls⟩ St)) (T.setFrames fs)) : Wk l Z a0 EL y bytes mx ret R Q L cb sb pc Ls St := by
  intro p e s m args below meth c T vm0 k0 locs cells slots hx hby hmx hret hlk hnm hown hkn X hS hk hZ hE hI hF hc hs
  obtain ⟨fs, hr, hrun, hended, hW⟩ := X.leaveW hS hk (v := v) (fun h => hv (hret ▸ h)) hlk
  have A : CHr Z EL vm0 T.heap T.vm T.heap := CHv.at X hZ hE hI.2.1
  have I' : Inv Z EL T.vm T.heap L := hI.later ⟨Nat.le_refl _, fun _ _ q => q⟩ A
  exact ⟨T.setFrames fs, v, locs, L, st hx hby hret X hr, hrun, hended, hQ, I', hF, endMono hW (by omega) (by omega)⟩
theorem Wk.return_ (hd : decode bytes pc = .ok (.return_, 1)) (hr : ret = none) (hQ : Q none L) : Wk l Z a0 EL y bytes mx ret R Q L cb sb pc Ls [] :=
  Wk.leave none (fun _ => rfl) hQ fun hx hby hret X hl => X.returnOut hx (hret.trans hr) (hb hby hd) hl
theorem Wk.ireturn {t : FieldType} {u : Int32} (hd : decode bytes pc = .ok (.ireturn, 1)) (hr : ret = some t) (ht : t = .int ∨ t = .boolean ∨ t = .byte ∨ t = .char ∨ t = .short) (hn : narrow t (.int u) = .int u) (hQ : Q (some (.int u)) L) : Wk l Z a0 EL y bytes mx ret R Q L cb sb pc Ls (.int u :: St) :=
  Wk.leave (some (.int u)) (fun h => by rw [hr] at h; cases h) hQ fun hx hby hret X hl => retOut X hx (hret.trans hr) hn (Or.inl ⟨rfl, ht, u, rfl⟩) (hb hby hd) hl
theorem Wk.lreturn {u : Int64} (hd : decode bytes pc = .ok (.lreturn, 1)) (hr : ret = some .long) (hQ : Q (some (.long u)) L) : Wk l Z a0 EL y bytes mx ret R Q L cb sb pc Ls (.long u :: St) :=
  Wk.leave (some (.long u)) (fun h => by rw [hr] at h; cases h) hQ fun hx hby hret X hl => retOut X hx (hret.trans hr) rfl (Or.inr (Or.inl ⟨rfl, rfl, u, rfl⟩)) (hb hby hd) hl
theorem Wk.areturn {t : FieldType} {u : Value} (hd : decode bytes pc = .ok (.areturn, 1)) (hr : ret = some t) (ht : t.isReference = true) (hn : narrow t u = u) (hu : u.isRef = true) (hQ : Q (some u) L) : Wk l Z a0 EL y bytes mx ret R Q L cb sb pc Ls (u :: St) :=
  Wk.leave (some u) (fun h => by rw [hr] at h; cases h) hQ fun hx hby hret X hl => retOut X hx (hret.trans hr) hn (Or.inr (Or.inr (Or.inr (Or.inr ⟨rfl, ht, hu⟩)))) (hb hby hd) hl
theorem Ct.of {as' : Array Value} (hp : plainFor y = true) (he : ∀ m, entryFrame m as' mx = mkF m 0 ⟨Ls⟩ []) (hE : EW Z a0 EL) (k : Wk l Z a0 EL y bytes mx ret R Q L R.cells R.slots 0 Ls []) : Ct l Z EL y bytes mx ret R as' L Q := by
  intro ws
  refine MetFree.of_bodySF hp hisR ?_
  intro p e s m args below meth c s₁ Bd hml0 hP hK
  obtain ⟨rfl, hZ, hI⟩ := hP
  have hheap : s₁.heap = s.heap := by rw [Bd.state]; rfl
  have X0 : Stand p l e R (s.setVm s.vm) m args below meth c s₁ [] 0 0 := Stand.of_body Bd
  obtain ⟨fin, v, Lc, L', h1, h2, h3, h4, h5, h6, h7⟩ := k p e s m args below meth c s₁ s.vm s.heap.size [] 0 0 Bd.exec Bd.bytes hml0 Bd.returns Bd.notSynchronized (name_of_methodNamed Bd.named Bd.method).1 (findClass_of_methodNamed Bd.named) ⟨KF.start hK hI.1, Bd.named⟩ X0 ((State.WarmedH.refl s).since _) (by rw [hheap]; exact Nat.le_refl _) hZ hE (by rw [hheap]; exact hI) (Fr.nil _) (by omega) (by omega)
  exact ⟨fin, .returned v, castTop (he m) h1, h2, h3, v, Lc, L', rfl, h4, h5, h6, h7⟩
theorem Ct.imp {as' : Array Value} (hq : ∀ v L, Q v L → Q' v L) (h : Ct l Z EL y bytes mx ret R as' L Q) : Ct l Z EL y bytes mx ret R as' L Q' := by
  intro ws p e ha hc hk s m args below hf happ hP hK
  obtain ⟨n, o, h1, h2, h3, v, Lc, L', h4, h5, h6⟩ := h ws p e ha hc hk s m args below hf happ hP hK
  exact ⟨n, o, h1, h2, h3, v, Lc, L', h4, hq _ _ h5, h6⟩
theorem Ct.perm {as' : Array Value} (hp : L.Perm L') (h : Ct l Z EL y bytes mx ret R as' L' Q) : Ct l Z EL y bytes mx ret R as' L Q := by
  intro ws p e ha hc hk s m args below hf happ hP hK
  exact h ws p e ha hc hk s m args below hf happ ⟨hP.1, hP.2.1, hP.2.2.perm hp⟩ hK
section Call
variable {y' : MethodName} {b' : ByteArray} {mx' : Nat} {ret' : Option FieldType} {rm : Room} {as' : Array Value} {W len : Nat} {h : Heap} {p : Program} {e : Env} {below : List Frame} {s : State} {args : Array Value} {vm0 : Vm}
theorem Ct.back (hC : Ct l Z EL y' b' mx' ret' rm as' L Q') (hZ : Z.Warmed39 vm0) (hE : EW Z a0 EL) (hkf : KF Z vm0 below s) (hI : Inv Z EL vm0 h L) (wc : (Jvm.Cond.code y' b' mx' ret').before a0 Z = true) (wz : (Jvm.Cond.initialized y'.cls).before a0 Z = true) (hf : rm.frames + 1 ≤ R.frames) (hl : W + (mx' + 11) + rm.locals ≤ R.locals) :
    BackS l R p e below (s.setVm vm0) args y' len W (fun A a => a = as' ∧ A.U.heap = h ∧ A.cells + rm.cells ≤ R.cells ∧ A.slots + rm.slots ≤ R.slots)
      (fun A _ v B => ∃ Lc L', Q' v L' ∧ Inv Z EL B.U.vm B.U.heap L' ∧ Fr Z.heap.size Lc ∧ B.locs = A.locs ++ Lc ∧ B.cells = A.cells + rm.cells ∧ B.slots = A.slots + rm.slots) :=
  BackS.of_freeWG (bytes := b') (maxL := mx') (ret := ret') (E := fun _ _ o t Lc k n => k = rm.cells ∧ n = rm.slots ∧ Fr Z.heap.size Lc ∧ ∃ v L', o = .returned v ∧ Q' v L' ∧ Inv Z EL t.vm t.heap L') (hC []) hf hl
    (fun m meth c A a Y hp => have hU : Z.Warmed39 A.U.vm := wtrans (s := s.setVm vm0) hZ Y.warmed
      ⟨by show (Jvm.Cond.and _ .tt).before a A.U = true; rw [Cond.before_and, mv hU wc]; rfl, mv hU wc, mv hU wz, hp.2.2.1, hp.2.2.2⟩)
    (fun m meth c A a g mk Y hp => ⟨hp.1, wtrans (s := s.setVm vm0) hZ Y.warmed, by
      show Inv Z EL A.U.vm A.U.heap L
      rw [hp.2.1]; exact hI.later ⟨Nat.le_refl _, fun _ _ q => q⟩ (CHv.at Y hZ hE hI.2.1)⟩) (fun _ _ _ _ _ _ _ Y _ hg => KF.call hkf Y hg)
    (fun _ _ _ _ ⟨v, Lc, L', h1, h2, h3, h4, h5⟩ => ⟨Lc, _, _, h5, rfl, rfl, h4, v, L', h1, h2, h3⟩)
    (fun m meth c A a g mk v t Lc k n Y hp _ _ ⟨e1, e2, e3, v', L', e4, e5, e6⟩ => by
      cases e4; subst e1 e2
      exact ⟨Lc, L', e5, e6, e3, rfl, rfl, rfl⟩)
/-- A CALL, whichever -/
theorem Wk.call {St' : List Value} (hC : Ct l Z EL y' b' mx' ret' rm as' L Q') (wc : (Jvm.Cond.code y' b' mx' ret').before a0 Z = true) (wz : (Jvm.Cond.initialized y'.cls).before a0 Z = true) (hf : rm.frames + 1 ≤ R.frames) (hl : W + (mx' + 11) + rm.locals ≤ R.locals) (hcb : rm.cells ≤ cb) (hsb : rm.slots ≤ sb)
    (go : ∀ {p : Program} {e : Env} {s : State} {m : MethodId} {args : Array Value} {below : List Frame} {meth : Method} {c : Code} {T : State} {vm0 : Vm} {locs : List Loc} {cells slots : Nat} {Pre : Pt → Array Value → Prop} {Post : Pt → Array Value → Option Value → Pt → Prop}, p.tables.exec = Jvm.exec → c.code = bytes → c.maxLocals = mx → vm0.findClass y.cls = some m.cls → Z.Warmed39 vm0 → Inv Z EL vm0 T.heap L →
      Stand p l e R (s.setVm vm0) m args below meth c T locs cells slots → BackS l R p e below (s.setVm vm0) args y' len W Pre Post → (∀ vm₁, (s.setVm vm0).WarmedH vm₁ → Pre ⟨T.setVm vm₁, locs, cells, slots⟩ as') →
      ∃ (v : Option Value) (vm₁ : Vm) (B : Pt), (s.setVm vm0).WarmedH vm₁ ∧ Stand p l e R ((s.setVm vm0).setVm B.U.vm) m args below meth c B.U B.locs B.cells B.slots ∧ (s.setVm vm0).Since B.U.vm B.U.heap.size ∧ T.heap.size ≤ B.U.heap.size ∧ Post ⟨T.setVm vm₁, locs, cells, slots⟩ as' v B ∧ Steps p.tables e below (T.setTop (mkF m pc ⟨Ls⟩ St)) (B.U.setTop (mkF m q ⟨Ls⟩ (v.toList ++ St'))))
    (k : ∀ v L', Q' v L' → Wk l Z a0 EL y bytes mx ret R Q L' (cb - rm.cells) (sb - rm.slots) q Ls (v.toList ++ St')) : Wk l Z a0 EL y bytes mx ret R Q L cb sb pc Ls St := by
  intro p e s m args below meth c T vm0 k0 locs cells slots hx hby hmx hret hlk hnm hown hkn X hS hk hZ hE hI hF hc hs
  obtain ⟨v, vm₁, B, -, X', hS', hgr, ⟨Lc, L', q1, q2, q3, q4, q5, q6⟩, st⟩ := go hx hby hmx hown hZ hI X (Ct.back (len := len) hC hZ hE hkn.1 hI wc wz hf hl) (fun vm₁ _ => ⟨rfl, rfl, by show cells + _ ≤ _; omega, by show slots + _ ≤ _; omega⟩)
  obtain ⟨U, Lx, cx, sx⟩ := B
  dsimp only [Pt.U, Pt.locs, Pt.cells, Pt.slots] at X' hS' hgr q2 q4 q5 q6 st
  subst q4 q5 q6
  obtain ⟨fin, v, Lc', L'', h1, r⟩ := k v L' q1 p e s m args below meth c U U.vm U.heap.size _ _ _ hx hby hmx hret hlk hnm (by rw [hS'.1.alike.findClass]; exact hown) (KN.move hkn hS'.1.alike) X' (hS.trans hS' (Nat.le_trans hk hgr)) (Nat.le_refl _) (State.Warmed39.trans (t := s.setVm vm0) hZ hS'.1) hE q2 (hF.app q3) (by omega) (by omega)
  exact ⟨fin, v, Lc', L'', st.trans h1, r⟩
end Call
section Calls
variable {y' : MethodName} {b' : ByteArray} {mx' : Nat} {ret' : Option FieldType} {rm : Room} {i : Nat}
theorem Wk.static (argsL rest : List Value) (W : Nat) {na : Nat} (hd : decode bytes pc = .ok (.invokestatic i, 3)) (hq : pc + 3 = q) (w1 : (Jvm.Cond.methodLink y.cls i y').before a0 Z = true) (w2 : (Jvm.Cond.static y').before a0 Z = true) (wz : (Jvm.Cond.initialized y'.cls).before a0 Z = true) (wc : (Jvm.Cond.code y' b' mx' ret').before a0 Z = true) (har : XT.arity y'.desc = some na) (hy : y'.cls ≠ "java/lang/invoke/MethodHandle" ∧ y'.cls ≠ "java/lang/invoke/VarHandle")
    (hst : St = argsL.reverse ++ rest) (hna : argsL.length = na) (hW : (rest.map fun v => v.category).sum = W) (hz : Ls.length = mx) (hC : Ct l Z EL y' b' mx' ret' rm argsL.toArray L Q') (hf : rm.frames + 1 ≤ R.frames) (hl : W + (mx' + 11) + rm.locals ≤ R.locals) (hcb : rm.cells ≤ cb) (hsb : rm.slots ≤ sb)
    (k : ∀ v L', Q' v L' → Wk l Z a0 EL y bytes mx ret R Q L' (cb - rm.cells) (sb - rm.slots) q Ls (v.toList ++ rest)) : Wk l Z a0 EL y bytes mx ret R Q L cb sb pc Ls St := by
  subst hq hst
  refine Wk.call (len := 3) hC wc wz hf hl hcb hsb (fun {p e s m args below meth c T vm0 locs cells slots Pre Post} hx hby hmx hown hZ hI X hK hpre => ?_) k
  exact callSS X hx hown (mv (s := s.setVm vm0) hZ w1) (mv (s := s.setVm vm0) hZ w2) (mv (s := s.setVm vm0) hZ wz) (mv (s := s.setVm vm0) hZ wc) hy hK (g := mkF m pc ⟨Ls⟩ (argsL.reverse ++ rest)) rfl (by rw [hmx]; simpa using hz) (XT.arity_len har hna) rfl (by show 2 * 0 + _ ≤ _; rw [hW]; omega) (hb hby hd) hpre
theorem Wk.special {a : Addr} (argsL rest : List Value) (W : Nat) {na : Nat} (hd : decode bytes pc = .ok (.invokespecial i, 3)) (hq : pc + 3 = q) (hy1 : y'.name = "<init>") (w1 : (Jvm.Cond.methodLink y.cls i y').before a0 Z = true) (w2 : (Jvm.Cond.instanceMethod y').before a0 Z = true) (wz : (Jvm.Cond.initialized y'.cls).before a0 Z = true) (wc : (Jvm.Cond.code y' b' mx' none).before a0 Z = true) (har : XT.arity y'.desc = some na) (hy : y'.cls ≠ "java/lang/invoke/MethodHandle" ∧ y'.cls ≠ "java/lang/invoke/VarHandle")
    (hst : St = argsL.reverse ++ .ref a :: rest) (hna : argsL.length = na) (hW : (rest.map fun v => v.category).sum = W) (hz : Ls.length = mx) (hC : Ct l Z EL y' b' mx' none rm (.ref a :: argsL).toArray L Q') (hf : rm.frames + 1 ≤ R.frames) (hl : W + (mx' + 11) + rm.locals ≤ R.locals) (hcb : rm.cells ≤ cb) (hsb : rm.slots ≤ sb)
    (k : ∀ v L', Q' v L' → Wk l Z a0 EL y bytes mx ret R Q L' (cb - rm.cells) (sb - rm.slots) q Ls (v.toList ++ rest)) : Wk l Z a0 EL y bytes mx ret R Q L cb sb pc Ls St := by
  subst hq hst
  refine Wk.call (len := 3) hC wc wz hf hl hcb hsb (fun {p e s m args below meth c T vm0 locs cells slots Pre Post} hx hby hmx hown hZ hI X hK hpre => ?_) k
  exact X.specialBackS hx hy1 hown (mv (s := s.setVm vm0) hZ w1) (mv (s := s.setVm vm0) hZ w2) (mv (s := s.setVm vm0) hZ wc) hy hK (g := mkF m pc ⟨Ls⟩ (argsL.reverse ++ .ref a :: rest)) rfl (by rw [hmx]; simpa using hz) (Steps.refl _) (XT.arity_len har hna) rfl (by show 2 * 0 + _ ≤ _; rw [hW]; omega) (hb hby hd) hpre
theorem nfSel {y0 : MethodName} {C : String} (w : (Jvm.Cond.selects C y0 y0).before a0 Z = true) : ∀ s : State, Z.Warmed39 s.vm → NotFace s y0 := fun s hZ => notFace_of_selects (args := #[]) (mv hZ w)
theorem nfSup {y0 : MethodName} {S : String} (w : (Jvm.Cond.superclass y0.cls S).before a0 Z = true) : ∀ s : State, Z.Warmed39 s.vm → NotFace s y0 := fun s hZ => nf_super (args := #[]) (mv hZ w)
theorem nfTop {y0 : MethodName} (w : (Jvm.Cond.noSuperclass y0.cls).before a0 Z = true) : ∀ s : State, Z.Warmed39 s.vm → NotFace s y0 := fun s hZ => nf_top (args := #[]) (mv hZ w)
theorem Wk.virtual {a : Addr} {fl : Bool} {C : String} {lay : Lay} {vs : List Value} {y0 : MethodName} (argsL rest : List Value) (W : Nat) {na : Nat} (hd : decode bytes pc = .ok (.invokevirtual i, 3)) (hq : pc + 3 = q) (w1 : (Jvm.Cond.methodLink y.cls i y0).before a0 Z = true) (w2 : (Jvm.Cond.declares y0).before a0 Z = true) (w3 : (Jvm.Cond.selects C y0 y').before a0 Z = true) (w4 : (Jvm.Cond.instanceMethod y').before a0 Z = true) (wz : (Jvm.Cond.initialized y'.cls).before a0 Z = true) (wc : (Jvm.Cond.code y' b' mx' ret').before a0 Z = true)
    (har : XT.arity y0.desc = some na) (hy : y0.cls ≠ "java/lang/invoke/MethodHandle" ∧ y0.cls ≠ "java/lang/invoke/VarHandle") (nf : ∀ s : State, Z.Warmed39 s.vm → NotFace s y0) (hm : (a, fl, OB Z C lay vs) ∈ L)
    (hst : St = argsL.reverse ++ .ref a :: rest) (hna : argsL.length = na) (hW : (rest.map fun v => v.category).sum = W) (hz : Ls.length = mx) (hC : Ct l Z EL y' b' mx' ret' rm (.ref a :: argsL).toArray L Q') (hf : rm.frames + 1 ≤ R.frames) (hl : W + (mx' + 11) + rm.locals ≤ R.locals) (hcb : rm.cells ≤ cb) (hsb : rm.slots ≤ sb)
    (k : ∀ v L', Q' v L' → Wk l Z a0 EL y bytes mx ret R Q L' (cb - rm.cells) (sb - rm.slots) q Ls (v.toList ++ rest)) : Wk l Z a0 EL y bytes mx ret R Q L cb sb pc Ls St := by
  subst hq hst
  refine Wk.call (len := 3) hC wc wz hf hl hcb hsb (fun {p e s m args below meth c T vm0 locs cells slots Pre Post} hx hby hmx hown hZ hI X hK hpre => ?_) k
  obtain ⟨cl, e1, e2⟩ := hI.at_ hm
  obtain ⟨cq, kq, q1, -, q3⟩ := isOf (T := T) (s := s.setVm vm0) hZ rfl (e2.exa e1)
  exact X.virtualBackS hx hown (mv (s := s.setVm vm0) hZ w1) (mv (s := s.setVm vm0) hZ w2) (nf (s.setVm vm0) hZ) (mv (s := s.setVm vm0) hZ w3) (mv (s := s.setVm vm0) hZ w4) hy hK q1 q3 (g := mkF m pc ⟨Ls⟩ (argsL.reverse ++ .ref a :: rest)) rfl (by rw [hmx]; simpa using hz) (Steps.refl _) (XT.arity_len har hna) rfl (by show 2 * 0 + _ ≤ _; rw [hW]; omega) (hb hby hd) hpre
theorem Wk.interface {a : Addr} {fl : Bool} {C : String} {lay : Lay} {vs : List Value} {y0 : MethodName} {cnt : Nat} (argsL rest : List Value) (W : Nat) {na : Nat} (hd : decode bytes pc = .ok (.invokeinterface i cnt, 5)) (hq : pc + 5 = q) (w1 : (Jvm.Cond.methodLink y.cls i y0).before a0 Z = true) (w2 : (Jvm.Cond.declares y0).before a0 Z = true) (w5 : (Jvm.Cond.interfaceMethod y0.cls y0.cls y0.name y0.desc).before a0 Z = true) (hd5 : ((Jvm.Cond.interfaceMethod y0.cls y0.cls y0.name y0.desc).onTables && (Jvm.Cond.interfaceMethod y0.cls y0.cls y0.name y0.desc).keepsFace) = true) (w3 : (Jvm.Cond.selects C y0 y').before a0 Z = true) (w4 : (Jvm.Cond.instanceMethod y').before a0 Z = true) (w6 : (Jvm.Cond.publicMethod y').before a0 Z = true) (w7 : (Jvm.Cond.unhidden C y0.name y0.desc).before a0 Z = true) (w8 : (Jvm.Cond.castable C y0.cls).before a0 Z = true) (wz : (Jvm.Cond.initialized y'.cls).before a0 Z = true) (wc : (Jvm.Cond.code y' b' mx' ret').before a0 Z = true)
    (har : XT.arity y0.desc = some na) (hy : y0.cls ≠ "java/lang/invoke/MethodHandle" ∧ y0.cls ≠ "java/lang/invoke/VarHandle") (hm : (a, fl, OB Z C lay vs) ∈ L)
    (hst : St = argsL.reverse ++ .ref a :: rest) (hna : argsL.length = na) (hW : (rest.map fun v => v.category).sum = W) (hz : Ls.length = mx) (hC : Ct l Z EL y' b' mx' ret' rm (.ref a :: argsL).toArray L Q') (hf : rm.frames + 1 ≤ R.frames) (hl : W + (mx' + 11) + rm.locals ≤ R.locals) (hcb : rm.cells ≤ cb) (hsb : rm.slots ≤ sb)
    (k : ∀ v L', Q' v L' → Wk l Z a0 EL y bytes mx ret R Q L' (cb - rm.cells) (sb - rm.slots) q Ls (v.toList ++ rest)) : Wk l Z a0 EL y bytes mx ret R Q L cb sb pc Ls St := by
  subst hq hst
  refine Wk.call (len := 5) hC wc wz hf hl hcb hsb (fun {p e s m args below meth c T vm0 locs cells slots Pre Post} hx hby hmx hown hZ hI X hK hpre => ?_) k
  obtain ⟨cl, e1, e2⟩ := hI.at_ hm
  obtain ⟨cq, kq, q1, q2, q3⟩ := isOf (T := T) (s := s.setVm vm0) hZ rfl (e2.exa e1)
  exact X.interfaceBackS hx hown (mv (s := s.setVm vm0) hZ w1) (mv (s := s.setVm vm0) hZ w2) (mv (s := s.setVm vm0) hZ w5 hd5) (mv (s := s.setVm vm0) hZ w3) (mv (s := s.setVm vm0) hZ w4) (mv (s := s.setVm vm0) hZ w6) (mv (s := s.setVm vm0) hZ w7) (mv (s := s.setVm vm0) hZ w8) hy hK q1 q2 q3 (g := mkF m pc ⟨Ls⟩ (argsL.reverse ++ .ref a :: rest)) rfl (by rw [hmx]; simpa using hz) (Steps.refl _) (XT.arity_len har hna) rfl (by show 2 * 0 + _ ≤ _; rw [hW]; omega) (hb hby hd) hpre
end Calls
theorem kv {Q0 : Value → Store → Prop} (k : ∀ u L', Q0 u L' → Wk l Z a0 EL y bytes mx ret R Q L' cb sb q Ls (u :: rest)) : ∀ v L', RV Q0 v L' → Wk l Z a0 EL y bytes mx ret R Q L' cb sb q Ls (v.toList ++ rest) := by
  rintro _ L' ⟨u, rfl, h⟩; exact k u L' h
theorem k0 {Q0 : Store → Prop} (k : ∀ L', Q0 L' → Wk l Z a0 EL y bytes mx ret R Q L' cb sb q Ls rest) : ∀ v L', R0 Q0 v L' → Wk l Z a0 EL y bytes mx ret R Q L' cb sb q Ls (v.toList ++ rest) := by
  rintro _ L' ⟨rfl, h⟩; exact k L' h
end Rules
/-- a branch both ways -/
def cP : ClassFile.Cond → Int32 → Int32 → Prop
  | .eq, u, w => u = w
  | .ne, u, w => ¬ u = w
  | .lt, u, w => u < w
  | .ge, u, w => ¬ u < w
  | .gt, u, w => w < u
  | .le, u, w => ¬ w < u
def cneg : ClassFile.Cond → ClassFile.Cond
  | .eq => .ne
  | .ne => .eq
  | .lt => .ge
  | .ge => .lt
  | .gt => .le
  | .le => .gt
theorem icmp_of {cd : ClassFile.Cond} {u w : Int32} : (cP cd u w ∧ if_icmp.holds cd u w = true) ∨ (cP (cneg cd) u w ∧ if_icmp.holds cd u w = false) := by
  cases cd
  · by_cases h : u = w
    · exact Or.inl ⟨h, XT.ii_eq_t h⟩
    · exact Or.inr ⟨h, XT.ii_eq_f h⟩
  · by_cases h : u = w
    · exact Or.inr ⟨h, XT.ii_ne_f h⟩
    · exact Or.inl ⟨h, XT.ii_ne_t h⟩
  · by_cases h : u < w
    · exact Or.inl ⟨h, XT.ii_lt_t h⟩
    · exact Or.inr ⟨h, XT.ii_lt_f h⟩
  · by_cases h : u < w
    · exact Or.inr ⟨h, XT.ii_ge_f h⟩
    · exact Or.inl ⟨h, XT.ii_ge_t h⟩
  · by_cases h : w < u
    · exact Or.inl ⟨h, XT.ii_gt_t h⟩
    · exact Or.inr ⟨h, XT.ii_gt_f h⟩
  · by_cases h : w < u
    · exact Or.inr ⟨h, XT.ii_le_f h⟩
    · exact Or.inl ⟨h, XT.ii_le_t h⟩
theorem if_of {cd : ClassFile.Cond} {u : Int32} : (cP cd u 0 ∧ ifCond.holds cd u = true) ∨ (cP (cneg cd) u 0 ∧ ifCond.holds cd u = false) := by
  cases cd
  · by_cases h : u = 0
    · exact Or.inl ⟨h, XT.i0_eq_t h⟩
    · exact Or.inr ⟨h, XT.i0_eq_f h⟩
  · by_cases h : u = 0
    · exact Or.inr ⟨h, XT.i0_ne_f h⟩
    · exact Or.inl ⟨h, XT.i0_ne_t h⟩
  · by_cases h : u < 0
    · exact Or.inl ⟨h, XT.i0_lt_t h⟩
    · exact Or.inr ⟨h, XT.i0_lt_f h⟩
  · by_cases h : u < 0
    · exact Or.inr ⟨h, XT.i0_ge_f h⟩
    · exact Or.inl ⟨h, XT.i0_ge_t h⟩
  · by_cases h : 0 < u
    · exact Or.inl ⟨h, XT.i0_gt_t h⟩
    · exact Or.inr ⟨h, XT.i0_gt_f h⟩
  · by_cases h : 0 < u
    · exact Or.inr ⟨h, XT.i0_le_f h⟩
    · exact Or.inl ⟨h, XT.i0_le_t h⟩
section Rules2
variable {l : Launch} {Z : State} {a0 : Array Value} {EL : List (String × Nat)} {y : MethodName} {bytes : ByteArray} {mx : Nat} {ret : Option FieldType} {R : Room} {Q Q' : Option Value → Store → Prop} {L L0 L' : Store} {cb sb pc q q' : Nat} {Ls Ls' : List Slot} {St rest : List Value}
theorem Wk.icmp_s {cd : ClassFile.Cond} {u w : Int32} {o : Int} (hd : decode bytes pc = .ok (.if_icmp cd o, 3)) (ho : 0 ≤ (pc : Int) + o) (hq : ((pc : Int) + o).toNat = q) (hq' : pc + 3 = q') (k1 : cP cd u w → Wk l Z a0 EL y bytes mx ret R Q L cb sb q Ls St) (k2 : cP (cneg cd) u w → Wk l Z a0 EL y bytes mx ret R Q L cb sb q' Ls St) : Wk l Z a0 EL y bytes mx ret R Q L cb sb pc Ls (.int w :: .int u :: St) := by
  rcases icmp_of (cd := cd) (u := u) (w := w) with ⟨h, h'⟩ | ⟨h, h'⟩
  · exact Wk.icmp_t hd ho hq h' (k1 h)
  · exact Wk.icmp_f hd hq' h' (k2 h)
theorem Wk.if_s {cd : ClassFile.Cond} {u : Int32} {o : Int} (hd : decode bytes pc = .ok (.ifCond cd o, 3)) (ho : 0 ≤ (pc : Int) + o) (hq : ((pc : Int) + o).toNat = q) (hq' : pc + 3 = q') (k1 : cP cd u 0 → Wk l Z a0 EL y bytes mx ret R Q L cb sb q Ls St) (k2 : cP (cneg cd) u 0 → Wk l Z a0 EL y bytes mx ret R Q L cb sb q' Ls St) : Wk l Z a0 EL y bytes mx ret R Q L cb sb pc Ls (.int u :: St) := by
  rcases if_of (cd := cd) (u := u) with ⟨h, h'⟩ | ⟨h, h'⟩
  · exact Wk.if_t hd ho hq h' (k1 h)
  · exact Wk.if_f hd hq' h' (k2 h)
end Rules2
theorem Wk.know {l : Launch} {Z : State} {a0 : Array Value} {EL : List (String × Nat)} {y : MethodName} {bytes : ByteArray} {mx : Nat} {ret : Option FieldType} {R : Room} {Q : Option Value → Store → Prop} {L : Store} {cb sb pc : Nat} {Ls : List Slot} {St : List Value} {P : Prop} (hp : ∀ vm h, Inv Z EL vm h L → P) (k : P → Wk l Z a0 EL y bytes mx ret R Q L cb sb pc Ls St) : Wk l Z a0 EL y bytes mx ret R Q L cb sb pc Ls St := by
  intro p e s m args below meth c T vm0 k0 locs cells slots hx hby hmx hret hlk hnm hown hkn X hS hk hZ hE hI hF hc hs
  exact k (hp _ _ hI) p e s m args below meth c T vm0 k0 locs cells slots hx hby hmx hret hlk hnm hown hkn X hS hk hZ hE hI hF hc hs
theorem Inv.sameObj {Z : State} {EL : List (String × Nat)} {vm : Vm} {h : Heap} {L : Store} {a : Addr} {f f' : Bool} {C C' : String} {lay : Lay} {vs vs' : List Value} {j : Nat} {g : String × String × String} {v v' : Value} (I : Inv Z EL vm h L) (h1 : (a, f, OB Z C lay vs) ∈ L) (h2 : (a, f', OB Z C' lay vs') ∈ L) (hj : lay[j]? = some g) (hv : vs[j]? = some v) (hv' : vs'[j]? = some v') : v = v' := by
  obtain ⟨c, e1, e2⟩ := I.at_ h1
  obtain ⟨c', g1, g2⟩ := I.at_ h2
  cases e1.symm.trans g1
  obtain ⟨_, _, _, fi, x1, -, -, -, -, x6⟩ := e2.2 j g v hj hv
  obtain ⟨_, _, _, fi', y1, -, -, -, -, y6⟩ := g2.2 j g v' hj hv'
  cases x1.symm.trans y1
  exact Option.some.inj (x6.symm.trans y6)
theorem Inv.sameArr {Z : State} {EL : List (String × Nat)} {vm : Vm} {h : Heap} {L : Store} {a : Addr} {f f' : Bool} {ty ty' : FieldType} {vs vs' : List Value} (I : Inv Z EL vm h L) (h1 : (a, f, AR Z ty vs) ∈ L) (h2 : (a, f', AR Z ty' vs') ∈ L) : vs = vs' := by
  obtain ⟨c, e1, e2⟩ := I.at_ h1
  obtain ⟨c', g1, g2⟩ := I.at_ h2
  cases e1.symm.trans g1
  exact e2.2.2.1.symm.trans g2.2.2.1
theorem map_int_inj {xs ys : List Int32} (h : xs.map Value.int = ys.map Value.int) : xs = ys := (List.map_inj_right (fun a b e => by injection e)).mp h
theorem efOf {m : MethodId} {args : Array Value} {n : Nat} {Ls : List Slot} (h : Jvm.Sym.laidSlots args.toList ++ List.replicate (n - (Jvm.Sym.laidSlots args.toList).length) .unset = Ls) : entryFrame m args n = mkF m 0 ⟨Ls⟩ [] := by
  have : argsToLocals args n = ⟨Ls⟩ := Array.toList_inj.mp (by rw [Jvm.Sym.argsToLocals_toList]; exact h)
  unfold entryFrame
  rw [this]
theorem fitO {c : String} {v : Value} (h : v.isRef = true) : fits (.object c) v = true := by cases v <;> first | rfl | exact Bool.noConfusion h
theorem fitA {c : FieldType} {v : Value} (h : v.isRef = true) : fits (.array c) v = true := by cases v <;> first | rfl | exact Bool.noConfusion h
theorem narO {c : String} {v : Value} : narrow (.object c) v = v := by cases v <;> rfl
theorem narA {c : FieldType} {v : Value} : narrow (.array c) v = v := by cases v <;> rfl
theorem staOf {Z : State} {args a0 : Array Value} {C n d K : String} (h : (Jvm.Cond.exactly (Term.static C n d) K).value args Z none Z [] = some true) (hi : (Jvm.Cond.initialized C).before a0 Z = true) (hl : (Jvm.Cond.laysStatic C n d).before a0 Z = true) : ∃ a : Addr, Sta Z Z.heap C n d (.ref a) ∧ Exa Z Z.heap a K := by
  obtain ⟨a, ev⟩ := exa_v h
  exact ⟨a, Sta.start (args := args) ev (Or.inr ⟨hi, hl⟩), Exa.start ev h⟩
theorem compact {Z : State} {args : Array Value} (h1 : (Jvm.Cond.initializedFor "java/lang/String" "COMPACT_STRINGS" "Z").before args Z = true) (h2 : (Jvm.Cond.isInt (Term.static "java/lang/String" "COMPACT_STRINGS" "Z")).before args Z = true) (h3 : (Jvm.Cond.not (Jvm.Cond.eq (Term.static "java/lang/String" "COMPACT_STRINGS" "Z") (.int 0))).before args Z = true) : ∃ z, z ≠ (0 : Int32) ∧ Sta Z Z.heap "java/lang/String" "COMPACT_STRINGS" "Z" (.int z) := by
  obtain ⟨z, ev⟩ := is_v (Cond.before_iff.mp h2)
  refine ⟨z, fun e => ?_, Sta.start (args := args) ev (Or.inl h1)⟩
  have h := not_v (Cond.before_iff.mp h3)
  rw [eq_i ev (Term.int_eval 0) (by rw [e])] at h
  cases h
theorem staI {Z : State} {args : Array Value} {C n d : String} {z : Int32} (h1 : (Jvm.Cond.initializedFor C n d).before args Z = true) (h2 : (Jvm.Cond.eq (Term.static C n d) (.int z)).before args Z = true) : Sta Z Z.heap C n d (.int z) := by
  have h := Cond.before_iff.mp h2
  obtain ⟨x, y, ex, ey, kx, -⟩ := cmp_v (Or.inl h)
  cases (Term.int_eval z).symm.trans ey
  have e : x = .int z := by
    have q := h
    cases x with
    | int w =>
      simp only [Jvm.Cond.value, ex, Term.int_eval, Option.some.injEq, decide_eq_true_eq] at q
      rw [q]
    | long _ => obtain ⟨_, kx⟩ := kx; cases kx
    | float _ => obtain ⟨_, kx⟩ := kx; cases kx
    | double _ => obtain ⟨_, kx⟩ := kx; cases kx
    | _ => exact Bool.noConfusion kx.2
  subst e
  exact Sta.start (args := args) ex (Or.inl h1)
theorem nar8 (x : Int32) : nar .byte x.toInt8.toInt32 = x.toInt8.toInt32 := by simp [nar]
/-! numbers -/
theorem nchar_mask (x : Int32) : nar .char (x &&& 255) = x &&& 255 := i2c_mask x
theorem mask_lat (x : Int32) : 0 ≤ (x &&& 255).toInt ∧ (x &&& 255).toInt < 256 := by
  have := c_and x 255 (by decide)
  have e : (255 : Int32).toInt = 255 := by decide
  omega
theorem remR (x : Int32) (k : Int32) (d : Int) (hx : 0 ≤ x.toInt) (hd : k.toInt = d) (hk : 0 < d) : 0 ≤ (x % k).toInt ∧ (x % k).toInt < d := by
  have := (c_iremV x k).1 hx (by omega)
  omega
theorem maskR (x : Int32) : 0 ≤ (x &&& 2147483647).toInt := (c_and x 2147483647 (by decide)).1
theorem lit32 {x : Int32} {n : Int} (h : x.toInt = n) (m : Int32) (hm : m.toInt = n) : x = m := Int32.toInt_inj.mp (h.trans hm.symm)
theorem rem4 (x : Int32) : (x &&& 2147483647) % 4 = 0 ∨ (x &&& 2147483647) % 4 = 1 ∨ (x &&& 2147483647) % 4 = 2 ∨ (x &&& 2147483647) % 4 = 3 := by
  have h := remR (x &&& 2147483647) 4 4 (maskR x) (by decide) (by decide)
  generalize (x &&& 2147483647) % 4 = r at *
  have h4 : r.toInt = 0 ∨ r.toInt = 1 ∨ r.toInt = 2 ∨ r.toInt = 3 := by omega
  rcases h4 with h | h | h | h
  · exact Or.inl (lit32 h 0 (by decide))
  · exact Or.inr (Or.inl (lit32 h 1 (by decide)))
  · exact Or.inr (Or.inr (Or.inl (lit32 h 2 (by decide))))
  · exact Or.inr (Or.inr (Or.inr (lit32 h 3 (by decide))))
theorem pw0 : ((2 ^ 0 : Nat) : Int) = 1 := rfl
theorem pw1 : ((2 ^ 1 : Nat) : Int) = 2 := rfl
theorem pw8 : ((2 ^ 8 : Nat) : Int) = 256 := rfl
theorem pw31 : ((2 ^ 31 : Nat) : Int) = 2147483648 := rfl
theorem n32 {n : Nat} (h : n < 2 ^ 31) : n.toInt32.toInt = n := len_toInt h
theorem n32_nn {n : Nat} (h : n < 2 ^ 31) : ¬ n.toInt32 < 0 := by rw [Int32.lt_iff_toInt_lt, n32 h]; show ¬ (n : Int) < 0; omega
theorem n32_nat {n : Nat} (h : n < 2 ^ 31) : n.toInt32.toNatClampNeg = n := by simp only [Int32.toNatClampNeg, n32 h]; rfl
theorem n32_lt {i n : Nat} (hi : i < 2 ^ 31) (hn : n < 2 ^ 31) : i.toInt32 < n.toInt32 ↔ i < n := by rw [Int32.lt_iff_toInt_lt, n32 hi, n32 hn]; omega
theorem n32_inj {i n : Nat} (hi : i < 2 ^ 31) (hn : n < 2 ^ 31) : i.toInt32 = n.toInt32 ↔ i = n := by rw [← Int32.toInt_inj, n32 hi, n32 hn]; omega
theorem n32_succ (i : Nat) : i.toInt32 + 1 = (i + 1).toInt32 := (Int32.ofNat_add i 1).symm
end Jvm.OwnW
namespace Jvm.OwnW
open Jvm Jvm.ClassFile Sem Op Lib Jvm.Free Jvm.Stand Jvm.LawKit Jvm.RoadKit
theorem Inv.keep {Z : State} {EL : List (String × Nat)} {vm : Vm} {h h' : Heap} {L : Store} {b : Addr} {P P' : Cell → Prop} {c : Cell} (I : Inv Z EL vm h ((b, true, P) :: L)) (K : Keep h h' [b]) (hc : h'[b]? = some c) (hP : P' c) : Inv Z EL vm h' ((b, true, P') :: L) := by
  obtain ⟨h1, h2, h3, h4, h5⟩ := I
  have hs := (h4 _ (List.mem_cons_self ..) rfl)
  have hsafe : ∀ x ∈ [b], Safe Z EL vm h x := fun x hx => by cases List.mem_singleton.mp hx; exact hs.2
  rw [List.pairwise_cons] at h5
  refine ⟨⟨Nat.le_trans h1.1 K.1, fun x c q => K.2.1 x c (h1.2 x c q) fun hx => ?_⟩, h2.keep K hsafe, fun o ho => ?_, fun o ho q => ?_, List.pairwise_cons.mpr ⟨fun o ho q => h5.1 o ho q, h5.2⟩⟩
  · cases List.mem_singleton.mp hx
    exact absurd (Array.getElem?_eq_some_iff.mp q).1 (Nat.not_lt.mpr hs.1)
  · rcases List.mem_cons.mp ho with rfl | ho
    · exact ⟨c, hc, hP⟩
    · obtain ⟨c1, q1, q2⟩ := h3 o (List.mem_cons_of_mem _ ho)
      exact ⟨c1, K.2.1 _ _ q1 fun hx => h5.1 o ho (Or.inl rfl) (List.mem_singleton.mp hx).symm, q2⟩
  · rcases List.mem_cons.mp ho with rfl | ho
    · exact ⟨hs.1, Safe.keep K hsafe h2 hs.2⟩
    · have q2 := h4 o (List.mem_cons_of_mem _ ho) q
      exact ⟨q2.1, Safe.keep K hsafe h2 q2.2⟩
theorem arv_of_ar {Z : State} {h : Heap} {a : Addr} {ty : FieldType} {vs : List Value} {c : Cell} (d : Value) (hc : h[a]? = some c) (A : AR Z ty vs c) (hf : ∀ v ∈ vs, fits ty v = true) : Arv Z h a c.cls ty vs.length.toInt32 vs d := by
  refine ⟨c, A.arr hc, rfl, by rw [A.size, n32_nat A.2.2.2], n32_nn A.2.2.2, fun k hk => ?_, fun i hi => ?_⟩
  · rw [A.size] at hk
    rw [A.get (List.getElem?_eq_getElem hk), List.getD_eq_getElem?_getD, List.getElem?_eq_getElem hk]; rfl
  · rw [A.size] at hi
    rw [List.getD_eq_getElem?_getD, List.getElem?_eq_getElem hi]
    exact hf _ (List.getElem_mem hi)
theorem range_take {vs : List Value} {s n : Nat} {d : Value} (h : s + n ≤ vs.length) : ((List.range n).map fun i => vs.getD (s + i) d) = (vs.drop s).take n := by
  apply List.ext_getElem
  · simp; omega
  · intro i h1 h2
    simp only [List.length_map, List.length_range] at h1
    have : s + i < vs.length := by omega
    simp [List.getD_eq_getElem?_getD, List.getElem?_eq_getElem this]
section Rules4
variable {l : Launch} {Z : State} {a0 : Array Value} {EL : List (String × Nat)} {y : MethodName} {bytes : ByteArray} {mx : Nat} {ret : Option FieldType} {R : Room} {Q Q' : Option Value → Store → Prop} {L L0 L' : Store} {cb sb pc q q' : Nat} {Ls Ls' : List Slot} {St rest : List Value}
/-- System.arraycopy between two byte arrays -/
theorem Wk.arraycopyB {i : Nat} (W sN dN nN : Nat) (vs' : List Value) {sp dp nn : Int32} {a b : Addr} {fa : Bool} {va vd : List Value} (hd : decode bytes pc = .ok (.invokestatic i, 3)) (hq : pc + 3 = q) (w1 : (Jvm.Cond.methodLink y.cls i Jvm.Stand.acN).before a0 Z = true) (w2 : (Jvm.Cond.native Jvm.Stand.acN).before a0 Z = true) (w3 : (Jvm.Cond.static Jvm.Stand.acN).before a0 Z = true) (w4 : (Jvm.Cond.initialized "java/lang/System").before a0 Z = true)
    (hm : Ex L (b, true, AR Z .byte vd) L0) (ha : (a, fa, AR Z .byte va) ∈ L0) (hfa : ∀ v ∈ va, fits .byte v = true) (hfd : ∀ v ∈ vd, fits .byte v = true) (h1 : ¬ sp < 0 ∧ sp.toNatClampNeg = sN) (h2 : ¬ dp < 0 ∧ dp.toNatClampNeg = dN) (h3 : ¬ nn < 0 ∧ nn.toNatClampNeg = nN) (h4 : sN + nN ≤ va.length) (h5 : dN + nN ≤ vd.length) (hv : vd.take dN ++ (va.drop sN).take nN ++ vd.drop (dN + nN) = vs')
    (hz : Ls.length = mx) (hf : 1 ≤ R.frames) (hW : (St.map fun v => v.category).sum = W) (hlo : W + (nativeFrameWords "java/lang/System" "arraycopy" 5 + 11) ≤ R.locals) (k : Wk l Z a0 EL y bytes mx ret R Q ((b, true, AR Z .byte vs') :: L0) cb sb q Ls St) : Wk l Z a0 EL y bytes mx ret R Q L cb sb pc Ls (.int nn :: .int dp :: .ref b :: .int sp :: .ref a :: St) := by
  subst hq hv
  obtain ⟨h1, rfl⟩ := h1
  obtain ⟨h2, rfl⟩ := h2
  obtain ⟨h3, rfl⟩ := h3
  refine Wk.pull hm ?_
  intro p e s m args below meth c T vm0 k0 locs cells slots hx hby hmx hret hlk hnm hown hkn X hS hk hZ hE hI hF hc hs
  obtain ⟨cd, d1, d2⟩ := hI.at_ (List.mem_cons_self ..)
  obtain ⟨cs, s1, s2⟩ := hI.at_ (List.mem_cons_of_mem _ ha)
  have A := arv_of_ar (.int 0) s1 s2 hfa
  have B := arv_of_ar (.int 0) d1 d2 hfd
  have la := n32_nat s2.2.2.2
  have ld := n32_nat d2.2.2.2
  obtain ⟨T', h', L2, X', rfl, N, K, B', st⟩ := cpA X hx hZ hown w1 w2 w3 w4 rfl A B (Or.inl ⟨rfl, rfl⟩) h1 h2 h3 (by rw [la]; exact h4) (by rw [ld]; exact h5) (range_take h4).symm h5 hF (hI.2.2.2.1 _ (List.mem_cons_self ..) rfl).1 (g := mkF m pc ⟨Ls⟩ (.int nn :: .int dp :: .ref b :: .int sp :: .ref a :: St)) rfl (by rw [hmx]; simpa using hz) rfl (hb hby hd) hf (W := W) (by show 2 * 0 + _ ≤ _; rw [hW]; omega) hlo
  obtain ⟨c', e1, e2⟩ := ar_of_arv B' (by rw [ld]; simp; omega)
  obtain ⟨fin, v, Lc, L', q1, r⟩ := k p e s m args below meth c T' vm0 k0 L2 cells slots hx hby hmx hret hlk hnm hown hkn X' hS (Nat.le_trans hk K.1) hZ hE (hI.keep K e1 e2) N hc hs
  exact ⟨fin, v, Lc, L', st _ q1, r⟩
end Rules4
end Jvm.OwnW
namespace Jvm.OwnW
open Jvm Jvm.ClassFile Sem Op Lib Jvm.Free Jvm.Stand Jvm.LawKit Jvm.RoadKit
theorem selOwn {Z : State} {a0 : Array Value} {y0 : MethodName} {C : String} (hy : y0.cls ≠ "java/lang/invoke/MethodHandle" ∧ y0.cls ≠ "java/lang/invoke/VarHandle") (w : (Jvm.Cond.selects C y0 y0).before a0 Z = true) (wp : (Jvm.Cond.privateMethod y0).before a0 Z = true) : (Jvm.Cond.selects y0.cls y0 y0).before a0 Z = true := by
  obtain ⟨c, r, m, -, q2, q3, -, k, q5, q6⟩ := Cond.selects_spec w
  have hf := State.methodFound?_of_named q3 hy
  have hc := findClass_of_methodNamed q3
  have hp := Cond.privateMethod_at wp
  cases hm : Z.vm.method? m with
  | none => simp [Cond.before, Cond.holds, Cond.value, q3, hm] at wp
  | some meth =>
    have hs : selectMethod {} Z.vm m.cls m = .method m := selectMethod_private hm (hp m meth q3 hm)
    simp [Cond.before, Cond.holds, Cond.value, hc, hf, q3, hs, q5, q6]
theorem nfCls {Z : State} {a0 : Array Value} {y0 y1 : MethodName} {C : String} (he : y1.cls = y0.cls) (w : (Jvm.Cond.selects C y1 y1).before a0 Z = true) : ∀ s : State, Z.Warmed39 s.vm → NotFace s y0 := fun s hZ r0 h0 => by
  obtain ⟨c, r, m, -, -, q3, -, k, q5, q6⟩ := Cond.selects_spec (mv (args := #[]) (s := s) hZ w)
  have h1 := findClass_of_methodNamed q3
  have h2 := findClass_of_methodNamed h0
  rw [he] at h1
  exact ⟨k, by rw [← Option.some.inj (h1.symm.trans h2)]; exact q5, q6⟩
theorem sameOwn {Z : State} {a0 : Array Value} {y0 : MethodName} (hy : y0.cls ≠ "java/lang/invoke/MethodHandle" ∧ y0.cls ≠ "java/lang/invoke/VarHandle") (wi : (Jvm.Cond.instanceMethod y0).before a0 Z = true) (nf : ∀ s : State, Z.Warmed39 s.vm → NotFace s y0) : (Jvm.Cond.sameMethod y0.cls y0.cls y0.name y0.desc).before a0 Z = true := by
  obtain ⟨mk, meth, hn, -, -, -⟩ := Cond.instanceMethod_spec wi
  have hf := State.methodFound?_of_named hn hy
  have hc := findClass_of_methodNamed hn
  obtain ⟨k, h1, h2⟩ := nf Z (State.Warmed39.refl Z) mk hn
  have hn' : Z.methodNamed? ⟨y0.cls, y0.name, y0.desc⟩ = some mk := hn
  simp [Cond.before, Cond.holds, Cond.value, hc, hf, hn', h1, h2]
section Rules5
variable {l : Launch} {Z : State} {a0 : Array Value} {EL : List (String × Nat)} {y : MethodName} {bytes : ByteArray} {mx : Nat} {ret : Option FieldType} {R : Room} {Q Q' : Option Value → Store → Prop} {L L0 L' : Store} {cb sb pc q q' : Nat} {Ls Ls' : List Slot} {St rest : List Value} {y' : MethodName} {b' : ByteArray} {mx' : Nat} {ret' : Option FieldType} {rm : Room} {i : Nat}
/-- a private method of the receiver's class or of one above -/
theorem Wk.priv {a : Addr} {fl : Bool} {C C' : String} {lay : Lay} {vs : List Value} (argsL rest : List Value) (W : Nat) {na : Nat} (hd : decode bytes pc = .ok (.invokevirtual i, 3)) (hq : pc + 3 = q) (w1 : (Jvm.Cond.methodLink y.cls i y').before a0 Z = true) (w4 : (Jvm.Cond.instanceMethod y').before a0 Z = true) (w3 : (Jvm.Cond.selects C' y' y').before a0 Z = true) (w5 : (Jvm.Cond.privateMethod y').before a0 Z = true) (wz : (Jvm.Cond.initialized y'.cls).before a0 Z = true) (wc : (Jvm.Cond.code y' b' mx' ret').before a0 Z = true)
    (har : XT.arity y'.desc = some na) (hy : y'.cls ≠ "java/lang/invoke/MethodHandle" ∧ y'.cls ≠ "java/lang/invoke/VarHandle") (hm : (a, fl, OB Z C lay vs) ∈ L)
    (hst : St = argsL.reverse ++ .ref a :: rest) (hna : argsL.length = na) (hW : (rest.map fun v => v.category).sum = W) (hz : Ls.length = mx) (hC : Ct l Z EL y' b' mx' ret' rm (.ref a :: argsL).toArray L Q') (hf : rm.frames + 1 ≤ R.frames) (hl : W + (mx' + 11) + rm.locals ≤ R.locals) (hcb : rm.cells ≤ cb) (hsb : rm.slots ≤ sb)
    (k : ∀ v L', Q' v L' → Wk l Z a0 EL y bytes mx ret R Q L' (cb - rm.cells) (sb - rm.slots) q Ls (v.toList ++ rest)) : Wk l Z a0 EL y bytes mx ret R Q L cb sb pc Ls St := by
  subst hq hst
  refine Wk.call (len := 3) hC wc wz hf hl hcb hsb (fun {p e s m args below meth c T vm0 locs cells slots Pre Post} hx hby hmx hown hZ hI X hK hpre => ?_) k
  obtain ⟨cl, e1, e2⟩ := hI.at_ hm
  have hob : ∀ q, cl.vm ≠ .statics q := fun q e => by
    obtain ⟨_, _, _, x3, _⟩ := e2.1
    rw [e] at x3; cases x3
  exact X.privateBackS hx hown (mv (s := s.setVm vm0) hZ w1) (mv (s := s.setVm vm0) hZ w4) (mv (s := s.setVm vm0) hZ (selOwn hy w3 w5)) (Cond.privateMethod_at (args := args) (mv (s := s.setVm vm0) hZ w5)) (mv (s := s.setVm vm0) hZ wc) hy hK (g := mkF m pc ⟨Ls⟩ (argsL.reverse ++ .ref a :: rest)) rfl (by rw [hmx]; simpa using hz) (Steps.refl _) e1 hob (XT.arity_len har hna) rfl (by show 2 * 0 + _ ≤ _; rw [hW]; omega) (hb hby hd) hpre
/-- a method of the class above -/
theorem Wk.up {a : Addr} {fl : Bool} {C K : String} {lay : Lay} {vs : List Value} (argsL rest : List Value) (W : Nat) {na : Nat} (hd : decode bytes pc = .ok (.invokespecial i, 3)) (hq : pc + 3 = q) (w1 : (Jvm.Cond.methodLink y.cls i y').before a0 Z = true) (w2 : (Jvm.Cond.instanceMethod y').before a0 Z = true) (w3 : (Jvm.Cond.superclass y.cls y'.cls).before a0 Z = true) (hn : y'.name ≠ "<init>") (wk : (Jvm.Cond.castable C K).before a0 Z = true) (wz : (Jvm.Cond.initialized y'.cls).before a0 Z = true) (wc : (Jvm.Cond.code y' b' mx' ret').before a0 Z = true)
    (har : XT.arity y'.desc = some na) (hy : y'.cls ≠ "java/lang/invoke/MethodHandle" ∧ y'.cls ≠ "java/lang/invoke/VarHandle") (nf : ∀ s : State, Z.Warmed39 s.vm → NotFace s y') (hm : (a, fl, OB Z C lay vs) ∈ L)
    (hst : St = argsL.reverse ++ .ref a :: rest) (hna : argsL.length = na) (hW : (rest.map fun v => v.category).sum = W) (hz : Ls.length = mx) (hC : Ct l Z EL y' b' mx' ret' rm (.ref a :: argsL).toArray L Q') (hf : rm.frames + 1 ≤ R.frames) (hl : W + (mx' + 11) + rm.locals ≤ R.locals) (hcb : rm.cells ≤ cb) (hsb : rm.slots ≤ sb)
    (k : ∀ v L', Q' v L' → Wk l Z a0 EL y bytes mx ret R Q L' (cb - rm.cells) (sb - rm.slots) q Ls (v.toList ++ rest)) : Wk l Z a0 EL y bytes mx ret R Q L cb sb pc Ls St := by
  subst hq hst
  refine Wk.call (len := 3) hC wc wz hf hl hcb hsb (fun {p e s m args below meth c T vm0 locs cells slots Pre Post} hx hby hmx hown hZ hI X hK hpre => ?_) k
  obtain ⟨cl, e1, e2⟩ := hI.at_ hm
  exact superBackS X hx hZ hown w1 (sameOwn hy w2 nf) w2 w3 hn hK rfl (Ins.of_exa (e2.exa e1) wk) (g := mkF m pc ⟨Ls⟩ (argsL.reverse ++ .ref a :: rest)) rfl (by rw [hmx]; simpa using hz) wc (XT.arity_len har hna) rfl (by show 2 * 0 + _ ≤ _; rw [hW]; omega) (hb hby hd) hpre
/-- a cell of the start, read only -/
theorem Wk.oldC {a : Addr} {c0 : Cell} {P : Cell → Prop} (hc : Z.heap[a]? = some c0) (hP : P c0) (k : Wk l Z a0 EL y bytes mx ret R Q ((a, false, P) :: L) cb sb pc Ls St) : Wk l Z a0 EL y bytes mx ret R Q L cb sb pc Ls St := by
  intro p e s m args below meth c T vm0 k0 locs cells slots hx hby hmx hret hlk hnm hown hkn X hS hk hZ hE hI hF hcc hs
  have hlt : a < Z.heap.size := (Array.getElem?_eq_some_iff.mp hc).1
  exact k p e s m args below meth c T vm0 k0 locs cells slots hx hby hmx hret hlk hnm hown hkn X hS hk hZ hE (hI.old (hI.1.2 _ _ hc) hP (fun x hx' _ e => by subst e; exact absurd hlt (Nat.not_lt.mpr hx'))) hF hcc hs
theorem Wk.instanceof_null {i : Nat} (hd : decode bytes pc = .ok (.instanceof i, 3)) (hq : pc + 3 = q) (k : Wk l Z a0 EL y bytes mx ret R Q L cb sb q Ls (.int 0 :: St)) : Wk l Z a0 EL y bytes mx ret R Q L cb sb pc Ls (.null :: St) := by
  subst hq
  refine Wk.same (fun {p e s m args below meth c T vm0 locs cells slots} hx hby hmx hown hZ hI X => ?_) k
  exact ⟨T, X, rfl, X.instanceofNull hx (g := mkF m pc ⟨Ls⟩ (.null :: St)) rfl rfl (hb hby hd)⟩
end Rules5
/-- no object of the class C, right below the root S, is one of K -/
theorem noSub {Z : State} {a0 : Array Value} {C S K : String} {n : Nat} (w : (Jvm.Cond.superclass C S).before a0 Z = true) (wr : (Jvm.Cond.noSuperclass S).before a0 Z = true) (wi : (Jvm.Cond.instantiable K n).before a0 Z = true) (hCK : C ≠ K) (hSK : S ≠ K) : ∃ c t, Z.vm.findClass C = some c ∧ Z.vm.findClass K = some t ∧ Z.vm.assignable c t = false := by
  obtain ⟨t, kt, g0, g2, g5, g7, -, -⟩ := Cond.instantiable_spec wi
  obtain ⟨o, ko, r1, r2, r3, -, -⟩ := Cond.noSuperclass_spec wr
  have ne0 := ids_ne r1 g0 hSK
  have ns0 : NS Z S K := ⟨o, t, r1, g0, fun fuel => by
    cases fuel with
    | zero => rfl
    | succ f => simp [Vm.isSubclassAux, ne0, r2, r3]⟩
  obtain ⟨c, t', h0, g0', n3⟩ := NS.step w ns0 hCK
  cases g0.symm.trans g0'
  obtain ⟨p, k, kp, h1, h2, h3, h4, h5, -, h7⟩ := Cond.superclass_spec h0 w
  have ne := ids_ne h0 g0 hCK
  have g7' := (Bool.or_eq_false_iff.mp g7).1
  refine ⟨c, t, h0, g0, ?_⟩
  show Z.vm.assignableAux (255 + 1) c t = false
  simp [Vm.assignableAux, ne, h2, g2, h5, g5, g7', Vm.isSubclass, n3]
end Jvm.OwnW
namespace Jvm.OwnW
open Jvm Jvm.ClassFile Sem Op Lib Jvm.Free Jvm.Stand Jvm.LawKit Jvm.RoadKit
theorem eqI {Z : State} {args : Array Value} {t : Term} {z : Int32} (h2 : (Jvm.Cond.eq t (.int z)).before args Z = true) : t.eval args Z none [] Z = some (.int z) := by
  have h := Cond.before_iff.mp h2
  obtain ⟨x, y, ex, ey, kx, -⟩ := cmp_v (Or.inl h)
  cases (Term.int_eval z).symm.trans ey
  have e : x = .int z := by
    have q := h
    cases x with
    | int w =>
      simp only [Jvm.Cond.value, ex, Term.int_eval, Option.some.injEq, decide_eq_true_eq] at q
      rw [q]
    | long _ => obtain ⟨_, kx⟩ := kx; cases kx
    | float _ => obtain ⟨_, kx⟩ := kx; cases kx
    | double _ => obtain ⟨_, kx⟩ := kx; cases kx
    | _ => exact Bool.noConfusion kx.2
  rw [ex, e]
theorem arr0 {Z : State} {args : Array Value} {t : Term} {ty : FieldType} (h1 : (Jvm.Cond.arrayOf t ty).before args Z = true) (h2 : (Jvm.Cond.eq (Term.length t) (.int 0)).before args Z = true) : ∃ (a : Addr) (c : Cell), t.eval args Z none [] Z = some (.ref a) ∧ Z.heap[a]? = some c ∧ AR Z ty [] c := by
  have hl := eqI h2
  obtain ⟨a, cell, ev, hat, -⟩ := Term.length_spec hl
  obtain ⟨c, A⟩ := Arr.start ev (Cond.before_iff.mp h1)
  have hc : Z.heap[a]? = some cell := by
    simp only [State.arrayAt?, Option.bind_eq_bind, Option.bind_eq_some_iff] at hat
    obtain ⟨c1, e1, k1, -, e2⟩ := hat
    split at e2
    · cases e2
    · split at e2
      · cases e2; exact e1
      · cases e2
  cases A.1.symm.trans hc
  have hz : cell.slots.size = 0 := by
    simp only [Term.eval, ev, Option.bind_eq_bind, Option.bind_some, hat] at hl
    split at hl
    · rename_i hlt
      have q : cell.slots.size.toInt32 = (0 : Nat).toInt32 := by injection hl with q; injection q
      exact (n32_inj (by omega) (by decide)).mp q
    · cases hl
  exact ⟨a, cell, ev, hc, A.2.1, A.2.2, List.eq_nil_of_length_eq_zero (by simpa using hz), by decide⟩
section Rules6
variable {l : Launch} {Z : State} {a0 : Array Value} {EL : List (String × Nat)} {y : MethodName} {bytes : ByteArray} {mx : Nat} {ret : Option FieldType} {R : Room} {Q Q' : Option Value → Store → Prop} {L L0 L' : Store} {cb sb pc q q' : Nat} {Ls Ls' : List Slot} {St rest : List Value} {y' : MethodName} {b' : ByteArray} {mx' : Nat} {ret' : Option FieldType} {rm : Room} {i : Nat}
theorem Wk.tsw_in {dflt low high : Int} {offs : Array Int} {len : Nat} {o : Int} {u : Int32} (hd : decode bytes pc = .ok (.tableswitch dflt low high offs, len)) (hin : ¬ (u.toInt < low ∨ u.toInt > high)) (hoff : offs[(u.toInt - low).toNat]? = some o) (ho : 0 ≤ (pc : Int) + o) (hp : ((pc : Int) + o).toNat = q) (k : Wk l Z a0 EL y bytes mx ret R Q L cb sb q Ls St) : Wk l Z a0 EL y bytes mx ret R Q L cb sb pc Ls (.int u :: St) :=
  Wk.pure (fun X hx hby r => XS.tswIn X hx rfl rfl (hb hby hd) rfl hin hoff ho hp r) k
theorem Wk.tsw_out {dflt low high : Int} {offs : Array Int} {len : Nat} {u : Int32} (hd : decode bytes pc = .ok (.tableswitch dflt low high offs, len)) (hout : u.toInt < low ∨ u.toInt > high) (ho : 0 ≤ (pc : Int) + dflt) (hp : ((pc : Int) + dflt).toNat = q) (k : Wk l Z a0 EL y bytes mx ret R Q L cb sb q Ls St) : Wk l Z a0 EL y bytes mx ret R Q L cb sb pc Ls (.int u :: St) :=
  Wk.pure (fun X hx hby r => XS.tswOut X hx rfl rfl (hb hby hd) rfl hout ho hp r) k
theorem Wk.getstaticN {i : Nat} {R0 O n d host : String} {v : Value} (hd : decode bytes pc = .ok (.getstatic i, 3)) (hq : pc + 3 = q) (w : (Jvm.Cond.fieldLinkNest y.cls i R0 n d host).before a0 Z = true) (via : Via Z R0 O n d) (F : Sta Z Z.heap O n d v)
    (k : Wk l Z a0 EL y bytes mx ret R Q L cb sb q Ls (v :: St)) : Wk l Z a0 EL y bytes mx ret R Q L cb sb pc Ls St := by
  subst hq
  refine Wk.same (fun {p e s m args below meth c T vm0 locs cells slots} hx hby hmx hown hZ hI X => ?_) k
  exact getS2 (host := host) X hx hZ hown (Or.inr w) via rfl (F.ext hI.1) (g := mkF m pc ⟨Ls⟩ St) rfl (hb hby hd)
theorem Wk.arraylengthR {a : Addr} {fl : Bool} {C : String} {vs : List Value} {u : Int32} (hd : decode bytes pc = .ok (.arraylength, 1)) (hq : pc + 1 = q) (hm : (a, fl, RA Z C vs) ∈ L) (hu : vs.length.toInt32 = u) (k : Wk l Z a0 EL y bytes mx ret R Q L cb sb q Ls (.int u :: St)) : Wk l Z a0 EL y bytes mx ret R Q L cb sb pc Ls (.ref a :: St) := by
  subst hq
  refine Wk.same (fun {p e s m args below meth c T vm0 locs cells slots} hx hby hmx hown hZ hI X => ?_) k
  obtain ⟨cl, e1, e2⟩ := hI.at_ hm
  exact ⟨T, X, rfl, fun target r => X.arraylength hx e1 (State.isArrayOf_alike (T := s.setVm vm0) hZ.alike e2.1.1) (g := mkF m pc ⟨Ls⟩ (.ref a :: St)) rfl rfl (hb hby hd) target (by rw [e2.1.size, hu]; exact r)⟩
theorem mvNM {Z s : State} {a0 args : Array Value} {own host : String} {x : MethodName} {index : Nat} (hZ : Z.Warmed39 s.vm) (w : (Jvm.Cond.methodLinkNest own index x host).before a0 Z = true) : (Jvm.Cond.methodLinkNest own index x host).before args s = true := (Cond.methodLinkNest_wide hZ w :)
theorem Wk.specialN {a : Addr} {host : String} (argsL rest : List Value) (W : Nat) {na : Nat} (hd : decode bytes pc = .ok (.invokespecial i, 3)) (hq : pc + 3 = q) (hy1 : y'.name = "<init>") (w1 : (Jvm.Cond.methodLinkNest y.cls i y' host).before a0 Z = true) (w2 : (Jvm.Cond.instanceMethod y').before a0 Z = true) (wz : (Jvm.Cond.initialized y'.cls).before a0 Z = true) (wc : (Jvm.Cond.code y' b' mx' none).before a0 Z = true) (har : XT.arity y'.desc = some na) (hy : y'.cls ≠ "java/lang/invoke/MethodHandle" ∧ y'.cls ≠ "java/lang/invoke/VarHandle")
    (hst : St = argsL.reverse ++ .ref a :: rest) (hna : argsL.length = na) (hW : (rest.map fun v => v.category).sum = W) (hz : Ls.length = mx) (hC : Ct l Z EL y' b' mx' none rm (.ref a :: argsL).toArray L Q') (hf : rm.frames + 1 ≤ R.frames) (hl : W + (mx' + 11) + rm.locals ≤ R.locals) (hcb : rm.cells ≤ cb) (hsb : rm.slots ≤ sb)
    (k : ∀ v L', Q' v L' → Wk l Z a0 EL y bytes mx ret R Q L' (cb - rm.cells) (sb - rm.slots) q Ls (v.toList ++ rest)) : Wk l Z a0 EL y bytes mx ret R Q L cb sb pc Ls St := by
  subst hq hst
  refine Wk.call (len := 3) hC wc wz hf hl hcb hsb (fun {p e s m args below meth c T vm0 locs cells slots Pre Post} hx hby hmx hown hZ hI X hK hpre => ?_) k
  exact X.specialBackNestS hx hy1 hown (mvNM (s := s.setVm vm0) hZ w1) (mv (s := s.setVm vm0) hZ w2) (mv (s := s.setVm vm0) hZ wc) hy hK (g := mkF m pc ⟨Ls⟩ (argsL.reverse ++ .ref a :: rest)) rfl (by rw [hmx]; simpa using hz) (Steps.refl _) (XT.arity_len har hna) rfl (by show 2 * 0 + _ ≤ _; rw [hW]; omega) (hb hby hd) hpre
/-- a made cell is none of the start -/
theorem Wk.apart {a b : Addr} {P : Cell → Prop} (hm : (a, true, P) ∈ L) (hlt : b < Z.heap.size) (k : a ≠ b → Wk l Z a0 EL y bytes mx ret R Q L cb sb pc Ls St) : Wk l Z a0 EL y bytes mx ret R Q L cb sb pc Ls St :=
  Wk.know (fun vm h I e => by have := (I.2.2.2.1 _ hm rfl).1; subst e; exact absurd hlt (Nat.not_lt.mpr this)) k
end Rules6
end Jvm.OwnW
namespace Jvm.Pilot.@@N@@
open Jvm Jvm.ClassFile Sem Op Lib Jvm.Free Jvm.Stand Jvm.LawKit Jvm.RoadKit Jvm.OwnW Bundle Jvm.Pilot.@@N@@.Jvm.D
abbrev EL0 : List (String × Nat) := consts_1
theorem wS {Z : State} {a0 : Array Value} (hw : ∀ d ∈ tables_1, d.before a0 Z = true) : ∀ a ∈ Bundle.stringAtoms, a.before a0 Z = true := by
  intro a ha
  simp only [Bundle.stringAtoms, Bundle.sN, List.mem_cons, List.not_mem_nil, or_false] at ha
  rcases ha with rfl | rfl | rfl | rfl | rfl | rfl | rfl
  · exact (hw _ (List.mem_of_getElem? (i := 7) rfl))
  · exact (hw _ (List.mem_of_getElem? (i := 6) rfl))
  · exact (hw _ (List.mem_of_getElem? (i := 23) rfl))
  · exact (hw _ (List.mem_of_getElem? (i := 33) rfl))
  · exact (hw _ (List.mem_of_getElem? (i := 31) rfl))
  · exact (hw _ (List.mem_of_getElem? (i := 41) rfl))
  · exact (hw _ (List.mem_of_getElem? (i := 42) rfl))
theorem d0_3 : decode jdk_52_method_21_code 3 = .ok (.iload 5, 2) := by decide +kernel
theorem d0_5 : decode jdk_52_method_21_code 5 = .ok (.iload 4, 2) := by decide +kernel
theorem d0_7 : decode jdk_52_method_21_code 7 = .ok (.if_icmp .ge 37, 3) := by decide +kernel
theorem d0_44 : decode jdk_52_method_21_code 44 = .ok (.iload 4, 2) := by decide +kernel
theorem d0_46 : decode jdk_52_method_21_code 46 = .ok (.ireturn, 1) := by decide +kernel
theorem d0_10 : decode jdk_52_method_21_code 10 = .ok (.aload_n 0, 1) := by decide +kernel
theorem d0_11 : decode jdk_52_method_21_code 11 = .ok (.iload_n 1, 1) := by decide +kernel
theorem d0_12 : decode jdk_52_method_21_code 12 = .ok (.caload, 1) := by decide +kernel
theorem d0_13 : decode jdk_52_method_21_code 13 = .ok (.istore 6, 2) := by decide +kernel
theorem d0_15 : decode jdk_52_method_21_code 15 = .ok (.iload 6, 2) := by decide +kernel
theorem d0_17 : decode jdk_52_method_21_code 17 = .ok (.sipush 255, 3) := by decide +kernel
theorem d0_20 : decode jdk_52_method_21_code 20 = .ok (.if_icmp .le 6, 3) := by decide +kernel
theorem d0_26 : decode jdk_52_method_21_code 26 = .ok (.aload_n 2, 1) := by decide +kernel
theorem d0_27 : decode jdk_52_method_21_code 27 = .ok (.iload_n 3, 1) := by decide +kernel
theorem d0_28 : decode jdk_52_method_21_code 28 = .ok (.iload 6, 2) := by decide +kernel
theorem d0_30 : decode jdk_52_method_21_code 30 = .ok (.i2b, 1) := by decide +kernel
theorem d0_31 : decode jdk_52_method_21_code 31 = .ok (.bastore, 1) := by decide +kernel
theorem d0_32 : decode jdk_52_method_21_code 32 = .ok (.iinc 1 1, 3) := by decide +kernel
theorem d0_35 : decode jdk_52_method_21_code 35 = .ok (.iinc 3 1, 3) := by decide +kernel
theorem d0_38 : decode jdk_52_method_21_code 38 = .ok (.iinc 5 1, 3) := by decide +kernel
theorem d0_41 : decode jdk_52_method_21_code 41 = .ok (.goto (-38), 3) := by decide +kernel
theorem ef_ririi_7 (m : MethodId) (x0 : Addr) (x1 : Int32) (x2 : Addr) (x3 : Int32) (x4 : Int32) : entryFrame m #[(.ref x0), (.int x1), (.ref x2), (.int x3), (.int x4)] 7 = mkF m 0 ⟨[.val (.ref x0), .val (.int x1), .val (.ref x2), .val (.int x3), .val (.int x4), .unset, .unset]⟩ [] := by exact efOf rfl
theorem pn_0 : plainName "java/lang/StringUTF16" = true := by first | (simp [plainName, overriddenIn]; done) | decide +kernel
theorem d0_0 : decode jdk_52_method_21_code 0 = .ok (.iconst 0, 1) := by decide +kernel
theorem d0_1 : decode jdk_52_method_21_code 1 = .ok (.istore 5, 2) := by decide +kernel
theorem ef_ri_2 (m : MethodId) (x0 : Addr) (x1 : Int32) : entryFrame m #[(.ref x0), (.int x1)] 2 = mkF m 0 ⟨[.val (.ref x0), .val (.int x1)]⟩ [] := by exact efOf rfl
theorem d1_0 : decode jdk_52_method_15_code 0 = .ok (.iload_n 1, 1) := by decide +kernel
theorem d1_1 : decode jdk_52_method_15_code 1 = .ok (.aload_n 0, 1) := by decide +kernel
theorem d1_2 : decode jdk_52_method_15_code 2 = .ok (.arraylength, 1) := by decide +kernel
theorem d1_3 : decode jdk_52_method_15_code 3 = .ok (.isub, 1) := by decide +kernel
theorem d1_4 : decode jdk_52_method_15_code 4 = .ok (.bipush 31, 2) := by decide +kernel
theorem d1_6 : decode jdk_52_method_15_code 6 = .ok (.iushr, 1) := by decide +kernel
theorem d1_7 : decode jdk_52_method_15_code 7 = .ok (.i2b, 1) := by decide +kernel
theorem d1_8 : decode jdk_52_method_15_code 8 = .ok (.ireturn, 1) := by decide +kernel
theorem ef_rii_6 (m : MethodId) (x0 : Addr) (x1 : Int32) (x2 : Int32) : entryFrame m #[(.ref x0), (.int x1), (.int x2)] 6 = mkF m 0 ⟨[.val (.ref x0), .val (.int x1), .val (.int x2), .unset, .unset, .unset]⟩ [] := by exact efOf rfl
theorem d2_0 : decode jdk_52_method_16_code 0 = .ok (.iload_n 2, 1) := by decide +kernel
theorem d2_1 : decode jdk_52_method_16_code 1 = .ok (.newarray .byte, 2) := by decide +kernel
theorem d2_3 : decode jdk_52_method_16_code 3 = .ok (.astore_n 3, 1) := by decide +kernel
theorem d2_4 : decode jdk_52_method_16_code 4 = .ok (.aload_n 0, 1) := by decide +kernel
theorem d2_5 : decode jdk_52_method_16_code 5 = .ok (.iload_n 1, 1) := by decide +kernel
theorem d2_6 : decode jdk_52_method_16_code 6 = .ok (.aload_n 3, 1) := by decide +kernel
theorem d2_7 : decode jdk_52_method_16_code 7 = .ok (.iconst 0, 1) := by decide +kernel
theorem d2_8 : decode jdk_52_method_16_code 8 = .ok (.iload_n 2, 1) := by decide +kernel
theorem d2_9 : decode jdk_52_method_16_code 9 = .ok (.invokestatic 115, 3) := by decide +kernel
theorem ar_0 : XT.arity "([CI[BII)I" = some 5 := by decide +kernel
theorem d2_12 : decode jdk_52_method_16_code 12 = .ok (.istore 4, 2) := by decide +kernel
theorem d2_14 : decode jdk_52_method_16_code 14 = .ok (.iload 4, 2) := by decide +kernel
theorem d2_16 : decode jdk_52_method_16_code 16 = .ok (.iload_n 2, 1) := by decide +kernel
theorem d2_17 : decode jdk_52_method_16_code 17 = .ok (.if_icmp .eq 40, 3) := by decide +kernel
theorem d2_57 : decode jdk_52_method_16_code 57 = .ok (.aload_n 3, 1) := by decide +kernel
theorem d2_58 : decode jdk_52_method_16_code 58 = .ok (.areturn, 1) := by decide +kernel
theorem ef_rriin_6 (m : MethodId) (x0 : Addr) (x1 : Addr) (x2 : Int32) (x3 : Int32) : entryFrame m #[(.ref x0), (.ref x1), (.int x2), (.int x3), .null] 6 = mkF m 0 ⟨[.val (.ref x0), .val (.ref x1), .val (.int x2), .val (.int x3), .val .null, .unset]⟩ [] := by exact efOf rfl
theorem pn_1 : plainName "java/lang/String" = true := by first | (simp [plainName, overriddenIn]; done) | decide +kernel
theorem d3_0 : decode jdk_42_method_149_code 0 = .ok (.aload_n 0, 1) := by decide +kernel
theorem d3_1 : decode jdk_42_method_149_code 1 = .ok (.invokespecial 1, 3) := by decide +kernel
theorem d3_4 : decode jdk_42_method_149_code 4 = .ok (.iload_n 3, 1) := by decide +kernel
theorem d3_5 : decode jdk_42_method_149_code 5 = .ok (.ifCond .ne 22, 3) := by decide +kernel
theorem d3_27 : decode jdk_42_method_149_code 27 = .ok (.getstatic 38, 3) := by decide +kernel
theorem d3_30 : decode jdk_42_method_149_code 30 = .ok (.ifCond .eq 28, 3) := by decide +kernel
theorem d3_33 : decode jdk_42_method_149_code 33 = .ok (.aload_n 1, 1) := by decide +kernel
theorem d3_34 : decode jdk_42_method_149_code 34 = .ok (.iload_n 2, 1) := by decide +kernel
theorem d3_35 : decode jdk_42_method_149_code 35 = .ok (.iload_n 3, 1) := by decide +kernel
theorem d3_36 : decode jdk_42_method_149_code 36 = .ok (.invokestatic 177, 3) := by decide +kernel
theorem ar_1 : XT.arity "([CII)[B" = some 3 := by decide +kernel
theorem d3_39 : decode jdk_42_method_149_code 39 = .ok (.astore 5, 2) := by decide +kernel
theorem d3_41 : decode jdk_42_method_149_code 41 = .ok (.aload_n 0, 1) := by decide +kernel
theorem d3_42 : decode jdk_42_method_149_code 42 = .ok (.aload 5, 2) := by decide +kernel
theorem d3_44 : decode jdk_42_method_149_code 44 = .ok (.iload_n 3, 1) := by decide +kernel
theorem d3_45 : decode jdk_42_method_149_code 45 = .ok (.invokestatic 47, 3) := by decide +kernel
theorem ar_2 : XT.arity "([BI)B" = some 2 := by decide +kernel
theorem d3_48 : decode jdk_42_method_149_code 48 = .ok (.putfield 15, 3) := by decide +kernel
theorem d3_51 : decode jdk_42_method_149_code 51 = .ok (.aload_n 0, 1) := by decide +kernel
theorem d3_52 : decode jdk_42_method_149_code 52 = .ok (.aload 5, 2) := by decide +kernel
theorem d3_54 : decode jdk_42_method_149_code 54 = .ok (.putfield 9, 3) := by decide +kernel
theorem d3_57 : decode jdk_42_method_149_code 57 = .ok (.return_, 1) := by decide +kernel
theorem ef_rr_2 (m : MethodId) (x0 : Addr) (x1 : Addr) : entryFrame m #[(.ref x0), (.ref x1)] 2 = mkF m 0 ⟨[.val (.ref x0), .val (.ref x1)]⟩ [] := by exact efOf rfl
theorem d4_0 : decode jdk_42_method_3_code 0 = .ok (.aload_n 0, 1) := by decide +kernel
theorem d4_1 : decode jdk_42_method_3_code 1 = .ok (.aload_n 1, 1) := by decide +kernel
theorem d4_2 : decode jdk_42_method_3_code 2 = .ok (.iconst 0, 1) := by decide +kernel
theorem d4_3 : decode jdk_42_method_3_code 3 = .ok (.aload_n 1, 1) := by decide +kernel
theorem d4_4 : decode jdk_42_method_3_code 4 = .ok (.arraylength, 1) := by decide +kernel
theorem d4_5 : decode jdk_42_method_3_code 5 = .ok (.aconst_null, 1) := by decide +kernel
theorem d4_6 : decode jdk_42_method_3_code 6 = .ok (.invokespecial 27, 3) := by decide +kernel
theorem ar_3 : XT.arity "([CIILjava/lang/Void;)V" = some 4 := by decide +kernel
theorem d4_9 : decode jdk_42_method_3_code 9 = .ok (.return_, 1) := by decide +kernel
theorem d3_8 : decode jdk_42_method_149_code 8 = .ok (.aload_n 0, 1) := by decide +kernel
theorem d3_9 : decode jdk_42_method_149_code 9 = .ok (.ldc 7, 2) := by decide +kernel
theorem d3_11 : decode jdk_42_method_149_code 11 = .ok (.getfield 9, 3) := by decide +kernel
theorem d3_14 : decode jdk_42_method_149_code 14 = .ok (.putfield 9, 3) := by decide +kernel
theorem d3_17 : decode jdk_42_method_149_code 17 = .ok (.aload_n 0, 1) := by decide +kernel
theorem d3_18 : decode jdk_42_method_149_code 18 = .ok (.ldc 7, 2) := by decide +kernel
theorem d3_20 : decode jdk_42_method_149_code 20 = .ok (.getfield 15, 3) := by decide +kernel
theorem d3_23 : decode jdk_42_method_149_code 23 = .ok (.putfield 15, 3) := by decide +kernel
theorem d3_26 : decode jdk_42_method_149_code 26 = .ok (.return_, 1) := by decide +kernel
theorem d5_9 : decode jdk_43_method_13_code 9 = .ok (.iload_n 2, 1) := by decide +kernel
theorem d5_10 : decode jdk_43_method_13_code 10 = .ok (.aload_n 0, 1) := by decide +kernel
theorem d5_11 : decode jdk_43_method_13_code 11 = .ok (.arraylength, 1) := by decide +kernel
theorem d5_12 : decode jdk_43_method_13_code 12 = .ok (.if_icmp .ge 20, 3) := by decide +kernel
theorem d5_32 : decode jdk_43_method_13_code 32 = .ok (.iconst 1, 1) := by decide +kernel
theorem d5_33 : decode jdk_43_method_13_code 33 = .ok (.ireturn, 1) := by decide +kernel
theorem d5_15 : decode jdk_43_method_13_code 15 = .ok (.aload_n 0, 1) := by decide +kernel
theorem d5_16 : decode jdk_43_method_13_code 16 = .ok (.iload_n 2, 1) := by decide +kernel
theorem d5_17 : decode jdk_43_method_13_code 17 = .ok (.baload, 1) := by decide +kernel
theorem d5_18 : decode jdk_43_method_13_code 18 = .ok (.aload_n 1, 1) := by decide +kernel
theorem d5_19 : decode jdk_43_method_13_code 19 = .ok (.iload_n 2, 1) := by decide +kernel
theorem d5_20 : decode jdk_43_method_13_code 20 = .ok (.baload, 1) := by decide +kernel
theorem d5_21 : decode jdk_43_method_13_code 21 = .ok (.if_icmp .eq 5, 3) := by decide +kernel
theorem d5_26 : decode jdk_43_method_13_code 26 = .ok (.iinc 2 1, 3) := by decide +kernel
theorem d5_29 : decode jdk_43_method_13_code 29 = .ok (.goto (-20), 3) := by decide +kernel
theorem d5_24 : decode jdk_43_method_13_code 24 = .ok (.iconst 0, 1) := by decide +kernel
theorem d5_25 : decode jdk_43_method_13_code 25 = .ok (.ireturn, 1) := by decide +kernel
theorem ef_rr_3 (m : MethodId) (x0 : Addr) (x1 : Addr) : entryFrame m #[(.ref x0), (.ref x1)] 3 = mkF m 0 ⟨[.val (.ref x0), .val (.ref x1), .unset]⟩ [] := by exact efOf rfl
theorem pn_2 : plainName "java/lang/StringLatin1" = true := by first | (simp [plainName, overriddenIn]; done) | decide +kernel
theorem d5_0 : decode jdk_43_method_13_code 0 = .ok (.aload_n 0, 1) := by decide +kernel
theorem d5_1 : decode jdk_43_method_13_code 1 = .ok (.arraylength, 1) := by decide +kernel
theorem d5_2 : decode jdk_43_method_13_code 2 = .ok (.aload_n 1, 1) := by decide +kernel
theorem d5_3 : decode jdk_43_method_13_code 3 = .ok (.arraylength, 1) := by decide +kernel
theorem d5_4 : decode jdk_43_method_13_code 4 = .ok (.if_icmp .ne 30, 3) := by decide +kernel
theorem d5_34 : decode jdk_43_method_13_code 34 = .ok (.iconst 0, 1) := by decide +kernel
theorem d5_35 : decode jdk_43_method_13_code 35 = .ok (.ireturn, 1) := by decide +kernel
theorem d5_7 : decode jdk_43_method_13_code 7 = .ok (.iconst 0, 1) := by decide +kernel
theorem d5_8 : decode jdk_43_method_13_code 8 = .ok (.istore_n 2, 1) := by decide +kernel
theorem d6_0 : decode jdk_42_method_66_code 0 = .ok (.aload_n 0, 1) := by decide +kernel
theorem d6_1 : decode jdk_42_method_66_code 1 = .ok (.aload_n 1, 1) := by decide +kernel
theorem d6_2 : decode jdk_42_method_66_code 2 = .ok (.if_acmp .ne 5, 3) := by decide +kernel
theorem d6_5 : decode jdk_42_method_66_code 5 = .ok (.iconst 1, 1) := by decide +kernel
theorem d6_6 : decode jdk_42_method_66_code 6 = .ok (.ireturn, 1) := by decide +kernel
theorem d6_7 : decode jdk_42_method_66_code 7 = .ok (.aload_n 1, 1) := by decide +kernel
theorem d6_8 : decode jdk_42_method_66_code 8 = .ok (.instanceof 10, 3) := by decide +kernel
theorem d6_11 : decode jdk_42_method_66_code 11 = .ok (.ifCond .eq 43, 3) := by decide +kernel
theorem d6_14 : decode jdk_42_method_66_code 14 = .ok (.aload_n 1, 1) := by decide +kernel
theorem d6_15 : decode jdk_42_method_66_code 15 = .ok (.checkcast 10, 3) := by decide +kernel
theorem d6_18 : decode jdk_42_method_66_code 18 = .ok (.astore_n 2, 1) := by decide +kernel
theorem d6_19 : decode jdk_42_method_66_code 19 = .ok (.getstatic 38, 3) := by decide +kernel
theorem d6_22 : decode jdk_42_method_66_code 22 = .ok (.ifCond .eq 14, 3) := by decide +kernel
theorem d6_25 : decode jdk_42_method_66_code 25 = .ok (.aload_n 0, 1) := by decide +kernel
theorem d6_26 : decode jdk_42_method_66_code 26 = .ok (.getfield 15, 3) := by decide +kernel
theorem d6_29 : decode jdk_42_method_66_code 29 = .ok (.aload_n 2, 1) := by decide +kernel
theorem d6_30 : decode jdk_42_method_66_code 30 = .ok (.getfield 15, 3) := by decide +kernel
theorem d6_33 : decode jdk_42_method_66_code 33 = .ok (.if_icmp .ne 21, 3) := by decide +kernel
theorem d6_36 : decode jdk_42_method_66_code 36 = .ok (.aload_n 0, 1) := by decide +kernel
theorem d6_37 : decode jdk_42_method_66_code 37 = .ok (.getfield 9, 3) := by decide +kernel
theorem d6_40 : decode jdk_42_method_66_code 40 = .ok (.aload_n 2, 1) := by decide +kernel
theorem d6_41 : decode jdk_42_method_66_code 41 = .ok (.getfield 9, 3) := by decide +kernel
theorem d6_44 : decode jdk_42_method_66_code 44 = .ok (.invokestatic 541, 3) := by decide +kernel
theorem ar_4 : XT.arity "([B[B)Z" = some 2 := by decide +kernel
theorem d6_47 : decode jdk_42_method_66_code 47 = .ok (.ifCond .eq 7, 3) := by decide +kernel
theorem d6_50 : decode jdk_42_method_66_code 50 = .ok (.iconst 1, 1) := by decide +kernel
theorem d6_51 : decode jdk_42_method_66_code 51 = .ok (.goto 4, 3) := by decide +kernel
theorem d6_55 : decode jdk_42_method_66_code 55 = .ok (.ireturn, 1) := by decide +kernel
theorem d6_54 : decode jdk_42_method_66_code 54 = .ok (.iconst 0, 1) := by decide +kernel
theorem ef_r_1 (m : MethodId) (x0 : Addr) : entryFrame m #[(.ref x0)] 1 = mkF m 0 ⟨[.val (.ref x0)]⟩ [] := by exact efOf rfl
theorem d7_0 : decode jdk_42_method_152_code 0 = .ok (.getstatic 38, 3) := by decide +kernel
theorem d7_3 : decode jdk_42_method_152_code 3 = .ok (.ifCond .eq 10, 3) := by decide +kernel
theorem d7_6 : decode jdk_42_method_152_code 6 = .ok (.aload_n 0, 1) := by decide +kernel
theorem d7_7 : decode jdk_42_method_152_code 7 = .ok (.getfield 15, 3) := by decide +kernel
theorem d7_10 : decode jdk_42_method_152_code 10 = .ok (.goto 4, 3) := by decide +kernel
theorem d7_14 : decode jdk_42_method_152_code 14 = .ok (.ireturn, 1) := by decide +kernel
theorem d8_0 : decode jdk_42_method_54_code 0 = .ok (.aload_n 0, 1) := by decide +kernel
theorem d8_1 : decode jdk_42_method_54_code 1 = .ok (.getfield 9, 3) := by decide +kernel
theorem d8_4 : decode jdk_42_method_54_code 4 = .ok (.arraylength, 1) := by decide +kernel
theorem d8_5 : decode jdk_42_method_54_code 5 = .ok (.aload_n 0, 1) := by decide +kernel
theorem d8_6 : decode jdk_42_method_54_code 6 = .ok (.invokevirtual 335, 3) := by decide +kernel
theorem ar_5 : XT.arity "()B" = some 0 := by decide +kernel
theorem d8_9 : decode jdk_42_method_54_code 9 = .ok (.ishr, 1) := by decide +kernel
theorem d8_10 : decode jdk_42_method_54_code 10 = .ok (.ireturn, 1) := by decide +kernel
theorem d9_0 : decode jdk_42_method_154_code 0 = .ok (.getstatic 38, 3) := by decide +kernel
theorem d9_3 : decode jdk_42_method_154_code 3 = .ok (.ifCond .eq 14, 3) := by decide +kernel
theorem d9_6 : decode jdk_42_method_154_code 6 = .ok (.aload_n 0, 1) := by decide +kernel
theorem d9_7 : decode jdk_42_method_154_code 7 = .ok (.getfield 15, 3) := by decide +kernel
theorem d9_10 : decode jdk_42_method_154_code 10 = .ok (.ifCond .ne 7, 3) := by decide +kernel
theorem d9_13 : decode jdk_42_method_154_code 13 = .ok (.iconst 1, 1) := by decide +kernel
theorem d9_14 : decode jdk_42_method_154_code 14 = .ok (.goto 4, 3) := by decide +kernel
theorem d9_18 : decode jdk_42_method_154_code 18 = .ok (.ireturn, 1) := by decide +kernel
theorem d9_17 : decode jdk_42_method_154_code 17 = .ok (.iconst 0, 1) := by decide +kernel
theorem ef_iiv_3 (m : MethodId) (x0 : Int32) (x1 : Int32) (x2 : Value) (h2 : x2.isRef = true) : entryFrame m #[(.int x0), (.int x1), x2] 3 = mkF m 0 ⟨[.val (.int x0), .val (.int x1), .val x2]⟩ [] := by rcases XT.refc h2 with rfl | ⟨_, rfl⟩ <;> exact efOf rfl
theorem pn_3 : plainName "jdk/internal/util/Preconditions" = true := by first | (simp [plainName, overriddenIn]; done) | decide +kernel
theorem d10_0 : decode jdk_41_method_11_code 0 = .ok (.iload_n 0, 1) := by decide +kernel
theorem d10_1 : decode jdk_41_method_11_code 1 = .ok (.ifCond .lt 8, 3) := by decide +kernel
theorem d10_4 : decode jdk_41_method_11_code 4 = .ok (.iload_n 0, 1) := by decide +kernel
theorem d10_5 : decode jdk_41_method_11_code 5 = .ok (.iload_n 1, 1) := by decide +kernel
theorem d10_6 : decode jdk_41_method_11_code 6 = .ok (.if_icmp .lt 10, 3) := by decide +kernel
theorem d10_16 : decode jdk_41_method_11_code 16 = .ok (.iload_n 0, 1) := by decide +kernel
theorem d10_17 : decode jdk_41_method_11_code 17 = .ok (.ireturn, 1) := by decide +kernel
theorem ef_ii_2 (m : MethodId) (x0 : Int32) (x1 : Int32) : entryFrame m #[(.int x0), (.int x1)] 2 = mkF m 0 ⟨[.val (.int x0), .val (.int x1)]⟩ [] := by exact efOf rfl
theorem d11_0 : decode jdk_42_method_155_code 0 = .ok (.iload_n 0, 1) := by decide +kernel
theorem d11_1 : decode jdk_42_method_155_code 1 = .ok (.iload_n 1, 1) := by decide +kernel
theorem d11_2 : decode jdk_42_method_155_code 2 = .ok (.getstatic 1053, 3) := by decide +kernel
theorem d11_5 : decode jdk_42_method_155_code 5 = .ok (.invokestatic 1059, 3) := by decide +kernel
theorem ar_6 : XT.arity "(IILjava/util/function/BiFunction;)I" = some 3 := by decide +kernel
theorem d11_8 : decode jdk_42_method_155_code 8 = .ok (.pop, 1) := by decide +kernel
theorem d11_9 : decode jdk_42_method_155_code 9 = .ok (.return_, 1) := by decide +kernel
theorem d12_0 : decode jdk_43_method_2_code 0 = .ok (.iload_n 1, 1) := by decide +kernel
theorem d12_1 : decode jdk_43_method_2_code 1 = .ok (.aload_n 0, 1) := by decide +kernel
theorem d12_2 : decode jdk_43_method_2_code 2 = .ok (.arraylength, 1) := by decide +kernel
theorem d12_3 : decode jdk_43_method_2_code 3 = .ok (.invokestatic 9, 3) := by decide +kernel
theorem ar_7 : XT.arity "(II)V" = some 2 := by decide +kernel
theorem d12_6 : decode jdk_43_method_2_code 6 = .ok (.aload_n 0, 1) := by decide +kernel
theorem d12_7 : decode jdk_43_method_2_code 7 = .ok (.iload_n 1, 1) := by decide +kernel
theorem d12_8 : decode jdk_43_method_2_code 8 = .ok (.baload, 1) := by decide +kernel
theorem d12_9 : decode jdk_43_method_2_code 9 = .ok (.sipush 255, 3) := by decide +kernel
theorem d12_12 : decode jdk_43_method_2_code 12 = .ok (.iand, 1) := by decide +kernel
theorem d12_13 : decode jdk_43_method_2_code 13 = .ok (.i2c, 1) := by decide +kernel
theorem d12_14 : decode jdk_43_method_2_code 14 = .ok (.ireturn, 1) := by decide +kernel
theorem d13_0 : decode jdk_42_method_56_code 0 = .ok (.aload_n 0, 1) := by decide +kernel
theorem d13_1 : decode jdk_42_method_56_code 1 = .ok (.invokevirtual 492, 3) := by decide +kernel
theorem ar_8 : XT.arity "()Z" = some 0 := by decide +kernel
theorem d13_4 : decode jdk_42_method_56_code 4 = .ok (.ifCond .eq 12, 3) := by decide +kernel
theorem d13_7 : decode jdk_42_method_56_code 7 = .ok (.aload_n 0, 1) := by decide +kernel
theorem d13_8 : decode jdk_42_method_56_code 8 = .ok (.getfield 9, 3) := by decide +kernel
theorem d13_11 : decode jdk_42_method_56_code 11 = .ok (.iload_n 1, 1) := by decide +kernel
theorem d13_12 : decode jdk_42_method_56_code 12 = .ok (.invokestatic 495, 3) := by decide +kernel
theorem ar_9 : XT.arity "([BI)C" = some 2 := by decide +kernel
theorem d13_15 : decode jdk_42_method_56_code 15 = .ok (.ireturn, 1) := by decide +kernel
theorem ef_ririi_8 (m : MethodId) (x0 : Addr) (x1 : Int32) (x2 : Addr) (x3 : Int32) (x4 : Int32) : entryFrame m #[(.ref x0), (.int x1), (.ref x2), (.int x3), (.int x4)] 8 = mkF m 0 ⟨[.val (.ref x0), .val (.int x1), .val (.ref x2), .val (.int x3), .val (.int x4), .unset, .unset, .unset]⟩ [] := by exact efOf rfl
theorem pn_4 : plainName "jdk/internal/util/ArraysSupport" = true := by first | (simp [plainName, overriddenIn]; done) | decide +kernel
theorem d14_0 : decode jdk_48_method_14_code 0 = .ok (.iconst 0, 1) := by decide +kernel
theorem d14_1 : decode jdk_48_method_14_code 1 = .ok (.istore 5, 2) := by decide +kernel
theorem d14_3 : decode jdk_48_method_14_code 3 = .ok (.iload 4, 2) := by decide +kernel
theorem d14_5 : decode jdk_48_method_14_code 5 = .ok (.bipush 7, 2) := by decide +kernel
theorem d14_7 : decode jdk_48_method_14_code 7 = .ok (.if_icmp .le 63, 3) := by decide +kernel
theorem d14_70 : decode jdk_48_method_14_code 70 = .ok (.iload 5, 2) := by decide +kernel
theorem d14_72 : decode jdk_48_method_14_code 72 = .ok (.iload 4, 2) := by decide +kernel
theorem d14_74 : decode jdk_48_method_14_code 74 = .ok (.if_icmp .ge 27, 3) := by decide +kernel
theorem d14_77 : decode jdk_48_method_14_code 77 = .ok (.aload_n 0, 1) := by decide +kernel
theorem d14_78 : decode jdk_48_method_14_code 78 = .ok (.iload_n 1, 1) := by decide +kernel
theorem d14_79 : decode jdk_48_method_14_code 79 = .ok (.iload 5, 2) := by decide +kernel
theorem d14_81 : decode jdk_48_method_14_code 81 = .ok (.iadd, 1) := by decide +kernel
theorem d14_82 : decode jdk_48_method_14_code 82 = .ok (.baload, 1) := by decide +kernel
theorem d14_83 : decode jdk_48_method_14_code 83 = .ok (.aload_n 2, 1) := by decide +kernel
theorem d14_84 : decode jdk_48_method_14_code 84 = .ok (.iload_n 3, 1) := by decide +kernel
theorem d14_85 : decode jdk_48_method_14_code 85 = .ok (.iload 5, 2) := by decide +kernel
theorem d14_87 : decode jdk_48_method_14_code 87 = .ok (.iadd, 1) := by decide +kernel
theorem d14_88 : decode jdk_48_method_14_code 88 = .ok (.baload, 1) := by decide +kernel
theorem d14_89 : decode jdk_48_method_14_code 89 = .ok (.if_icmp .eq 6, 3) := by decide +kernel
theorem d14_95 : decode jdk_48_method_14_code 95 = .ok (.iinc 5 1, 3) := by decide +kernel
theorem d14_98 : decode jdk_48_method_14_code 98 = .ok (.goto (-28), 3) := by decide +kernel
theorem d14_101 : decode jdk_48_method_14_code 101 = .ok (.iconst (-1), 1) := by decide +kernel
theorem d14_102 : decode jdk_48_method_14_code 102 = .ok (.ireturn, 1) := by decide +kernel
theorem d14_92 : decode jdk_48_method_14_code 92 = .ok (.iload 5, 2) := by decide +kernel
theorem d14_94 : decode jdk_48_method_14_code 94 = .ok (.ireturn, 1) := by decide +kernel
theorem pn_5 : plainFor (⟨"java/lang/Math", "min", "(II)I"⟩ : MethodName) = true := by exact Jvm.Free.JP.mathPlain rfl (by decide +kernel)
theorem d15_0 : decode jdk_29_method_69_code 0 = .ok (.iload_n 0, 1) := by decide +kernel
theorem d15_1 : decode jdk_29_method_69_code 1 = .ok (.iload_n 1, 1) := by decide +kernel
theorem d15_2 : decode jdk_29_method_69_code 2 = .ok (.if_icmp .gt 7, 3) := by decide +kernel
theorem d15_9 : decode jdk_29_method_69_code 9 = .ok (.iload_n 1, 1) := by decide +kernel
theorem d15_10 : decode jdk_29_method_69_code 10 = .ok (.ireturn, 1) := by decide +kernel
theorem d15_5 : decode jdk_29_method_69_code 5 = .ok (.iload_n 0, 1) := by decide +kernel
theorem d15_6 : decode jdk_29_method_69_code 6 = .ok (.goto 4, 3) := by decide +kernel
theorem pn_6 : plainName "java/util/Arrays" = true := by first | (simp [plainName, overriddenIn]; done) | decide +kernel
theorem d16_0 : decode jdk_65_method_131_code 0 = .ok (.iload_n 1, 1) := by decide +kernel
theorem d16_1 : decode jdk_65_method_131_code 1 = .ok (.iload_n 0, 1) := by decide +kernel
theorem d16_2 : decode jdk_65_method_131_code 2 = .ok (.if_icmp .ge 35, 3) := by decide +kernel
theorem d16_37 : decode jdk_65_method_131_code 37 = .ok (.return_, 1) := by decide +kernel
theorem ef_rii_5 (m : MethodId) (x0 : Addr) (x1 : Int32) (x2 : Int32) : entryFrame m #[(.ref x0), (.int x1), (.int x2)] 5 = mkF m 0 ⟨[.val (.ref x0), .val (.int x1), .val (.int x2), .unset, .unset]⟩ [] := by exact efOf rfl
theorem d17_0 : decode jdk_65_method_133_code 0 = .ok (.iload_n 1, 1) := by decide +kernel
theorem d17_1 : decode jdk_65_method_133_code 1 = .ok (.iload_n 2, 1) := by decide +kernel
theorem d17_2 : decode jdk_65_method_133_code 2 = .ok (.invokestatic 343, 3) := by decide +kernel
theorem d17_5 : decode jdk_65_method_133_code 5 = .ok (.iload_n 2, 1) := by decide +kernel
theorem d17_6 : decode jdk_65_method_133_code 6 = .ok (.iload_n 1, 1) := by decide +kernel
theorem d17_7 : decode jdk_65_method_133_code 7 = .ok (.isub, 1) := by decide +kernel
theorem d17_8 : decode jdk_65_method_133_code 8 = .ok (.istore_n 3, 1) := by decide +kernel
theorem d17_9 : decode jdk_65_method_133_code 9 = .ok (.iload_n 3, 1) := by decide +kernel
theorem d17_10 : decode jdk_65_method_133_code 10 = .ok (.newarray .byte, 2) := by decide +kernel
theorem d17_12 : decode jdk_65_method_133_code 12 = .ok (.astore 4, 2) := by decide +kernel
theorem d17_14 : decode jdk_65_method_133_code 14 = .ok (.aload_n 0, 1) := by decide +kernel
theorem d17_15 : decode jdk_65_method_133_code 15 = .ok (.iload_n 1, 1) := by decide +kernel
theorem d17_16 : decode jdk_65_method_133_code 16 = .ok (.aload 4, 2) := by decide +kernel
theorem d17_18 : decode jdk_65_method_133_code 18 = .ok (.iconst 0, 1) := by decide +kernel
theorem d17_19 : decode jdk_65_method_133_code 19 = .ok (.aload_n 0, 1) := by decide +kernel
theorem d17_20 : decode jdk_65_method_133_code 20 = .ok (.arraylength, 1) := by decide +kernel
theorem d17_21 : decode jdk_65_method_133_code 21 = .ok (.iload_n 1, 1) := by decide +kernel
theorem d17_22 : decode jdk_65_method_133_code 22 = .ok (.isub, 1) := by decide +kernel
theorem d17_23 : decode jdk_65_method_133_code 23 = .ok (.iload_n 3, 1) := by decide +kernel
theorem d17_24 : decode jdk_65_method_133_code 24 = .ok (.invokestatic 304, 3) := by decide +kernel
theorem ar_10 : XT.arity "(II)I" = some 2 := by decide +kernel
theorem d17_27 : decode jdk_65_method_133_code 27 = .ok (.invokestatic 150, 3) := by decide +kernel
theorem d17_30 : decode jdk_65_method_133_code 30 = .ok (.aload 4, 2) := by decide +kernel
theorem d17_32 : decode jdk_65_method_133_code 32 = .ok (.areturn, 1) := by decide +kernel
theorem ef_rii_3 (m : MethodId) (x0 : Addr) (x1 : Int32) (x2 : Int32) : entryFrame m #[(.ref x0), (.int x1), (.int x2)] 3 = mkF m 0 ⟨[.val (.ref x0), .val (.int x1), .val (.int x2)]⟩ [] := by exact efOf rfl
theorem d18_0 : decode jdk_65_method_132_code 0 = .ok (.iload_n 1, 1) := by decide +kernel
theorem d18_1 : decode jdk_65_method_132_code 1 = .ok (.ifCond .ne 9, 3) := by decide +kernel
theorem d18_10 : decode jdk_65_method_132_code 10 = .ok (.aload_n 0, 1) := by decide +kernel
theorem d18_11 : decode jdk_65_method_132_code 11 = .ok (.iload_n 1, 1) := by decide +kernel
theorem d18_12 : decode jdk_65_method_132_code 12 = .ok (.iload_n 2, 1) := by decide +kernel
theorem d18_13 : decode jdk_65_method_132_code 13 = .ok (.invokestatic 339, 3) := by decide +kernel
theorem ar_11 : XT.arity "([BII)[B" = some 3 := by decide +kernel
theorem d18_16 : decode jdk_65_method_132_code 16 = .ok (.areturn, 1) := by decide +kernel
theorem ef_rri_3 (m : MethodId) (x0 : Addr) (x1 : Addr) (x2 : Int32) : entryFrame m #[(.ref x0), (.ref x1), (.int x2)] 3 = mkF m 0 ⟨[.val (.ref x0), .val (.ref x1), .val (.int x2)]⟩ [] := by exact efOf rfl
theorem d19_0 : decode jdk_42_method_151_code 0 = .ok (.aload_n 0, 1) := by decide +kernel
theorem d19_1 : decode jdk_42_method_151_code 1 = .ok (.invokespecial 1, 3) := by decide +kernel
theorem d19_4 : decode jdk_42_method_151_code 4 = .ok (.aload_n 0, 1) := by decide +kernel
theorem d19_5 : decode jdk_42_method_151_code 5 = .ok (.aload_n 1, 1) := by decide +kernel
theorem d19_6 : decode jdk_42_method_151_code 6 = .ok (.putfield 9, 3) := by decide +kernel
theorem d19_9 : decode jdk_42_method_151_code 9 = .ok (.aload_n 0, 1) := by decide +kernel
theorem d19_10 : decode jdk_42_method_151_code 10 = .ok (.iload_n 2, 1) := by decide +kernel
theorem d19_11 : decode jdk_42_method_151_code 11 = .ok (.putfield 15, 3) := by decide +kernel
theorem d19_14 : decode jdk_42_method_151_code 14 = .ok (.return_, 1) := by decide +kernel
theorem ef_iiiv_4 (m : MethodId) (x0 : Int32) (x1 : Int32) (x2 : Int32) (x3 : Value) (h3 : x3.isRef = true) : entryFrame m #[(.int x0), (.int x1), (.int x2), x3] 4 = mkF m 0 ⟨[.val (.int x0), .val (.int x1), .val (.int x2), .val x3]⟩ [] := by rcases XT.refc h3 with rfl | ⟨_, rfl⟩ <;> exact efOf rfl
theorem d20_0 : decode jdk_41_method_12_code 0 = .ok (.iload_n 0, 1) := by decide +kernel
theorem d20_1 : decode jdk_41_method_12_code 1 = .ok (.ifCond .lt 13, 3) := by decide +kernel
theorem d20_4 : decode jdk_41_method_12_code 4 = .ok (.iload_n 0, 1) := by decide +kernel
theorem d20_5 : decode jdk_41_method_12_code 5 = .ok (.iload_n 1, 1) := by decide +kernel
theorem d20_6 : decode jdk_41_method_12_code 6 = .ok (.if_icmp .gt 8, 3) := by decide +kernel
theorem d20_9 : decode jdk_41_method_12_code 9 = .ok (.iload_n 1, 1) := by decide +kernel
theorem d20_10 : decode jdk_41_method_12_code 10 = .ok (.iload_n 2, 1) := by decide +kernel
theorem d20_11 : decode jdk_41_method_12_code 11 = .ok (.if_icmp .le 11, 3) := by decide +kernel
theorem d20_22 : decode jdk_41_method_12_code 22 = .ok (.iload_n 0, 1) := by decide +kernel
theorem d20_23 : decode jdk_41_method_12_code 23 = .ok (.ireturn, 1) := by decide +kernel
theorem ef_iii_3 (m : MethodId) (x0 : Int32) (x1 : Int32) (x2 : Int32) : entryFrame m #[(.int x0), (.int x1), (.int x2)] 3 = mkF m 0 ⟨[.val (.int x0), .val (.int x1), .val (.int x2)]⟩ [] := by exact efOf rfl
theorem d21_0 : decode jdk_42_method_158_code 0 = .ok (.iload_n 0, 1) := by decide +kernel
theorem d21_1 : decode jdk_42_method_158_code 1 = .ok (.iload_n 1, 1) := by decide +kernel
theorem d21_2 : decode jdk_42_method_158_code 2 = .ok (.iload_n 2, 1) := by decide +kernel
theorem d21_3 : decode jdk_42_method_158_code 3 = .ok (.getstatic 1053, 3) := by decide +kernel
theorem d21_6 : decode jdk_42_method_158_code 6 = .ok (.invokestatic 1062, 3) := by decide +kernel
theorem ar_12 : XT.arity "(IIILjava/util/function/BiFunction;)I" = some 4 := by decide +kernel
theorem d21_9 : decode jdk_42_method_158_code 9 = .ok (.pop, 1) := by decide +kernel
theorem d21_10 : decode jdk_42_method_158_code 10 = .ok (.return_, 1) := by decide +kernel
theorem d22_0 : decode jdk_43_method_47_code 0 = .ok (.iload_n 2, 1) := by decide +kernel
theorem d22_1 : decode jdk_43_method_47_code 1 = .ok (.ifCond .ne 6, 3) := by decide +kernel
theorem d22_4 : decode jdk_43_method_47_code 4 = .ok (.ldc 151, 2) := by decide +kernel
theorem d22_6 : decode jdk_43_method_47_code 6 = .ok (.areturn, 1) := by decide +kernel
theorem d22_7 : decode jdk_43_method_47_code 7 = .ok (.new 1, 3) := by decide +kernel
theorem d22_10 : decode jdk_43_method_47_code 10 = .ok (.dup, 1) := by decide +kernel
theorem d22_11 : decode jdk_43_method_47_code 11 = .ok (.aload_n 0, 1) := by decide +kernel
theorem d22_12 : decode jdk_43_method_47_code 12 = .ok (.iload_n 1, 1) := by decide +kernel
theorem d22_13 : decode jdk_43_method_47_code 13 = .ok (.iload_n 1, 1) := by decide +kernel
theorem d22_14 : decode jdk_43_method_47_code 14 = .ok (.iload_n 2, 1) := by decide +kernel
theorem d22_15 : decode jdk_43_method_47_code 15 = .ok (.iadd, 1) := by decide +kernel
theorem d22_16 : decode jdk_43_method_47_code 16 = .ok (.invokestatic 232, 3) := by decide +kernel
theorem d22_19 : decode jdk_43_method_47_code 19 = .ok (.iconst 0, 1) := by decide +kernel
theorem d22_20 : decode jdk_43_method_47_code 20 = .ok (.invokespecial 112, 3) := by decide +kernel
theorem ar_13 : XT.arity "([BB)V" = some 2 := by decide +kernel
theorem d22_23 : decode jdk_43_method_47_code 23 = .ok (.areturn, 1) := by decide +kernel
theorem d23_0 : decode jdk_42_method_92_code 0 = .ok (.aload_n 0, 1) := by decide +kernel
theorem d23_1 : decode jdk_42_method_92_code 1 = .ok (.invokevirtual 505, 3) := by decide +kernel
theorem ar_14 : XT.arity "()I" = some 0 := by decide +kernel
theorem d23_4 : decode jdk_42_method_92_code 4 = .ok (.istore_n 3, 1) := by decide +kernel
theorem d23_5 : decode jdk_42_method_92_code 5 = .ok (.iload_n 1, 1) := by decide +kernel
theorem d23_6 : decode jdk_42_method_92_code 6 = .ok (.iload_n 2, 1) := by decide +kernel
theorem d23_7 : decode jdk_42_method_92_code 7 = .ok (.iload_n 3, 1) := by decide +kernel
theorem d23_8 : decode jdk_42_method_92_code 8 = .ok (.invokestatic 521, 3) := by decide +kernel
theorem ar_15 : XT.arity "(III)V" = some 3 := by decide +kernel
theorem d23_11 : decode jdk_42_method_92_code 11 = .ok (.iload_n 1, 1) := by decide +kernel
theorem d23_12 : decode jdk_42_method_92_code 12 = .ok (.ifCond .ne 10, 3) := by decide +kernel
theorem d23_22 : decode jdk_42_method_92_code 22 = .ok (.iload_n 2, 1) := by decide +kernel
theorem d23_23 : decode jdk_42_method_92_code 23 = .ok (.iload_n 1, 1) := by decide +kernel
theorem d23_24 : decode jdk_42_method_92_code 24 = .ok (.isub, 1) := by decide +kernel
theorem d23_25 : decode jdk_42_method_92_code 25 = .ok (.istore 4, 2) := by decide +kernel
theorem d23_27 : decode jdk_42_method_92_code 27 = .ok (.aload_n 0, 1) := by decide +kernel
theorem d23_28 : decode jdk_42_method_92_code 28 = .ok (.invokevirtual 492, 3) := by decide +kernel
theorem d23_31 : decode jdk_42_method_92_code 31 = .ok (.ifCond .eq 16, 3) := by decide +kernel
theorem d23_34 : decode jdk_42_method_92_code 34 = .ok (.aload_n 0, 1) := by decide +kernel
theorem d23_35 : decode jdk_42_method_92_code 35 = .ok (.getfield 9, 3) := by decide +kernel
theorem d23_38 : decode jdk_42_method_92_code 38 = .ok (.iload_n 1, 1) := by decide +kernel
theorem d23_39 : decode jdk_42_method_92_code 39 = .ok (.iload 4, 2) := by decide +kernel
theorem d23_41 : decode jdk_42_method_92_code 41 = .ok (.invokestatic 685, 3) := by decide +kernel
theorem ar_16 : XT.arity "([BII)Ljava/lang/String;" = some 3 := by decide +kernel
theorem d23_44 : decode jdk_42_method_92_code 44 = .ok (.goto 13, 3) := by decide +kernel
theorem d23_57 : decode jdk_42_method_92_code 57 = .ok (.areturn, 1) := by decide +kernel
theorem ef_i_1 (m : MethodId) (x0 : Int32) : entryFrame m #[(.int x0)] 1 = mkF m 0 ⟨[.val (.int x0)]⟩ [] := by exact efOf rfl
theorem d24_0 : decode jdk_43_method_3_code 0 = .ok (.iload_n 0, 1) := by decide +kernel
theorem d24_1 : decode jdk_43_method_3_code 1 = .ok (.sipush 255, 3) := by decide +kernel
theorem d24_4 : decode jdk_43_method_3_code 4 = .ok (.if_icmp .gt 7, 3) := by decide +kernel
theorem d24_7 : decode jdk_43_method_3_code 7 = .ok (.iconst 1, 1) := by decide +kernel
theorem d24_8 : decode jdk_43_method_3_code 8 = .ok (.goto 4, 3) := by decide +kernel
theorem d24_12 : decode jdk_43_method_3_code 12 = .ok (.ireturn, 1) := by decide +kernel
theorem d25_0 : decode jdk_43_method_46_code 0 = .ok (.iconst 1, 1) := by decide +kernel
theorem d25_1 : decode jdk_43_method_46_code 1 = .ok (.newarray .byte, 2) := by decide +kernel
theorem d25_3 : decode jdk_43_method_46_code 3 = .ok (.dup, 1) := by decide +kernel
theorem d25_4 : decode jdk_43_method_46_code 4 = .ok (.iconst 0, 1) := by decide +kernel
theorem d25_5 : decode jdk_43_method_46_code 5 = .ok (.iload_n 0, 1) := by decide +kernel
theorem d25_6 : decode jdk_43_method_46_code 6 = .ok (.i2b, 1) := by decide +kernel
theorem d25_7 : decode jdk_43_method_46_code 7 = .ok (.bastore, 1) := by decide +kernel
theorem d25_8 : decode jdk_43_method_46_code 8 = .ok (.areturn, 1) := by decide +kernel
theorem d26_0 : decode jdk_42_method_139_code 0 = .ok (.getstatic 38, 3) := by decide +kernel
theorem d26_3 : decode jdk_42_method_139_code 3 = .ok (.ifCond .eq 23, 3) := by decide +kernel
theorem d26_6 : decode jdk_42_method_139_code 6 = .ok (.iload_n 0, 1) := by decide +kernel
theorem d26_7 : decode jdk_42_method_139_code 7 = .ok (.invokestatic 1015, 3) := by decide +kernel
theorem ar_17 : XT.arity "(C)Z" = some 1 := by decide +kernel
theorem d26_10 : decode jdk_42_method_139_code 10 = .ok (.ifCond .eq 16, 3) := by decide +kernel
theorem d26_13 : decode jdk_42_method_139_code 13 = .ok (.new 10, 3) := by decide +kernel
theorem d26_16 : decode jdk_42_method_139_code 16 = .ok (.dup, 1) := by decide +kernel
theorem d26_17 : decode jdk_42_method_139_code 17 = .ok (.iload_n 0, 1) := by decide +kernel
theorem d26_18 : decode jdk_42_method_139_code 18 = .ok (.invokestatic 1018, 3) := by decide +kernel
theorem ar_18 : XT.arity "(C)[B" = some 1 := by decide +kernel
theorem d26_21 : decode jdk_42_method_139_code 21 = .ok (.iconst 0, 1) := by decide +kernel
theorem d26_22 : decode jdk_42_method_139_code 22 = .ok (.invokespecial 209, 3) := by decide +kernel
theorem d26_25 : decode jdk_42_method_139_code 25 = .ok (.areturn, 1) := by decide +kernel
theorem pn_7 : plainFor (⟨"java/lang/Math", "max", "(II)I"⟩ : MethodName) = true := by exact Jvm.Free.JP.mathPlain rfl (by decide +kernel)
theorem d27_0 : decode jdk_29_method_65_code 0 = .ok (.iload_n 0, 1) := by decide +kernel
theorem d27_1 : decode jdk_29_method_65_code 1 = .ok (.iload_n 1, 1) := by decide +kernel
theorem d27_2 : decode jdk_29_method_65_code 2 = .ok (.if_icmp .lt 7, 3) := by decide +kernel
theorem d27_9 : decode jdk_29_method_65_code 9 = .ok (.iload_n 1, 1) := by decide +kernel
theorem d27_10 : decode jdk_29_method_65_code 10 = .ok (.ireturn, 1) := by decide +kernel
theorem d27_5 : decode jdk_29_method_65_code 5 = .ok (.iload_n 0, 1) := by decide +kernel
theorem d27_6 : decode jdk_29_method_65_code 6 = .ok (.goto 4, 3) := by decide +kernel
theorem d28_0 : decode jdk_43_method_4_code 0 = .ok (.iload_n 0, 1) := by decide +kernel
theorem d28_1 : decode jdk_43_method_4_code 1 = .ok (.ifCond .lt 14, 3) := by decide +kernel
theorem d28_4 : decode jdk_43_method_4_code 4 = .ok (.iload_n 0, 1) := by decide +kernel
theorem d28_5 : decode jdk_43_method_4_code 5 = .ok (.sipush 255, 3) := by decide +kernel
theorem d28_8 : decode jdk_43_method_4_code 8 = .ok (.if_icmp .gt 7, 3) := by decide +kernel
theorem d28_11 : decode jdk_43_method_4_code 11 = .ok (.iconst 1, 1) := by decide +kernel
theorem d28_12 : decode jdk_43_method_4_code 12 = .ok (.goto 4, 3) := by decide +kernel
theorem d28_16 : decode jdk_43_method_4_code 16 = .ok (.ireturn, 1) := by decide +kernel
theorem ef_riii_6 (m : MethodId) (x0 : Addr) (x1 : Int32) (x2 : Int32) (x3 : Int32) : entryFrame m #[(.ref x0), (.int x1), (.int x2), (.int x3)] 6 = mkF m 0 ⟨[.val (.ref x0), .val (.int x1), .val (.int x2), .val (.int x3), .unset, .unset]⟩ [] := by exact efOf rfl
theorem d29_7 : decode jdk_43_method_23_code 7 = .ok (.iload 5, 2) := by decide +kernel
theorem d29_9 : decode jdk_43_method_23_code 9 = .ok (.iload_n 3, 1) := by decide +kernel
theorem d29_10 : decode jdk_43_method_23_code 10 = .ok (.if_icmp .ge 21, 3) := by decide +kernel
theorem d29_31 : decode jdk_43_method_23_code 31 = .ok (.iconst (-1), 1) := by decide +kernel
theorem d29_32 : decode jdk_43_method_23_code 32 = .ok (.ireturn, 1) := by decide +kernel
theorem d29_13 : decode jdk_43_method_23_code 13 = .ok (.aload_n 0, 1) := by decide +kernel
theorem d29_14 : decode jdk_43_method_23_code 14 = .ok (.iload 5, 2) := by decide +kernel
theorem d29_16 : decode jdk_43_method_23_code 16 = .ok (.baload, 1) := by decide +kernel
theorem d29_17 : decode jdk_43_method_23_code 17 = .ok (.iload 4, 2) := by decide +kernel
theorem d29_19 : decode jdk_43_method_23_code 19 = .ok (.if_icmp .ne 6, 3) := by decide +kernel
theorem d29_22 : decode jdk_43_method_23_code 22 = .ok (.iload 5, 2) := by decide +kernel
theorem d29_24 : decode jdk_43_method_23_code 24 = .ok (.ireturn, 1) := by decide +kernel
theorem d29_25 : decode jdk_43_method_23_code 25 = .ok (.iinc 5 1, 3) := by decide +kernel
theorem d29_28 : decode jdk_43_method_23_code 28 = .ok (.goto (-21), 3) := by decide +kernel
theorem d29_0 : decode jdk_43_method_23_code 0 = .ok (.iload_n 1, 1) := by decide +kernel
theorem d29_1 : decode jdk_43_method_23_code 1 = .ok (.i2b, 1) := by decide +kernel
theorem d29_2 : decode jdk_43_method_23_code 2 = .ok (.istore 4, 2) := by decide +kernel
theorem d29_4 : decode jdk_43_method_23_code 4 = .ok (.iload_n 2, 1) := by decide +kernel
theorem d29_5 : decode jdk_43_method_23_code 5 = .ok (.istore 5, 2) := by decide +kernel
theorem ef_riii_4 (m : MethodId) (x0 : Addr) (x1 : Int32) (x2 : Int32) (x3 : Int32) : entryFrame m #[(.ref x0), (.int x1), (.int x2), (.int x3)] 4 = mkF m 0 ⟨[.val (.ref x0), .val (.int x1), .val (.int x2), .val (.int x3)]⟩ [] := by exact efOf rfl
theorem d30_0 : decode jdk_43_method_22_code 0 = .ok (.iload_n 1, 1) := by decide +kernel
theorem d30_1 : decode jdk_43_method_22_code 1 = .ok (.invokestatic 88, 3) := by decide +kernel
theorem ar_19 : XT.arity "(I)Z" = some 1 := by decide +kernel
theorem d30_4 : decode jdk_43_method_22_code 4 = .ok (.ifCond .ne 5, 3) := by decide +kernel
theorem d30_9 : decode jdk_43_method_22_code 9 = .ok (.iload_n 2, 1) := by decide +kernel
theorem d30_10 : decode jdk_43_method_22_code 10 = .ok (.iconst 0, 1) := by decide +kernel
theorem d30_11 : decode jdk_43_method_22_code 11 = .ok (.invokestatic 92, 3) := by decide +kernel
theorem d30_14 : decode jdk_43_method_22_code 14 = .ok (.istore_n 2, 1) := by decide +kernel
theorem d30_15 : decode jdk_43_method_22_code 15 = .ok (.iload_n 3, 1) := by decide +kernel
theorem d30_16 : decode jdk_43_method_22_code 16 = .ok (.aload_n 0, 1) := by decide +kernel
theorem d30_17 : decode jdk_43_method_22_code 17 = .ok (.arraylength, 1) := by decide +kernel
theorem d30_18 : decode jdk_43_method_22_code 18 = .ok (.invokestatic 38, 3) := by decide +kernel
theorem d30_21 : decode jdk_43_method_22_code 21 = .ok (.istore_n 3, 1) := by decide +kernel
theorem d30_22 : decode jdk_43_method_22_code 22 = .ok (.iload_n 2, 1) := by decide +kernel
theorem d30_23 : decode jdk_43_method_22_code 23 = .ok (.iload_n 3, 1) := by decide +kernel
theorem d30_24 : decode jdk_43_method_22_code 24 = .ok (.if_icmp .lt 5, 3) := by decide +kernel
theorem d30_27 : decode jdk_43_method_22_code 27 = .ok (.iconst (-1), 1) := by decide +kernel
theorem d30_28 : decode jdk_43_method_22_code 28 = .ok (.ireturn, 1) := by decide +kernel
theorem d30_29 : decode jdk_43_method_22_code 29 = .ok (.aload_n 0, 1) := by decide +kernel
theorem d30_30 : decode jdk_43_method_22_code 30 = .ok (.iload_n 1, 1) := by decide +kernel
theorem d30_31 : decode jdk_43_method_22_code 31 = .ok (.iload_n 2, 1) := by decide +kernel
theorem d30_32 : decode jdk_43_method_22_code 32 = .ok (.iload_n 3, 1) := by decide +kernel
theorem d30_33 : decode jdk_43_method_22_code 33 = .ok (.invokestatic 95, 3) := by decide +kernel
theorem ar_20 : XT.arity "([BIII)I" = some 4 := by decide +kernel
theorem d30_36 : decode jdk_43_method_22_code 36 = .ok (.ireturn, 1) := by decide +kernel
theorem d31_0 : decode jdk_42_method_80_code 0 = .ok (.aload_n 0, 1) := by decide +kernel
theorem d31_1 : decode jdk_42_method_80_code 1 = .ok (.invokevirtual 492, 3) := by decide +kernel
theorem d31_4 : decode jdk_42_method_80_code 4 = .ok (.ifCond .eq 19, 3) := by decide +kernel
theorem d31_7 : decode jdk_42_method_80_code 7 = .ok (.aload_n 0, 1) := by decide +kernel
theorem d31_8 : decode jdk_42_method_80_code 8 = .ok (.getfield 9, 3) := by decide +kernel
theorem d31_11 : decode jdk_42_method_80_code 11 = .ok (.iload_n 1, 1) := by decide +kernel
theorem d31_12 : decode jdk_42_method_80_code 12 = .ok (.iload_n 2, 1) := by decide +kernel
theorem d31_13 : decode jdk_42_method_80_code 13 = .ok (.aload_n 0, 1) := by decide +kernel
theorem d31_14 : decode jdk_42_method_80_code 14 = .ok (.invokevirtual 505, 3) := by decide +kernel
theorem d31_17 : decode jdk_42_method_80_code 17 = .ok (.invokestatic 637, 3) := by decide +kernel
theorem d31_20 : decode jdk_42_method_80_code 20 = .ok (.goto 16, 3) := by decide +kernel
theorem d31_36 : decode jdk_42_method_80_code 36 = .ok (.ireturn, 1) := by decide +kernel
theorem ef_rri_8 (m : MethodId) (x0 : Addr) (x1 : Addr) (x2 : Int32) : entryFrame m #[(.ref x0), (.ref x1), (.int x2)] 8 = mkF m 0 ⟨[.val (.ref x0), .val (.ref x1), .val (.int x2), .unset, .unset, .unset, .unset, .unset]⟩ [] := by exact efOf rfl
theorem d32_0 : decode jdk_42_method_75_code 0 = .ok (.iload_n 2, 1) := by decide +kernel
theorem d32_1 : decode jdk_42_method_75_code 1 = .ok (.ifCond .lt 16, 3) := by decide +kernel
theorem d32_4 : decode jdk_42_method_75_code 4 = .ok (.iload_n 2, 1) := by decide +kernel
theorem d32_5 : decode jdk_42_method_75_code 5 = .ok (.aload_n 0, 1) := by decide +kernel
theorem d32_6 : decode jdk_42_method_75_code 6 = .ok (.invokevirtual 505, 3) := by decide +kernel
theorem d32_9 : decode jdk_42_method_75_code 9 = .ok (.aload_n 1, 1) := by decide +kernel
theorem d32_10 : decode jdk_42_method_75_code 10 = .ok (.invokevirtual 505, 3) := by decide +kernel
theorem d32_13 : decode jdk_42_method_75_code 13 = .ok (.isub, 1) := by decide +kernel
theorem d32_14 : decode jdk_42_method_75_code 14 = .ok (.if_icmp .le 5, 3) := by decide +kernel
theorem d32_19 : decode jdk_42_method_75_code 19 = .ok (.aload_n 0, 1) := by decide +kernel
theorem d32_20 : decode jdk_42_method_75_code 20 = .ok (.getfield 9, 3) := by decide +kernel
theorem d32_23 : decode jdk_42_method_75_code 23 = .ok (.astore_n 3, 1) := by decide +kernel
theorem d32_24 : decode jdk_42_method_75_code 24 = .ok (.aload_n 1, 1) := by decide +kernel
theorem d32_25 : decode jdk_42_method_75_code 25 = .ok (.getfield 9, 3) := by decide +kernel
theorem d32_28 : decode jdk_42_method_75_code 28 = .ok (.astore 4, 2) := by decide +kernel
theorem d32_30 : decode jdk_42_method_75_code 30 = .ok (.iconst 0, 1) := by decide +kernel
theorem d32_31 : decode jdk_42_method_75_code 31 = .ok (.istore 5, 2) := by decide +kernel
theorem d32_33 : decode jdk_42_method_75_code 33 = .ok (.aload 4, 2) := by decide +kernel
theorem d32_35 : decode jdk_42_method_75_code 35 = .ok (.arraylength, 1) := by decide +kernel
theorem d32_36 : decode jdk_42_method_75_code 36 = .ok (.istore 6, 2) := by decide +kernel
theorem d32_38 : decode jdk_42_method_75_code 38 = .ok (.aload_n 0, 1) := by decide +kernel
theorem d32_39 : decode jdk_42_method_75_code 39 = .ok (.invokevirtual 335, 3) := by decide +kernel
theorem d32_42 : decode jdk_42_method_75_code 42 = .ok (.istore 7, 2) := by decide +kernel
theorem d32_44 : decode jdk_42_method_75_code 44 = .ok (.iload 7, 2) := by decide +kernel
theorem d32_46 : decode jdk_42_method_75_code 46 = .ok (.aload_n 1, 1) := by decide +kernel
theorem d32_47 : decode jdk_42_method_75_code 47 = .ok (.invokevirtual 335, 3) := by decide +kernel
theorem d32_50 : decode jdk_42_method_75_code 50 = .ok (.if_icmp .ne 32, 3) := by decide +kernel
theorem d32_53 : decode jdk_42_method_75_code 53 = .ok (.iload 7, 2) := by decide +kernel
theorem d32_55 : decode jdk_42_method_75_code 55 = .ok (.iconst 1, 1) := by decide +kernel
theorem d32_56 : decode jdk_42_method_75_code 56 = .ok (.if_icmp .ne 7, 3) := by decide +kernel
theorem d32_63 : decode jdk_42_method_75_code 63 = .ok (.aload_n 3, 1) := by decide +kernel
theorem d32_64 : decode jdk_42_method_75_code 64 = .ok (.iload_n 2, 1) := by decide +kernel
theorem d32_65 : decode jdk_42_method_75_code 65 = .ok (.aload 4, 2) := by decide +kernel
theorem d32_67 : decode jdk_42_method_75_code 67 = .ok (.iconst 0, 1) := by decide +kernel
theorem d32_68 : decode jdk_42_method_75_code 68 = .ok (.iload 6, 2) := by decide +kernel
theorem d32_70 : decode jdk_42_method_75_code 70 = .ok (.invokestatic 607, 3) := by decide +kernel
theorem ar_21 : XT.arity "([BI[BII)I" = some 5 := by decide +kernel
theorem d32_73 : decode jdk_42_method_75_code 73 = .ok (.ifCond .ge 7, 3) := by decide +kernel
theorem d32_76 : decode jdk_42_method_75_code 76 = .ok (.iconst 1, 1) := by decide +kernel
theorem d32_77 : decode jdk_42_method_75_code 77 = .ok (.goto 4, 3) := by decide +kernel
theorem d32_81 : decode jdk_42_method_75_code 81 = .ok (.ireturn, 1) := by decide +kernel
theorem d32_80 : decode jdk_42_method_75_code 80 = .ok (.iconst 0, 1) := by decide +kernel
theorem pn_8 : plainName "java/util/AbstractCollection" = true := by first | (simp [plainName, overriddenIn]; done) | decide +kernel
theorem d33_0 : decode jdk_22_method_1_code 0 = .ok (.aload_n 0, 1) := by decide +kernel
theorem d33_1 : decode jdk_22_method_1_code 1 = .ok (.invokespecial 1, 3) := by decide +kernel
theorem d33_4 : decode jdk_22_method_1_code 4 = .ok (.return_, 1) := by decide +kernel
theorem pn_9 : plainName "java/util/AbstractList" = true := by first | (simp [plainName, overriddenIn]; done) | decide +kernel
theorem d34_0 : decode jdk_39_method_1_code 0 = .ok (.aload_n 0, 1) := by decide +kernel
theorem d34_1 : decode jdk_39_method_1_code 1 = .ok (.invokespecial 1, 3) := by decide +kernel
theorem ar_22 : XT.arity "()V" = some 0 := by decide +kernel
theorem d34_4 : decode jdk_39_method_1_code 4 = .ok (.aload_n 0, 1) := by decide +kernel
theorem d34_5 : decode jdk_39_method_1_code 5 = .ok (.iconst 0, 1) := by decide +kernel
theorem d34_6 : decode jdk_39_method_1_code 6 = .ok (.putfield 7, 3) := by decide +kernel
theorem d34_9 : decode jdk_39_method_1_code 9 = .ok (.return_, 1) := by decide +kernel
theorem pn_10 : plainName "java/util/ArrayList" = true := by first | (simp [plainName, overriddenIn]; done) | decide +kernel
theorem d35_0 : decode jdk_38_method_2_code 0 = .ok (.aload_n 0, 1) := by decide +kernel
theorem d35_1 : decode jdk_38_method_2_code 1 = .ok (.invokespecial 1, 3) := by decide +kernel
theorem d35_4 : decode jdk_38_method_2_code 4 = .ok (.aload_n 0, 1) := by decide +kernel
theorem d35_5 : decode jdk_38_method_2_code 5 = .ok (.getstatic 39, 3) := by decide +kernel
theorem d35_8 : decode jdk_38_method_2_code 8 = .ok (.putfield 9, 3) := by decide +kernel
theorem d35_11 : decode jdk_38_method_2_code 11 = .ok (.return_, 1) := by decide +kernel
theorem ef_ri_4 (m : MethodId) (x0 : Addr) (x1 : Int32) : entryFrame m #[(.ref x0), (.int x1)] 4 = mkF m 0 ⟨[.val (.ref x0), .val (.int x1), .unset, .unset]⟩ [] := by exact efOf rfl
theorem d36_0 : decode jdk_38_method_6_code 0 = .ok (.aload_n 0, 1) := by decide +kernel
theorem d36_1 : decode jdk_38_method_6_code 1 = .ok (.getfield 9, 3) := by decide +kernel
theorem d36_4 : decode jdk_38_method_6_code 4 = .ok (.arraylength, 1) := by decide +kernel
theorem d36_5 : decode jdk_38_method_6_code 5 = .ok (.istore_n 2, 1) := by decide +kernel
theorem d36_6 : decode jdk_38_method_6_code 6 = .ok (.iload_n 2, 1) := by decide +kernel
theorem d36_7 : decode jdk_38_method_6_code 7 = .ok (.ifCond .gt 13, 3) := by decide +kernel
theorem d36_10 : decode jdk_38_method_6_code 10 = .ok (.aload_n 0, 1) := by decide +kernel
theorem d36_11 : decode jdk_38_method_6_code 11 = .ok (.getfield 9, 3) := by decide +kernel
theorem d36_14 : decode jdk_38_method_6_code 14 = .ok (.getstatic 39, 3) := by decide +kernel
theorem d36_17 : decode jdk_38_method_6_code 17 = .ok (.if_acmp .eq 28, 3) := by decide +kernel
theorem d36_45 : decode jdk_38_method_6_code 45 = .ok (.aload_n 0, 1) := by decide +kernel
theorem d36_46 : decode jdk_38_method_6_code 46 = .ok (.bipush 10, 2) := by decide +kernel
theorem d36_48 : decode jdk_38_method_6_code 48 = .ok (.iload_n 1, 1) := by decide +kernel
theorem d36_49 : decode jdk_38_method_6_code 49 = .ok (.invokestatic 79, 3) := by decide +kernel
theorem d36_52 : decode jdk_38_method_6_code 52 = .ok (.anewarray 7, 3) := by decide +kernel
theorem d36_55 : decode jdk_38_method_6_code 55 = .ok (.dup_x1, 1) := by decide +kernel
theorem d36_56 : decode jdk_38_method_6_code 56 = .ok (.putfield 9, 3) := by decide +kernel
theorem d36_59 : decode jdk_38_method_6_code 59 = .ok (.areturn, 1) := by decide +kernel
theorem d37_0 : decode jdk_38_method_7_code 0 = .ok (.aload_n 0, 1) := by decide +kernel
theorem d37_1 : decode jdk_38_method_7_code 1 = .ok (.aload_n 0, 1) := by decide +kernel
theorem d37_2 : decode jdk_38_method_7_code 2 = .ok (.getfield 48, 3) := by decide +kernel
theorem d37_5 : decode jdk_38_method_7_code 5 = .ok (.iconst 1, 1) := by decide +kernel
theorem d37_6 : decode jdk_38_method_7_code 6 = .ok (.iadd, 1) := by decide +kernel
theorem d37_7 : decode jdk_38_method_7_code 7 = .ok (.invokevirtual 69, 3) := by decide +kernel
theorem ar_23 : XT.arity "(I)[Ljava/lang/Object;" = some 1 := by decide +kernel
theorem d37_10 : decode jdk_38_method_7_code 10 = .ok (.areturn, 1) := by decide +kernel
theorem ef_rrri_4 (m : MethodId) (x0 : Addr) (x1 : Addr) (x2 : Addr) (x3 : Int32) : entryFrame m #[(.ref x0), (.ref x1), (.ref x2), (.int x3)] 4 = mkF m 0 ⟨[.val (.ref x0), .val (.ref x1), .val (.ref x2), .val (.int x3)]⟩ [] := by exact efOf rfl
theorem d38_0 : decode jdk_38_method_24_code 0 = .ok (.iload_n 3, 1) := by decide +kernel
theorem d38_1 : decode jdk_38_method_24_code 1 = .ok (.aload_n 2, 1) := by decide +kernel
theorem d38_2 : decode jdk_38_method_24_code 2 = .ok (.arraylength, 1) := by decide +kernel
theorem d38_3 : decode jdk_38_method_24_code 3 = .ok (.if_icmp .ne 8, 3) := by decide +kernel
theorem d38_6 : decode jdk_38_method_24_code 6 = .ok (.aload_n 0, 1) := by decide +kernel
theorem d38_7 : decode jdk_38_method_24_code 7 = .ok (.invokevirtual 129, 3) := by decide +kernel
theorem ar_24 : XT.arity "()[Ljava/lang/Object;" = some 0 := by decide +kernel
theorem d38_10 : decode jdk_38_method_24_code 10 = .ok (.astore_n 2, 1) := by decide +kernel
theorem d38_11 : decode jdk_38_method_24_code 11 = .ok (.aload_n 2, 1) := by decide +kernel
theorem d38_12 : decode jdk_38_method_24_code 12 = .ok (.iload_n 3, 1) := by decide +kernel
theorem d38_13 : decode jdk_38_method_24_code 13 = .ok (.aload_n 1, 1) := by decide +kernel
theorem d38_14 : decode jdk_38_method_24_code 14 = .ok (.aastore, 1) := by decide +kernel
theorem d38_15 : decode jdk_38_method_24_code 15 = .ok (.aload_n 0, 1) := by decide +kernel
theorem d38_16 : decode jdk_38_method_24_code 16 = .ok (.iload_n 3, 1) := by decide +kernel
theorem d38_17 : decode jdk_38_method_24_code 17 = .ok (.iconst 1, 1) := by decide +kernel
theorem d38_18 : decode jdk_38_method_24_code 18 = .ok (.iadd, 1) := by decide +kernel
theorem d38_19 : decode jdk_38_method_24_code 19 = .ok (.putfield 48, 3) := by decide +kernel
theorem d38_22 : decode jdk_38_method_24_code 22 = .ok (.return_, 1) := by decide +kernel
theorem d39_0 : decode jdk_38_method_25_code 0 = .ok (.aload_n 0, 1) := by decide +kernel
theorem d39_1 : decode jdk_38_method_25_code 1 = .ok (.dup, 1) := by decide +kernel
theorem d39_2 : decode jdk_38_method_25_code 2 = .ok (.getfield 63, 3) := by decide +kernel
theorem d39_5 : decode jdk_38_method_25_code 5 = .ok (.iconst 1, 1) := by decide +kernel
theorem d39_6 : decode jdk_38_method_25_code 6 = .ok (.iadd, 1) := by decide +kernel
theorem d39_7 : decode jdk_38_method_25_code 7 = .ok (.putfield 63, 3) := by decide +kernel
theorem d39_10 : decode jdk_38_method_25_code 10 = .ok (.aload_n 0, 1) := by decide +kernel
theorem d39_11 : decode jdk_38_method_25_code 11 = .ok (.aload_n 1, 1) := by decide +kernel
theorem d39_12 : decode jdk_38_method_25_code 12 = .ok (.aload_n 0, 1) := by decide +kernel
theorem d39_13 : decode jdk_38_method_25_code 13 = .ok (.getfield 9, 3) := by decide +kernel
theorem d39_16 : decode jdk_38_method_25_code 16 = .ok (.aload_n 0, 1) := by decide +kernel
theorem d39_17 : decode jdk_38_method_25_code 17 = .ok (.getfield 48, 3) := by decide +kernel
theorem d39_20 : decode jdk_38_method_25_code 20 = .ok (.invokevirtual 131, 3) := by decide +kernel
theorem ar_25 : XT.arity "(Ljava/lang/Object;[Ljava/lang/Object;I)V" = some 3 := by decide +kernel
theorem d39_23 : decode jdk_38_method_25_code 23 = .ok (.iconst 1, 1) := by decide +kernel
theorem d39_24 : decode jdk_38_method_25_code 24 = .ok (.ireturn, 1) := by decide +kernel
theorem d40_0 : decode jdk_38_method_8_code 0 = .ok (.aload_n 0, 1) := by decide +kernel
theorem d40_1 : decode jdk_38_method_8_code 1 = .ok (.getfield 48, 3) := by decide +kernel
theorem d40_4 : decode jdk_38_method_8_code 4 = .ok (.ireturn, 1) := by decide +kernel
theorem d41_0 : decode jdk_38_method_18_code 0 = .ok (.aload_n 0, 1) := by decide +kernel
theorem d41_1 : decode jdk_38_method_18_code 1 = .ok (.getfield 9, 3) := by decide +kernel
theorem d41_4 : decode jdk_38_method_18_code 4 = .ok (.iload_n 1, 1) := by decide +kernel
theorem d41_5 : decode jdk_38_method_18_code 5 = .ok (.aaload, 1) := by decide +kernel
theorem d41_6 : decode jdk_38_method_18_code 6 = .ok (.areturn, 1) := by decide +kernel
theorem pn_11 : plainName "java/util/Objects" = true := by first | (simp [plainName, overriddenIn]; done) | decide +kernel
theorem d42_0 : decode jdk_31_method_17_code 0 = .ok (.iload_n 0, 1) := by decide +kernel
theorem d42_1 : decode jdk_31_method_17_code 1 = .ok (.iload_n 1, 1) := by decide +kernel
theorem d42_2 : decode jdk_31_method_17_code 2 = .ok (.aconst_null, 1) := by decide +kernel
theorem d42_3 : decode jdk_31_method_17_code 3 = .ok (.invokestatic 105, 3) := by decide +kernel
theorem d42_6 : decode jdk_31_method_17_code 6 = .ok (.ireturn, 1) := by decide +kernel
theorem d43_0 : decode jdk_38_method_20_code 0 = .ok (.iload_n 1, 1) := by decide +kernel
theorem d43_1 : decode jdk_38_method_20_code 1 = .ok (.aload_n 0, 1) := by decide +kernel
theorem d43_2 : decode jdk_38_method_20_code 2 = .ok (.getfield 48, 3) := by decide +kernel
theorem d43_5 : decode jdk_38_method_20_code 5 = .ok (.invokestatic 118, 3) := by decide +kernel
theorem d43_8 : decode jdk_38_method_20_code 8 = .ok (.pop, 1) := by decide +kernel
theorem d43_9 : decode jdk_38_method_20_code 9 = .ok (.aload_n 0, 1) := by decide +kernel
theorem d43_10 : decode jdk_38_method_20_code 10 = .ok (.iload_n 1, 1) := by decide +kernel
theorem d43_11 : decode jdk_38_method_20_code 11 = .ok (.invokevirtual 123, 3) := by decide +kernel
theorem ar_26 : XT.arity "(I)Ljava/lang/Object;" = some 1 := by decide +kernel
theorem d43_14 : decode jdk_38_method_20_code 14 = .ok (.areturn, 1) := by decide +kernel
theorem d44_0 : decode jdk_31_method_11_code 0 = .ok (.aload_n 0, 1) := by decide +kernel
theorem d44_1 : decode jdk_31_method_11_code 1 = .ok (.ifnonnull 12, 3) := by decide +kernel
theorem d44_13 : decode jdk_31_method_11_code 13 = .ok (.aload_n 0, 1) := by decide +kernel
theorem d44_14 : decode jdk_31_method_11_code 14 = .ok (.areturn, 1) := by decide +kernel
theorem pn_12 : plainName "com/example/webhook_signature_check/webhooksignaturecheck/HeaderElements" = true := by first | (simp [plainName, overriddenIn]; done) | decide +kernel
theorem d45_0 : decode prog_1_method_1_code 0 = .ok (.aload_n 0, 1) := by decide +kernel
theorem d45_1 : decode prog_1_method_1_code 1 = .ok (.invokespecial 1, 3) := by decide +kernel
theorem d45_4 : decode prog_1_method_1_code 4 = .ok (.aload_n 0, 1) := by decide +kernel
theorem d45_5 : decode prog_1_method_1_code 5 = .ok (.aload_n 1, 1) := by decide +kernel
theorem d45_6 : decode prog_1_method_1_code 6 = .ok (.putfield 7, 3) := by decide +kernel
theorem d45_9 : decode prog_1_method_1_code 9 = .ok (.return_, 1) := by decide +kernel
theorem d46_0 : decode prog_1_method_2_code 0 = .ok (.new 8, 3) := by decide +kernel
theorem d46_3 : decode prog_1_method_2_code 3 = .ok (.dup, 1) := by decide +kernel
theorem d46_4 : decode prog_1_method_2_code 4 = .ok (.aload_n 0, 1) := by decide +kernel
theorem d46_5 : decode prog_1_method_2_code 5 = .ok (.ldc 13, 2) := by decide +kernel
theorem d46_7 : decode prog_1_method_2_code 7 = .ok (.invokestatic 14, 3) := by decide +kernel
theorem ar_27 : XT.arity "(Ljava/lang/Object;Ljava/lang/String;)Ljava/lang/Object;" = some 2 := by decide +kernel
theorem d46_10 : decode prog_1_method_2_code 10 = .ok (.checkcast 20, 3) := by decide +kernel
theorem d46_13 : decode prog_1_method_2_code 13 = .ok (.invokespecial 22, 3) := by decide +kernel
theorem ar_28 : XT.arity "(Ljava/lang/String;)V" = some 1 := by decide +kernel
theorem d46_16 : decode prog_1_method_2_code 16 = .ok (.areturn, 1) := by decide +kernel
theorem d47_59 : decode prog_1_method_3_code 59 = .ok (.iload 6, 2) := by decide +kernel
theorem d47_61 : decode prog_1_method_3_code 61 = .ok (.iload 7, 2) := by decide +kernel
theorem d47_63 : decode prog_1_method_3_code 63 = .ok (.if_icmp .ge 23, 3) := by decide +kernel
theorem d47_66 : decode prog_1_method_3_code 66 = .ok (.aload_n 0, 1) := by decide +kernel
theorem d47_67 : decode prog_1_method_3_code 67 = .ok (.getfield 7, 3) := by decide +kernel
theorem d47_70 : decode prog_1_method_3_code 70 = .ok (.iload 6, 2) := by decide +kernel
theorem d47_72 : decode prog_1_method_3_code 72 = .ok (.invokevirtual 36, 3) := by decide +kernel
theorem ar_29 : XT.arity "(I)C" = some 1 := by decide +kernel
theorem d47_75 : decode prog_1_method_3_code 75 = .ok (.bipush 32, 2) := by decide +kernel
theorem d47_77 : decode prog_1_method_3_code 77 = .ok (.if_icmp .gt 9, 3) := by decide +kernel
theorem d47_80 : decode prog_1_method_3_code 80 = .ok (.iinc 6 1, 3) := by decide +kernel
theorem d47_83 : decode prog_1_method_3_code 83 = .ok (.goto (-24), 3) := by decide +kernel
theorem d47_86 : decode prog_1_method_3_code 86 = .ok (.iload 7, 2) := by decide +kernel
theorem d47_88 : decode prog_1_method_3_code 88 = .ok (.iload 6, 2) := by decide +kernel
theorem d47_90 : decode prog_1_method_3_code 90 = .ok (.if_icmp .le 25, 3) := by decide +kernel
theorem d47_93 : decode prog_1_method_3_code 93 = .ok (.aload_n 0, 1) := by decide +kernel
theorem d47_94 : decode prog_1_method_3_code 94 = .ok (.getfield 7, 3) := by decide +kernel
theorem d47_97 : decode prog_1_method_3_code 97 = .ok (.iload 7, 2) := by decide +kernel
theorem d47_99 : decode prog_1_method_3_code 99 = .ok (.iconst 1, 1) := by decide +kernel
theorem d47_100 : decode prog_1_method_3_code 100 = .ok (.isub, 1) := by decide +kernel
theorem d47_101 : decode prog_1_method_3_code 101 = .ok (.invokevirtual 36, 3) := by decide +kernel
theorem d47_104 : decode prog_1_method_3_code 104 = .ok (.bipush 32, 2) := by decide +kernel
theorem d47_106 : decode prog_1_method_3_code 106 = .ok (.if_icmp .gt 9, 3) := by decide +kernel
theorem d47_109 : decode prog_1_method_3_code 109 = .ok (.iinc 7 (-1), 3) := by decide +kernel
theorem d47_112 : decode prog_1_method_3_code 112 = .ok (.goto (-26), 3) := by decide +kernel
theorem d47_10 : decode prog_1_method_3_code 10 = .ok (.iload_n 3, 1) := by decide +kernel
theorem d47_11 : decode prog_1_method_3_code 11 = .ok (.aload_n 0, 1) := by decide +kernel
theorem d47_12 : decode prog_1_method_3_code 12 = .ok (.getfield 7, 3) := by decide +kernel
theorem d47_15 : decode prog_1_method_3_code 15 = .ok (.invokevirtual 28, 3) := by decide +kernel
theorem d47_18 : decode prog_1_method_3_code 18 = .ok (.if_icmp .gt 168, 3) := by decide +kernel
theorem d47_21 : decode prog_1_method_3_code 21 = .ok (.aload_n 0, 1) := by decide +kernel
theorem d47_22 : decode prog_1_method_3_code 22 = .ok (.getfield 7, 3) := by decide +kernel
theorem d47_25 : decode prog_1_method_3_code 25 = .ok (.bipush 44, 2) := by decide +kernel
theorem d47_27 : decode prog_1_method_3_code 27 = .ok (.iload_n 3, 1) := by decide +kernel
theorem d47_28 : decode prog_1_method_3_code 28 = .ok (.invokevirtual 32, 3) := by decide +kernel
theorem d47_50 : decode prog_1_method_3_code 50 = .ok (.istore 5, 2) := by decide +kernel
theorem d47_52 : decode prog_1_method_3_code 52 = .ok (.iload_n 3, 1) := by decide +kernel
theorem d47_53 : decode prog_1_method_3_code 53 = .ok (.istore 6, 2) := by decide +kernel
theorem d47_55 : decode prog_1_method_3_code 55 = .ok (.iload 5, 2) := by decide +kernel
theorem d47_57 : decode prog_1_method_3_code 57 = .ok (.istore 7, 2) := by decide +kernel
theorem d47_178 : decode prog_1_method_3_code 178 = .ok (.iload 5, 2) := by decide +kernel
theorem d47_180 : decode prog_1_method_3_code 180 = .ok (.iconst 1, 1) := by decide +kernel
theorem d47_181 : decode prog_1_method_3_code 181 = .ok (.iadd, 1) := by decide +kernel
theorem d47_182 : decode prog_1_method_3_code 182 = .ok (.istore_n 3, 1) := by decide +kernel
theorem d47_183 : decode prog_1_method_3_code 183 = .ok (.goto (-173), 3) := by decide +kernel
theorem d47_115 : decode prog_1_method_3_code 115 = .ok (.iload 6, 2) := by decide +kernel
theorem d47_117 : decode prog_1_method_3_code 117 = .ok (.aload_n 1, 1) := by decide +kernel
theorem d47_118 : decode prog_1_method_3_code 118 = .ok (.invokevirtual 28, 3) := by decide +kernel
theorem d47_121 : decode prog_1_method_3_code 121 = .ok (.iadd, 1) := by decide +kernel
theorem d47_122 : decode prog_1_method_3_code 122 = .ok (.istore 8, 2) := by decide +kernel
theorem d47_124 : decode prog_1_method_3_code 124 = .ok (.iload 8, 2) := by decide +kernel
theorem d47_126 : decode prog_1_method_3_code 126 = .ok (.iload 7, 2) := by decide +kernel
theorem d47_128 : decode prog_1_method_3_code 128 = .ok (.if_icmp .ge 50, 3) := by decide +kernel
theorem d47_131 : decode prog_1_method_3_code 131 = .ok (.aload_n 0, 1) := by decide +kernel
theorem d47_132 : decode prog_1_method_3_code 132 = .ok (.getfield 7, 3) := by decide +kernel
theorem d47_135 : decode prog_1_method_3_code 135 = .ok (.iload 8, 2) := by decide +kernel
theorem d47_137 : decode prog_1_method_3_code 137 = .ok (.invokevirtual 36, 3) := by decide +kernel
theorem d47_140 : decode prog_1_method_3_code 140 = .ok (.bipush 61, 2) := by decide +kernel
theorem d47_142 : decode prog_1_method_3_code 142 = .ok (.if_icmp .ne 36, 3) := by decide +kernel
theorem d47_145 : decode prog_1_method_3_code 145 = .ok (.aload_n 0, 1) := by decide +kernel
theorem d47_146 : decode prog_1_method_3_code 146 = .ok (.getfield 7, 3) := by decide +kernel
theorem d47_149 : decode prog_1_method_3_code 149 = .ok (.aload_n 1, 1) := by decide +kernel
theorem d47_150 : decode prog_1_method_3_code 150 = .ok (.iload 6, 2) := by decide +kernel
theorem d47_152 : decode prog_1_method_3_code 152 = .ok (.invokevirtual 40, 3) := by decide +kernel
theorem ar_30 : XT.arity "(Ljava/lang/String;I)Z" = some 2 := by decide +kernel
theorem d47_155 : decode prog_1_method_3_code 155 = .ok (.ifCond .eq 23, 3) := by decide +kernel
theorem d47_158 : decode prog_1_method_3_code 158 = .ok (.aload_n 2, 1) := by decide +kernel
theorem d47_159 : decode prog_1_method_3_code 159 = .ok (.aload_n 0, 1) := by decide +kernel
theorem d47_160 : decode prog_1_method_3_code 160 = .ok (.getfield 7, 3) := by decide +kernel
theorem d47_163 : decode prog_1_method_3_code 163 = .ok (.iload 8, 2) := by decide +kernel
theorem d47_165 : decode prog_1_method_3_code 165 = .ok (.iconst 1, 1) := by decide +kernel
theorem d47_166 : decode prog_1_method_3_code 166 = .ok (.iadd, 1) := by decide +kernel
theorem d47_167 : decode prog_1_method_3_code 167 = .ok (.iload 7, 2) := by decide +kernel
theorem d47_169 : decode prog_1_method_3_code 169 = .ok (.invokevirtual 44, 3) := by decide +kernel
theorem ar_31 : XT.arity "(II)Ljava/lang/String;" = some 2 := by decide +kernel
theorem d47_172 : decode prog_1_method_3_code 172 = .ok (.invokeinterface 48 2, 5) := by decide +kernel
theorem ar_32 : XT.arity "(Ljava/lang/Object;)Z" = some 1 := by decide +kernel
theorem d47_177 : decode prog_1_method_3_code 177 = .ok (.pop, 1) := by decide +kernel
theorem d47_31 : decode prog_1_method_3_code 31 = .ok (.istore 4, 2) := by decide +kernel
theorem d47_33 : decode prog_1_method_3_code 33 = .ok (.iload 4, 2) := by decide +kernel
theorem d47_35 : decode prog_1_method_3_code 35 = .ok (.ifCond .ge 13, 3) := by decide +kernel
theorem d47_48 : decode prog_1_method_3_code 48 = .ok (.iload 4, 2) := by decide +kernel
theorem d47_38 : decode prog_1_method_3_code 38 = .ok (.aload_n 0, 1) := by decide +kernel
theorem d47_39 : decode prog_1_method_3_code 39 = .ok (.getfield 7, 3) := by decide +kernel
theorem d47_42 : decode prog_1_method_3_code 42 = .ok (.invokevirtual 28, 3) := by decide +kernel
theorem d47_45 : decode prog_1_method_3_code 45 = .ok (.goto 5, 3) := by decide +kernel
theorem ef_rr_9 (m : MethodId) (x0 : Addr) (x1 : Addr) : entryFrame m #[(.ref x0), (.ref x1)] 9 = mkF m 0 ⟨[.val (.ref x0), .val (.ref x1), .unset, .unset, .unset, .unset, .unset, .unset, .unset]⟩ [] := by exact efOf rfl
theorem d47_0 : decode prog_1_method_3_code 0 = .ok (.new 25, 3) := by decide +kernel
theorem d47_3 : decode prog_1_method_3_code 3 = .ok (.dup, 1) := by decide +kernel
theorem d47_4 : decode prog_1_method_3_code 4 = .ok (.invokespecial 27, 3) := by decide +kernel
theorem d47_7 : decode prog_1_method_3_code 7 = .ok (.astore_n 2, 1) := by decide +kernel
theorem d47_8 : decode prog_1_method_3_code 8 = .ok (.iconst 0, 1) := by decide +kernel
theorem d47_9 : decode prog_1_method_3_code 9 = .ok (.istore_n 3, 1) := by decide +kernel
theorem d47_186 : decode prog_1_method_3_code 186 = .ok (.aload_n 2, 1) := by decide +kernel
theorem d47_187 : decode prog_1_method_3_code 187 = .ok (.areturn, 1) := by decide +kernel
theorem ef_iii_4 (m : MethodId) (x0 : Int32) (x1 : Int32) (x2 : Int32) : entryFrame m #[(.int x0), (.int x1), (.int x2)] 4 = mkF m 0 ⟨[.val (.int x0), .val (.int x1), .val (.int x2), .unset]⟩ [] := by exact efOf rfl
theorem pn_13 : plainName "com/example/webhook_signature_check/webhooksignaturecheck/HeaderElementsReadPinLaw" = true := by first | (simp [plainName, overriddenIn]; done) | decide +kernel
theorem d48_0 : decode method_3_code 0 = .ok (.iload_n 0, 1) := by decide +kernel
theorem d48_1 : decode method_3_code 1 = .ok (.iconst 3, 1) := by decide +kernel
theorem d48_2 : decode method_3_code 2 = .ok (.iand, 1) := by decide +kernel
theorem d48_3 : decode method_3_code 3 = .ok (.istore_n 3, 1) := by decide +kernel
theorem d48_4 : decode method_3_code 4 = .ok (.iload_n 3, 1) := by decide +kernel
theorem d48_5 : decode method_3_code 5 = .ok (.ifCond .ne 5, 3) := by decide +kernel
theorem d48_10 : decode method_3_code 10 = .ok (.iload_n 3, 1) := by decide +kernel
theorem d48_11 : decode method_3_code 11 = .ok (.iconst 1, 1) := by decide +kernel
theorem d48_12 : decode method_3_code 12 = .ok (.if_icmp .ne 5, 3) := by decide +kernel
theorem d48_17 : decode method_3_code 17 = .ok (.iload_n 0, 1) := by decide +kernel
theorem d48_18 : decode method_3_code 18 = .ok (.iconst 2, 1) := by decide +kernel
theorem d48_19 : decode method_3_code 19 = .ok (.iushr, 1) := by decide +kernel
theorem d48_20 : decode method_3_code 20 = .ok (.sipush 255, 3) := by decide +kernel
theorem d48_23 : decode method_3_code 23 = .ok (.iand, 1) := by decide +kernel
theorem d48_24 : decode method_3_code 24 = .ok (.i2c, 1) := by decide +kernel
theorem d48_25 : decode method_3_code 25 = .ok (.ireturn, 1) := by decide +kernel
theorem d48_15 : decode method_3_code 15 = .ok (.iload_n 2, 1) := by decide +kernel
theorem d48_16 : decode method_3_code 16 = .ok (.ireturn, 1) := by decide +kernel
theorem d48_8 : decode method_3_code 8 = .ok (.iload_n 1, 1) := by decide +kernel
theorem d48_9 : decode method_3_code 9 = .ok (.ireturn, 1) := by decide +kernel
theorem d49_0 : decode method_4_code 0 = .ok (.iload_n 0, 1) := by decide +kernel
theorem d49_1 : decode method_4_code 1 = .ok (.bipush 44, 2) := by decide +kernel
theorem d49_3 : decode method_4_code 3 = .ok (.if_icmp .ne 7, 3) := by decide +kernel
theorem d49_6 : decode method_4_code 6 = .ok (.iconst 0, 1) := by decide +kernel
theorem d49_7 : decode method_4_code 7 = .ok (.newarray .char, 2) := by decide +kernel
theorem d49_9 : decode method_4_code 9 = .ok (.areturn, 1) := by decide +kernel
theorem d49_10 : decode method_4_code 10 = .ok (.iload_n 1, 1) := by decide +kernel
theorem d49_11 : decode method_4_code 11 = .ok (.bipush 44, 2) := by decide +kernel
theorem d49_34 : decode method_4_code 34 = .ok (.iload_n 0, 1) := by decide +kernel
theorem d49_35 : decode method_4_code 35 = .ok (.bipush 32, 2) := by decide +kernel
theorem d49_37 : decode method_4_code 37 = .ok (.if_icmp .le 11, 3) := by decide +kernel
theorem d49_40 : decode method_4_code 40 = .ok (.iconst 1, 1) := by decide +kernel
theorem d49_41 : decode method_4_code 41 = .ok (.newarray .char, 2) := by decide +kernel
theorem d49_43 : decode method_4_code 43 = .ok (.dup, 1) := by decide +kernel
theorem d49_44 : decode method_4_code 44 = .ok (.iconst 0, 1) := by decide +kernel
theorem d49_45 : decode method_4_code 45 = .ok (.iload_n 0, 1) := by decide +kernel
theorem d49_46 : decode method_4_code 46 = .ok (.castore, 1) := by decide +kernel
theorem d49_47 : decode method_4_code 47 = .ok (.areturn, 1) := by decide +kernel
theorem d49_48 : decode method_4_code 48 = .ok (.iconst 0, 1) := by decide +kernel
theorem d49_49 : decode method_4_code 49 = .ok (.newarray .char, 2) := by decide +kernel
theorem d49_51 : decode method_4_code 51 = .ok (.areturn, 1) := by decide +kernel
theorem d49_13 : decode method_4_code 13 = .ok (.if_icmp .eq 21, 3) := by decide +kernel
theorem d49_16 : decode method_4_code 16 = .ok (.iload_n 1, 1) := by decide +kernel
theorem d49_17 : decode method_4_code 17 = .ok (.bipush 32, 2) := by decide +kernel
theorem d49_19 : decode method_4_code 19 = .ok (.if_icmp .le 15, 3) := by decide +kernel
theorem d49_22 : decode method_4_code 22 = .ok (.iconst 2, 1) := by decide +kernel
theorem d49_23 : decode method_4_code 23 = .ok (.newarray .char, 2) := by decide +kernel
theorem d49_25 : decode method_4_code 25 = .ok (.dup, 1) := by decide +kernel
theorem d49_26 : decode method_4_code 26 = .ok (.iconst 0, 1) := by decide +kernel
theorem d49_27 : decode method_4_code 27 = .ok (.iload_n 0, 1) := by decide +kernel
theorem d49_28 : decode method_4_code 28 = .ok (.castore, 1) := by decide +kernel
theorem d49_29 : decode method_4_code 29 = .ok (.dup, 1) := by decide +kernel
theorem d49_30 : decode method_4_code 30 = .ok (.iconst 1, 1) := by decide +kernel
theorem d49_31 : decode method_4_code 31 = .ok (.iload_n 1, 1) := by decide +kernel
theorem d49_32 : decode method_4_code 32 = .ok (.castore, 1) := by decide +kernel
theorem d49_33 : decode method_4_code 33 = .ok (.areturn, 1) := by decide +kernel
theorem ef_ii_3 (m : MethodId) (x0 : Int32) (x1 : Int32) : entryFrame m #[(.int x0), (.int x1)] 3 = mkF m 0 ⟨[.val (.int x0), .val (.int x1), .unset]⟩ [] := by exact efOf rfl
theorem d50_0 : decode method_5_code 0 = .ok (.iload_n 0, 1) := by decide +kernel
theorem d50_1 : decode method_5_code 1 = .ok (.iload_n 1, 1) := by decide +kernel
theorem d50_2 : decode method_5_code 2 = .ok (.invokestatic 34, 3) := by decide +kernel
theorem ar_33 : XT.arity "(CC)[C" = some 2 := by decide +kernel
theorem d50_5 : decode method_5_code 5 = .ok (.astore_n 2, 1) := by decide +kernel
theorem d50_6 : decode method_5_code 6 = .ok (.aload_n 2, 1) := by decide +kernel
theorem d50_7 : decode method_5_code 7 = .ok (.arraylength, 1) := by decide +kernel
theorem d50_8 : decode method_5_code 8 = .ok (.ifCond .ne 12, 3) := by decide +kernel
theorem d50_11 : decode method_5_code 11 = .ok (.iconst 1, 1) := by decide +kernel
theorem d50_12 : decode method_5_code 12 = .ok (.newarray .char, 2) := by decide +kernel
theorem d50_14 : decode method_5_code 14 = .ok (.dup, 1) := by decide +kernel
theorem d50_15 : decode method_5_code 15 = .ok (.iconst 0, 1) := by decide +kernel
theorem d50_16 : decode method_5_code 16 = .ok (.bipush 61, 2) := by decide +kernel
theorem d50_18 : decode method_5_code 18 = .ok (.castore, 1) := by decide +kernel
theorem d50_19 : decode method_5_code 19 = .ok (.areturn, 1) := by decide +kernel
theorem d50_20 : decode method_5_code 20 = .ok (.aload_n 2, 1) := by decide +kernel
theorem d50_21 : decode method_5_code 21 = .ok (.arraylength, 1) := by decide +kernel
theorem d50_22 : decode method_5_code 22 = .ok (.iconst 1, 1) := by decide +kernel
theorem d50_23 : decode method_5_code 23 = .ok (.if_icmp .ne 18, 3) := by decide +kernel
theorem d50_26 : decode method_5_code 26 = .ok (.iconst 2, 1) := by decide +kernel
theorem d50_27 : decode method_5_code 27 = .ok (.newarray .char, 2) := by decide +kernel
theorem d50_29 : decode method_5_code 29 = .ok (.dup, 1) := by decide +kernel
theorem d50_30 : decode method_5_code 30 = .ok (.iconst 0, 1) := by decide +kernel
theorem d50_31 : decode method_5_code 31 = .ok (.bipush 61, 2) := by decide +kernel
theorem d50_33 : decode method_5_code 33 = .ok (.castore, 1) := by decide +kernel
theorem d50_34 : decode method_5_code 34 = .ok (.dup, 1) := by decide +kernel
theorem d50_35 : decode method_5_code 35 = .ok (.iconst 1, 1) := by decide +kernel
theorem d50_36 : decode method_5_code 36 = .ok (.aload_n 2, 1) := by decide +kernel
theorem d50_37 : decode method_5_code 37 = .ok (.iconst 0, 1) := by decide +kernel
theorem d50_38 : decode method_5_code 38 = .ok (.caload, 1) := by decide +kernel
theorem d50_39 : decode method_5_code 39 = .ok (.castore, 1) := by decide +kernel
theorem d50_40 : decode method_5_code 40 = .ok (.areturn, 1) := by decide +kernel
theorem d50_41 : decode method_5_code 41 = .ok (.iconst 3, 1) := by decide +kernel
theorem d50_42 : decode method_5_code 42 = .ok (.newarray .char, 2) := by decide +kernel
theorem d50_44 : decode method_5_code 44 = .ok (.dup, 1) := by decide +kernel
theorem d50_45 : decode method_5_code 45 = .ok (.iconst 0, 1) := by decide +kernel
theorem d50_46 : decode method_5_code 46 = .ok (.bipush 61, 2) := by decide +kernel
theorem d50_48 : decode method_5_code 48 = .ok (.castore, 1) := by decide +kernel
theorem d50_49 : decode method_5_code 49 = .ok (.dup, 1) := by decide +kernel
theorem d50_50 : decode method_5_code 50 = .ok (.iconst 1, 1) := by decide +kernel
theorem d50_51 : decode method_5_code 51 = .ok (.aload_n 2, 1) := by decide +kernel
theorem d50_52 : decode method_5_code 52 = .ok (.iconst 0, 1) := by decide +kernel
theorem d50_53 : decode method_5_code 53 = .ok (.caload, 1) := by decide +kernel
theorem d50_54 : decode method_5_code 54 = .ok (.castore, 1) := by decide +kernel
theorem d50_55 : decode method_5_code 55 = .ok (.dup, 1) := by decide +kernel
theorem d50_56 : decode method_5_code 56 = .ok (.iconst 2, 1) := by decide +kernel
theorem d50_57 : decode method_5_code 57 = .ok (.aload_n 2, 1) := by decide +kernel
theorem d50_58 : decode method_5_code 58 = .ok (.iconst 1, 1) := by decide +kernel
theorem d50_59 : decode method_5_code 59 = .ok (.caload, 1) := by decide +kernel
theorem d50_60 : decode method_5_code 60 = .ok (.castore, 1) := by decide +kernel
theorem d50_61 : decode method_5_code 61 = .ok (.areturn, 1) := by decide +kernel
theorem ef_iiiii_20 (m : MethodId) (x0 : Int32) (x1 : Int32) (x2 : Int32) (x3 : Int32) (x4 : Int32) : entryFrame m #[(.int x0), (.int x1), (.int x2), (.int x3), (.int x4)] 20 = mkF m 0 ⟨[.val (.int x0), .val (.int x1), .val (.int x2), .val (.int x3), .val (.int x4), .unset, .unset, .unset, .unset, .unset, .unset, .unset, .unset, .unset, .unset, .unset, .unset, .unset, .unset, .unset]⟩ [] := by exact efOf rfl
theorem ar_34 : XT.arity "(ICC)C" = some 3 := by decide +kernel
theorem ar_35 : XT.arity "([C)V" = some 1 := by decide +kernel
theorem ar_36 : XT.arity "(Ljava/lang/String;)Lcom/example/webhook_signature_check/webhooksignaturecheck/HeaderElements;" = some 1 := by decide +kernel
theorem ar_37 : XT.arity "(Ljava/lang/String;)Ljava/util/List;" = some 1 := by decide +kernel
theorem ar_38 : XT.arity "(C)Ljava/lang/String;" = some 1 := by decide +kernel
theorem layS_ok {Z : State} {a0 : Array Value} (hw : ∀ d ∈ tables_1, d.before a0 Z = true) : LayOk Z a0 "java/lang/String" layS := by
  refine ⟨fun f hf => ?_, by decide +kernel, fun f hf => ?_⟩
  all_goals simp only [layS, List.mem_cons, List.not_mem_nil, or_false] at hf
  all_goals rcases hf with rfl | rfl
  · exact Or.inr (hw _ (List.mem_of_getElem? (i := 33) rfl))
  · exact Or.inr (hw _ (List.mem_of_getElem? (i := 31) rfl))
  · exact ⟨(.array .byte), by decide +kernel⟩
  · exact ⟨.byte, by decide +kernel⟩
theorem layS_dv : Dv layS [.null, (.int 0)] := by decide +kernel
/-- the byte of a sign -/
def b8 (c : Int32) : Int32 := c.toInt8.toInt32
def toB (c : Int32) : Value := .int (b8 c)
theorem toB_eq (cs : List Int32) : cs.map toB = (cs.map b8).map .int := by rw [List.map_map]; rfl
def Lat (cs : List Int32) : Prop := ∀ c ∈ cs, 0 ≤ c.toInt ∧ c.toInt < 256
theorem lat_nil : Lat [] := fun _ h => nomatch h
theorem lat_cons {c : Int32} {cs : List Int32} (h : 0 ≤ c.toInt ∧ c.toInt < 256) (t : Lat cs) : Lat (c :: cs) := fun x hx => (List.mem_cons.mp hx).elim (fun e => e ▸ h) (t x)
theorem lat_le {c : Int32} (h : 0 ≤ c.toInt ∧ c.toInt < 256) : ¬ (255 : Int32) < c := by rw [Int32.lt_iff_toInt_lt]; show ¬ (255 : Int) < _; omega
theorem toB_nar (c : Int32) : nar .byte c.toInt8.toInt32 = c.toInt8.toInt32 := by simp [nar]
theorem set_mid (cs : List Int32) (i : Nat) (h : i < cs.length) : ((cs.take i).map toB ++ List.replicate (cs.length - i) (Value.int 0)).set i (toB cs[i]) = (cs.take (i + 1)).map toB ++ List.replicate (cs.length - (i + 1)) (Value.int 0) := by
  have h1 : ((cs.take i).map toB).length = i := by simp; omega
  rw [List.set_append_right _ _ (by omega), h1, Nat.sub_self, show cs.length - i = (cs.length - (i + 1)) + 1 by omega, List.replicate_succ, List.set_cons_zero, List.take_succ_eq_append_getElem h, List.map_append, List.append_assoc]
  rfl
theorem nchar_lat {c : Int32} (h : 0 ≤ c.toInt ∧ c.toInt < 256) : nar .char c = c := by
  apply Int32.toInt_inj.mp
  have q := c_i2c c
  show c.toUInt32.toUInt16.toUInt32.toInt32.toInt = c.toInt
  omega
theorem b8_toInt {c : Int32} (h : 0 ≤ c.toInt ∧ c.toInt < 256) : (b8 c).toInt = if c.toInt < 128 then c.toInt else c.toInt - 256 := by
  have q := c_i2b c
  show c.toInt8.toInt32.toInt = _
  split <;> omega
theorem b8_iff {c d e : Int32} (h : 0 ≤ c.toInt ∧ c.toInt < 256) (h' : 0 ≤ d.toInt ∧ d.toInt < 256) (he : b8 d = e) : b8 c = e ↔ c = d := by
  subst he
  refine ⟨fun q => Int32.toInt_inj.mp ?_, fun q => by rw [q]⟩
  have := congrArg Int32.toInt q
  rw [b8_toInt h, b8_toInt h'] at this
  split at this <;> split at this <;> omega
set_option maxHeartbeats 4000000 in
theorem wk_compressL {l : Launch} {Z : State} {a0 : Array Value} (hw : ∀ d ∈ tables_1, d.before a0 Z = true) (hE : EW Z a0 EL0) {L : Store} {ca b : Addr} {fa : Bool} {cs : List Int32} (hc : Lat cs) (hl : cs.length < 2 ^ 31) (hm : (ca, fa, AR Z .char (cs.map .int)) ∈ L) {cb sb : Nat} : ∀ (k i : Nat) (o : Slot), i + k = cs.length → One o →
    Wk l Z a0 EL0 (⟨"java/lang/StringUTF16", "compress", "([CI[BII)I"⟩ : MethodName) jdk_52_method_21_code 7 (some .int) ({ frames := 0, cells := 0, slots := 0, locals := 0 } : Room) (RV fun u M => u = .int cs.length.toInt32 ∧ M = (b, true, AR Z .byte ((cs.map b8).map .int)) :: L) ((b, true, AR Z .byte ((cs.take i).map toB ++ List.replicate (cs.length - i) (.int 0))) :: L) cb sb 3 [.val (.ref ca), .val (.int i.toInt32), .val (.ref b), .val (.int i.toInt32), .val (.int cs.length.toInt32), .val (.int i.toInt32), o] [] := by
  intro k
  induction k with
  | zero =>
    intro i o hi ho
    have hi' : i = cs.length := by omega
    subst hi'
    refine Wk.iload (q := 5) d0_3 rfl rfl ?_
    refine Wk.iload (q := 7) d0_5 rfl rfl ?_
    refine Wk.icmp_t (q := 44) d0_7 (by decide) (by decide) (XT.ii_ge_t (fun h => by rw [n32_lt hl hl] at h; omega)) ?_
    refine Wk.iload (q := 46) d0_44 rfl rfl ?_
    refine Wk.ireturn (t := .int) d0_46 rfl (by simp) (by rfl) ?_
    refine ⟨_, rfl, rfl, ?_⟩
    rw [← toB_eq]
    simp
  | succ k ih =>
    intro i o hi ho
    have hil : i < cs.length := by omega
    have hi3 : i < 2 ^ 31 := by omega
    have hv : (cs.map Value.int)[i]? = some (.int cs[i]) := by simp [hil]
    have hci := hc cs[i] (List.getElem_mem hil)
    refine Wk.iload (q := 5) d0_3 rfl rfl ?_
    refine Wk.iload (q := 7) d0_5 rfl rfl ?_
    refine Wk.icmp_f (q := 10) d0_7 rfl (XT.ii_ge_f ((n32_lt hi3 hl).mpr hil)) ?_
    refine Wk.aload_n (q := 11) d0_10 rfl rfl (by first | rfl | assumption) ?_
    refine Wk.iload_n (q := 12) d0_11 rfl rfl ?_
    refine Wk.caload (q := 13) (i) d0_12 rfl (by repeat (first | exact List.mem_cons_self | assumption | refine List.mem_cons_of_mem _ ?_)) (n32_nn hi3) (n32_nat hi3) hv ?_
    refine Wk.istore (q := 15) d0_13 rfl (LS1.there (LS1.there (LS1.there (LS1.there (LS1.there (LS1.there (LS1.here (by first | exact One.u | exact One.val rfl | assumption)))))))) ?_
    refine Wk.iload (q := 17) d0_15 rfl rfl ?_
    refine Wk.sipush (q := 20) (255) d0_17 rfl (by decide) ?_
    refine Wk.icmp_t (q := 26) d0_20 (by decide) (by decide) (XT.ii_le_t (lat_le hci)) ?_
    refine Wk.aload_n (q := 27) d0_26 rfl rfl (by first | rfl | assumption) ?_
    refine Wk.iload_n (q := 28) d0_27 rfl rfl ?_
    refine Wk.iload (q := 30) d0_28 rfl rfl ?_
    refine Wk.i2b (q := 31) d0_30 rfl ?_
    refine Wk.bastore (q := 32) (i) d0_31 rfl (by repeat (first | exact Ex.here | assumption | apply Ex.there)) (n32_nn hi3) (n32_nat hi3) (toB_nar _) ⟨set_mid cs i hil, by simp; omega⟩ ?_
    refine Wk.iinc (q := 35) (1) d0_32 rfl (by decide) rfl (LS1.there (LS1.here (by first | exact One.u | exact One.val rfl | assumption))) ?_
    refine Wk.iinc (q := 38) (1) d0_35 rfl (by decide) rfl (LS1.there (LS1.there (LS1.there (LS1.here (by first | exact One.u | exact One.val rfl | assumption))))) ?_
    refine Wk.iinc (q := 41) (1) d0_38 rfl (by decide) rfl (LS1.there (LS1.there (LS1.there (LS1.there (LS1.there (LS1.here (by first | exact One.u | exact One.val rfl | assumption))))))) ?_
    refine Wk.goto (q := 3) d0_41 (by decide) (by decide) ?_
    rw [n32_succ]
    exact ih (i + 1) _ (by omega) (One.val rfl)
set_option maxHeartbeats 4000000 in
theorem ct_compressL {l : Launch} {Z : State} {a0 : Array Value} (hw : ∀ d ∈ tables_1, d.before a0 Z = true) (hE : EW Z a0 EL0) {L : Store} {ca b : Addr} {fa : Bool} {cs : List Int32} (hc : Lat cs) (hl : cs.length < 2 ^ 31) (hm : (ca, fa, AR Z .char (cs.map .int)) ∈ L) :
    Ct l Z EL0 (⟨"java/lang/StringUTF16", "compress", "([CI[BII)I"⟩ : MethodName) jdk_52_method_21_code 7 (some .int) ({ frames := 0, cells := 0, slots := 0, locals := 0 } : Room) #[.ref ca, .int 0, .ref b, .int 0, .int cs.length.toInt32] ((b, true, AR Z .byte (List.replicate cs.length (.int 0))) :: L) (RV fun u M => u = .int cs.length.toInt32 ∧ M = (b, true, AR Z .byte ((cs.map b8).map .int)) :: L) := by
  refine Ct.of (a0 := a0) (Ls := [.val (.ref _), .val (.int _), .val (.ref _), .val (.int _), .val (.int _), .unset, .unset]) (plainFor_of_name pn_0) (fun m => ef_ririi_7 m _ _ _ _ _) hE ?_
  refine Wk.iconst (q := 1) (0) d0_0 rfl (by decide) ?_
  refine Wk.istore (q := 3) d0_1 rfl (LS1.there (LS1.there (LS1.there (LS1.there (LS1.there (LS1.here (by first | exact One.u | exact One.val rfl | assumption))))))) ?_
  have h := wk_compressL hw hE (l := l) (b := b) (cb := 0) (sb := 0) hc hl hm cs.length 0 .unset (by omega) One.u
  simp only [List.take_zero, List.map_nil, List.nil_append, Nat.sub_zero] at h
  exact h
theorem ct_coderLat {l : Launch} {Z : State} {a0 : Array Value} (hw : ∀ d ∈ tables_1, d.before a0 Z = true) (hE : EW Z a0 EL0) {L : Store} {b : Addr} {fb : Bool} {vs : List Value} (hm : (b, fb, AR Z .byte vs) ∈ L) :
    Ct l Z EL0 (⟨"java/lang/StringUTF16", "coderFromArrayLen", "([BI)B"⟩ : MethodName) jdk_52_method_15_code 2 (some .byte) ({ frames := 0, cells := 0, slots := 0, locals := 0 } : Room) #[.ref b, .int vs.length.toInt32] L (RV fun u M => u = .int 0 ∧ M = L) := by
  refine Ct.of (a0 := a0) (Ls := [.val (.ref _), .val (.int _)]) (plainFor_of_name pn_0) (fun m => ef_ri_2 m _ _) hE ?_
  refine Wk.iload_n (q := 1) d1_0 rfl rfl ?_
  refine Wk.aload_n (q := 2) d1_1 rfl rfl (by first | rfl | assumption) ?_
  refine Wk.arraylength (q := 3) d1_2 rfl (by repeat (first | exact List.mem_cons_self | assumption | refine List.mem_cons_of_mem _ ?_)) (by rfl) ?_
  refine Wk.isub (q := 4) d1_3 rfl ?_
  rw [Int32.sub_self]
  refine Wk.bipush (q := 6) (31) d1_4 rfl (by decide) ?_
  refine Wk.iushr (q := 7) d1_6 rfl ?_
  refine Wk.i2b (q := 8) d1_7 rfl ?_
  refine Wk.ireturn (t := .byte) d1_8 rfl (by simp) (by decide) ?_
  exact ⟨_, rfl, by decide, rfl⟩
set_option maxHeartbeats 4000000 in
theorem ct_compressA {l : Launch} {Z : State} {a0 : Array Value} (hw : ∀ d ∈ tables_1, d.before a0 Z = true) (hE : EW Z a0 EL0) {L : Store} {ca : Addr} {fa : Bool} {cs : List Int32} (hc : Lat cs) (N : Nat) (hN : cs.length ≤ N) (hl : cs.length ≤ 4000) (hm : (ca, fa, AR Z .char (cs.map .int)) ∈ L) :
    Ct l Z EL0 (⟨"java/lang/StringUTF16", "compress", "([CII)[B"⟩ : MethodName) jdk_52_method_16_code 6 (some (.array .byte)) ({ frames := 1, cells := 1, slots := N, locals := 18 } : Room) #[.ref ca, .int 0, .int cs.length.toInt32] L (RV fun u M => ∃ b, u = .ref b ∧ M = (b, true, AR Z .byte ((cs.map b8).map .int)) :: L) := by
  have h31 : cs.length < 2 ^ 31 := by omega
  refine Ct.of (a0 := a0) (Ls := [.val (.ref _), .val (.int _), .val (.int _), .unset, .unset, .unset]) (plainFor_of_name pn_0) (fun m => ef_rii_6 m _ _ _) hE ?_
  refine Wk.iload_n (q := 1) d2_0 rfl rfl ?_
  refine Wk.newarray (q := 3) .byte ((cs.length)) (List.replicate (cs.length) (.int 0)) d2_1 rfl rfl rfl (hw _ (List.mem_of_getElem? (i := 23) rfl)) (n32_nn h31) (n32_nat h31) (by omega) (by first | decide | (dsimp only; omega) | omega) (by first | decide | (dsimp only; omega) | omega) ?_
  intro b
  refine Wk.astore_n (q := 4) d2_3 rfl (by first | rfl | assumption) (LS1.there (LS1.there (LS1.there (LS1.here (by first | exact One.u | exact One.val rfl | assumption))))) ?_
  refine Wk.aload_n (q := 5) d2_4 rfl rfl (by first | rfl | assumption) ?_
  refine Wk.iload_n (q := 6) d2_5 rfl rfl ?_
  refine Wk.aload_n (q := 7) d2_6 rfl rfl (by first | rfl | assumption) ?_
  refine Wk.iconst (q := 8) (0) d2_7 rfl (by decide) ?_
  refine Wk.iload_n (q := 9) d2_8 rfl rfl ?_
  refine Wk.static (q := 12) [_, _, _, _, _] _ 0 d2_9 rfl (hw _ (List.mem_of_getElem? (i := 24) rfl)) (hw _ (List.mem_of_getElem? (i := 25) rfl)) (hw _ (List.mem_of_getElem? (i := 21) rfl)) (hw _ (List.mem_of_getElem? (i := 26) rfl)) ar_0 (by decide) rfl rfl rfl rfl (ct_compressL hw hE hc h31 hm) (by first | decide | (dsimp only; omega) | omega) (by first | decide | (dsimp only; omega) | omega) (by first | decide | (dsimp only; omega) | omega) (by first | decide | (dsimp only; omega) | omega) (kv ?_)
  rintro _ _ ⟨rfl, rfl⟩
  refine Wk.istore (q := 14) d2_12 rfl (LS1.there (LS1.there (LS1.there (LS1.there (LS1.here (by first | exact One.u | exact One.val rfl | assumption)))))) ?_
  refine Wk.iload (q := 16) d2_14 rfl rfl ?_
  refine Wk.iload_n (q := 17) d2_16 rfl rfl ?_
  refine Wk.icmp_t (q := 57) d2_17 (by decide) (by decide) (XT.ii_eq_t rfl) ?_
  refine Wk.aload_n (q := 58) d2_57 rfl rfl (by first | rfl | assumption) ?_
  refine Wk.areturn (t := (.array .byte)) d2_58 rfl rfl (by first | rfl | exact narO | exact narA) (by first | rfl | assumption) ?_
  exact ⟨_, rfl, b, rfl, rfl⟩
set_option maxHeartbeats 4000000 in
theorem ct_strInit4 {l : Launch} {Z : State} {a0 : Array Value} (hw : ∀ d ∈ tables_1, d.before a0 Z = true) (hE : EW Z a0 EL0) (F : ∃ z, z ≠ (0 : Int32) ∧ Sta Z Z.heap "java/lang/String" "COMPACT_STRINGS" "Z" (.int z)) {L : Store} {sa ca : Addr} {fa : Bool} {cs : List Int32} (hc : Lat cs) (h0 : cs ≠ []) (N : Nat) (hN : cs.length ≤ N) (hl : cs.length ≤ 4000) (hm : (ca, fa, AR Z .char (cs.map .int)) ∈ L) :
    Ct l Z EL0 (⟨"java/lang/String", "<init>", "([CIILjava/lang/Void;)V"⟩ : MethodName) jdk_42_method_149_code 6 none ({ frames := 2, cells := 1, slots := N, locals := 35 } : Room) #[.ref sa, .ref ca, .int 0, .int cs.length.toInt32, .null] ((sa, true, OB Z "java/lang/String" layS [.null, .int 0]) :: L) (R0 fun M => ∃ b, M = (sa, true, OB Z "java/lang/String" layS [.ref b, .int 0]) :: (b, true, AR Z .byte ((cs.map b8).map .int)) :: L) := by
  have h31 : cs.length < 2 ^ 31 := by omega
  have hp : 0 < cs.length := List.length_pos_iff.mpr h0
  obtain ⟨z, hz, FS⟩ := F
  refine Ct.of (a0 := a0) (Ls := [.val (.ref _), .val (.ref _), .val (.int _), .val (.int _), .val .null, .unset]) (plainFor_of_name pn_1) (fun m => ef_rriin_6 m _ _ _ _) hE ?_
  refine Wk.aload_n (q := 1) d3_0 rfl rfl (by first | rfl | assumption) ?_
  refine Wk.objinit (q := 4) 0 d3_1 rfl (hw _ (List.mem_of_getElem? (i := 15) rfl)) (hw _ (List.mem_of_getElem? (i := 16) rfl)) (hw _ (List.mem_of_getElem? (i := 17) rfl)) rfl (by first | decide | (dsimp only; omega) | omega) rfl (by first | decide | (dsimp only; omega) | omega) ?_
  refine Wk.iload_n (q := 5) d3_4 rfl rfl ?_
  refine Wk.if_t (q := 27) d3_5 (by decide) (by decide) (XT.i0_ne_t (fun h => by have := (n32_inj h31 (by omega : 0 < 2 ^ 31)).mp h; omega)) ?_
  refine Wk.getstatic (q := 30) d3_27 rfl (hw _ (List.mem_of_getElem? (i := 18) rfl)) Via.refl FS ?_
  refine Wk.if_f (q := 33) d3_30 rfl (XT.i0_eq_f hz) ?_
  refine Wk.aload_n (q := 34) d3_33 rfl rfl (by first | rfl | assumption) ?_
  refine Wk.iload_n (q := 35) d3_34 rfl rfl ?_
  refine Wk.iload_n (q := 36) d3_35 rfl rfl ?_
  refine Wk.static (q := 39) [_, _, _] _ 0 d3_36 rfl (hw _ (List.mem_of_getElem? (i := 19) rfl)) (hw _ (List.mem_of_getElem? (i := 20) rfl)) (hw _ (List.mem_of_getElem? (i := 21) rfl)) (hw _ (List.mem_of_getElem? (i := 22) rfl)) ar_1 (by decide) rfl rfl rfl rfl (ct_compressA hw hE hc N hN hl (List.mem_cons_of_mem _ hm)) (by first | decide | (dsimp only; omega) | omega) (by first | decide | (dsimp only; omega) | omega) (by first | decide | (dsimp only; omega) | omega) (by first | decide | (dsimp only; omega) | omega) (kv ?_)
  rintro _ _ ⟨b, rfl, rfl⟩
  refine Wk.astore (q := 41) d3_39 rfl (by first | rfl | assumption) (LS1.there (LS1.there (LS1.there (LS1.there (LS1.there (LS1.here (by first | exact One.u | exact One.val rfl | assumption))))))) ?_
  refine Wk.aload_n (q := 42) d3_41 rfl rfl (by first | rfl | assumption) ?_
  refine Wk.aload (q := 44) d3_42 rfl rfl (by first | rfl | assumption) ?_
  refine Wk.iload_n (q := 45) d3_44 rfl rfl ?_
  rw [show cs.length = ((cs.map b8).map Value.int).length by simp]
  refine Wk.static (q := 48) [_, _] _ 1 d3_45 rfl (hw _ (List.mem_of_getElem? (i := 27) rfl)) (hw _ (List.mem_of_getElem? (i := 28) rfl)) (hw _ (List.mem_of_getElem? (i := 21) rfl)) (hw _ (List.mem_of_getElem? (i := 29) rfl)) ar_2 (by decide) rfl rfl rfl rfl (ct_coderLat hw hE List.mem_cons_self) (by first | decide | (dsimp only; omega) | omega) (by first | decide | (dsimp only; omega) | omega) (by first | decide | (dsimp only; omega) | omega) (by first | decide | (dsimp only; omega) | omega) (kv ?_)
  rintro _ _ ⟨rfl, rfl⟩
  refine Wk.putfield (q := 51) (C := "java/lang/String") (lay := layS) 1 d3_48 rfl (hw _ (List.mem_of_getElem? (i := 30) rfl)) Via.refl (layS_ok hw) (hw _ (List.mem_of_getElem? (i := 6) rfl)) (Or.inr ⟨(hw _ (List.mem_of_getElem? (i := 31) rfl)), rfl, rfl⟩) rfl (by decide +kernel : parseFieldDescriptor "B" = some .byte) (by repeat (first | exact Ex.here | assumption | apply Ex.there)) (VS.there (VS.here)) (by first | rfl | exact narO) (by first | rfl | exact fitO (by assumption) | exact fitA (by assumption)) ?_
  refine Wk.aload_n (q := 52) d3_51 rfl rfl (by first | rfl | assumption) ?_
  refine Wk.aload (q := 54) d3_52 rfl rfl (by first | rfl | assumption) ?_
  refine Wk.putfield (q := 57) (C := "java/lang/String") (lay := layS) 0 d3_54 rfl (hw _ (List.mem_of_getElem? (i := 32) rfl)) Via.refl (layS_ok hw) (hw _ (List.mem_of_getElem? (i := 6) rfl)) (Or.inr ⟨(hw _ (List.mem_of_getElem? (i := 33) rfl)), rfl, rfl⟩) rfl (by decide +kernel : parseFieldDescriptor "[B" = some (.array .byte)) (by repeat (first | exact Ex.here | assumption | apply Ex.there)) (VS.here) (by first | rfl | exact narO) (by first | rfl | exact fitO (by assumption) | exact fitA (by assumption)) ?_
  refine Wk.return_ d3_57 rfl ?_
  exact ⟨rfl, b, rfl⟩
set_option maxHeartbeats 4000000 in
theorem ct_strInit {l : Launch} {Z : State} {a0 : Array Value} (hw : ∀ d ∈ tables_1, d.before a0 Z = true) (hE : EW Z a0 EL0) (F : ∃ z, z ≠ (0 : Int32) ∧ Sta Z Z.heap "java/lang/String" "COMPACT_STRINGS" "Z" (.int z)) {L : Store} {sa ca : Addr} {fa : Bool} {cs : List Int32} (hc : Lat cs) (h0 : cs ≠ []) (N : Nat) (hN : cs.length ≤ N) (hl : cs.length ≤ 4000) (hm : (ca, fa, AR Z .char (cs.map .int)) ∈ L) :
    Ct l Z EL0 (⟨"java/lang/String", "<init>", "([C)V"⟩ : MethodName) jdk_42_method_3_code 2 none ({ frames := 3, cells := 1, slots := N, locals := 52 } : Room) #[.ref sa, .ref ca] ((sa, true, OB Z "java/lang/String" layS [.null, .int 0]) :: L) (R0 fun M => ∃ b, M = (sa, true, OB Z "java/lang/String" layS [.ref b, .int 0]) :: (b, true, AR Z .byte ((cs.map b8).map .int)) :: L) := by
  refine Ct.of (a0 := a0) (Ls := [.val (.ref _), .val (.ref _)]) (plainFor_of_name pn_1) (fun m => ef_rr_2 m _ _) hE ?_
  refine Wk.aload_n (q := 1) d4_0 rfl rfl (by first | rfl | assumption) ?_
  refine Wk.aload_n (q := 2) d4_1 rfl rfl (by first | rfl | assumption) ?_
  refine Wk.iconst (q := 3) (0) d4_2 rfl (by decide) ?_
  refine Wk.aload_n (q := 4) d4_3 rfl rfl (by first | rfl | assumption) ?_
  refine Wk.arraylength (q := 5) d4_4 rfl (by repeat (first | exact List.mem_cons_self | assumption | refine List.mem_cons_of_mem _ ?_)) (show (cs.map Value.int).length.toInt32 = cs.length.toInt32 by simp) ?_
  refine Wk.aconst_null (q := 6) d4_5 rfl ?_
  refine Wk.special (q := 9) [_, _, _, _] _ 0 d4_6 rfl rfl (hw _ (List.mem_of_getElem? (i := 11) rfl)) (hw _ (List.mem_of_getElem? (i := 12) rfl)) (hw _ (List.mem_of_getElem? (i := 7) rfl)) (hw _ (List.mem_of_getElem? (i := 14) rfl)) ar_3 (by decide) rfl rfl rfl rfl (ct_strInit4 hw hE F hc h0 N hN hl hm) (by first | decide | (dsimp only; omega) | omega) (by first | decide | (dsimp only; omega) | omega) (by first | decide | (dsimp only; omega) | omega) (by first | decide | (dsimp only; omega) | omega) (k0 ?_)
  rintro _ ⟨b, rfl⟩
  refine Wk.return_ d4_9 rfl ?_
  exact ⟨rfl, b, rfl⟩

set_option maxHeartbeats 4000000 in
theorem ct_strInit4e {l : Launch} {Z : State} {a0 : Array Value} (hw : ∀ d ∈ tables_1, d.before a0 Z = true) (hE : EW Z a0 EL0) {L : Store} {sa ca : Addr} :
    Ct l Z EL0 (⟨"java/lang/String", "<init>", "([CIILjava/lang/Void;)V"⟩ : MethodName) jdk_42_method_149_code 6 none ({ frames := 2, cells := 4, slots := 8, locals := 35 } : Room) #[.ref sa, .ref ca, .int 0, .int 0, .null] ((sa, true, OB Z "java/lang/String" layS [.null, .int 0]) :: L) (R0 fun M => ∃ b, M = (sa, true, OB Z "java/lang/String" layS [.ref b, .int 0]) :: (b, false, AR Z .byte []) :: L) := by
  refine Ct.of (a0 := a0) (Ls := [.val (.ref _), .val (.ref _), .val (.int _), .val (.int _), .val .null, .unset]) (plainFor_of_name pn_1) (fun m => ef_rriin_6 m _ _ _ _) hE ?_
  refine Wk.aload_n (q := 1) d3_0 rfl rfl (by first | rfl | assumption) ?_
  refine Wk.objinit (q := 4) 0 d3_1 rfl (hw _ (List.mem_of_getElem? (i := 15) rfl)) (hw _ (List.mem_of_getElem? (i := 16) rfl)) (hw _ (List.mem_of_getElem? (i := 17) rfl)) rfl (by first | decide | (dsimp only; omega) | omega) rfl (by first | decide | (dsimp only; omega) | omega) ?_
  refine Wk.iload_n (q := 5) d3_4 rfl rfl ?_
  refine Wk.if_f (q := 8) d3_5 rfl (by decide) ?_
  refine Wk.aload_n (q := 9) d3_8 rfl rfl (by first | rfl | assumption) ?_
  refine Wk.ldcS (q := 11) 0 [] 0 d3_9 rfl (hw _ (List.mem_of_getElem? (i := 141) rfl)) (wS hw) (by decide +kernel) (by decide +kernel) (by decide) (by decide) (by decide +kernel) (by decide) (by first | decide | (dsimp only; omega) | omega) (by first | decide | (dsimp only; omega) | omega) ?_
  intro t1 b1
  refine Wk.getfield (q := 14) (C := "java/lang/String") (lay := layS) 0 d3_11 rfl (hw _ (List.mem_of_getElem? (i := 32) rfl)) Via.refl (by repeat (first | exact List.mem_cons_self | assumption | refine List.mem_cons_of_mem _ ?_)) rfl (by rfl) ?_
  refine Wk.putfield (q := 17) (C := "java/lang/String") (lay := layS) 0 d3_14 rfl (hw _ (List.mem_of_getElem? (i := 32) rfl)) Via.refl (layS_ok hw) (hw _ (List.mem_of_getElem? (i := 6) rfl)) (Or.inr ⟨(hw _ (List.mem_of_getElem? (i := 33) rfl)), rfl, rfl⟩) rfl (by decide +kernel : parseFieldDescriptor "[B" = some (.array .byte)) (by repeat (first | exact Ex.here | assumption | apply Ex.there)) (VS.here) (by first | rfl | exact narO) (by first | rfl | exact fitO (by assumption) | exact fitA (by assumption)) ?_
  refine Wk.aload_n (q := 18) d3_17 rfl rfl (by first | rfl | assumption) ?_
  refine Wk.ldcS (q := 20) 0 [] 0 d3_18 rfl (hw _ (List.mem_of_getElem? (i := 141) rfl)) (wS hw) (by decide +kernel) (by decide +kernel) (by decide) (by decide) (by decide +kernel) (by decide) (by first | decide | (dsimp only; omega) | omega) (by first | decide | (dsimp only; omega) | omega) ?_
  intro t2 b2
  refine Wk.getfield (q := 23) (C := "java/lang/String") (lay := layS) 1 d3_20 rfl (hw _ (List.mem_of_getElem? (i := 30) rfl)) Via.refl (by repeat (first | exact List.mem_cons_self | assumption | refine List.mem_cons_of_mem _ ?_)) rfl (by rfl) ?_
  refine Wk.putfield (q := 26) (C := "java/lang/String") (lay := layS) 1 d3_23 rfl (hw _ (List.mem_of_getElem? (i := 30) rfl)) Via.refl (layS_ok hw) (hw _ (List.mem_of_getElem? (i := 6) rfl)) (Or.inr ⟨(hw _ (List.mem_of_getElem? (i := 31) rfl)), rfl, rfl⟩) rfl (by decide +kernel : parseFieldDescriptor "B" = some .byte) (by repeat (first | exact Ex.here | assumption | apply Ex.there)) (VS.there (VS.here)) (by first | rfl | exact narO) (by first | rfl | exact fitO (by assumption) | exact fitA (by assumption)) ?_
  refine Wk.sub (.cons_cons _ (.cons _ (.cons _ (.cons _ (.refl _))))) ?_
  refine Wk.return_ d3_26 rfl ?_
  exact ⟨rfl, b1, rfl⟩
set_option maxHeartbeats 4000000 in
theorem ct_strInitG {l : Launch} {Z : State} {a0 : Array Value} (hw : ∀ d ∈ tables_1, d.before a0 Z = true) (hE : EW Z a0 EL0) (F : ∃ z, z ≠ (0 : Int32) ∧ Sta Z Z.heap "java/lang/String" "COMPACT_STRINGS" "Z" (.int z)) {L : Store} {sa ca : Addr} {fa : Bool} {cs : List Int32} (hc : Lat cs) (N : Nat) (hN : cs.length ≤ N) (hl : cs.length ≤ 4000) (hm : (ca, fa, AR Z .char (cs.map .int)) ∈ L) :
    Ct l Z EL0 (⟨"java/lang/String", "<init>", "([C)V"⟩ : MethodName) jdk_42_method_3_code 2 none ({ frames := 3, cells := 4, slots := N + 8, locals := 52 } : Room) #[.ref sa, .ref ca] ((sa, true, OB Z "java/lang/String" layS [.null, .int 0]) :: L) (R0 fun M => ∃ b fb, M = (sa, true, OB Z "java/lang/String" layS [.ref b, .int 0]) :: (b, fb, AR Z .byte ((cs.map b8).map .int)) :: L) := by
  refine Ct.of (a0 := a0) (Ls := [.val (.ref _), .val (.ref _)]) (plainFor_of_name pn_1) (fun m => ef_rr_2 m _ _) hE ?_
  refine Wk.aload_n (q := 1) d4_0 rfl rfl (by first | rfl | assumption) ?_
  refine Wk.aload_n (q := 2) d4_1 rfl rfl (by first | rfl | assumption) ?_
  refine Wk.iconst (q := 3) (0) d4_2 rfl (by decide) ?_
  refine Wk.aload_n (q := 4) d4_3 rfl rfl (by first | rfl | assumption) ?_
  refine Wk.arraylength (q := 5) d4_4 rfl (by repeat (first | exact List.mem_cons_self | assumption | refine List.mem_cons_of_mem _ ?_)) (show (cs.map Value.int).length.toInt32 = cs.length.toInt32 by simp) ?_
  refine Wk.aconst_null (q := 6) d4_5 rfl ?_
  by_cases h0 : cs = []
  · subst h0
    refine Wk.special (q := 9) [_, _, _, _] _ 0 d4_6 rfl rfl (hw _ (List.mem_of_getElem? (i := 11) rfl)) (hw _ (List.mem_of_getElem? (i := 12) rfl)) (hw _ (List.mem_of_getElem? (i := 7) rfl)) (hw _ (List.mem_of_getElem? (i := 14) rfl)) ar_3 (by decide) rfl rfl rfl rfl (ct_strInit4e hw hE) (by first | decide | (dsimp only; omega) | omega) (by first | decide | (dsimp only; omega) | omega) (by first | decide | (dsimp only; omega) | omega) (by first | decide | (dsimp only; omega) | omega) (k0 ?_)
    rintro _ ⟨b, rfl⟩
    refine Wk.return_ d4_9 rfl ?_
    exact ⟨rfl, b, false, rfl⟩
  · refine Wk.special (q := 9) [_, _, _, _] _ 0 d4_6 rfl rfl (hw _ (List.mem_of_getElem? (i := 11) rfl)) (hw _ (List.mem_of_getElem? (i := 12) rfl)) (hw _ (List.mem_of_getElem? (i := 7) rfl)) (hw _ (List.mem_of_getElem? (i := 14) rfl)) ar_3 (by decide) rfl rfl rfl rfl (ct_strInit4 hw hE F hc h0 N hN hl hm) (by first | decide | (dsimp only; omega) | omega) (by first | decide | (dsimp only; omega) | omega) (by first | decide | (dsimp only; omega) | omega) (by first | decide | (dsimp only; omega) | omega) (k0 ?_)
    rintro _ ⟨b, rfl⟩
    refine Wk.return_ d4_9 rfl ?_
    exact ⟨rfl, b, true, rfl⟩

set_option maxHeartbeats 4000000 in
theorem wk_latEq {l : Launch} {Z : State} {a0 : Array Value} (hw : ∀ d ∈ tables_1, d.before a0 Z = true) (hE : EW Z a0 EL0) {L : Store} {a b : Addr} {fa fb : Bool} {xs ys : List Int32} (hl : xs.length < 2 ^ 31) (he : xs.length = ys.length) (ha : (a, fa, AR Z .byte (xs.map .int)) ∈ L) (hb : (b, fb, AR Z .byte (ys.map .int)) ∈ L) {cb sb : Nat} : ∀ (k i : Nat), i + k = xs.length → xs.take i = ys.take i →
    Wk l Z a0 EL0 (⟨"java/lang/StringLatin1", "equals", "([B[B)Z"⟩ : MethodName) jdk_43_method_13_code 3 (some .boolean) ({ frames := 0, cells := 0, slots := 0, locals := 0 } : Room) (RV fun u M => u = .int (if xs = ys then 1 else 0) ∧ M = L) L cb sb 9 [.val (.ref a), .val (.ref b), .val (.int i.toInt32)] [] := by
  intro k
  induction k with
  | zero =>
    intro i hi ht
    have hi' : i = xs.length := by omega
    subst hi'
    have e : xs = ys := by
      have h1 := List.take_length (l := xs)
      rw [ht, he, List.take_length] at h1
      exact h1.symm
    refine Wk.iload_n (q := 10) d5_9 rfl rfl ?_
    refine Wk.aload_n (q := 11) d5_10 rfl rfl (by first | rfl | assumption) ?_
    refine Wk.arraylength (q := 12) d5_11 rfl (by repeat (first | exact List.mem_cons_self | assumption | refine List.mem_cons_of_mem _ ?_)) (show (xs.map Value.int).length.toInt32 = xs.length.toInt32 by simp) ?_
    refine Wk.icmp_t (q := 32) d5_12 (by decide) (by decide) (XT.ii_ge_t (fun h => by rw [n32_lt hl hl] at h; omega)) ?_
    refine Wk.iconst (q := 33) (1) d5_32 rfl (by decide) ?_
    refine Wk.ireturn (t := .boolean) d5_33 rfl (by simp) (by rfl) ?_
    exact ⟨_, rfl, by rw [if_pos e], rfl⟩
  | succ k ih =>
    intro i hi ht
    have h1 : i < xs.length := by omega
    have h2 : i < ys.length := by omega
    have h3 : i < 2 ^ 31 := by omega
    refine Wk.iload_n (q := 10) d5_9 rfl rfl ?_
    refine Wk.aload_n (q := 11) d5_10 rfl rfl (by first | rfl | assumption) ?_
    refine Wk.arraylength (q := 12) d5_11 rfl (by repeat (first | exact List.mem_cons_self | assumption | refine List.mem_cons_of_mem _ ?_)) (show (xs.map Value.int).length.toInt32 = xs.length.toInt32 by simp) ?_
    refine Wk.icmp_f (q := 15) d5_12 rfl (XT.ii_ge_f ((n32_lt h3 hl).mpr h1)) ?_
    refine Wk.aload_n (q := 16) d5_15 rfl rfl (by first | rfl | assumption) ?_
    refine Wk.iload_n (q := 17) d5_16 rfl rfl ?_
    refine Wk.baload (q := 18) (i) d5_17 rfl (by repeat (first | exact List.mem_cons_self | assumption | refine List.mem_cons_of_mem _ ?_)) (n32_nn h3) (n32_nat h3) (show (xs.map Value.int)[i]? = some (.int xs[i]) by simp [h1]) ?_
    refine Wk.aload_n (q := 19) d5_18 rfl rfl (by first | rfl | assumption) ?_
    refine Wk.iload_n (q := 20) d5_19 rfl rfl ?_
    refine Wk.baload (q := 21) (i) d5_20 rfl (by repeat (first | exact List.mem_cons_self | assumption | refine List.mem_cons_of_mem _ ?_)) (n32_nn h3) (n32_nat h3) (show (ys.map Value.int)[i]? = some (.int ys[i]) by simp [h2]) ?_
    refine Wk.icmp_s (q := 26) (q' := 24) d5_21 (by decide) (by decide) rfl ?_ ?_
    · intro (h : xs[i] = ys[i])
      refine Wk.iinc (q := 29) (1) d5_26 rfl (by decide) rfl (LS1.there (LS1.there (LS1.here (by first | exact One.u | exact One.val rfl | assumption)))) ?_
      refine Wk.goto (q := 9) d5_29 (by decide) (by decide) ?_
      rw [n32_succ]
      exact ih (i + 1) (by omega) (by rw [List.take_succ_eq_append_getElem h1, List.take_succ_eq_append_getElem h2, ht, h])
    · intro (h : ¬ xs[i] = ys[i])
      refine Wk.iconst (q := 25) (0) d5_24 rfl (by decide) ?_
      refine Wk.ireturn (t := .boolean) d5_25 rfl (by simp) (by rfl) ?_
      refine ⟨_, rfl, ?_, rfl⟩
      rw [if_neg]
      rintro rfl
      exact h rfl
theorem ct_latEq {l : Launch} {Z : State} {a0 : Array Value} (hw : ∀ d ∈ tables_1, d.before a0 Z = true) (hE : EW Z a0 EL0) {L : Store} {a b : Addr} {fa fb : Bool} {xs ys : List Int32} (hl : xs.length < 2 ^ 31) (hl' : ys.length < 2 ^ 31) (ha : (a, fa, AR Z .byte (xs.map .int)) ∈ L) (hb : (b, fb, AR Z .byte (ys.map .int)) ∈ L) :
    Ct l Z EL0 (⟨"java/lang/StringLatin1", "equals", "([B[B)Z"⟩ : MethodName) jdk_43_method_13_code 3 (some .boolean) ({ frames := 0, cells := 0, slots := 0, locals := 0 } : Room) #[.ref a, .ref b] L (RV fun u M => u = .int (if xs = ys then 1 else 0) ∧ M = L) := by
  refine Ct.of (a0 := a0) (Ls := [.val (.ref _), .val (.ref _), .unset]) (plainFor_of_name pn_2) (fun m => ef_rr_3 m _ _) hE ?_
  refine Wk.aload_n (q := 1) d5_0 rfl rfl (by first | rfl | assumption) ?_
  refine Wk.arraylength (q := 2) d5_1 rfl (by repeat (first | exact List.mem_cons_self | assumption | refine List.mem_cons_of_mem _ ?_)) (show (xs.map Value.int).length.toInt32 = xs.length.toInt32 by simp) ?_
  refine Wk.aload_n (q := 3) d5_2 rfl rfl (by first | rfl | assumption) ?_
  refine Wk.arraylength (q := 4) d5_3 rfl (by repeat (first | exact List.mem_cons_self | assumption | refine List.mem_cons_of_mem _ ?_)) (show (ys.map Value.int).length.toInt32 = ys.length.toInt32 by simp) ?_
  refine Wk.icmp_s (q := 34) (q' := 7) d5_4 (by decide) (by decide) rfl ?_ ?_
  · intro (h : ¬ xs.length.toInt32 = ys.length.toInt32)
    refine Wk.iconst (q := 35) (0) d5_34 rfl (by decide) ?_
    refine Wk.ireturn (t := .boolean) d5_35 rfl (by simp) (by rfl) ?_
    refine ⟨_, rfl, ?_, rfl⟩
    rw [if_neg]
    rintro rfl
    exact h rfl
  · intro (h : xs.length.toInt32 = ys.length.toInt32)
    refine Wk.iconst (q := 8) (0) d5_7 rfl (by decide) ?_
    refine Wk.istore_n (q := 9) d5_8 rfl (LS1.there (LS1.there (LS1.here (by first | exact One.u | exact One.val rfl | assumption)))) ?_
    exact wk_latEq hw hE hl ((n32_inj hl hl').mp h) ha hb xs.length 0 (by omega) rfl
set_option maxHeartbeats 4000000 in
theorem ct_strEq {l : Launch} {Z : State} {a0 : Array Value} (hw : ∀ d ∈ tables_1, d.before a0 Z = true) (hE : EW Z a0 EL0) (F : ∃ z, z ≠ (0 : Int32) ∧ Sta Z Z.heap "java/lang/String" "COMPACT_STRINGS" "Z" (.int z)) {L : Store} {s t a b : Addr} {fs ft fa fb : Bool} {xs ys : List Int32} (hl : xs.length < 2 ^ 31) (hl' : ys.length < 2 ^ 31)
    (hs : (s, fs, OB Z "java/lang/String" layS [.ref a, .int 0]) ∈ L) (ht : (t, ft, OB Z "java/lang/String" layS [.ref b, .int 0]) ∈ L) (ha : (a, fa, AR Z .byte (xs.map .int)) ∈ L) (hb : (b, fb, AR Z .byte (ys.map .int)) ∈ L) :
    Ct l Z EL0 (⟨"java/lang/String", "equals", "(Ljava/lang/Object;)Z"⟩ : MethodName) jdk_42_method_66_code 3 (some .boolean) ({ frames := 1, cells := 0, slots := 0, locals := 14 } : Room) #[.ref s, .ref t] L (RV fun u M => u = .int (if xs = ys then 1 else 0) ∧ M = L) := by
  obtain ⟨z, hz, FS⟩ := F
  refine Ct.of (a0 := a0) (Ls := [.val (.ref _), .val (.ref _), .unset]) (plainFor_of_name pn_1) (fun m => ef_rr_3 m _ _) hE ?_
  refine Wk.aload_n (q := 1) d6_0 rfl rfl (by first | rfl | assumption) ?_
  refine Wk.aload_n (q := 2) d6_1 rfl rfl (by first | rfl | assumption) ?_
  by_cases he : s = t
  · subst he
    refine Wk.know (fun vm h I => (show xs = ys by
      have e1 := I.sameObj hs ht (j := 0) rfl rfl rfl
      cases e1
      exact map_int_inj (I.sameArr ha hb))) ?_
    intro e
    refine Wk.acmp_f (q := 5) d6_2 rfl rfl rfl (by simp [XT.acmp]) ?_
    refine Wk.iconst (q := 6) (1) d6_5 rfl (by decide) ?_
    refine Wk.ireturn (t := .boolean) d6_6 rfl (by simp) (by rfl) ?_
    exact ⟨_, rfl, by rw [if_pos e], rfl⟩
  · refine Wk.acmp_t (q := 7) d6_2 (by decide) (by decide) rfl rfl (by simp [XT.acmp, he]) ?_
    refine Wk.aload_n (q := 8) d6_7 rfl rfl (by first | rfl | assumption) ?_
    refine Wk.instanceof_t (q := 11) (C := "java/lang/String") d6_8 rfl (hw _ (List.mem_of_getElem? (i := 229) rfl)) (by repeat (first | exact List.mem_cons_self | assumption | refine List.mem_cons_of_mem _ ?_)) (hw _ (List.mem_of_getElem? (i := 13) rfl)) ?_
    refine Wk.if_f (q := 14) d6_11 rfl (by decide) ?_
    refine Wk.aload_n (q := 15) d6_14 rfl rfl (by first | rfl | assumption) ?_
    refine Wk.checkcast (q := 18) (C := "java/lang/String") d6_15 rfl (hw _ (List.mem_of_getElem? (i := 229) rfl)) (by repeat (first | exact List.mem_cons_self | assumption | refine List.mem_cons_of_mem _ ?_)) (hw _ (List.mem_of_getElem? (i := 13) rfl)) ?_
    refine Wk.astore_n (q := 19) d6_18 rfl (by first | rfl | assumption) (LS1.there (LS1.there (LS1.here (by first | exact One.u | exact One.val rfl | assumption)))) ?_
    refine Wk.getstatic (q := 22) d6_19 rfl (hw _ (List.mem_of_getElem? (i := 18) rfl)) Via.refl FS ?_
    refine Wk.if_f (q := 25) d6_22 rfl (XT.i0_eq_f hz) ?_
    refine Wk.aload_n (q := 26) d6_25 rfl rfl (by first | rfl | assumption) ?_
    refine Wk.getfield (q := 29) (C := "java/lang/String") (lay := layS) 1 d6_26 rfl (hw _ (List.mem_of_getElem? (i := 30) rfl)) Via.refl (by repeat (first | exact List.mem_cons_self | assumption | refine List.mem_cons_of_mem _ ?_)) rfl (by rfl) ?_
    refine Wk.aload_n (q := 30) d6_29 rfl rfl (by first | rfl | assumption) ?_
    refine Wk.getfield (q := 33) (C := "java/lang/String") (lay := layS) 1 d6_30 rfl (hw _ (List.mem_of_getElem? (i := 30) rfl)) Via.refl (by repeat (first | exact List.mem_cons_self | assumption | refine List.mem_cons_of_mem _ ?_)) rfl (by rfl) ?_
    refine Wk.icmp_f (q := 36) d6_33 rfl (by decide) ?_
    refine Wk.aload_n (q := 37) d6_36 rfl rfl (by first | rfl | assumption) ?_
    refine Wk.getfield (q := 40) (C := "java/lang/String") (lay := layS) 0 d6_37 rfl (hw _ (List.mem_of_getElem? (i := 32) rfl)) Via.refl (by repeat (first | exact List.mem_cons_self | assumption | refine List.mem_cons_of_mem _ ?_)) rfl (by rfl) ?_
    refine Wk.aload_n (q := 41) d6_40 rfl rfl (by first | rfl | assumption) ?_
    refine Wk.getfield (q := 44) (C := "java/lang/String") (lay := layS) 0 d6_41 rfl (hw _ (List.mem_of_getElem? (i := 32) rfl)) Via.refl (by repeat (first | exact List.mem_cons_self | assumption | refine List.mem_cons_of_mem _ ?_)) rfl (by rfl) ?_
    refine Wk.static (q := 47) [_, _] _ 0 d6_44 rfl (hw _ (List.mem_of_getElem? (i := 230) rfl)) (hw _ (List.mem_of_getElem? (i := 231) rfl)) (hw _ (List.mem_of_getElem? (i := 107) rfl)) (hw _ (List.mem_of_getElem? (i := 232) rfl)) ar_4 (by decide) rfl rfl rfl rfl (ct_latEq hw hE hl hl' ha hb) (by first | decide | (dsimp only; omega) | omega) (by first | decide | (dsimp only; omega) | omega) (by first | decide | (dsimp only; omega) | omega) (by first | decide | (dsimp only; omega) | omega) (kv ?_)
    rintro _ _ ⟨rfl, rfl⟩
    by_cases e : xs = ys
    · rw [if_pos e]
      refine Wk.if_f (q := 50) d6_47 rfl (by decide) ?_
      refine Wk.iconst (q := 51) (1) d6_50 rfl (by decide) ?_
      refine Wk.goto (q := 55) d6_51 (by decide) (by decide) ?_
      refine Wk.ireturn (t := .boolean) d6_55 rfl (by simp) (by rfl) ?_
      exact ⟨_, rfl, rfl, rfl⟩
    · rw [if_neg e]
      refine Wk.if_t (q := 54) d6_47 (by decide) (by decide) (by decide) ?_
      refine Wk.iconst (q := 55) (0) d6_54 rfl (by decide) ?_
      refine Wk.ireturn (t := .boolean) d6_55 rfl (by simp) (by rfl) ?_
      exact ⟨_, rfl, rfl, rfl⟩

theorem b8_back {c : Int32} (h : 0 ≤ c.toInt ∧ c.toInt < 256) : b8 c &&& 255 = c := by
  apply Int32.toInt_inj.mp
  have a := c_mask (b8 c) 255 8 (by decide) (by decide)
  have b := b8_toInt h
  simp only [pw0, pw1, pw8, pw31] at a
  rw [a, b]
  split <;> omega
theorem shr0 (x : Int32) : x >>> ((0 : Int32) &&& 31) = x := by
  apply Int32.toInt_inj.mp
  have a := c_ishr x 0 0 (by decide)
  simp only [pw0, pw1, pw8, pw31] at a
  omega
theorem shr1 {n : Nat} (h : n < 1000000) : (2 * n).toInt32 >>> ((1 : Int32) &&& 31) = n.toInt32 := by
  apply Int32.toInt_inj.mp
  have a := c_ishr (2 * n).toInt32 1 1 (by decide)
  rw [n32 (show 2 * n < 2 ^ 31 by omega)] at a
  rw [n32 (show n < 2 ^ 31 by omega)]
  simp only [pw0, pw1, pw8, pw31] at a
  omega
theorem ct_coder {l : Launch} {Z : State} {a0 : Array Value} (hw : ∀ d ∈ tables_1, d.before a0 Z = true) (hE : EW Z a0 EL0) (F : ∃ z, z ≠ (0 : Int32) ∧ Sta Z Z.heap "java/lang/String" "COMPACT_STRINGS" "Z" (.int z)) {L : Store} {s b : Addr} {f : Bool} {k : Int32} (hk : k = 0 ∨ k = 1) (hs : (s, f, OB Z "java/lang/String" layS [.ref b, .int k]) ∈ L) :
    Ct l Z EL0 (⟨"java/lang/String", "coder", "()B"⟩ : MethodName) jdk_42_method_152_code 1 (some .byte) ({ frames := 0, cells := 0, slots := 0, locals := 0 } : Room) #[.ref s] L (RV fun u M => u = .int k ∧ M = L) := by
  obtain ⟨z, hz, FS⟩ := F
  refine Ct.of (a0 := a0) (Ls := [.val (.ref _)]) (plainFor_of_name pn_1) (fun m => ef_r_1 m _) hE ?_
  refine Wk.getstatic (q := 3) d7_0 rfl (hw _ (List.mem_of_getElem? (i := 18) rfl)) Via.refl FS ?_
  refine Wk.if_f (q := 6) d7_3 rfl (XT.i0_eq_f hz) ?_
  refine Wk.aload_n (q := 7) d7_6 rfl rfl (by first | rfl | assumption) ?_
  refine Wk.getfield (q := 10) (C := "java/lang/String") (lay := layS) 1 d7_7 rfl (hw _ (List.mem_of_getElem? (i := 30) rfl)) Via.refl (by repeat (first | exact List.mem_cons_self | assumption | refine List.mem_cons_of_mem _ ?_)) rfl (by rfl) ?_
  refine Wk.goto (q := 14) d7_10 (by decide) (by decide) ?_
  refine Wk.ireturn (t := .byte) d7_14 rfl (by simp) (by rcases hk with rfl | rfl <;> decide) ?_
  exact ⟨_, rfl, rfl, rfl⟩
theorem ct_len {l : Launch} {Z : State} {a0 : Array Value} (hw : ∀ d ∈ tables_1, d.before a0 Z = true) (hE : EW Z a0 EL0) (F : ∃ z, z ≠ (0 : Int32) ∧ Sta Z Z.heap "java/lang/String" "COMPACT_STRINGS" "Z" (.int z)) {L : Store} {s b : Addr} {f fb : Bool} {k : Int32} {vs : List Value} (hk : k = 0 ∨ k = 1) (hs : (s, f, OB Z "java/lang/String" layS [.ref b, .int k]) ∈ L) (hb : (b, fb, AR Z .byte vs) ∈ L) :
    Ct l Z EL0 (⟨"java/lang/String", "length", "()I"⟩ : MethodName) jdk_42_method_54_code 1 (some .int) ({ frames := 1, cells := 0, slots := 0, locals := 13 } : Room) #[.ref s] L (RV fun u M => u = .int (vs.length.toInt32 >>> (k &&& 31)) ∧ M = L) := by
  refine Ct.of (a0 := a0) (Ls := [.val (.ref _)]) (plainFor_of_name pn_1) (fun m => ef_r_1 m _) hE ?_
  refine Wk.aload_n (q := 1) d8_0 rfl rfl (by first | rfl | assumption) ?_
  refine Wk.getfield (q := 4) (C := "java/lang/String") (lay := layS) 0 d8_1 rfl (hw _ (List.mem_of_getElem? (i := 32) rfl)) Via.refl (by repeat (first | exact List.mem_cons_self | assumption | refine List.mem_cons_of_mem _ ?_)) rfl (by rfl) ?_
  refine Wk.arraylength (q := 5) d8_4 rfl (by repeat (first | exact List.mem_cons_self | assumption | refine List.mem_cons_of_mem _ ?_)) (by rfl) ?_
  refine Wk.aload_n (q := 6) d8_5 rfl rfl (by first | rfl | assumption) ?_
  refine Wk.virtual (q := 9) (C := "java/lang/String") [] _ 1 d8_6 rfl (hw _ (List.mem_of_getElem? (i := 89) rfl)) (hw _ (List.mem_of_getElem? (i := 90) rfl)) (hw _ (List.mem_of_getElem? (i := 92) rfl)) (hw _ (List.mem_of_getElem? (i := 91) rfl)) (hw _ (List.mem_of_getElem? (i := 7) rfl)) (hw _ (List.mem_of_getElem? (i := 93) rfl)) ar_5 (by decide) (nfSel (hw _ (List.mem_of_getElem? (i := 92) rfl))) (by repeat (first | exact List.mem_cons_self | assumption | refine List.mem_cons_of_mem _ ?_)) rfl rfl rfl rfl (ct_coder hw hE F hk hs) (by first | decide | (dsimp only; omega) | omega) (by first | decide | (dsimp only; omega) | omega) (by first | decide | (dsimp only; omega) | omega) (by first | decide | (dsimp only; omega) | omega) (kv ?_)
  rintro _ _ ⟨rfl, rfl⟩
  refine Wk.ishr (q := 10) d8_9 rfl ?_
  refine Wk.ireturn (t := .int) d8_10 rfl (by simp) (by rfl) ?_
  exact ⟨_, rfl, rfl, rfl⟩
theorem ct_lenL {l : Launch} {Z : State} {a0 : Array Value} (hw : ∀ d ∈ tables_1, d.before a0 Z = true) (hE : EW Z a0 EL0) (F : ∃ z, z ≠ (0 : Int32) ∧ Sta Z Z.heap "java/lang/String" "COMPACT_STRINGS" "Z" (.int z)) {L : Store} {s b : Addr} {f fb : Bool} {xs : List Int32} (hs : (s, f, OB Z "java/lang/String" layS [.ref b, .int 0]) ∈ L) (hb : (b, fb, AR Z .byte (xs.map .int)) ∈ L) :
    Ct l Z EL0 (⟨"java/lang/String", "length", "()I"⟩ : MethodName) jdk_42_method_54_code 1 (some .int) ({ frames := 1, cells := 0, slots := 0, locals := 13 } : Room) #[.ref s] L (RV fun u M => u = .int xs.length.toInt32 ∧ M = L) :=
  Ct.imp (fun v M ⟨u, h1, h2, h3⟩ => ⟨u, h1, by rw [h2, shr0]; simp, h3⟩) (ct_len hw hE F (Or.inl rfl) hs hb)

/-- the formatter of the bounds' faults -/
def FO (Z : State) : Prop := ∃ w : Value, w.isRef = true ∧ Sta Z Z.heap "jdk/internal/util/Preconditions" "SIOOBE_FORMATTER" "Ljava/util/function/BiFunction;" w
theorem FO_of {Z : State} {args : Array Value} (h1 : (Jvm.Cond.initializedFor "jdk/internal/util/Preconditions" "SIOOBE_FORMATTER" "Ljava/util/function/BiFunction;").before args Z = true) (h2 : (Jvm.Cond.isRef (Term.static "jdk/internal/util/Preconditions" "SIOOBE_FORMATTER" "Ljava/util/function/BiFunction;")).before args Z = true) : FO Z := by
  obtain ⟨w, ev, hr⟩ := isR_v (Cond.before_iff.mp h2)
  exact ⟨w, hr, Sta.start (args := args) ev (Or.inl h1)⟩
theorem ct_isLat {l : Launch} {Z : State} {a0 : Array Value} (hw : ∀ d ∈ tables_1, d.before a0 Z = true) (hE : EW Z a0 EL0) (F : ∃ z, z ≠ (0 : Int32) ∧ Sta Z Z.heap "java/lang/String" "COMPACT_STRINGS" "Z" (.int z)) {L : Store} {s b : Addr} {f : Bool} {k : Int32} (hk : k = 0 ∨ k = 1) (hs : (s, f, OB Z "java/lang/String" layS [.ref b, .int k]) ∈ L) :
    Ct l Z EL0 (⟨"java/lang/String", "isLatin1", "()Z"⟩ : MethodName) jdk_42_method_154_code 1 (some .boolean) ({ frames := 0, cells := 0, slots := 0, locals := 0 } : Room) #[.ref s] L (RV fun u M => u = .int (1 - k) ∧ M = L) := by
  obtain ⟨z, hz, FS⟩ := F
  refine Ct.of (a0 := a0) (Ls := [.val (.ref _)]) (plainFor_of_name pn_1) (fun m => ef_r_1 m _) hE ?_
  refine Wk.getstatic (q := 3) d9_0 rfl (hw _ (List.mem_of_getElem? (i := 18) rfl)) Via.refl FS ?_
  refine Wk.if_f (q := 6) d9_3 rfl (XT.i0_eq_f hz) ?_
  refine Wk.aload_n (q := 7) d9_6 rfl rfl (by first | rfl | assumption) ?_
  refine Wk.getfield (q := 10) (C := "java/lang/String") (lay := layS) 1 d9_7 rfl (hw _ (List.mem_of_getElem? (i := 30) rfl)) Via.refl (by repeat (first | exact List.mem_cons_self | assumption | refine List.mem_cons_of_mem _ ?_)) rfl (by rfl) ?_
  rcases hk with rfl | rfl
  · refine Wk.if_f (q := 13) d9_10 rfl (by decide) ?_
    refine Wk.iconst (q := 14) (1) d9_13 rfl (by decide) ?_
    refine Wk.goto (q := 18) d9_14 (by decide) (by decide) ?_
    refine Wk.ireturn (t := .boolean) d9_18 rfl (by simp) (by rfl) ?_
    exact ⟨_, rfl, by decide, rfl⟩
  · refine Wk.if_t (q := 17) d9_10 (by decide) (by decide) (by decide) ?_
    refine Wk.iconst (q := 18) (0) d9_17 rfl (by decide) ?_
    refine Wk.ireturn (t := .boolean) d9_18 rfl (by simp) (by rfl) ?_
    exact ⟨_, rfl, by decide, rfl⟩

theorem ct_preIdx {l : Launch} {Z : State} {a0 : Array Value} (hw : ∀ d ∈ tables_1, d.before a0 Z = true) (hE : EW Z a0 EL0) {L : Store} {i n : Int32} {w : Value} (hr : w.isRef = true) (h0 : ¬ i < 0) (h1 : i < n) : Ct l Z EL0 (⟨"jdk/internal/util/Preconditions", "checkIndex", "(IILjava/util/function/BiFunction;)I"⟩ : MethodName) jdk_41_method_11_code 3 (some .int) ({ frames := 0, cells := 0, slots := 0, locals := 0 } : Room) #[.int i, .int n, w] L (RV fun u M => u = .int i ∧ M = L) := by
  refine Ct.of (a0 := a0) (Ls := [.val (.int _), .val (.int _), .val _]) (plainFor_of_name pn_3) (fun m => ef_iiv_3 m _ _ _ (by assumption)) hE ?_
  refine Wk.iload_n (q := 1) d10_0 rfl rfl ?_
  refine Wk.if_f (q := 4) d10_1 rfl (XT.i0_lt_f h0) ?_
  refine Wk.iload_n (q := 5) d10_4 rfl rfl ?_
  refine Wk.iload_n (q := 6) d10_5 rfl rfl ?_
  refine Wk.icmp_t (q := 16) d10_6 (by decide) (by decide) (XT.ii_lt_t h1) ?_
  refine Wk.iload_n (q := 17) d10_16 rfl rfl ?_
  refine Wk.ireturn (t := .int) d10_17 rfl (by simp) (by rfl) ?_
  exact ⟨_, rfl, rfl, rfl⟩
theorem ct_strIdx {l : Launch} {Z : State} {a0 : Array Value} (hw : ∀ d ∈ tables_1, d.before a0 Z = true) (hE : EW Z a0 EL0) (hO : FO Z) {L : Store} {i n : Int32} (h0 : ¬ i < 0) (h1 : i < n) : Ct l Z EL0 (⟨"java/lang/String", "checkIndex", "(II)V"⟩ : MethodName) jdk_42_method_155_code 2 none ({ frames := 1, cells := 0, slots := 0, locals := 14 } : Room) #[.int i, .int n] L (R0 fun M => M = L) := by
  obtain ⟨w, hr, sta_SIOOBE_FORMATTER⟩ := hO
  refine Ct.of (a0 := a0) (Ls := [.val (.int _), .val (.int _)]) (plainFor_of_name pn_1) (fun m => ef_ii_2 m _ _) hE ?_
  refine Wk.iload_n (q := 1) d11_0 rfl rfl ?_
  refine Wk.iload_n (q := 2) d11_1 rfl rfl ?_
  refine Wk.getstatic (q := 5) d11_2 rfl (hw _ (List.mem_of_getElem? (i := 133) rfl)) Via.refl sta_SIOOBE_FORMATTER ?_
  refine Wk.static (q := 8) [_, _, _] _ 0 d11_5 rfl (hw _ (List.mem_of_getElem? (i := 135) rfl)) (hw _ (List.mem_of_getElem? (i := 136) rfl)) (hw _ (List.mem_of_getElem? (i := 134) rfl)) (hw _ (List.mem_of_getElem? (i := 137) rfl)) ar_6 (by decide) rfl rfl rfl rfl (ct_preIdx hw hE hr h0 h1) (by first | decide | (dsimp only; omega) | omega) (by first | decide | (dsimp only; omega) | omega) (by first | decide | (dsimp only; omega) | omega) (by first | decide | (dsimp only; omega) | omega) (kv ?_)
  rintro _ _ ⟨rfl, rfl⟩
  refine Wk.pop (q := 9) d11_8 rfl rfl ?_
  refine Wk.return_ d11_9 rfl ?_
  exact ⟨rfl, rfl⟩
theorem ct_latAt {l : Launch} {Z : State} {a0 : Array Value} (hw : ∀ d ∈ tables_1, d.before a0 Z = true) (hE : EW Z a0 EL0) (hO : FO Z) {L : Store} {b : Addr} {fb : Bool} {cs : List Int32} (hc : Lat cs) (hl : cs.length < 2 ^ 31) {i : Nat} (hi : i < cs.length) (hb : (b, fb, AR Z .byte ((cs.map b8).map .int)) ∈ L) : Ct l Z EL0 (⟨"java/lang/StringLatin1", "charAt", "([BI)C"⟩ : MethodName) jdk_43_method_2_code 2 (some .char) ({ frames := 2, cells := 0, slots := 0, locals := 27 } : Room) #[.ref b, .int i.toInt32] L (RV fun u M => u = .int cs[i] ∧ M = L) := by
  have h3 : i < 2 ^ 31 := by omega
  have hci := hc cs[i] (List.getElem_mem hi)
  refine Ct.of (a0 := a0) (Ls := [.val (.ref _), .val (.int _)]) (plainFor_of_name pn_2) (fun m => ef_ri_2 m _ _) hE ?_
  refine Wk.iload_n (q := 1) d12_0 rfl rfl ?_
  refine Wk.aload_n (q := 2) d12_1 rfl rfl (by first | rfl | assumption) ?_
  refine Wk.arraylength (q := 3) d12_2 rfl (by repeat (first | exact List.mem_cons_self | assumption | refine List.mem_cons_of_mem _ ?_)) (show ((cs.map b8).map Value.int).length.toInt32 = cs.length.toInt32 by simp) ?_
  refine Wk.static (q := 6) [_, _] _ 0 d12_3 rfl (hw _ (List.mem_of_getElem? (i := 130) rfl)) (hw _ (List.mem_of_getElem? (i := 131) rfl)) (hw _ (List.mem_of_getElem? (i := 7) rfl)) (hw _ (List.mem_of_getElem? (i := 132) rfl)) ar_7 (by decide) rfl rfl rfl rfl (ct_strIdx hw hE hO (n32_nn h3) ((n32_lt h3 hl).mpr hi)) (by first | decide | (dsimp only; omega) | omega) (by first | decide | (dsimp only; omega) | omega) (by first | decide | (dsimp only; omega) | omega) (by first | decide | (dsimp only; omega) | omega) (k0 ?_)
  rintro _ rfl
  refine Wk.aload_n (q := 7) d12_6 rfl rfl (by first | rfl | assumption) ?_
  refine Wk.iload_n (q := 8) d12_7 rfl rfl ?_
  refine Wk.baload (q := 9) (i) d12_8 rfl (by repeat (first | exact List.mem_cons_self | assumption | refine List.mem_cons_of_mem _ ?_)) (n32_nn h3) (n32_nat h3) (show ((cs.map b8).map Value.int)[i]? = some (.int (b8 cs[i])) by simp [hi]) ?_
  refine Wk.sipush (q := 12) (255) d12_9 rfl (by decide) ?_
  refine Wk.iand (q := 13) d12_12 rfl ?_
  refine Wk.i2c (q := 14) d12_13 rfl ?_
  rw [i2c_mask, b8_back hci]
  refine Wk.ireturn (t := .char) d12_14 rfl (by simp) (congrArg Value.int (nchar_lat hci)) ?_
  exact ⟨_, rfl, rfl, rfl⟩
theorem ct_atL {l : Launch} {Z : State} {a0 : Array Value} (hw : ∀ d ∈ tables_1, d.before a0 Z = true) (hE : EW Z a0 EL0) (F : ∃ z, z ≠ (0 : Int32) ∧ Sta Z Z.heap "java/lang/String" "COMPACT_STRINGS" "Z" (.int z)) (hO : FO Z) {L : Store} {s b : Addr} {f fb : Bool} {cs : List Int32} (hc : Lat cs) (hl : cs.length < 2 ^ 31) {i : Nat} (hi : i < cs.length) (hs : (s, f, OB Z "java/lang/String" layS [.ref b, .int 0]) ∈ L) (hb : (b, fb, AR Z .byte ((cs.map b8).map .int)) ∈ L) : Ct l Z EL0 (⟨"java/lang/String", "charAt", "(I)C"⟩ : MethodName) jdk_42_method_56_code 2 (some .char) ({ frames := 3, cells := 0, slots := 0, locals := 40 } : Room) #[.ref s, .int i.toInt32] L (RV fun u M => u = .int cs[i] ∧ M = L) := by
  have hci := hc cs[i] (List.getElem_mem hi)
  refine Ct.of (a0 := a0) (Ls := [.val (.ref _), .val (.int _)]) (plainFor_of_name pn_1) (fun m => ef_ri_2 m _ _) hE ?_
  refine Wk.aload_n (q := 1) d13_0 rfl rfl (by first | rfl | assumption) ?_
  refine Wk.virtual (q := 4) (C := "java/lang/String") [] _ 0 d13_1 rfl (hw _ (List.mem_of_getElem? (i := 99) rfl)) (hw _ (List.mem_of_getElem? (i := 100) rfl)) (hw _ (List.mem_of_getElem? (i := 102) rfl)) (hw _ (List.mem_of_getElem? (i := 101) rfl)) (hw _ (List.mem_of_getElem? (i := 7) rfl)) (hw _ (List.mem_of_getElem? (i := 103) rfl)) ar_8 (by decide) (nfSel (hw _ (List.mem_of_getElem? (i := 102) rfl))) (by repeat (first | exact List.mem_cons_self | assumption | refine List.mem_cons_of_mem _ ?_)) rfl rfl rfl rfl (ct_isLat hw hE F (Or.inl rfl) hs) (by first | decide | (dsimp only; omega) | omega) (by first | decide | (dsimp only; omega) | omega) (by first | decide | (dsimp only; omega) | omega) (by first | decide | (dsimp only; omega) | omega) (kv ?_)
  rintro _ _ ⟨rfl, rfl⟩
  refine Wk.if_f (q := 7) d13_4 rfl (by decide) ?_
  refine Wk.aload_n (q := 8) d13_7 rfl rfl (by first | rfl | assumption) ?_
  refine Wk.getfield (q := 11) (C := "java/lang/String") (lay := layS) 0 d13_8 rfl (hw _ (List.mem_of_getElem? (i := 32) rfl)) Via.refl (by repeat (first | exact List.mem_cons_self | assumption | refine List.mem_cons_of_mem _ ?_)) rfl (by rfl) ?_
  refine Wk.iload_n (q := 12) d13_11 rfl rfl ?_
  refine Wk.static (q := 15) [_, _] _ 0 d13_12 rfl (hw _ (List.mem_of_getElem? (i := 127) rfl)) (hw _ (List.mem_of_getElem? (i := 128) rfl)) (hw _ (List.mem_of_getElem? (i := 107) rfl)) (hw _ (List.mem_of_getElem? (i := 129) rfl)) ar_9 (by decide) rfl rfl rfl rfl (ct_latAt hw hE hO hc hl hi hb) (by first | decide | (dsimp only; omega) | omega) (by first | decide | (dsimp only; omega) | omega) (by first | decide | (dsimp only; omega) | omega) (by first | decide | (dsimp only; omega) | omega) (kv ?_)
  rintro _ _ ⟨rfl, rfl⟩
  refine Wk.ireturn (t := .char) d13_15 rfl (by simp) (congrArg Value.int (nchar_lat hci)) ?_
  exact ⟨_, rfl, rfl, rfl⟩

set_option maxHeartbeats 4000000 in
theorem ct_mism1 {l : Launch} {Z : State} {a0 : Array Value} (hw : ∀ d ∈ tables_1, d.before a0 Z = true) (hE : EW Z a0 EL0) {L : Store} {a b : Addr} {fa fb : Bool} {xs : List Int32} {y : Int32} {i : Nat} (hl : xs.length < 2 ^ 31) (hi : i < xs.length) (ha : (a, fa, AR Z .byte (xs.map .int)) ∈ L) (hb : (b, fb, AR Z .byte [.int y]) ∈ L) :
    Ct l Z EL0 (⟨"jdk/internal/util/ArraysSupport", "mismatch", "([BI[BII)I"⟩ : MethodName) jdk_48_method_14_code 8 (some .int) ({ frames := 0, cells := 0, slots := 0, locals := 0 } : Room) #[.ref a, .int i.toInt32, .ref b, .int 0, .int 1] L (RV fun u M => u = .int (if xs[i] = y then -1 else 0) ∧ M = L) := by
  have h3 : i < 2 ^ 31 := by omega
  refine Ct.of (a0 := a0) (Ls := [.val (.ref _), .val (.int _), .val (.ref _), .val (.int _), .val (.int _), .unset, .unset, .unset]) (plainFor_of_name pn_4) (fun m => ef_ririi_8 m _ _ _ _ _) hE ?_
  refine Wk.iconst (q := 1) (0) d14_0 rfl (by decide) ?_
  refine Wk.istore (q := 3) d14_1 rfl (LS1.there (LS1.there (LS1.there (LS1.there (LS1.there (LS1.here (by first | exact One.u | exact One.val rfl | assumption))))))) ?_
  refine Wk.iload (q := 5) d14_3 rfl rfl ?_
  refine Wk.bipush (q := 7) (7) d14_5 rfl (by decide) ?_
  refine Wk.icmp_t (q := 70) d14_7 (by decide) (by decide) (by decide) ?_
  refine Wk.iload (q := 72) d14_70 rfl rfl ?_
  refine Wk.iload (q := 74) d14_72 rfl rfl ?_
  refine Wk.icmp_f (q := 77) d14_74 rfl (by decide) ?_
  refine Wk.aload_n (q := 78) d14_77 rfl rfl (by first | rfl | assumption) ?_
  refine Wk.iload_n (q := 79) d14_78 rfl rfl ?_
  refine Wk.iload (q := 81) d14_79 rfl rfl ?_
  refine Wk.iadd (q := 82) d14_81 rfl ?_
  rw [Int32.add_zero]
  refine Wk.baload (q := 83) (i) d14_82 rfl (by repeat (first | exact List.mem_cons_self | assumption | refine List.mem_cons_of_mem _ ?_)) (n32_nn h3) (n32_nat h3) (show (xs.map Value.int)[i]? = some (.int xs[i]) by simp [hi]) ?_
  refine Wk.aload_n (q := 84) d14_83 rfl rfl (by first | rfl | assumption) ?_
  refine Wk.iload_n (q := 85) d14_84 rfl rfl ?_
  refine Wk.iload (q := 87) d14_85 rfl rfl ?_
  refine Wk.iadd (q := 88) d14_87 rfl ?_
  refine Wk.baload (q := 89) (0) d14_88 rfl (by repeat (first | exact List.mem_cons_self | assumption | refine List.mem_cons_of_mem _ ?_)) (by decide) (by decide) (by rfl) ?_
  refine Wk.icmp_s (q := 95) (q' := 92) d14_89 (by decide) (by decide) rfl ?_ ?_
  · intro (h : xs[i] = y)
    refine Wk.iinc (q := 98) (1) d14_95 rfl (by decide) rfl (LS1.there (LS1.there (LS1.there (LS1.there (LS1.there (LS1.here (by first | exact One.u | exact One.val rfl | assumption))))))) ?_
    refine Wk.goto (q := 70) d14_98 (by decide) (by decide) ?_
    refine Wk.iload (q := 72) d14_70 rfl rfl ?_
    refine Wk.iload (q := 74) d14_72 rfl rfl ?_
    refine Wk.icmp_t (q := 101) d14_74 (by decide) (by decide) (by decide) ?_
    refine Wk.iconst (q := 102) ((-1)) d14_101 rfl (by decide) ?_
    refine Wk.ireturn (t := .int) d14_102 rfl (by simp) (by rfl) ?_
    exact ⟨_, rfl, by rw [if_pos h], rfl⟩
  · intro (h : ¬ xs[i] = y)
    refine Wk.iload (q := 94) d14_92 rfl rfl ?_
    refine Wk.ireturn (t := .int) d14_94 rfl (by simp) (by rfl) ?_
    exact ⟨_, rfl, by rw [if_neg h], rfl⟩

theorem n32_sub {i j : Nat} (h : i ≤ j) : j.toInt32 - i.toInt32 = (j - i).toInt32 := by
  have e : (j - i + i).toInt32 = (j - i).toInt32 + i.toInt32 := Int32.ofNat_add (j - i) i
  rw [show j - i + i = j by omega] at e
  rw [e, Int32.add_sub_cancel]
theorem fit_b8 (cs : List Int32) : ∀ v ∈ (cs.map b8).map Value.int, fits .byte v = true := by
  intro v hv
  rw [List.map_map] at hv
  obtain ⟨c, -, rfl⟩ := List.mem_map.mp hv
  show fits .byte (.int (b8 c)) = true
  have h1 := Int8.le_toInt c.toInt8
  have h2 := Int8.toInt_lt c.toInt8
  have q1 : (-128 : Int32) ≤ b8 c := by
    rw [Int32.le_iff_toInt_le, b8, Int8.toInt_toInt32]; exact h1
  have q2 : b8 c ≤ (127 : Int32) := by
    rw [Int32.le_iff_toInt_le, b8, Int8.toInt_toInt32]; show _ ≤ (127 : Int); omega
  simp only [fits, Bool.and_eq_true]
  exact ⟨decide_eq_true q1, decide_eq_true q2⟩
theorem fit_rep (n : Nat) : ∀ v ∈ List.replicate n (Value.int 0), fits .byte v = true := by
  intro v hv
  rw [(List.mem_replicate.mp hv).2]
  decide
theorem ct_mmin {l : Launch} {Z : State} {a0 : Array Value} (hw : ∀ d ∈ tables_1, d.before a0 Z = true) (hE : EW Z a0 EL0) {L : Store} {i j : Int32} : Ct l Z EL0 (⟨"java/lang/Math", "min", "(II)I"⟩ : MethodName) jdk_29_method_69_code 2 (some .int) ({ frames := 0, cells := 0, slots := 0, locals := 0 } : Room) #[.int i, .int j] L (RV fun u M => u = .int (if j < i then j else i) ∧ M = L) := by
  refine Ct.of (a0 := a0) (Ls := [.val (.int _), .val (.int _)]) pn_5 (fun m => ef_ii_2 m _ _) hE ?_
  refine Wk.iload_n (q := 1) d15_0 rfl rfl ?_
  refine Wk.iload_n (q := 2) d15_1 rfl rfl ?_
  refine Wk.icmp_s (q := 9) (q' := 5) d15_2 (by decide) (by decide) rfl ?_ ?_
  · intro (h : j < i)
    refine Wk.iload_n (q := 10) d15_9 rfl rfl ?_
    refine Wk.ireturn (t := .int) d15_10 rfl (by simp) (by rfl) ?_
    exact ⟨_, rfl, by rw [if_pos h], rfl⟩
  · intro (h : ¬ j < i)
    refine Wk.iload_n (q := 6) d15_5 rfl rfl ?_
    refine Wk.goto (q := 10) d15_6 (by decide) (by decide) ?_
    refine Wk.ireturn (t := .int) d15_10 rfl (by simp) (by rfl) ?_
    exact ⟨_, rfl, by rw [if_neg h], rfl⟩
theorem ct_ckLen {l : Launch} {Z : State} {a0 : Array Value} (hw : ∀ d ∈ tables_1, d.before a0 Z = true) (hE : EW Z a0 EL0) {L : Store} {i j : Int32} (h : ¬ j < i) : Ct l Z EL0 (⟨"java/util/Arrays", "checkLength", "(II)V"⟩ : MethodName) jdk_65_method_131_code 2 none ({ frames := 0, cells := 0, slots := 0, locals := 0 } : Room) #[.int i, .int j] L (R0 fun M => M = L) := by
  refine Ct.of (a0 := a0) (Ls := [.val (.int _), .val (.int _)]) (plainFor_of_name pn_6) (fun m => ef_ii_2 m _ _) hE ?_
  refine Wk.iload_n (q := 1) d16_0 rfl rfl ?_
  refine Wk.iload_n (q := 2) d16_1 rfl rfl ?_
  refine Wk.icmp_t (q := 37) d16_2 (by decide) (by decide) (XT.ii_ge_t h) ?_
  refine Wk.return_ d16_37 rfl ?_
  exact ⟨rfl, rfl⟩
set_option maxHeartbeats 4000000 in
theorem ct_copyRB {l : Launch} {Z : State} {a0 : Array Value} (hw : ∀ d ∈ tables_1, d.before a0 Z = true) (hE : EW Z a0 EL0) {L : Store} {a : Addr} {fa : Bool} {cs : List Int32} {i j : Nat} (hij : i ≤ j) (hj : j ≤ cs.length) (hl : cs.length < 1000000) (N : Nat) (hN : cs.length ≤ N) (ha : (a, fa, AR Z .byte ((cs.map b8).map .int)) ∈ L) :
    Ct l Z EL0 (⟨"java/util/Arrays", "copyOfRangeByte", "([BII)[B"⟩ : MethodName) jdk_65_method_133_code 5 (some (.array .byte)) ({ frames := 1, cells := 1, slots := N, locals := 18 } : Room) #[.ref a, .int i.toInt32, .int j.toInt32] L (RV fun u M => ∃ r, u = .ref r ∧ M = (r, true, AR Z .byte (((((cs.drop i).take (j - i)).map b8)).map .int)) :: L) := by
  have hle : ((cs.map b8).map Value.int).length = cs.length := by simp
  have hms : ¬ (j - i).toInt32 < (cs.length - i).toInt32 → (cs.length - i = j - i) := fun h => by
    have h' : ¬ (j - i < cs.length - i) := fun q => h ((n32_lt (by omega) (by omega)).mpr q)
    omega
  refine Ct.of (a0 := a0) (Ls := [.val (.ref _), .val (.int _), .val (.int _), .unset, .unset]) (plainFor_of_name pn_6) (fun m => ef_rii_5 m _ _ _) hE ?_
  refine Wk.iload_n (q := 1) d17_0 rfl rfl ?_
  refine Wk.iload_n (q := 2) d17_1 rfl rfl ?_
  refine Wk.static (q := 5) [_, _] _ 0 d17_2 rfl (hw _ (List.mem_of_getElem? (i := 253) rfl)) (hw _ (List.mem_of_getElem? (i := 254) rfl)) (hw _ (List.mem_of_getElem? (i := 248) rfl)) (hw _ (List.mem_of_getElem? (i := 255) rfl)) ar_7 (by decide) rfl rfl rfl rfl (ct_ckLen hw hE (fun q => by have := (n32_lt (by omega) (by omega)).mp q; omega)) (by first | decide | (dsimp only; omega) | omega) (by first | decide | (dsimp only; omega) | omega) (by first | decide | (dsimp only; omega) | omega) (by first | decide | (dsimp only; omega) | omega) (k0 ?_)
  rintro _ rfl
  refine Wk.iload_n (q := 6) d17_5 rfl rfl ?_
  refine Wk.iload_n (q := 7) d17_6 rfl rfl ?_
  refine Wk.isub (q := 8) d17_7 rfl ?_
  rw [n32_sub hij]
  refine Wk.istore_n (q := 9) d17_8 rfl (LS1.there (LS1.there (LS1.there (LS1.here (by first | exact One.u | exact One.val rfl | assumption))))) ?_
  refine Wk.iload_n (q := 10) d17_9 rfl rfl ?_
  refine Wk.newarray (q := 12) .byte ((j - i)) (List.replicate (j - i) (.int 0)) d17_10 rfl rfl rfl (hw _ (List.mem_of_getElem? (i := 23) rfl)) (n32_nn (by omega)) (n32_nat (by omega)) (by omega) (by first | decide | (dsimp only; omega) | omega) (by first | decide | (dsimp only; omega) | omega) ?_
  intro r
  refine Wk.astore (q := 14) d17_12 rfl (by first | rfl | assumption) (LS1.there (LS1.there (LS1.there (LS1.there (LS1.here (by first | exact One.u | exact One.val rfl | assumption)))))) ?_
  refine Wk.aload_n (q := 15) d17_14 rfl rfl (by first | rfl | assumption) ?_
  refine Wk.iload_n (q := 16) d17_15 rfl rfl ?_
  refine Wk.aload (q := 18) d17_16 rfl rfl (by first | rfl | assumption) ?_
  refine Wk.iconst (q := 19) (0) d17_18 rfl (by decide) ?_
  refine Wk.aload_n (q := 20) d17_19 rfl rfl (by first | rfl | assumption) ?_
  refine Wk.arraylength (q := 21) d17_20 rfl (by repeat (first | exact List.mem_cons_self | assumption | refine List.mem_cons_of_mem _ ?_)) (show ((cs.map b8).map Value.int).length.toInt32 = cs.length.toInt32 by simp) ?_
  refine Wk.iload_n (q := 22) d17_21 rfl rfl ?_
  refine Wk.isub (q := 23) d17_22 rfl ?_
  rw [n32_sub (show i ≤ cs.length by omega)]
  refine Wk.iload_n (q := 24) d17_23 rfl rfl ?_
  refine Wk.static (q := 27) [_, _] _ 4 d17_24 rfl (hw _ (List.mem_of_getElem? (i := 256) rfl)) (hw _ (List.mem_of_getElem? (i := 117) rfl)) (hw _ (List.mem_of_getElem? (i := 114) rfl)) (hw _ (List.mem_of_getElem? (i := 118) rfl)) ar_10 (by decide) rfl rfl rfl rfl (ct_mmin hw hE) (by first | decide | (dsimp only; omega) | omega) (by first | decide | (dsimp only; omega) | omega) (by first | decide | (dsimp only; omega) | omega) (by first | decide | (dsimp only; omega) | omega) (kv ?_)
  rintro _ _ ⟨rfl, rfl⟩
  rw [show (if (j - i).toInt32 < (cs.length - i).toInt32 then (j - i).toInt32 else (cs.length - i).toInt32) = (j - i).toInt32 from by split; rfl; rename_i h; rw [hms h]]
  refine Wk.arraycopyB (q := 30) 0 i 0 (j - i) ((((cs.drop i).take (j - i)).map b8).map .int) d17_27 rfl (hw _ (List.mem_of_getElem? (i := 257) rfl)) (hw _ (List.mem_of_getElem? (i := 260) rfl)) (hw _ (List.mem_of_getElem? (i := 258) rfl)) (hw _ (List.mem_of_getElem? (i := 259) rfl)) (by repeat (first | exact Ex.here | assumption | apply Ex.there)) (by repeat (first | exact List.mem_cons_self | assumption | refine List.mem_cons_of_mem _ ?_)) (fit_b8 cs) (fit_rep _) ⟨n32_nn (by omega), n32_nat (by omega)⟩ (by decide) ⟨n32_nn (by omega), n32_nat (by omega)⟩ (by rw [hle]; omega) (by simp) (by simp [List.map_drop, List.map_take]) rfl (by first | decide | (dsimp only; omega) | omega) rfl (by first | decide | (dsimp only; decide)) ?_
  refine Wk.aload (q := 32) d17_30 rfl rfl (by first | rfl | assumption) ?_
  refine Wk.areturn (t := (.array .byte)) d17_32 rfl rfl (by first | rfl | exact narO | exact narA) (by first | rfl | assumption) ?_
  exact ⟨_, rfl, r, rfl, rfl⟩
theorem ct_copyR {l : Launch} {Z : State} {a0 : Array Value} (hw : ∀ d ∈ tables_1, d.before a0 Z = true) (hE : EW Z a0 EL0) {L : Store} {a : Addr} {fa : Bool} {cs : List Int32} {i j : Nat} (h0 : 0 < i) (hij : i ≤ j) (hj : j ≤ cs.length) (hl : cs.length < 1000000) (N : Nat) (hN : cs.length ≤ N) (ha : (a, fa, AR Z .byte ((cs.map b8).map .int)) ∈ L) :
    Ct l Z EL0 (⟨"java/util/Arrays", "copyOfRange", "([BII)[B"⟩ : MethodName) jdk_65_method_132_code 3 (some (.array .byte)) ({ frames := 2, cells := 1, slots := N, locals := 34 } : Room) #[.ref a, .int i.toInt32, .int j.toInt32] L (RV fun u M => ∃ r, u = .ref r ∧ M = (r, true, AR Z .byte (((((cs.drop i).take (j - i)).map b8)).map .int)) :: L) := by
  refine Ct.of (a0 := a0) (Ls := [.val (.ref _), .val (.int _), .val (.int _)]) (plainFor_of_name pn_6) (fun m => ef_rii_3 m _ _ _) hE ?_
  refine Wk.iload_n (q := 1) d18_0 rfl rfl ?_
  refine Wk.if_t (q := 10) d18_1 (by decide) (by decide) (XT.i0_ne_t (fun q => absurd ((n32_inj (by omega) (by decide : 0 < 2 ^ 31)).mp q) (by omega))) ?_
  refine Wk.aload_n (q := 11) d18_10 rfl rfl (by first | rfl | assumption) ?_
  refine Wk.iload_n (q := 12) d18_11 rfl rfl ?_
  refine Wk.iload_n (q := 13) d18_12 rfl rfl ?_
  refine Wk.static (q := 16) [_, _, _] _ 0 d18_13 rfl (hw _ (List.mem_of_getElem? (i := 250) rfl)) (hw _ (List.mem_of_getElem? (i := 251) rfl)) (hw _ (List.mem_of_getElem? (i := 248) rfl)) (hw _ (List.mem_of_getElem? (i := 252) rfl)) ar_11 (by decide) rfl rfl rfl rfl (ct_copyRB hw hE hij hj hl N hN ha) (by first | decide | (dsimp only; omega) | omega) (by first | decide | (dsimp only; omega) | omega) (by first | decide | (dsimp only; omega) | omega) (by first | decide | (dsimp only; omega) | omega) (kv ?_)
  rintro _ _ ⟨r, rfl, rfl⟩
  refine Wk.areturn (t := (.array .byte)) d18_16 rfl rfl (by first | rfl | exact narO | exact narA) (by first | rfl | assumption) ?_
  exact ⟨_, rfl, r, rfl, rfl⟩

theorem ct_strBB {l : Launch} {Z : State} {a0 : Array Value} (hw : ∀ d ∈ tables_1, d.before a0 Z = true) (hE : EW Z a0 EL0) {L : Store} {s b : Addr} : Ct l Z EL0 (⟨"java/lang/String", "<init>", "([BB)V"⟩ : MethodName) jdk_42_method_151_code 3 none ({ frames := 1, cells := 0, slots := 0, locals := 12 } : Room) #[.ref s, .ref b, .int 0] ((s, true, OB Z "java/lang/String" layS [.null, .int 0]) :: L) (R0 fun M => M = (s, true, OB Z "java/lang/String" layS [.ref b, .int 0]) :: L) := by
  refine Ct.of (a0 := a0) (Ls := [.val (.ref _), .val (.ref _), .val (.int _)]) (plainFor_of_name pn_1) (fun m => ef_rri_3 m _ _ _) hE ?_
  refine Wk.aload_n (q := 1) d19_0 rfl rfl (by first | rfl | assumption) ?_
  refine Wk.objinit (q := 4) 0 d19_1 rfl (hw _ (List.mem_of_getElem? (i := 15) rfl)) (hw _ (List.mem_of_getElem? (i := 16) rfl)) (hw _ (List.mem_of_getElem? (i := 17) rfl)) rfl (by first | decide | (dsimp only; omega) | omega) rfl (by first | decide | (dsimp only; omega) | omega) ?_
  refine Wk.aload_n (q := 5) d19_4 rfl rfl (by first | rfl | assumption) ?_
  refine Wk.aload_n (q := 6) d19_5 rfl rfl (by first | rfl | assumption) ?_
  refine Wk.putfield (q := 9) (C := "java/lang/String") (lay := layS) 0 d19_6 rfl (hw _ (List.mem_of_getElem? (i := 32) rfl)) Via.refl (layS_ok hw) (hw _ (List.mem_of_getElem? (i := 6) rfl)) (Or.inr ⟨(hw _ (List.mem_of_getElem? (i := 33) rfl)), rfl, rfl⟩) rfl (by decide +kernel : parseFieldDescriptor "[B" = some (.array .byte)) (by repeat (first | exact Ex.here | assumption | apply Ex.there)) (VS.here) (by first | rfl | exact narO) (by first | rfl | exact fitO (by assumption) | exact fitA (by assumption)) ?_
  refine Wk.aload_n (q := 10) d19_9 rfl rfl (by first | rfl | assumption) ?_
  refine Wk.iload_n (q := 11) d19_10 rfl rfl ?_
  refine Wk.putfield (q := 14) (C := "java/lang/String") (lay := layS) 1 d19_11 rfl (hw _ (List.mem_of_getElem? (i := 30) rfl)) Via.refl (layS_ok hw) (hw _ (List.mem_of_getElem? (i := 6) rfl)) (Or.inr ⟨(hw _ (List.mem_of_getElem? (i := 31) rfl)), rfl, rfl⟩) rfl (by decide +kernel : parseFieldDescriptor "B" = some .byte) (by repeat (first | exact Ex.here | assumption | apply Ex.there)) (VS.there (VS.here)) (by first | rfl | exact narO) (by first | rfl | exact fitO (by assumption) | exact fitA (by assumption)) ?_
  refine Wk.return_ d19_14 rfl ?_
  exact ⟨rfl, rfl⟩

theorem ct_fromTo {l : Launch} {Z : State} {a0 : Array Value} (hw : ∀ d ∈ tables_1, d.before a0 Z = true) (hE : EW Z a0 EL0) {L : Store} {i j n : Int32} {w : Value} (hr : w.isRef = true) (h0 : ¬ i < 0) (h1 : ¬ j < i) (h2 : ¬ n < j) : Ct l Z EL0 (⟨"jdk/internal/util/Preconditions", "checkFromToIndex", "(IIILjava/util/function/BiFunction;)I"⟩ : MethodName) jdk_41_method_12_code 4 (some .int) ({ frames := 0, cells := 0, slots := 0, locals := 0 } : Room) #[.int i, .int j, .int n, w] L (RV fun u M => u = .int i ∧ M = L) := by
  refine Ct.of (a0 := a0) (Ls := [.val (.int _), .val (.int _), .val (.int _), .val _]) (plainFor_of_name pn_3) (fun m => ef_iiiv_4 m _ _ _ _ (by assumption)) hE ?_
  refine Wk.iload_n (q := 1) d20_0 rfl rfl ?_
  refine Wk.if_f (q := 4) d20_1 rfl (XT.i0_lt_f h0) ?_
  refine Wk.iload_n (q := 5) d20_4 rfl rfl ?_
  refine Wk.iload_n (q := 6) d20_5 rfl rfl ?_
  refine Wk.icmp_f (q := 9) d20_6 rfl (XT.ii_gt_f h1) ?_
  refine Wk.iload_n (q := 10) d20_9 rfl rfl ?_
  refine Wk.iload_n (q := 11) d20_10 rfl rfl ?_
  refine Wk.icmp_t (q := 22) d20_11 (by decide) (by decide) (XT.ii_le_t h2) ?_
  refine Wk.iload_n (q := 23) d20_22 rfl rfl ?_
  refine Wk.ireturn (t := .int) d20_23 rfl (by simp) (by rfl) ?_
  exact ⟨_, rfl, rfl, rfl⟩
theorem ct_bnds {l : Launch} {Z : State} {a0 : Array Value} (hw : ∀ d ∈ tables_1, d.before a0 Z = true) (hE : EW Z a0 EL0) (hO : FO Z) {L : Store} {i j n : Int32} (h0 : ¬ i < 0) (h1 : ¬ j < i) (h2 : ¬ n < j) : Ct l Z EL0 (⟨"java/lang/String", "checkBoundsBeginEnd", "(III)V"⟩ : MethodName) jdk_42_method_158_code 3 none ({ frames := 1, cells := 0, slots := 0, locals := 15 } : Room) #[.int i, .int j, .int n] L (R0 fun M => M = L) := by
  obtain ⟨w, hr, sta_SIOOBE_FORMATTER⟩ := hO
  refine Ct.of (a0 := a0) (Ls := [.val (.int _), .val (.int _), .val (.int _)]) (plainFor_of_name pn_1) (fun m => ef_iii_3 m _ _ _) hE ?_
  refine Wk.iload_n (q := 1) d21_0 rfl rfl ?_
  refine Wk.iload_n (q := 2) d21_1 rfl rfl ?_
  refine Wk.iload_n (q := 3) d21_2 rfl rfl ?_
  refine Wk.getstatic (q := 6) d21_3 rfl (hw _ (List.mem_of_getElem? (i := 133) rfl)) Via.refl sta_SIOOBE_FORMATTER ?_
  refine Wk.static (q := 9) [_, _, _, _] _ 0 d21_6 rfl (hw _ (List.mem_of_getElem? (i := 171) rfl)) (hw _ (List.mem_of_getElem? (i := 172) rfl)) (hw _ (List.mem_of_getElem? (i := 134) rfl)) (hw _ (List.mem_of_getElem? (i := 173) rfl)) ar_12 (by decide) rfl rfl rfl rfl (ct_fromTo hw hE hr h0 h1 h2) (by first | decide | (dsimp only; omega) | omega) (by first | decide | (dsimp only; omega) | omega) (by first | decide | (dsimp only; omega) | omega) (by first | decide | (dsimp only; omega) | omega) (kv ?_)
  rintro _ _ ⟨rfl, rfl⟩
  refine Wk.pop (q := 10) d21_9 rfl rfl ?_
  refine Wk.return_ d21_10 rfl ?_
  exact ⟨rfl, rfl⟩
set_option maxHeartbeats 4000000 in
theorem ct_latNew {l : Launch} {Z : State} {a0 : Array Value} (hw : ∀ d ∈ tables_1, d.before a0 Z = true) (hE : EW Z a0 EL0) {L : Store} {a : Addr} {fa : Bool} {cs : List Int32} {i n : Nat} (h0 : 0 < i) (hn : i + n ≤ cs.length) (hl : cs.length < 1000000) (N : Nat) (hN : cs.length ≤ N) (ha : (a, fa, AR Z .byte ((cs.map b8).map .int)) ∈ L) :
    Ct l Z EL0 (⟨"java/lang/StringLatin1", "newString", "([BII)Ljava/lang/String;"⟩ : MethodName) jdk_43_method_47_code 3 (some (.object "java/lang/String")) ({ frames := 3, cells := 2, slots := N + 4, locals := 50 } : Room) #[.ref a, .int i.toInt32, .int n.toInt32] L (RV fun u M => ∃ s r fs fr, u = .ref s ∧ M = (s, fs, OB Z "java/lang/String" layS [.ref r, .int 0]) :: (r, fr, AR Z .byte (((((cs.drop i).take n).map b8)).map .int)) :: L) := by
  refine Ct.of (a0 := a0) (Ls := [.val (.ref _), .val (.int _), .val (.int _)]) (plainFor_of_name pn_2) (fun m => ef_rii_3 m _ _ _) hE ?_
  refine Wk.iload_n (q := 1) d22_0 rfl rfl ?_
  by_cases e : n = 0
  · subst e
    refine Wk.if_f (q := 4) d22_1 rfl (by decide) ?_
    refine Wk.ldcS (q := 6) 0 [] 0 d22_4 rfl (hw _ (List.mem_of_getElem? (i := 177) rfl)) (wS hw) (by decide +kernel) (by decide +kernel) (by decide) (by decide) (by decide +kernel) (by decide) (by first | decide | (dsimp only; omega) | omega) (by first | decide | (dsimp only; omega) | omega) ?_
    intro s r
    refine Wk.areturn (t := (.object "java/lang/String")) d22_6 rfl rfl (by first | rfl | exact narO | exact narA) (by first | rfl | assumption) ?_
    exact ⟨_, rfl, s, r, false, false, rfl, rfl⟩
  · refine Wk.if_t (q := 7) d22_1 (by decide) (by decide) (XT.i0_ne_t (fun q => absurd ((n32_inj (by omega) (by decide : 0 < 2 ^ 31)).mp q) e)) ?_
    refine Wk.new (q := 10) d22_7 rfl (hw _ (List.mem_of_getElem? (i := 245) rfl)) (hw _ (List.mem_of_getElem? (i := 6) rfl)) (hw _ (List.mem_of_getElem? (i := 7) rfl)) (layS_ok hw) layS_dv (by first | decide | (dsimp only; omega) | omega) (by first | decide | (dsimp only; omega) | omega) ?_
    intro s
    refine Wk.dup (q := 11) d22_10 rfl rfl ?_
    refine Wk.aload_n (q := 12) d22_11 rfl rfl (by first | rfl | assumption) ?_
    refine Wk.iload_n (q := 13) d22_12 rfl rfl ?_
    refine Wk.iload_n (q := 14) d22_13 rfl rfl ?_
    refine Wk.iload_n (q := 15) d22_14 rfl rfl ?_
    refine Wk.iadd (q := 16) d22_15 rfl ?_
    rw [show i.toInt32 + n.toInt32 = (i + n).toInt32 from (Int32.ofNat_add i n).symm]
    refine Wk.static (q := 19) [_, _, _] _ 2 d22_16 rfl (hw _ (List.mem_of_getElem? (i := 246) rfl)) (hw _ (List.mem_of_getElem? (i := 247) rfl)) (hw _ (List.mem_of_getElem? (i := 248) rfl)) (hw _ (List.mem_of_getElem? (i := 249) rfl)) ar_11 (by decide) rfl rfl rfl rfl (ct_copyR hw hE h0 (Nat.le_add_right i n) hn hl N hN (by repeat (first | exact List.mem_cons_self | assumption | refine List.mem_cons_of_mem _ ?_))) (by first | decide | (dsimp only; omega) | omega) (by first | decide | (dsimp only; omega) | omega) (by first | decide | (dsimp only; omega) | omega) (by first | decide | (dsimp only; omega) | omega) (kv ?_)
    rintro _ _ ⟨r, rfl, rfl⟩
    refine Wk.iconst (q := 20) (0) d22_19 rfl (by decide) ?_
    refine Wk.pull (o := (s, true, OB Z "java/lang/String" layS [.null, .int 0])) (by repeat (first | exact Ex.here | assumption | apply Ex.there)) ?_
    refine Wk.special (q := 23) [_, _] _ 1 d22_20 rfl rfl (hw _ (List.mem_of_getElem? (i := 261) rfl)) (hw _ (List.mem_of_getElem? (i := 243) rfl)) (hw _ (List.mem_of_getElem? (i := 7) rfl)) (hw _ (List.mem_of_getElem? (i := 244) rfl)) ar_13 (by decide) rfl rfl rfl rfl (ct_strBB hw hE) (by first | decide | (dsimp only; omega) | omega) (by first | decide | (dsimp only; omega) | omega) (by first | decide | (dsimp only; omega) | omega) (by first | decide | (dsimp only; omega) | omega) (k0 ?_)
    rintro _ rfl
    refine Wk.areturn (t := (.object "java/lang/String")) d22_23 rfl rfl (by first | rfl | exact narO | exact narA) (by first | rfl | assumption) ?_
    exact ⟨_, rfl, s, r, true, true, rfl, by rw [Nat.add_sub_cancel_left]⟩
set_option maxHeartbeats 4000000 in
theorem ct_sub2 {l : Launch} {Z : State} {a0 : Array Value} (hw : ∀ d ∈ tables_1, d.before a0 Z = true) (hE : EW Z a0 EL0) (F : ∃ z, z ≠ (0 : Int32) ∧ Sta Z Z.heap "java/lang/String" "COMPACT_STRINGS" "Z" (.int z)) (hO : FO Z) {L : Store} {s b : Addr} {f fb : Bool} {cs : List Int32} {i j : Nat} (h0 : 0 < i) (hij : i ≤ j) (hj : j ≤ cs.length) (hl : cs.length < 1000000) (N : Nat) (hN : cs.length ≤ N) (hs : (s, f, OB Z "java/lang/String" layS [.ref b, .int 0]) ∈ L) (hb : (b, fb, AR Z .byte ((cs.map b8).map .int)) ∈ L) :
    Ct l Z EL0 (⟨"java/lang/String", "substring", "(II)Ljava/lang/String;"⟩ : MethodName) jdk_42_method_92_code 5 (some (.object "java/lang/String")) ({ frames := 4, cells := 2, slots := N + 4, locals := 64 } : Room) #[.ref s, .int i.toInt32, .int j.toInt32] L (RV fun u M => ∃ t r ft fr, u = .ref t ∧ M = (t, ft, OB Z "java/lang/String" layS [.ref r, .int 0]) :: (r, fr, AR Z .byte (((((cs.drop i).take (j - i)).map b8)).map .int)) :: L) := by
  refine Ct.of (a0 := a0) (Ls := [.val (.ref _), .val (.int _), .val (.int _), .unset, .unset]) (plainFor_of_name pn_1) (fun m => ef_rii_5 m _ _ _) hE ?_
  refine Wk.aload_n (q := 1) d23_0 rfl rfl (by first | rfl | assumption) ?_
  refine Wk.virtual (q := 4) (C := "java/lang/String") [] _ 0 d23_1 rfl (hw _ (List.mem_of_getElem? (i := 104) rfl)) (hw _ (List.mem_of_getElem? (i := 85) rfl)) (hw _ (List.mem_of_getElem? (i := 87) rfl)) (hw _ (List.mem_of_getElem? (i := 86) rfl)) (hw _ (List.mem_of_getElem? (i := 7) rfl)) (hw _ (List.mem_of_getElem? (i := 88) rfl)) ar_14 (by decide) (nfSel (hw _ (List.mem_of_getElem? (i := 87) rfl))) (by repeat (first | exact List.mem_cons_self | assumption | refine List.mem_cons_of_mem _ ?_)) rfl rfl rfl rfl (ct_lenL hw hE F hs hb) (by first | decide | (dsimp only; omega) | omega) (by first | decide | (dsimp only; omega) | omega) (by first | decide | (dsimp only; omega) | omega) (by first | decide | (dsimp only; omega) | omega) (kv ?_)
  rintro _ _ ⟨rfl, rfl⟩
  rw [List.length_map]
  refine Wk.istore_n (q := 5) d23_4 rfl (LS1.there (LS1.there (LS1.there (LS1.here (by first | exact One.u | exact One.val rfl | assumption))))) ?_
  refine Wk.iload_n (q := 6) d23_5 rfl rfl ?_
  refine Wk.iload_n (q := 7) d23_6 rfl rfl ?_
  refine Wk.iload_n (q := 8) d23_7 rfl rfl ?_
  refine Wk.static (q := 11) [_, _, _] _ 0 d23_8 rfl (hw _ (List.mem_of_getElem? (i := 168) rfl)) (hw _ (List.mem_of_getElem? (i := 169) rfl)) (hw _ (List.mem_of_getElem? (i := 7) rfl)) (hw _ (List.mem_of_getElem? (i := 170) rfl)) ar_15 (by decide) rfl rfl rfl rfl (ct_bnds hw hE hO (n32_nn (by omega)) (fun q => by have := (n32_lt (by omega) (by omega)).mp q; omega) (fun q => by have := (n32_lt (by omega) (by omega)).mp q; omega)) (by first | decide | (dsimp only; omega) | omega) (by first | decide | (dsimp only; omega) | omega) (by first | decide | (dsimp only; omega) | omega) (by first | decide | (dsimp only; omega) | omega) (k0 ?_)
  rintro _ rfl
  refine Wk.iload_n (q := 12) d23_11 rfl rfl ?_
  refine Wk.if_t (q := 22) d23_12 (by decide) (by decide) (XT.i0_ne_t (fun q => absurd ((n32_inj (by omega) (by decide : 0 < 2 ^ 31)).mp q) (by omega))) ?_
  refine Wk.iload_n (q := 23) d23_22 rfl rfl ?_
  refine Wk.iload_n (q := 24) d23_23 rfl rfl ?_
  refine Wk.isub (q := 25) d23_24 rfl ?_
  rw [n32_sub hij]
  refine Wk.istore (q := 27) d23_25 rfl (LS1.there (LS1.there (LS1.there (LS1.there (LS1.here (by first | exact One.u | exact One.val rfl | assumption)))))) ?_
  refine Wk.aload_n (q := 28) d23_27 rfl rfl (by first | rfl | assumption) ?_
  refine Wk.virtual (q := 31) (C := "java/lang/String") [] _ 0 d23_28 rfl (hw _ (List.mem_of_getElem? (i := 99) rfl)) (hw _ (List.mem_of_getElem? (i := 100) rfl)) (hw _ (List.mem_of_getElem? (i := 102) rfl)) (hw _ (List.mem_of_getElem? (i := 101) rfl)) (hw _ (List.mem_of_getElem? (i := 7) rfl)) (hw _ (List.mem_of_getElem? (i := 103) rfl)) ar_8 (by decide) (nfSel (hw _ (List.mem_of_getElem? (i := 102) rfl))) (by repeat (first | exact List.mem_cons_self | assumption | refine List.mem_cons_of_mem _ ?_)) rfl rfl rfl rfl (ct_isLat hw hE F (Or.inl rfl) hs) (by first | decide | (dsimp only; omega) | omega) (by first | decide | (dsimp only; omega) | omega) (by first | decide | (dsimp only; omega) | omega) (by first | decide | (dsimp only; omega) | omega) (kv ?_)
  rintro _ _ ⟨rfl, rfl⟩
  refine Wk.if_f (q := 34) d23_31 rfl (by decide) ?_
  refine Wk.aload_n (q := 35) d23_34 rfl rfl (by first | rfl | assumption) ?_
  refine Wk.getfield (q := 38) (C := "java/lang/String") (lay := layS) 0 d23_35 rfl (hw _ (List.mem_of_getElem? (i := 32) rfl)) Via.refl (by repeat (first | exact List.mem_cons_self | assumption | refine List.mem_cons_of_mem _ ?_)) rfl (by rfl) ?_
  refine Wk.iload_n (q := 39) d23_38 rfl rfl ?_
  refine Wk.iload (q := 41) d23_39 rfl rfl ?_
  refine Wk.static (q := 44) [_, _, _] _ 0 d23_41 rfl (hw _ (List.mem_of_getElem? (i := 174) rfl)) (hw _ (List.mem_of_getElem? (i := 175) rfl)) (hw _ (List.mem_of_getElem? (i := 107) rfl)) (hw _ (List.mem_of_getElem? (i := 176) rfl)) ar_16 (by decide) rfl rfl rfl rfl (ct_latNew hw hE h0 (show i + (j - i) ≤ cs.length by omega) hl N hN hb) (by first | decide | (dsimp only; omega) | omega) (by first | decide | (dsimp only; omega) | omega) (by first | decide | (dsimp only; omega) | omega) (by first | decide | (dsimp only; omega) | omega) (kv ?_)
  rintro _ _ ⟨t, r, ft, fr, rfl, rfl⟩
  refine Wk.goto (q := 57) d23_44 (by decide) (by decide) ?_
  refine Wk.areturn (t := (.object "java/lang/String")) d23_57 rfl rfl (by first | rfl | exact narO | exact narA) (by first | rfl | assumption) ?_
  exact ⟨_, rfl, t, r, ft, fr, rfl, rfl⟩

abbrev Lat1 (c : Int32) : Prop := 0 ≤ c.toInt ∧ c.toInt < 256

theorem ct_canE {l : Launch} {Z : State} {a0 : Array Value} (hw : ∀ d ∈ tables_1, d.before a0 Z = true) (hE : EW Z a0 EL0) {L : Store} {c : Int32} (hc : Lat1 c) : Ct l Z EL0 (⟨"java/lang/StringLatin1", "canEncode", "(C)Z"⟩ : MethodName) jdk_43_method_3_code 1 (some .boolean) ({ frames := 0, cells := 0, slots := 0, locals := 0 } : Room) #[.int c] L (RV fun u M => u = .int 1 ∧ M = L) := by
  refine Ct.of (a0 := a0) (Ls := [.val (.int _)]) (plainFor_of_name pn_2) (fun m => ef_i_1 m _) hE ?_
  refine Wk.iload_n (q := 1) d24_0 rfl rfl ?_
  refine Wk.sipush (q := 4) (255) d24_1 rfl (by decide) ?_
  refine Wk.icmp_f (q := 7) d24_4 rfl (XT.ii_gt_f (lat_le hc)) ?_
  refine Wk.iconst (q := 8) (1) d24_7 rfl (by decide) ?_
  refine Wk.goto (q := 12) d24_8 (by decide) (by decide) ?_
  refine Wk.ireturn (t := .boolean) d24_12 rfl (by simp) (by rfl) ?_
  exact ⟨_, rfl, rfl, rfl⟩
theorem ct_toB1 {l : Launch} {Z : State} {a0 : Array Value} (hw : ∀ d ∈ tables_1, d.before a0 Z = true) (hE : EW Z a0 EL0) {L : Store} {c : Int32} : Ct l Z EL0 (⟨"java/lang/StringLatin1", "toBytes", "(C)[B"⟩ : MethodName) jdk_43_method_46_code 1 (some (.array .byte)) ({ frames := 0, cells := 1, slots := 1, locals := 0 } : Room) #[.int c] L (RV fun u M => ∃ r, u = .ref r ∧ M = (r, true, AR Z .byte [.int (b8 c)]) :: L) := by
  refine Ct.of (a0 := a0) (Ls := [.val (.int _)]) (plainFor_of_name pn_2) (fun m => ef_i_1 m _) hE ?_
  refine Wk.iconst (q := 1) (1) d25_0 rfl (by decide) ?_
  refine Wk.newarray (q := 3) .byte (1) [(.int 0)] d25_1 rfl rfl rfl (hw _ (List.mem_of_getElem? (i := 23) rfl)) (by decide) (by decide) (by decide) (by first | decide | (dsimp only; omega) | omega) (by first | decide | (dsimp only; omega) | omega) ?_
  intro r
  refine Wk.dup (q := 4) d25_3 rfl rfl ?_
  refine Wk.iconst (q := 5) (0) d25_4 rfl (by decide) ?_
  refine Wk.iload_n (q := 6) d25_5 rfl rfl ?_
  refine Wk.i2b (q := 7) d25_6 rfl ?_
  refine Wk.bastore (q := 8) (0) d25_7 rfl (by repeat (first | exact Ex.here | assumption | apply Ex.there)) (by decide) (by decide) (toB_nar _) (VS.here) ?_
  refine Wk.areturn (t := (.array .byte)) d25_8 rfl rfl (by first | rfl | exact narO | exact narA) (by first | rfl | assumption) ?_
  exact ⟨_, rfl, r, rfl, rfl⟩
theorem ct_valC {l : Launch} {Z : State} {a0 : Array Value} (hw : ∀ d ∈ tables_1, d.before a0 Z = true) (hE : EW Z a0 EL0) (F : ∃ z, z ≠ (0 : Int32) ∧ Sta Z Z.heap "java/lang/String" "COMPACT_STRINGS" "Z" (.int z)) {L : Store} {c : Int32} (hc : Lat1 c) : Ct l Z EL0 (⟨"java/lang/String", "valueOf", "(C)Ljava/lang/String;"⟩ : MethodName) jdk_42_method_139_code 1 (some (.object "java/lang/String")) ({ frames := 2, cells := 2, slots := 5, locals := 27 } : Room) #[.int c] L (RV fun u M => ∃ s r, u = .ref s ∧ M = (s, true, OB Z "java/lang/String" layS [.ref r, .int 0]) :: (r, true, AR Z .byte [.int (b8 c)]) :: L) := by
  obtain ⟨z, hz, FS⟩ := F
  refine Ct.of (a0 := a0) (Ls := [.val (.int _)]) (plainFor_of_name pn_1) (fun m => ef_i_1 m _) hE ?_
  refine Wk.getstatic (q := 3) d26_0 rfl (hw _ (List.mem_of_getElem? (i := 18) rfl)) Via.refl FS ?_
  refine Wk.if_f (q := 6) d26_3 rfl (XT.i0_eq_f hz) ?_
  refine Wk.iload_n (q := 7) d26_6 rfl rfl ?_
  refine Wk.static (q := 10) [_] _ 0 d26_7 rfl (hw _ (List.mem_of_getElem? (i := 236) rfl)) (hw _ (List.mem_of_getElem? (i := 237) rfl)) (hw _ (List.mem_of_getElem? (i := 107) rfl)) (hw _ (List.mem_of_getElem? (i := 238) rfl)) ar_17 (by decide) rfl rfl rfl rfl (ct_canE hw hE hc) (by first | decide | (dsimp only; omega) | omega) (by first | decide | (dsimp only; omega) | omega) (by first | decide | (dsimp only; omega) | omega) (by first | decide | (dsimp only; omega) | omega) (kv ?_)
  rintro _ _ ⟨rfl, rfl⟩
  refine Wk.if_f (q := 13) d26_10 rfl (by decide) ?_
  refine Wk.new (q := 16) d26_13 rfl (hw _ (List.mem_of_getElem? (i := 229) rfl)) (hw _ (List.mem_of_getElem? (i := 6) rfl)) (hw _ (List.mem_of_getElem? (i := 7) rfl)) (layS_ok hw) layS_dv (by first | decide | (dsimp only; omega) | omega) (by first | decide | (dsimp only; omega) | omega) ?_
  intro s
  refine Wk.dup (q := 17) d26_16 rfl rfl ?_
  refine Wk.iload_n (q := 18) d26_17 rfl rfl ?_
  refine Wk.static (q := 21) [_] _ 2 d26_18 rfl (hw _ (List.mem_of_getElem? (i := 239) rfl)) (hw _ (List.mem_of_getElem? (i := 240) rfl)) (hw _ (List.mem_of_getElem? (i := 107) rfl)) (hw _ (List.mem_of_getElem? (i := 241) rfl)) ar_18 (by decide) rfl rfl rfl rfl (ct_toB1 hw hE) (by first | decide | (dsimp only; omega) | omega) (by first | decide | (dsimp only; omega) | omega) (by first | decide | (dsimp only; omega) | omega) (by first | decide | (dsimp only; omega) | omega) (kv ?_)
  rintro _ _ ⟨r, rfl, rfl⟩
  refine Wk.iconst (q := 22) (0) d26_21 rfl (by decide) ?_
  refine Wk.pull (o := (s, true, OB Z "java/lang/String" layS [.null, .int 0])) (by repeat (first | exact Ex.here | assumption | apply Ex.there)) ?_
  refine Wk.special (q := 25) [_, _] _ 1 d26_22 rfl rfl (hw _ (List.mem_of_getElem? (i := 242) rfl)) (hw _ (List.mem_of_getElem? (i := 243) rfl)) (hw _ (List.mem_of_getElem? (i := 7) rfl)) (hw _ (List.mem_of_getElem? (i := 244) rfl)) ar_13 (by decide) rfl rfl rfl rfl (ct_strBB hw hE) (by first | decide | (dsimp only; omega) | omega) (by first | decide | (dsimp only; omega) | omega) (by first | decide | (dsimp only; omega) | omega) (by first | decide | (dsimp only; omega) | omega) (k0 ?_)
  rintro _ rfl
  refine Wk.areturn (t := (.object "java/lang/String")) d26_25 rfl rfl (by first | rfl | exact narO | exact narA) (by first | rfl | assumption) ?_
  exact ⟨_, rfl, s, r, rfl, rfl⟩

theorem n32_back {x : Int32} (h : 0 ≤ x.toInt) : x = x.toInt.toNat.toInt32 := by
  have r := rng32 x
  apply Int32.toInt_inj.mp
  rw [n32 (by omega)]
  omega

theorem n32_add (i j : Nat) : i.toInt32 + j.toInt32 = (i + j).toInt32 := (Int32.ofNat_add i j).symm
theorem lt_of {a b : Int32} (h : a.toInt < b.toInt) : a < b := Int32.lt_iff_toInt_lt.mpr h
theorem nlt_of {a b : Int32} (h : b.toInt ≤ a.toInt) : ¬ a < b := fun q => by have := Int32.lt_iff_toInt_lt.mp q; omega
/-! the plain part: what `all` finds, by the kinds of the signs -/
def Cl : Type := Fin 5
def Cl.blank : Cl := (0 : Fin 5)
def Cl.comma : Cl := (1 : Fin 5)
def Cl.eq : Cl := (2 : Fin 5)
def Cl.a : Cl := (3 : Fin 5)
def Cl.oth : Cl := (4 : Fin 5)
def Cl.isB (c : Cl) : Bool := Nat.beq (@Fin.val 5 c) 0
theorem clB0 : Cl.isB Cl.blank = true := rfl
theorem clB1 : Cl.isB Cl.comma = false := rfl
theorem clB2 : Cl.isB Cl.eq = false := rfl
theorem clB3 : Cl.isB Cl.a = false := rfl
theorem clB4 : Cl.isB Cl.oth = false := rfl
def Cl.isC (c : Cl) : Bool := Nat.beq (@Fin.val 5 c) 1
theorem clC0 : Cl.isC Cl.blank = false := rfl
theorem clC1 : Cl.isC Cl.comma = true := rfl
theorem clC2 : Cl.isC Cl.eq = false := rfl
theorem clC3 : Cl.isC Cl.a = false := rfl
theorem clC4 : Cl.isC Cl.oth = false := rfl
def Cl.isQ (c : Cl) : Bool := Nat.beq (@Fin.val 5 c) 2
theorem clQ0 : Cl.isQ Cl.blank = false := rfl
theorem clQ1 : Cl.isQ Cl.comma = false := rfl
theorem clQ2 : Cl.isQ Cl.eq = true := rfl
theorem clQ3 : Cl.isQ Cl.a = false := rfl
theorem clQ4 : Cl.isQ Cl.oth = false := rfl
def Cl.isA (c : Cl) : Bool := Nat.beq (@Fin.val 5 c) 3
theorem clA0 : Cl.isA Cl.blank = false := rfl
theorem clA1 : Cl.isA Cl.comma = false := rfl
theorem clA2 : Cl.isA Cl.eq = false := rfl
theorem clA3 : Cl.isA Cl.a = true := rfl
theorem clA4 : Cl.isA Cl.oth = false := rfl
def cl (c : Int32) : Cl := if c.toInt ≤ 32 then .blank else if c = 44 then .comma else if c = 61 then .eq else if c = 97 then .a else .oth
theorem cl_b (c : Int32) : (cl c).isB = true ↔ c.toInt ≤ 32 := by
  unfold cl
  split
  · rename_i h; simp [clB0, clB1, clB2, clB3, clB4, h]
  · rename_i h
    split
    · simp [clB0, clB1, clB2, clB3, clB4, h]
    · split
      · simp [clB0, clB1, clB2, clB3, clB4, h]
      · split <;> simp [clB0, clB1, clB2, clB3, clB4, h]
theorem cl_c (c : Int32) : (cl c).isC = true ↔ c = 44 := by
  unfold cl
  split
  · rename_i h
    constructor
    · intro q; simp [clC0, clC1, clC2, clC3, clC4] at q
    · intro q; subst q; exact absurd h (by decide)
  · split
    · rename_i h; simp [clC0, clC1, clC2, clC3, clC4, h]
    · rename_i h
      split
      · simp [clC0, clC1, clC2, clC3, clC4, h]
      · split <;> simp [clC0, clC1, clC2, clC3, clC4, h]
theorem cl_q (c : Int32) : (cl c).isQ = true ↔ c = 61 := by
  unfold cl
  split
  · rename_i h
    constructor
    · intro q; simp [clQ0, clQ1, clQ2, clQ3, clQ4] at q
    · intro q; subst q; exact absurd h (by decide)
  · split
    · rename_i h
      constructor
      · intro q; simp [clQ0, clQ1, clQ2, clQ3, clQ4] at q
      · intro q; subst q; exact absurd h (by decide)
    · split
      · rename_i h; simp [clQ0, clQ1, clQ2, clQ3, clQ4, h]
      · rename_i h; split <;> simp [clQ0, clQ1, clQ2, clQ3, clQ4, h]
theorem cl_a (c : Int32) : (cl c).isA = true ↔ c = 97 := by
  unfold cl
  split
  · rename_i h
    constructor
    · intro q; simp [clA0, clA1, clA2, clA3, clA4] at q
    · intro q; subst q; exact absurd h (by decide)
  · split
    · rename_i h
      constructor
      · intro q; simp [clA0, clA1, clA2, clA3, clA4] at q
      · intro q; subst q; exact absurd h (by decide)
    · split
      · rename_i h
        constructor
        · intro q; simp [clA0, clA1, clA2, clA3, clA4] at q
        · intro q; subst q; exact absurd h (by decide)
      · split
        · rename_i h; simp [clA0, clA1, clA2, clA3, clA4, h]
        · rename_i h; simp [clA0, clA1, clA2, clA3, clA4, h]
def nx (K : List Cl) (f : Cl → Bool) : Nat → Nat → Nat
  | 0, i => i
  | k + 1, i => if f (K.getD i .blank) then i else nx K f k (i + 1)
def pv (K : List Cl) : Nat → Nat → Nat
  | 0, b => b
  | k + 1, b => if (K.getD (b - 1) .blank).isB then pv K k (b - 1) else b
theorem nx_rng (K : List Cl) (f : Cl → Bool) : ∀ k i, i ≤ nx K f k i ∧ nx K f k i ≤ i + k
  | 0, i => ⟨Nat.le_refl _, Nat.le_refl _⟩
  | k + 1, i => by
    unfold nx
    split
    · omega
    · have := nx_rng K f k (i + 1); omega
theorem nx_le (K : List Cl) (f : Cl → Bool) {j : Nat} (hj : f (K.getD j .blank) = true) : ∀ k i, i ≤ j → j ≤ i + k → nx K f k i ≤ j
  | 0, i, h1, h2 => by unfold nx; omega
  | k + 1, i, h1, h2 => by
    unfold nx
    split
    · exact h1
    · rename_i h
      have : i ≠ j := fun q => h (by rw [q]; exact hj)
      exact nx_le K f hj k (i + 1) (by omega) (by omega)
theorem pv_rng (K : List Cl) : ∀ k b, k ≤ b → b - k ≤ pv K k b ∧ pv K k b ≤ b
  | 0, b, _ => ⟨Nat.le_refl _, Nat.le_refl _⟩
  | k + 1, b, h => by
    unfold pv
    split
    · have := pv_rng K k (b - 1) (by omega); omega
    · omega
def sE (K : List Cl) (n s : Nat) : Nat := nx K Cl.isC (n - s) s
def sA (K : List Cl) (n s : Nat) : Nat := nx K (fun c => !c.isB) (sE K n s - s) s
def sB (K : List Cl) (n s : Nat) : Nat := pv K (sE K n s - sA K n s) (sE K n s)
def sM (K : List Cl) (n s : Nat) : List (Nat × Nat) := if Nat.blt (sA K n s + 1) (sB K n s) && (K.getD (sA K n s + 1) .blank).isQ && (K.getD (sA K n s) .blank).isA then [(sA K n s + 2, sB K n s)] else []
def sg (K : List Cl) (n stop : Nat) : Nat → Nat → List (Nat × Nat)
  | 0, _ => []
  | k + 1, s => if Nat.ble stop s then [] else sM K n s ++ sg K n stop k (sE K n s + 1)
def te (c1 t : Cl) : Nat := if c1.isC then 3 else if !t.isC && !t.isB then 5 else if !c1.isB then 4 else 3
def ex1 (l pc c1 t : Cl) : List (Nat × Nat) := if (l.isB || l.isC) && pc.isA then [(3, te c1 t)] else if l.isA && pc.isQ then [(2, te c1 t)] else []
def ex2 (q e d : Cl) : List (Nat × Nat) := if q.isA && e.isQ then [(8, if d.isB || d.isC then 8 else 9)] else []
instance clAll {p : Cl → Prop} [∀ c, Decidable (p c)] : Decidable (∀ c : Cl, p c) :=
  if h : p .blank ∧ p .comma ∧ p .eq ∧ p .a ∧ p .oth then isTrue (fun (c : Fin 5) => match c with | ⟨0, _⟩ => h.1 | ⟨1, _⟩ => h.2.1 | ⟨2, _⟩ => h.2.2.1 | ⟨3, _⟩ => h.2.2.2.1 | ⟨4, _⟩ => h.2.2.2.2) else isFalse (fun g => h ⟨g _, g _, g _, g _, g _⟩)
theorem nx_congr {K K' : List Cl} {f : Cl → Bool} : ∀ k i, (∀ j, i ≤ j → j < i + k → K.getD j .blank = K'.getD j .blank) → nx K f k i = nx K' f k i
  | 0, i, _ => rfl
  | k + 1, i, h => by
    unfold nx
    rw [h i (Nat.le_refl _) (by omega), nx_congr k (i + 1) (fun j h1 h2 => h j (by omega) (by omega))]
theorem pv_congr {K K' : List Cl} : ∀ k b, k ≤ b → (∀ j, b - k ≤ j → j < b → K.getD j .blank = K'.getD j .blank) → pv K k b = pv K' k b
  | 0, b, _, _ => rfl
  | k + 1, b, hk, h => by
    unfold pv
    rw [h (b - 1) (by omega) (by omega), pv_congr k (b - 1) (by omega) (fun j h1 h2 => h j (by omega) (by omega))]
theorem nx_stop {K : List Cl} {f : Cl → Bool} {j : Nat} (hj : f (K.getD j .blank) = true) : ∀ k k' i, i ≤ j → j ≤ i + k → j ≤ i + k' → nx K f k i = nx K f k' i
  | 0, 0, i, _, _, _ => rfl
  | 0, k' + 1, i, h1, h2, _ => by
    have e : i = j := by omega
    subst e
    unfold nx
    rw [if_pos hj]
  | k + 1, 0, i, h1, _, h3 => by
    have e : i = j := by omega
    subst e
    unfold nx
    rw [if_pos hj]
  | k + 1, k' + 1, i, h1, h2, h3 => by
    unfold nx
    by_cases e : f (K.getD i .blank) = true
    · rw [if_pos e, if_pos e]
    · have : i ≠ j := fun q => e (by rw [q]; exact hj)
      rw [if_neg e, if_neg e, nx_stop hj k k' (i + 1) (by omega) (by omega) (by omega)]
theorem seg_congr {K K' : List Cl} {n n' s : Nat} (he : sE K n s = sE K' n' s) (h : ∀ j, s ≤ j → j < sE K n s → K.getD j .blank = K'.getD j .blank) : sM K n s = sM K' n' s := by
  have h0 := nx_rng K Cl.isC (n - s) s
  have ha : sA K n s = sA K' n' s := by
    unfold sA
    rw [← he]
    exact nx_congr _ _ (fun j h1 h2 => h j h1 (by unfold sE at h2 ⊢; omega))
  have hr := nx_rng K (fun c => !c.isB) (sE K n s - s) s
  have hae : sA K n s ≤ sE K n s := by unfold sA; unfold sE at hr ⊢; omega
  have has : s ≤ sA K n s := hr.1
  have hb : sB K n s = sB K' n' s := by
    unfold sB
    rw [← he, ← ha]
    exact pv_congr _ _ (by omega) (fun j h1 h2 => h j (by omega) (by omega))
  have hbr := pv_rng K (sE K n s - sA K n s) (sE K n s) (by omega)
  unfold sM
  rw [← ha, ← hb]
  cases q : Nat.blt (sA K n s + 1) (sB K n s)
  · rfl
  · have q' := Nat.blt_eq.mp q
    have hbe : sB K n s ≤ sE K n s := hbr.2
    rw [h (sA K n s) has (by omega), h (sA K n s + 1) (by omega) (by omega)]
theorem sg_congr {K K' : List Cl} {n n' stop : Nat} (P : Nat → Prop) (h1 : ∀ s, P s → s < stop → sE K n s = sE K' n' s ∧ sM K n s = sM K' n' s ∧ P (sE K n s + 1)) : ∀ k s, P s → sg K n stop k s = sg K' n' stop k s
  | 0, s, _ => rfl
  | k + 1, s, hs => by
    unfold sg
    by_cases e : stop ≤ s
    · rw [Nat.ble_eq.mpr e]; rfl
    · obtain ⟨q1, q2, q3⟩ := h1 s hs (by omega)
      rw [← q1, ← q2, sg_congr P h1 k _ q3]
theorem first5 : ∀ l pc c1 t : Cl, sg [l, pc, .eq, c1, t] 5 6 6 0 = ex1 l pc c1 t := by decide +kernel
theorem second3 : ∀ e d : Cl, sg [.blank, .blank, .blank, .blank, .blank, .blank, .a, e, d] 9 10 4 6 = ex2 .a e d ∧ sg [.blank, .blank, .blank, .blank, .blank, .blank, .oth, e, d] 9 10 4 6 = ex2 .oth e d := by decide +kernel
theorem first_ok (l pc c1 t q e d : Cl) : sg [l, pc, .eq, c1, t, .comma, q, e, d] 9 6 6 0 = ex1 l pc c1 t := by
  rw [← first5]
  refine sg_congr (fun s => s ≤ 6) (fun s hs h6 => ?_) 6 0 (by decide)
  have hag : ∀ j, j < 5 → ([l, pc, .eq, c1, t, .comma, q, e, d] : List Cl).getD j .blank = ([l, pc, .eq, c1, t] : List Cl).getD j .blank := by
    intro j hj
    rcases (by omega : j = 0 ∨ j = 1 ∨ j = 2 ∨ j = 3 ∨ j = 4) with rfl | rfl | rfl | rfl | rfl <;> rfl
  have e1 : sE [l, pc, .eq, c1, t, .comma, q, e, d] 9 s = sE [l, pc, .eq, c1, t] 5 s := by
    unfold sE
    rw [nx_stop (K := [l, pc, .eq, c1, t, .comma, q, e, d]) (f := Cl.isC) (j := 5) rfl (9 - s) (5 - s) s (by omega) (by omega) (by omega)]
    exact nx_congr _ _ (fun j h1 h2 => hag j (by omega))
  have r := nx_rng [l, pc, .eq, c1, t] Cl.isC (5 - s) s
  have e5 : sE [l, pc, .eq, c1, t] 5 s ≤ 5 := by unfold sE; omega
  exact ⟨e1, seg_congr e1 (fun j h1 h2 => hag j (by omega)), by show _ + 1 ≤ 6; omega⟩
theorem second_ok (l pc c1 t q e d : Cl) (hq : q = .a ∨ q = .oth) : sg [l, pc, .eq, c1, t, .comma, q, e, d] 9 10 4 6 = ex2 q e d := by
  have key : sg [l, pc, .eq, c1, t, .comma, q, e, d] 9 10 4 6 = sg [.blank, .blank, .blank, .blank, .blank, .blank, q, e, d] 9 10 4 6 := by
    refine sg_congr (fun s => 6 ≤ s) (fun s hs h6 => ?_) 4 6 (by decide)
    have hag : ∀ j, 6 ≤ j → j < 9 → ([l, pc, .eq, c1, t, .comma, q, e, d] : List Cl).getD j .blank = ([.blank, .blank, .blank, .blank, .blank, .blank, q, e, d] : List Cl).getD j .blank := by
      intro j hj hj'
      rcases (by omega : j = 6 ∨ j = 7 ∨ j = 8) with rfl | rfl | rfl <;> rfl
    have r := nx_rng [l, pc, .eq, c1, t, .comma, q, e, d] Cl.isC (9 - s) s
    have e1 : sE [l, pc, .eq, c1, t, .comma, q, e, d] 9 s = sE [.blank, .blank, .blank, .blank, .blank, .blank, q, e, d] 9 s := by
      unfold sE
      exact nx_congr _ _ (fun j h1 h2 => hag j (by omega) (by omega))
    refine ⟨e1, seg_congr e1 (fun j h1 h2 => hag j (by omega) (by unfold sE at h2; omega)), ?_⟩
    show 6 ≤ _ + 1
    unfold sE; omega
  rw [key]
  rcases hq with rfl | rfl
  · exact (second3 e d).1
  · exact (second3 e d).2
theorem kget {cs : List Int32} {i : Nat} (h : i < cs.length) : (cs.map cl).getD i .blank = cl cs[i] := by
  rw [List.getD_eq_getElem?_getD, List.getElem?_map, List.getElem?_eq_getElem h]; rfl
def tailF (c1 t : Int32) : List Int32 := if c1 = 44 then [] else if ¬ t = 44 ∧ ¬ t.toInt ≤ 32 then [c1, t] else if ¬ c1.toInt ≤ 32 then [c1] else []
theorem te_tail (c1 t : Int32) : (te (cl c1) (cl t) = 3 ∧ tailF c1 t = []) ∨ (te (cl c1) (cl t) = 4 ∧ tailF c1 t = [c1]) ∨ (te (cl c1) (cl t) = 5 ∧ tailF c1 t = [c1, t]) := by
  unfold te tailF
  have h1 := cl_c c1
  have h2 := cl_c t
  have h3 := cl_b t
  have h4 := cl_b c1
  by_cases e1 : c1 = 44
  · left; rw [if_pos (h1.mpr e1), if_pos e1]; exact ⟨rfl, rfl⟩
  · have f1 : (cl c1).isC = false := by cases q : (cl c1).isC; rfl; exact absurd (h1.mp q) e1
    rw [f1, if_neg e1]
    by_cases e2 : ¬ t = 44 ∧ ¬ t.toInt ≤ 32
    · have f2 : (cl t).isC = false := by cases q : (cl t).isC; rfl; exact absurd (h2.mp q) e2.1
      have f3 : (cl t).isB = false := by cases q : (cl t).isB; rfl; exact absurd (h3.mp q) e2.2
      right; right
      rw [f2, f3, if_pos e2]; exact ⟨rfl, rfl⟩
    · rw [if_neg e2]
      have f2 : (!(cl t).isC && !(cl t).isB) = false := by
        cases q : (cl t).isC
        · cases q' : (cl t).isB
          · exact absurd ⟨fun z => (by rw [h2.mpr z] at q; cases q), fun z => (by rw [h3.mpr z] at q'; cases q')⟩ e2
          · rfl
        · rfl
      rw [f2]
      by_cases e3 : ¬ c1.toInt ≤ 32
      · have f4 : (cl c1).isB = false := by cases q : (cl c1).isB; rfl; exact absurd (h4.mp q) e3
        right; left; rw [f4, if_pos e3]; exact ⟨rfl, rfl⟩
      · have f4 : (cl c1).isB = true := h4.mpr (Classical.not_not.mp e3)
        left; rw [f4, if_neg e3]; exact ⟨rfl, rfl⟩
theorem ct_mmax {l : Launch} {Z : State} {a0 : Array Value} (hw : ∀ d ∈ tables_1, d.before a0 Z = true) (hE : EW Z a0 EL0) {L : Store} {i j : Int32} : Ct l Z EL0 (⟨"java/lang/Math", "max", "(II)I"⟩ : MethodName) jdk_29_method_65_code 2 (some .int) ({ frames := 0, cells := 0, slots := 0, locals := 0 } : Room) #[.int i, .int j] L (RV fun u M => u = .int (if i < j then j else i) ∧ M = L) := by
  refine Ct.of (a0 := a0) (Ls := [.val (.int _), .val (.int _)]) pn_7 (fun m => ef_ii_2 m _ _) hE ?_
  refine Wk.iload_n (q := 1) d27_0 rfl rfl ?_
  refine Wk.iload_n (q := 2) d27_1 rfl rfl ?_
  refine Wk.icmp_s (q := 9) (q' := 5) d27_2 (by decide) (by decide) rfl ?_ ?_
  · intro (h : i < j)
    refine Wk.iload_n (q := 10) d27_9 rfl rfl ?_
    refine Wk.ireturn (t := .int) d27_10 rfl (by simp) (by rfl) ?_
    exact ⟨_, rfl, by rw [if_pos h], rfl⟩
  · intro (h : ¬ i < j)
    refine Wk.iload_n (q := 6) d27_5 rfl rfl ?_
    refine Wk.goto (q := 10) d27_6 (by decide) (by decide) ?_
    refine Wk.ireturn (t := .int) d27_10 rfl (by simp) (by rfl) ?_
    exact ⟨_, rfl, by rw [if_neg h], rfl⟩
theorem ct_canEI {l : Launch} {Z : State} {a0 : Array Value} (hw : ∀ d ∈ tables_1, d.before a0 Z = true) (hE : EW Z a0 EL0) {L : Store} : Ct l Z EL0 (⟨"java/lang/StringLatin1", "canEncode", "(I)Z"⟩ : MethodName) jdk_43_method_4_code 1 (some .boolean) ({ frames := 0, cells := 0, slots := 0, locals := 0 } : Room) #[.int 44] L (RV fun u M => u = .int 1 ∧ M = L) := by
  refine Ct.of (a0 := a0) (Ls := [.val (.int _)]) (plainFor_of_name pn_2) (fun m => ef_i_1 m _) hE ?_
  refine Wk.iload_n (q := 1) d28_0 rfl rfl ?_
  refine Wk.if_f (q := 4) d28_1 rfl (by decide) ?_
  refine Wk.iload_n (q := 5) d28_4 rfl rfl ?_
  refine Wk.sipush (q := 8) (255) d28_5 rfl (by decide) ?_
  refine Wk.icmp_f (q := 11) d28_8 rfl (by decide) ?_
  refine Wk.iconst (q := 12) (1) d28_11 rfl (by decide) ?_
  refine Wk.goto (q := 16) d28_12 (by decide) (by decide) ?_
  refine Wk.ireturn (t := .boolean) d28_16 rfl (by simp) (by rfl) ?_
  exact ⟨_, rfl, rfl, rfl⟩
set_option maxHeartbeats 4000000 in
theorem ct_ixC {l : Launch} {Z : State} {a0 : Array Value} (hw : ∀ d ∈ tables_1, d.before a0 Z = true) (hE : EW Z a0 EL0) {L : Store} {b : Addr} {fb : Bool} {cs : List Int32} {s : Nat} (hc : Lat cs) (hl : cs.length < 1000000) (hs : s ≤ cs.length) (hb : (b, fb, AR Z .byte ((cs.map b8).map .int)) ∈ L) :
    Ct l Z EL0 (⟨"java/lang/StringLatin1", "indexOfChar", "([BIII)I"⟩ : MethodName) jdk_43_method_23_code 6 (some .int) ({ frames := 0, cells := 0, slots := 0, locals := 0 } : Room) #[.ref b, .int 44, .int s.toInt32, .int cs.length.toInt32] L (RV fun u M => u = .int (if sE (cs.map cl) cs.length s < cs.length then (sE (cs.map cl) cs.length s).toInt32 else -1) ∧ M = L) := by
  refine Ct.of (a0 := a0) (Ls := [.val (.ref _), .val (.int _), .val (.int _), .val (.int _), .unset, .unset]) (plainFor_of_name pn_2) (fun m => ef_riii_6 m _ _ _ _) hE ?_
  have loop : ∀ (k i cb sb : Nat), i + k = cs.length → Wk l Z a0 EL0 (⟨"java/lang/StringLatin1", "indexOfChar", "([BIII)I"⟩ : MethodName) jdk_43_method_23_code 6 (some .int) ({ frames := 0, cells := 0, slots := 0, locals := 0 } : Room) (RV fun u M => u = .int (if nx (cs.map cl) Cl.isC k i < cs.length then (nx (cs.map cl) Cl.isC k i).toInt32 else -1) ∧ M = L) L cb sb 7 [.val (.ref b), .val (.int 44), .val (.int s.toInt32), .val (.int cs.length.toInt32), .val (.int (b8 44)), .val (.int i.toInt32)] [] := by
    intro k
    induction k with
    | zero =>
      intro i cb sb h
      refine Wk.iload (q := 9) d29_7 rfl rfl ?_
      refine Wk.iload_n (q := 10) d29_9 rfl rfl ?_
      refine Wk.icmp_t (q := 31) d29_10 (by decide) (by decide) (XT.ii_ge_t (fun q => by have := (n32_lt (by omega) (by omega)).mp q; omega)) ?_
      refine Wk.iconst (q := 32) ((-1)) d29_31 rfl (by decide) ?_
      refine Wk.ireturn (t := .int) d29_32 rfl (by simp) (by rfl) ?_
      exact ⟨_, rfl, by rw [if_neg (by unfold nx; omega)], rfl⟩
    | succ k ih =>
      intro i cb sb h
      have hi : i < cs.length := by omega
      have hci := hc cs[i] (List.getElem_mem hi)
      refine Wk.iload (q := 9) d29_7 rfl rfl ?_
      refine Wk.iload_n (q := 10) d29_9 rfl rfl ?_
      refine Wk.icmp_f (q := 13) d29_10 rfl (XT.ii_ge_f ((n32_lt (by omega) (by omega)).mpr hi)) ?_
      refine Wk.aload_n (q := 14) d29_13 rfl rfl (by first | rfl | assumption) ?_
      refine Wk.iload (q := 16) d29_14 rfl rfl ?_
      refine Wk.baload (q := 17) (i) d29_16 rfl (by repeat (first | exact List.mem_cons_self | assumption | refine List.mem_cons_of_mem _ ?_)) (n32_nn (by omega)) (n32_nat (by omega)) (show ((cs.map b8).map Value.int)[i]? = some (.int (b8 cs[i])) by simp [hi]) ?_
      refine Wk.iload (q := 19) d29_17 rfl rfl ?_
      unfold nx
      rw [kget hi]
      by_cases e : cs[i] = 44
      · rw [if_pos ((cl_c _).mpr e), if_pos hi]
        refine Wk.icmp_f (q := 22) d29_19 rfl (XT.ii_ne_f (by rw [e])) ?_
        refine Wk.iload (q := 24) d29_22 rfl rfl ?_
        refine Wk.ireturn (t := .int) d29_24 rfl (by simp) (by rfl) ?_
        exact ⟨_, rfl, rfl, rfl⟩
      · rw [if_neg (fun q => e ((cl_c _).mp q))]
        refine Wk.icmp_t (q := 25) d29_19 (by decide) (by decide) (XT.ii_ne_t (fun q => e ((b8_iff hci (by decide : 0 ≤ (44 : Int32).toInt ∧ (44 : Int32).toInt < 256) rfl).mp q))) ?_
        refine Wk.iinc (q := 28) (1) d29_25 rfl (by decide) rfl (LS1.there (LS1.there (LS1.there (LS1.there (LS1.there (LS1.here (by first | exact One.u | exact One.val rfl | assumption))))))) ?_
        rw [n32_succ]
        refine Wk.goto (q := 7) d29_28 (by decide) (by decide) ?_
        exact ih (i + 1) _ _ (by omega)
  refine Wk.iload_n (q := 1) d29_0 rfl rfl ?_
  refine Wk.i2b (q := 2) d29_1 rfl ?_
  refine Wk.istore (q := 4) d29_2 rfl (LS1.there (LS1.there (LS1.there (LS1.there (LS1.here (by first | exact One.u | exact One.val rfl | assumption)))))) ?_
  refine Wk.iload_n (q := 5) d29_4 rfl rfl ?_
  refine Wk.istore (q := 7) d29_5 rfl (LS1.there (LS1.there (LS1.there (LS1.there (LS1.there (LS1.here (by first | exact One.u | exact One.val rfl | assumption))))))) ?_
  exact loop (cs.length - s) s _ _ (by omega)
set_option maxHeartbeats 4000000 in
theorem ct_ixL {l : Launch} {Z : State} {a0 : Array Value} (hw : ∀ d ∈ tables_1, d.before a0 Z = true) (hE : EW Z a0 EL0) {L : Store} {b : Addr} {fb : Bool} {cs : List Int32} {s : Nat} (hc : Lat cs) (hl : cs.length < 1000000) (hs : s ≤ cs.length) (hb : (b, fb, AR Z .byte ((cs.map b8).map .int)) ∈ L) :
    Ct l Z EL0 (⟨"java/lang/StringLatin1", "indexOf", "([BIII)I"⟩ : MethodName) jdk_43_method_22_code 4 (some .int) ({ frames := 1, cells := 0, slots := 0, locals := 17 } : Room) #[.ref b, .int 44, .int s.toInt32, .int cs.length.toInt32] L (RV fun u M => u = .int (if sE (cs.map cl) cs.length s < cs.length then (sE (cs.map cl) cs.length s).toInt32 else -1) ∧ M = L) := by
  have hle : ((cs.map b8).map Value.int).length.toInt32 = cs.length.toInt32 := by simp
  refine Ct.of (a0 := a0) (Ls := [.val (.ref _), .val (.int _), .val (.int _), .val (.int _)]) (plainFor_of_name pn_2) (fun m => ef_riii_4 m _ _ _ _) hE ?_
  refine Wk.iload_n (q := 1) d30_0 rfl rfl ?_
  refine Wk.static (q := 4) [_] _ 0 d30_1 rfl (hw _ (List.mem_of_getElem? (i := 109) rfl)) (hw _ (List.mem_of_getElem? (i := 110) rfl)) (hw _ (List.mem_of_getElem? (i := 107) rfl)) (hw _ (List.mem_of_getElem? (i := 111) rfl)) ar_19 (by decide) rfl rfl rfl rfl (ct_canEI hw hE) (by first | decide | (dsimp only; omega) | omega) (by first | decide | (dsimp only; omega) | omega) (by first | decide | (dsimp only; omega) | omega) (by first | decide | (dsimp only; omega) | omega) (kv ?_)
  rintro _ _ ⟨rfl, rfl⟩
  refine Wk.if_t (q := 9) d30_4 (by decide) (by decide) (by decide) ?_
  refine Wk.iload_n (q := 10) d30_9 rfl rfl ?_
  refine Wk.iconst (q := 11) (0) d30_10 rfl (by decide) ?_
  refine Wk.static (q := 14) [_, _] _ 0 d30_11 rfl (hw _ (List.mem_of_getElem? (i := 112) rfl)) (hw _ (List.mem_of_getElem? (i := 113) rfl)) (hw _ (List.mem_of_getElem? (i := 114) rfl)) (hw _ (List.mem_of_getElem? (i := 115) rfl)) ar_10 (by decide) rfl rfl rfl rfl (ct_mmax hw hE) (by first | decide | (dsimp only; omega) | omega) (by first | decide | (dsimp only; omega) | omega) (by first | decide | (dsimp only; omega) | omega) (by first | decide | (dsimp only; omega) | omega) (kv ?_)
  rintro _ _ ⟨rfl, rfl⟩
  rw [if_neg (n32_nn (by omega))]
  refine Wk.istore_n (q := 15) d30_14 rfl (LS1.there (LS1.there (LS1.here (by first | exact One.u | exact One.val rfl | assumption)))) ?_
  refine Wk.iload_n (q := 16) d30_15 rfl rfl ?_
  refine Wk.aload_n (q := 17) d30_16 rfl rfl (by first | rfl | assumption) ?_
  refine Wk.arraylength (q := 18) d30_17 rfl (by repeat (first | exact List.mem_cons_self | assumption | refine List.mem_cons_of_mem _ ?_)) hle ?_
  refine Wk.static (q := 21) [_, _] _ 0 d30_18 rfl (hw _ (List.mem_of_getElem? (i := 116) rfl)) (hw _ (List.mem_of_getElem? (i := 117) rfl)) (hw _ (List.mem_of_getElem? (i := 114) rfl)) (hw _ (List.mem_of_getElem? (i := 118) rfl)) ar_10 (by decide) rfl rfl rfl rfl (ct_mmin hw hE) (by first | decide | (dsimp only; omega) | omega) (by first | decide | (dsimp only; omega) | omega) (by first | decide | (dsimp only; omega) | omega) (by first | decide | (dsimp only; omega) | omega) (kv ?_)
  rintro _ _ ⟨rfl, rfl⟩
  rw [ite_self]
  refine Wk.istore_n (q := 22) d30_21 rfl (LS1.there (LS1.there (LS1.there (LS1.here (by first | exact One.u | exact One.val rfl | assumption))))) ?_
  refine Wk.iload_n (q := 23) d30_22 rfl rfl ?_
  refine Wk.iload_n (q := 24) d30_23 rfl rfl ?_
  by_cases e : ¬ s < cs.length
  · refine Wk.icmp_f (q := 27) d30_24 rfl (XT.ii_lt_f (fun q => e ((n32_lt (by omega) (by omega)).mp q))) ?_
    refine Wk.iconst (q := 28) ((-1)) d30_27 rfl (by decide) ?_
    refine Wk.ireturn (t := .int) d30_28 rfl (by simp) (by rfl) ?_
    refine ⟨_, rfl, ?_, rfl⟩
    rw [if_neg]
    have := nx_rng (cs.map cl) Cl.isC (cs.length - s) s
    unfold sE
    omega
  · have e' := Classical.not_not.mp e
    refine Wk.icmp_t (q := 29) d30_24 (by decide) (by decide) (XT.ii_lt_t ((n32_lt (by omega) (by omega)).mpr e')) ?_
    refine Wk.aload_n (q := 30) d30_29 rfl rfl (by first | rfl | assumption) ?_
    refine Wk.iload_n (q := 31) d30_30 rfl rfl ?_
    refine Wk.iload_n (q := 32) d30_31 rfl rfl ?_
    refine Wk.iload_n (q := 33) d30_32 rfl rfl ?_
    refine Wk.static (q := 36) [_, _, _, _] _ 0 d30_33 rfl (hw _ (List.mem_of_getElem? (i := 119) rfl)) (hw _ (List.mem_of_getElem? (i := 120) rfl)) (hw _ (List.mem_of_getElem? (i := 107) rfl)) (hw _ (List.mem_of_getElem? (i := 121) rfl)) ar_20 (by decide) rfl rfl rfl rfl (ct_ixC hw hE hc hl hs hb) (by first | decide | (dsimp only; omega) | omega) (by first | decide | (dsimp only; omega) | omega) (by first | decide | (dsimp only; omega) | omega) (by first | decide | (dsimp only; omega) | omega) (kv ?_)
    rintro _ _ ⟨rfl, rfl⟩
    refine Wk.ireturn (t := .int) d30_36 rfl (by simp) (by rfl) ?_
    exact ⟨_, rfl, rfl, rfl⟩
set_option maxHeartbeats 4000000 in
theorem ct_ixS {l : Launch} {Z : State} {a0 : Array Value} (hw : ∀ d ∈ tables_1, d.before a0 Z = true) (hE : EW Z a0 EL0) (F : ∃ z, z ≠ (0 : Int32) ∧ Sta Z Z.heap "java/lang/String" "COMPACT_STRINGS" "Z" (.int z)) {L : Store} {q b : Addr} {f fb : Bool} {cs : List Int32} {s : Nat} (hc : Lat cs) (hl : cs.length < 1000000) (hs : s ≤ cs.length) (hq : (q, f, OB Z "java/lang/String" layS [.ref b, .int 0]) ∈ L) (hb : (b, fb, AR Z .byte ((cs.map b8).map .int)) ∈ L) :
    Ct l Z EL0 (⟨"java/lang/String", "indexOf", "(II)I"⟩ : MethodName) jdk_42_method_80_code 3 (some .int) ({ frames := 2, cells := 0, slots := 0, locals := 32 } : Room) #[.ref q, .int 44, .int s.toInt32] L (RV fun u M => u = .int (if sE (cs.map cl) cs.length s < cs.length then (sE (cs.map cl) cs.length s).toInt32 else -1) ∧ M = L) := by
  refine Ct.of (a0 := a0) (Ls := [.val (.ref _), .val (.int _), .val (.int _)]) (plainFor_of_name pn_1) (fun m => ef_rii_3 m _ _ _) hE ?_
  refine Wk.aload_n (q := 1) d31_0 rfl rfl (by first | rfl | assumption) ?_
  refine Wk.virtual (q := 4) (C := "java/lang/String") [] _ 0 d31_1 rfl (hw _ (List.mem_of_getElem? (i := 99) rfl)) (hw _ (List.mem_of_getElem? (i := 100) rfl)) (hw _ (List.mem_of_getElem? (i := 102) rfl)) (hw _ (List.mem_of_getElem? (i := 101) rfl)) (hw _ (List.mem_of_getElem? (i := 7) rfl)) (hw _ (List.mem_of_getElem? (i := 103) rfl)) ar_8 (by decide) (nfSel (hw _ (List.mem_of_getElem? (i := 102) rfl))) (by repeat (first | exact List.mem_cons_self | assumption | refine List.mem_cons_of_mem _ ?_)) rfl rfl rfl rfl (ct_isLat hw hE F (Or.inl rfl) hq) (by first | decide | (dsimp only; omega) | omega) (by first | decide | (dsimp only; omega) | omega) (by first | decide | (dsimp only; omega) | omega) (by first | decide | (dsimp only; omega) | omega) (kv ?_)
  rintro _ _ ⟨rfl, rfl⟩
  refine Wk.if_f (q := 7) d31_4 rfl (by decide) ?_
  refine Wk.aload_n (q := 8) d31_7 rfl rfl (by first | rfl | assumption) ?_
  refine Wk.getfield (q := 11) (C := "java/lang/String") (lay := layS) 0 d31_8 rfl (hw _ (List.mem_of_getElem? (i := 32) rfl)) Via.refl (by repeat (first | exact List.mem_cons_self | assumption | refine List.mem_cons_of_mem _ ?_)) rfl (by rfl) ?_
  refine Wk.iload_n (q := 12) d31_11 rfl rfl ?_
  refine Wk.iload_n (q := 13) d31_12 rfl rfl ?_
  refine Wk.aload_n (q := 14) d31_13 rfl rfl (by first | rfl | assumption) ?_
  refine Wk.virtual (q := 17) (C := "java/lang/String") [] _ 3 d31_14 rfl (hw _ (List.mem_of_getElem? (i := 104) rfl)) (hw _ (List.mem_of_getElem? (i := 85) rfl)) (hw _ (List.mem_of_getElem? (i := 87) rfl)) (hw _ (List.mem_of_getElem? (i := 86) rfl)) (hw _ (List.mem_of_getElem? (i := 7) rfl)) (hw _ (List.mem_of_getElem? (i := 88) rfl)) ar_14 (by decide) (nfSel (hw _ (List.mem_of_getElem? (i := 87) rfl))) (by repeat (first | exact List.mem_cons_self | assumption | refine List.mem_cons_of_mem _ ?_)) rfl rfl rfl rfl (ct_lenL hw hE F hq hb) (by first | decide | (dsimp only; omega) | omega) (by first | decide | (dsimp only; omega) | omega) (by first | decide | (dsimp only; omega) | omega) (by first | decide | (dsimp only; omega) | omega) (kv ?_)
  rintro _ _ ⟨rfl, rfl⟩
  rw [List.length_map]
  refine Wk.static (q := 20) [_, _, _, _] _ 0 d31_17 rfl (hw _ (List.mem_of_getElem? (i := 105) rfl)) (hw _ (List.mem_of_getElem? (i := 106) rfl)) (hw _ (List.mem_of_getElem? (i := 107) rfl)) (hw _ (List.mem_of_getElem? (i := 108) rfl)) ar_20 (by decide) rfl rfl rfl rfl (ct_ixL hw hE hc hl hs hb) (by first | decide | (dsimp only; omega) | omega) (by first | decide | (dsimp only; omega) | omega) (by first | decide | (dsimp only; omega) | omega) (by first | decide | (dsimp only; omega) | omega) (kv ?_)
  rintro _ _ ⟨rfl, rfl⟩
  refine Wk.goto (q := 36) d31_20 (by decide) (by decide) ?_
  refine Wk.ireturn (t := .int) d31_36 rfl (by simp) (by rfl) ?_
  exact ⟨_, rfl, rfl, rfl⟩
set_option maxHeartbeats 4000000 in
theorem ct_swA {l : Launch} {Z : State} {a0 : Array Value} (hw : ∀ d ∈ tables_1, d.before a0 Z = true) (hE : EW Z a0 EL0) (F : ∃ z, z ≠ (0 : Int32) ∧ Sta Z Z.heap "java/lang/String" "COMPACT_STRINGS" "Z" (.int z)) {L : Store} {s b t d : Addr} {f fb ft fd : Bool} {cs : List Int32} {i : Nat} (hc : Lat cs) (hl : cs.length < 1000000) (hi : i < cs.length) (hs : (s, f, OB Z "java/lang/String" layS [.ref b, .int 0]) ∈ L) (hb : (b, fb, AR Z .byte ((cs.map b8).map .int)) ∈ L) (ht : (t, ft, OB Z "java/lang/String" layS [.ref d, .int 0]) ∈ L) (hd : (d, fd, AR Z .byte [.int 97]) ∈ L) :
    Ct l Z EL0 (⟨"java/lang/String", "startsWith", "(Ljava/lang/String;I)Z"⟩ : MethodName) jdk_42_method_75_code 8 (some .boolean) ({ frames := 2, cells := 0, slots := 0, locals := 27 } : Room) #[.ref s, .ref t, .int i.toInt32] L (RV fun u M => u = .int (if cs[i] = 97 then 1 else 0) ∧ M = L) := by
  refine Ct.of (a0 := a0) (Ls := [.val (.ref _), .val (.ref _), .val (.int _), .unset, .unset, .unset, .unset, .unset]) (plainFor_of_name pn_1) (fun m => ef_rri_8 m _ _ _) hE ?_
  refine Wk.iload_n (q := 1) d32_0 rfl rfl ?_
  refine Wk.if_f (q := 4) d32_1 rfl (XT.i0_lt_f (n32_nn (by omega))) ?_
  refine Wk.iload_n (q := 5) d32_4 rfl rfl ?_
  refine Wk.aload_n (q := 6) d32_5 rfl rfl (by first | rfl | assumption) ?_
  refine Wk.virtual (q := 9) (C := "java/lang/String") [] _ 1 d32_6 rfl (hw _ (List.mem_of_getElem? (i := 104) rfl)) (hw _ (List.mem_of_getElem? (i := 85) rfl)) (hw _ (List.mem_of_getElem? (i := 87) rfl)) (hw _ (List.mem_of_getElem? (i := 86) rfl)) (hw _ (List.mem_of_getElem? (i := 7) rfl)) (hw _ (List.mem_of_getElem? (i := 88) rfl)) ar_14 (by decide) (nfSel (hw _ (List.mem_of_getElem? (i := 87) rfl))) (by repeat (first | exact List.mem_cons_self | assumption | refine List.mem_cons_of_mem _ ?_)) rfl rfl rfl rfl (ct_lenL hw hE F hs hb) (by first | decide | (dsimp only; omega) | omega) (by first | decide | (dsimp only; omega) | omega) (by first | decide | (dsimp only; omega) | omega) (by first | decide | (dsimp only; omega) | omega) (kv ?_)
  rintro _ _ ⟨rfl, rfl⟩
  rw [List.length_map]
  refine Wk.aload_n (q := 10) d32_9 rfl rfl (by first | rfl | assumption) ?_
  refine Wk.virtual (q := 13) (C := "java/lang/String") [] _ 2 d32_10 rfl (hw _ (List.mem_of_getElem? (i := 104) rfl)) (hw _ (List.mem_of_getElem? (i := 85) rfl)) (hw _ (List.mem_of_getElem? (i := 87) rfl)) (hw _ (List.mem_of_getElem? (i := 86) rfl)) (hw _ (List.mem_of_getElem? (i := 7) rfl)) (hw _ (List.mem_of_getElem? (i := 88) rfl)) ar_14 (by decide) (nfSel (hw _ (List.mem_of_getElem? (i := 87) rfl))) (by repeat (first | exact List.mem_cons_self | assumption | refine List.mem_cons_of_mem _ ?_)) rfl rfl rfl rfl (ct_lenL hw hE F (xs := [97]) ht hd) (by first | decide | (dsimp only; omega) | omega) (by first | decide | (dsimp only; omega) | omega) (by first | decide | (dsimp only; omega) | omega) (by first | decide | (dsimp only; omega) | omega) (kv ?_)
  rintro _ _ ⟨rfl, rfl⟩
  refine Wk.isub (q := 14) d32_13 rfl ?_
  have e1 : cs.length.toInt32 - ([97] : List Int32).length.toInt32 = (cs.length - 1).toInt32 := n32_sub (i := 1) (by omega)
  rw [e1]
  refine Wk.icmp_t (q := 19) d32_14 (by decide) (by decide) (XT.ii_le_t (fun q => by have := (n32_lt (by omega) (by omega)).mp q; omega)) ?_
  refine Wk.aload_n (q := 20) d32_19 rfl rfl (by first | rfl | assumption) ?_
  refine Wk.getfield (q := 23) (C := "java/lang/String") (lay := layS) 0 d32_20 rfl (hw _ (List.mem_of_getElem? (i := 32) rfl)) Via.refl (by repeat (first | exact List.mem_cons_self | assumption | refine List.mem_cons_of_mem _ ?_)) rfl (by rfl) ?_
  refine Wk.astore_n (q := 24) d32_23 rfl (by first | rfl | assumption) (LS1.there (LS1.there (LS1.there (LS1.here (by first | exact One.u | exact One.val rfl | assumption))))) ?_
  refine Wk.aload_n (q := 25) d32_24 rfl rfl (by first | rfl | assumption) ?_
  refine Wk.getfield (q := 28) (C := "java/lang/String") (lay := layS) 0 d32_25 rfl (hw _ (List.mem_of_getElem? (i := 32) rfl)) Via.refl (by repeat (first | exact List.mem_cons_self | assumption | refine List.mem_cons_of_mem _ ?_)) rfl (by rfl) ?_
  refine Wk.astore (q := 30) d32_28 rfl (by first | rfl | assumption) (LS1.there (LS1.there (LS1.there (LS1.there (LS1.here (by first | exact One.u | exact One.val rfl | assumption)))))) ?_
  refine Wk.iconst (q := 31) (0) d32_30 rfl (by decide) ?_
  refine Wk.istore (q := 33) d32_31 rfl (LS1.there (LS1.there (LS1.there (LS1.there (LS1.there (LS1.here (by first | exact One.u | exact One.val rfl | assumption))))))) ?_
  refine Wk.aload (q := 35) d32_33 rfl rfl (by first | rfl | assumption) ?_
  refine Wk.arraylength (q := 36) d32_35 rfl (by repeat (first | exact List.mem_cons_self | assumption | refine List.mem_cons_of_mem _ ?_)) (show ([Value.int 97] : List Value).length.toInt32 = 1 by decide) ?_
  refine Wk.istore (q := 38) d32_36 rfl (LS1.there (LS1.there (LS1.there (LS1.there (LS1.there (LS1.there (LS1.here (by first | exact One.u | exact One.val rfl | assumption)))))))) ?_
  refine Wk.aload_n (q := 39) d32_38 rfl rfl (by first | rfl | assumption) ?_
  refine Wk.virtual (q := 42) (C := "java/lang/String") [] _ 0 d32_39 rfl (hw _ (List.mem_of_getElem? (i := 89) rfl)) (hw _ (List.mem_of_getElem? (i := 90) rfl)) (hw _ (List.mem_of_getElem? (i := 92) rfl)) (hw _ (List.mem_of_getElem? (i := 91) rfl)) (hw _ (List.mem_of_getElem? (i := 7) rfl)) (hw _ (List.mem_of_getElem? (i := 93) rfl)) ar_5 (by decide) (nfSel (hw _ (List.mem_of_getElem? (i := 92) rfl))) (by repeat (first | exact List.mem_cons_self | assumption | refine List.mem_cons_of_mem _ ?_)) rfl rfl rfl rfl (ct_coder hw hE F (Or.inl rfl) hs) (by first | decide | (dsimp only; omega) | omega) (by first | decide | (dsimp only; omega) | omega) (by first | decide | (dsimp only; omega) | omega) (by first | decide | (dsimp only; omega) | omega) (kv ?_)
  rintro _ _ ⟨rfl, rfl⟩
  refine Wk.istore (q := 44) d32_42 rfl (LS1.there (LS1.there (LS1.there (LS1.there (LS1.there (LS1.there (LS1.there (LS1.here (by first | exact One.u | exact One.val rfl | assumption))))))))) ?_
  refine Wk.iload (q := 46) d32_44 rfl rfl ?_
  refine Wk.aload_n (q := 47) d32_46 rfl rfl (by first | rfl | assumption) ?_
  refine Wk.virtual (q := 50) (C := "java/lang/String") [] _ 1 d32_47 rfl (hw _ (List.mem_of_getElem? (i := 89) rfl)) (hw _ (List.mem_of_getElem? (i := 90) rfl)) (hw _ (List.mem_of_getElem? (i := 92) rfl)) (hw _ (List.mem_of_getElem? (i := 91) rfl)) (hw _ (List.mem_of_getElem? (i := 7) rfl)) (hw _ (List.mem_of_getElem? (i := 93) rfl)) ar_5 (by decide) (nfSel (hw _ (List.mem_of_getElem? (i := 92) rfl))) (by repeat (first | exact List.mem_cons_self | assumption | refine List.mem_cons_of_mem _ ?_)) rfl rfl rfl rfl (ct_coder hw hE F (Or.inl rfl) ht) (by first | decide | (dsimp only; omega) | omega) (by first | decide | (dsimp only; omega) | omega) (by first | decide | (dsimp only; omega) | omega) (by first | decide | (dsimp only; omega) | omega) (kv ?_)
  rintro _ _ ⟨rfl, rfl⟩
  refine Wk.icmp_f (q := 53) d32_50 rfl (by decide) ?_
  refine Wk.iload (q := 55) d32_53 rfl rfl ?_
  refine Wk.iconst (q := 56) (1) d32_55 rfl (by decide) ?_
  refine Wk.icmp_t (q := 63) d32_56 (by decide) (by decide) (by decide) ?_
  refine Wk.aload_n (q := 64) d32_63 rfl rfl (by first | rfl | assumption) ?_
  refine Wk.iload_n (q := 65) d32_64 rfl rfl ?_
  refine Wk.aload (q := 67) d32_65 rfl rfl (by first | rfl | assumption) ?_
  refine Wk.iconst (q := 68) (0) d32_67 rfl (by decide) ?_
  refine Wk.iload (q := 70) d32_68 rfl rfl ?_
  refine Wk.static (q := 73) [_, _, _, _, _] _ 0 d32_70 rfl (hw _ (List.mem_of_getElem? (i := 159) rfl)) (hw _ (List.mem_of_getElem? (i := 160) rfl)) (hw _ (List.mem_of_getElem? (i := 161) rfl)) (hw _ (List.mem_of_getElem? (i := 162) rfl)) ar_21 (by decide) rfl rfl rfl rfl (ct_mism1 hw hE (xs := cs.map b8) (i := i) (by rw [List.length_map]; omega) (by simpa using hi) hb hd) (by first | decide | (dsimp only; omega) | omega) (by first | decide | (dsimp only; omega) | omega) (by first | decide | (dsimp only; omega) | omega) (by first | decide | (dsimp only; omega) | omega) (kv ?_)
  rintro _ _ ⟨rfl, rfl⟩
  have e : (cs.map b8)[i]'(by simpa using hi) = 97 ↔ cs[i] = 97 := by
    rw [List.getElem_map]
    exact b8_iff (hc _ (List.getElem_mem hi)) (by decide : 0 ≤ (97 : Int32).toInt ∧ (97 : Int32).toInt < 256) (by decide)
  by_cases h : cs[i] = 97
  · rw [if_pos (e.mpr h), if_pos h]
    refine Wk.if_f (q := 76) d32_73 rfl (by decide) ?_
    refine Wk.iconst (q := 77) (1) d32_76 rfl (by decide) ?_
    refine Wk.goto (q := 81) d32_77 (by decide) (by decide) ?_
    refine Wk.ireturn (t := .boolean) d32_81 rfl (by simp) (by rfl) ?_
    exact ⟨_, rfl, rfl, rfl⟩
  · rw [if_neg (fun q => h (e.mp q)), if_neg h]
    refine Wk.if_t (q := 80) d32_73 (by decide) (by decide) (by decide) ?_
    refine Wk.iconst (q := 81) (0) d32_80 rfl (by decide) ?_
    refine Wk.ireturn (t := .boolean) d32_81 rfl (by simp) (by rfl) ?_
    exact ⟨_, rfl, rfl, rfl⟩
def layAL : Jvm.OwnW.Lay := [("java/util/ArrayList", "elementData", "[Ljava/lang/Object;"), ("java/util/ArrayList", "size", "I"), ("java/util/AbstractList", "modCount", "I")]
theorem layAL_ok {Z : State} {a0 : Array Value} (hw : ∀ d ∈ tables_1, d.before a0 Z = true) : LayOk Z a0 "java/util/ArrayList" layAL := by
  refine ⟨fun f hf => ?_, by decide +kernel, fun f hf => ?_⟩
  all_goals simp only [layAL, List.mem_cons, List.not_mem_nil, or_false] at hf
  all_goals rcases hf with rfl | rfl | rfl
  · exact Or.inl (hw _ (List.mem_of_getElem? (i := 83) rfl))
  · exact Or.inl (hw _ (List.mem_of_getElem? (i := 153) rfl))
  · exact Or.inl (hw _ (List.mem_of_getElem? (i := 80) rfl))
  · exact ⟨(.array (.object "java/lang/Object")), by decide +kernel⟩
  · exact ⟨.int, by decide +kernel⟩
  · exact ⟨.int, by decide +kernel⟩
theorem layAL_dv : Dv layAL [.null, (.int 0), (.int 0)] := by decide +kernel
/-- the empty array of new lists -/
def DE (Z : State) : Prop := ∃ (dd : Addr) (c : Cell), Sta Z Z.heap "java/util/ArrayList" "DEFAULTCAPACITY_EMPTY_ELEMENTDATA" "[Ljava/lang/Object;" (.ref dd) ∧ Z.heap[dd]? = some c ∧ AR Z (.object "java/lang/Object") [] c
theorem DE_of {Z : State} {args : Array Value} (h1 : (Jvm.Cond.arrayOf (Term.static "java/util/ArrayList" "DEFAULTCAPACITY_EMPTY_ELEMENTDATA" "[Ljava/lang/Object;") (.object "java/lang/Object")).before args Z = true) (h2 : (Jvm.Cond.eq (Term.length (Term.static "java/util/ArrayList" "DEFAULTCAPACITY_EMPTY_ELEMENTDATA" "[Ljava/lang/Object;")) (.int 0)).before args Z = true) (hi : (Jvm.Cond.initialized "java/util/ArrayList").before args Z = true) (hl : (Jvm.Cond.laysStatic "java/util/ArrayList" "DEFAULTCAPACITY_EMPTY_ELEMENTDATA" "[Ljava/lang/Object;").before args Z = true) : DE Z := by
  obtain ⟨a, c, ev, hc, A⟩ := arr0 h1 h2
  exact ⟨a, c, Sta.start (args := args) ev (Or.inr ⟨hi, hl⟩), hc, A⟩
theorem ct_alAC {l : Launch} {Z : State} {a0 : Array Value} (hw : ∀ d ∈ tables_1, d.before a0 Z = true) (hE : EW Z a0 EL0) {L : Store} {a : Addr} : Ct l Z EL0 (⟨"java/util/AbstractCollection", "<init>", "()V"⟩ : MethodName) jdk_22_method_1_code 1 none ({ frames := 1, cells := 0, slots := 0, locals := 12 } : Room) #[.ref a] L (R0 fun M => M = L) := by
  refine Ct.of (a0 := a0) (Ls := [.val (.ref _)]) (plainFor_of_name pn_8) (fun m => ef_r_1 m _) hE ?_
  refine Wk.aload_n (q := 1) d33_0 rfl rfl (by first | rfl | assumption) ?_
  refine Wk.objinit (q := 4) 0 d33_1 rfl (hw _ (List.mem_of_getElem? (i := 78) rfl)) (hw _ (List.mem_of_getElem? (i := 16) rfl)) (hw _ (List.mem_of_getElem? (i := 17) rfl)) rfl (by first | decide | (dsimp only; omega) | omega) rfl (by first | decide | (dsimp only; omega) | omega) ?_
  refine Wk.return_ d33_4 rfl ?_
  exact ⟨rfl, rfl⟩
theorem ct_alAL {l : Launch} {Z : State} {a0 : Array Value} (hw : ∀ d ∈ tables_1, d.before a0 Z = true) (hE : EW Z a0 EL0) {L : Store} {al : Addr} : Ct l Z EL0 (⟨"java/util/AbstractList", "<init>", "()V"⟩ : MethodName) jdk_39_method_1_code 1 none ({ frames := 2, cells := 0, slots := 0, locals := 24 } : Room) #[.ref al] ((al, true, OB Z "java/util/ArrayList" layAL [.null, .int 0, .int 0]) :: L) (R0 fun M => M = (al, true, OB Z "java/util/ArrayList" layAL [.null, .int 0, .int 0]) :: L) := by
  refine Ct.of (a0 := a0) (Ls := [.val (.ref _)]) (plainFor_of_name pn_9) (fun m => ef_r_1 m _) hE ?_
  refine Wk.aload_n (q := 1) d34_0 rfl rfl (by first | rfl | assumption) ?_
  refine Wk.special (q := 4) [] _ 0 d34_1 rfl rfl (hw _ (List.mem_of_getElem? (i := 72) rfl)) (hw _ (List.mem_of_getElem? (i := 73) rfl)) (hw _ (List.mem_of_getElem? (i := 76) rfl)) (hw _ (List.mem_of_getElem? (i := 77) rfl)) ar_22 (by decide) rfl rfl rfl rfl (ct_alAC hw hE) (by first | decide | (dsimp only; omega) | omega) (by first | decide | (dsimp only; omega) | omega) (by first | decide | (dsimp only; omega) | omega) (by first | decide | (dsimp only; omega) | omega) (k0 ?_)
  rintro _ rfl
  refine Wk.aload_n (q := 5) d34_4 rfl rfl (by first | rfl | assumption) ?_
  refine Wk.iconst (q := 6) (0) d34_5 rfl (by decide) ?_
  refine Wk.putfield (q := 9) (C := "java/util/ArrayList") (lay := layAL) 2 d34_6 rfl (hw _ (List.mem_of_getElem? (i := 79) rfl)) Via.refl (layAL_ok hw) (hw _ (List.mem_of_getElem? (i := 61) rfl)) (Or.inl (hw _ (List.mem_of_getElem? (i := 80) rfl))) rfl (by decide +kernel : parseFieldDescriptor "I" = some .int) (by repeat (first | exact Ex.here | assumption | apply Ex.there)) (VS.there (VS.there (VS.here))) (by first | rfl | exact narO) (by first | rfl | exact fitO (by assumption) | exact fitA (by assumption)) ?_
  refine Wk.return_ d34_9 rfl ?_
  exact ⟨rfl, rfl⟩
theorem ct_alI {l : Launch} {Z : State} {a0 : Array Value} (hw : ∀ d ∈ tables_1, d.before a0 Z = true) (hE : EW Z a0 EL0) {L : Store} {al dd : Addr} (sta_DEFAULTCAPACITY_EMPTY_ELEMENTDATA : Sta Z Z.heap "java/util/ArrayList" "DEFAULTCAPACITY_EMPTY_ELEMENTDATA" "[Ljava/lang/Object;" (.ref dd)) : Ct l Z EL0 (⟨"java/util/ArrayList", "<init>", "()V"⟩ : MethodName) jdk_38_method_2_code 1 none ({ frames := 3, cells := 0, slots := 0, locals := 36 } : Room) #[.ref al] ((al, true, OB Z "java/util/ArrayList" layAL [.null, .int 0, .int 0]) :: L) (R0 fun M => M = (al, true, OB Z "java/util/ArrayList" layAL [.ref dd, .int 0, .int 0]) :: L) := by
  refine Ct.of (a0 := a0) (Ls := [.val (.ref _)]) (plainFor_of_name pn_10) (fun m => ef_r_1 m _) hE ?_
  refine Wk.aload_n (q := 1) d35_0 rfl rfl (by first | rfl | assumption) ?_
  refine Wk.special (q := 4) [] _ 0 d35_1 rfl rfl (hw _ (List.mem_of_getElem? (i := 66) rfl)) (hw _ (List.mem_of_getElem? (i := 67) rfl)) (hw _ (List.mem_of_getElem? (i := 70) rfl)) (hw _ (List.mem_of_getElem? (i := 71) rfl)) ar_22 (by decide) rfl rfl rfl rfl (ct_alAL hw hE) (by first | decide | (dsimp only; omega) | omega) (by first | decide | (dsimp only; omega) | omega) (by first | decide | (dsimp only; omega) | omega) (by first | decide | (dsimp only; omega) | omega) (k0 ?_)
  rintro _ rfl
  refine Wk.aload_n (q := 5) d35_4 rfl rfl (by first | rfl | assumption) ?_
  refine Wk.getstatic (q := 8) d35_5 rfl (hw _ (List.mem_of_getElem? (i := 81) rfl)) Via.refl sta_DEFAULTCAPACITY_EMPTY_ELEMENTDATA ?_
  refine Wk.putfield (q := 11) (C := "java/util/ArrayList") (lay := layAL) 0 d35_8 rfl (hw _ (List.mem_of_getElem? (i := 82) rfl)) Via.refl (layAL_ok hw) (hw _ (List.mem_of_getElem? (i := 61) rfl)) (Or.inl (hw _ (List.mem_of_getElem? (i := 83) rfl))) rfl (by decide +kernel : parseFieldDescriptor "[Ljava/lang/Object;" = some (.array (.object "java/lang/Object"))) (by repeat (first | exact Ex.here | assumption | apply Ex.there)) (VS.here) (by first | rfl | exact narO) (by first | rfl | exact fitO (by assumption) | exact fitA (by assumption)) ?_
  refine Wk.return_ d35_11 rfl ?_
  exact ⟨rfl, rfl⟩
set_option maxHeartbeats 4000000 in
theorem ct_alG1 {l : Launch} {Z : State} {a0 : Array Value} (hw : ∀ d ∈ tables_1, d.before a0 Z = true) (hE : EW Z a0 EL0) {L : Store} {al dd : Addr} {m : Int32} (sta_DEFAULTCAPACITY_EMPTY_ELEMENTDATA : Sta Z Z.heap "java/util/ArrayList" "DEFAULTCAPACITY_EMPTY_ELEMENTDATA" "[Ljava/lang/Object;" (.ref dd)) (hdd : (dd, false, AR Z (.object "java/lang/Object") []) ∈ L) : Ct l Z EL0 (⟨"java/util/ArrayList", "grow", "(I)[Ljava/lang/Object;"⟩ : MethodName) jdk_38_method_6_code 4 (some (.array (.object "java/lang/Object"))) ({ frames := 1, cells := 1, slots := 10, locals := 14 } : Room) #[.ref al, .int 1] ((al, true, OB Z "java/util/ArrayList" layAL [.ref dd, .int 0, .int m]) :: L) (RV fun u M => ∃ ar, u = .ref ar ∧ M = (al, true, OB Z "java/util/ArrayList" layAL [.ref ar, .int 0, .int m]) :: (ar, true, RA Z "java/lang/Object" [.null, .null, .null, .null, .null, .null, .null, .null, .null, .null]) :: L) := by
  refine Ct.of (a0 := a0) (Ls := [.val (.ref _), .val (.int _), .unset, .unset]) (plainFor_of_name pn_10) (fun m => ef_ri_4 m _ _) hE ?_
  refine Wk.aload_n (q := 1) d36_0 rfl rfl (by first | rfl | assumption) ?_
  refine Wk.getfield (q := 4) (C := "java/util/ArrayList") (lay := layAL) 0 d36_1 rfl (hw _ (List.mem_of_getElem? (i := 82) rfl)) Via.refl (by repeat (first | exact List.mem_cons_self | assumption | refine List.mem_cons_of_mem _ ?_)) rfl (by rfl) ?_
  refine Wk.arraylength (q := 5) d36_4 rfl (by repeat (first | exact List.mem_cons_self | assumption | refine List.mem_cons_of_mem _ ?_)) (show ([] : List Value).length.toInt32 = 0 from rfl) ?_
  refine Wk.istore_n (q := 6) d36_5 rfl (LS1.there (LS1.there (LS1.here (by first | exact One.u | exact One.val rfl | assumption)))) ?_
  refine Wk.iload_n (q := 7) d36_6 rfl rfl ?_
  refine Wk.if_f (q := 10) d36_7 rfl (by decide) ?_
  refine Wk.aload_n (q := 11) d36_10 rfl rfl (by first | rfl | assumption) ?_
  refine Wk.getfield (q := 14) (C := "java/util/ArrayList") (lay := layAL) 0 d36_11 rfl (hw _ (List.mem_of_getElem? (i := 82) rfl)) Via.refl (by repeat (first | exact List.mem_cons_self | assumption | refine List.mem_cons_of_mem _ ?_)) rfl (by rfl) ?_
  refine Wk.getstatic (q := 17) d36_14 rfl (hw _ (List.mem_of_getElem? (i := 81) rfl)) Via.refl sta_DEFAULTCAPACITY_EMPTY_ELEMENTDATA ?_
  refine Wk.acmp_t (q := 45) d36_17 (by decide) (by decide) rfl rfl (by simp [XT.acmp]) ?_
  refine Wk.aload_n (q := 46) d36_45 rfl rfl (by first | rfl | assumption) ?_
  refine Wk.bipush (q := 48) (10) d36_46 rfl (by decide) ?_
  refine Wk.iload_n (q := 49) d36_48 rfl rfl ?_
  refine Wk.static (q := 52) [_, _] _ 1 d36_49 rfl (hw _ (List.mem_of_getElem? (i := 203) rfl)) (hw _ (List.mem_of_getElem? (i := 113) rfl)) (hw _ (List.mem_of_getElem? (i := 114) rfl)) (hw _ (List.mem_of_getElem? (i := 115) rfl)) ar_10 (by decide) rfl rfl rfl rfl (ct_mmax hw hE) (by first | decide | (dsimp only; omega) | omega) (by first | decide | (dsimp only; omega) | omega) (by first | decide | (dsimp only; omega) | omega) (by first | decide | (dsimp only; omega) | omega) (kv ?_)
  rintro _ _ ⟨rfl, rfl⟩
  rw [if_neg (by decide)]
  refine Wk.anewarray (q := 55) (10) [.null, .null, .null, .null, .null, .null, .null, .null, .null, .null] d36_52 rfl (hw _ (List.mem_of_getElem? (i := 204) rfl)) rfl (hw _ (List.mem_of_getElem? (i := 205) rfl)) (by decide) (by decide) (by decide) (by first | decide | (dsimp only; omega) | omega) (by first | decide | (dsimp only; omega) | omega) ?_
  intro ar
  refine Wk.dup_x1 (q := 56) d36_55 rfl rfl rfl ?_
  refine Wk.putfield (q := 59) (C := "java/util/ArrayList") (lay := layAL) 0 d36_56 rfl (hw _ (List.mem_of_getElem? (i := 82) rfl)) Via.refl (layAL_ok hw) (hw _ (List.mem_of_getElem? (i := 61) rfl)) (Or.inl (hw _ (List.mem_of_getElem? (i := 83) rfl))) rfl (by decide +kernel : parseFieldDescriptor "[Ljava/lang/Object;" = some (.array (.object "java/lang/Object"))) (by repeat (first | exact Ex.here | assumption | apply Ex.there)) (VS.here) (by first | rfl | exact narO) (by first | rfl | exact fitO (by assumption) | exact fitA (by assumption)) ?_
  refine Wk.areturn (t := (.array (.object "java/lang/Object"))) d36_59 rfl rfl (by first | rfl | exact narO | exact narA) (by first | rfl | assumption) ?_
  exact ⟨_, rfl, ar, rfl, rfl⟩
theorem ct_alG0 {l : Launch} {Z : State} {a0 : Array Value} (hw : ∀ d ∈ tables_1, d.before a0 Z = true) (hE : EW Z a0 EL0) {L : Store} {al dd : Addr} {m : Int32} (sta_DEFAULTCAPACITY_EMPTY_ELEMENTDATA : Sta Z Z.heap "java/util/ArrayList" "DEFAULTCAPACITY_EMPTY_ELEMENTDATA" "[Ljava/lang/Object;" (.ref dd)) (hdd : (dd, false, AR Z (.object "java/lang/Object") []) ∈ L) : Ct l Z EL0 (⟨"java/util/ArrayList", "grow", "()[Ljava/lang/Object;"⟩ : MethodName) jdk_38_method_7_code 1 (some (.array (.object "java/lang/Object"))) ({ frames := 2, cells := 1, slots := 10, locals := 29 } : Room) #[.ref al] ((al, true, OB Z "java/util/ArrayList" layAL [.ref dd, .int 0, .int m]) :: L) (RV fun u M => ∃ ar, u = .ref ar ∧ M = (al, true, OB Z "java/util/ArrayList" layAL [.ref ar, .int 0, .int m]) :: (ar, true, RA Z "java/lang/Object" [.null, .null, .null, .null, .null, .null, .null, .null, .null, .null]) :: L) := by
  refine Ct.of (a0 := a0) (Ls := [.val (.ref _)]) (plainFor_of_name pn_10) (fun m => ef_r_1 m _) hE ?_
  refine Wk.aload_n (q := 1) d37_0 rfl rfl (by first | rfl | assumption) ?_
  refine Wk.aload_n (q := 2) d37_1 rfl rfl (by first | rfl | assumption) ?_
  refine Wk.getfield (q := 5) (C := "java/util/ArrayList") (lay := layAL) 1 d37_2 rfl (hw _ (List.mem_of_getElem? (i := 152) rfl)) Via.refl (by repeat (first | exact List.mem_cons_self | assumption | refine List.mem_cons_of_mem _ ?_)) rfl (by rfl) ?_
  refine Wk.iconst (q := 6) (1) d37_5 rfl (by decide) ?_
  refine Wk.iadd (q := 7) d37_6 rfl ?_
  rw [show (0 : Int32) + 1 = 1 from by decide]
  refine Wk.priv (q := 10) (C := "java/util/ArrayList") [_] _ 0 d37_7 rfl (hw _ (List.mem_of_getElem? (i := 198) rfl)) (hw _ (List.mem_of_getElem? (i := 199) rfl)) (hw _ (List.mem_of_getElem? (i := 201) rfl)) (hw _ (List.mem_of_getElem? (i := 200) rfl)) (hw _ (List.mem_of_getElem? (i := 62) rfl)) (hw _ (List.mem_of_getElem? (i := 202) rfl)) ar_23 (by decide) (by repeat (first | exact List.mem_cons_self | assumption | refine List.mem_cons_of_mem _ ?_)) rfl rfl rfl rfl (ct_alG1 hw hE sta_DEFAULTCAPACITY_EMPTY_ELEMENTDATA hdd) (by first | decide | (dsimp only; omega) | omega) (by first | decide | (dsimp only; omega) | omega) (by first | decide | (dsimp only; omega) | omega) (by first | decide | (dsimp only; omega) | omega) (kv ?_)
  rintro _ _ ⟨ar, rfl, rfl⟩
  refine Wk.areturn (t := (.array (.object "java/lang/Object"))) d37_10 rfl rfl (by first | rfl | exact narO | exact narA) (by first | rfl | assumption) ?_
  exact ⟨_, rfl, ar, rfl, rfl⟩
set_option maxHeartbeats 4000000 in
theorem ct_alA3a {l : Launch} {Z : State} {a0 : Array Value} (hw : ∀ d ∈ tables_1, d.before a0 Z = true) (hE : EW Z a0 EL0) {L : Store} {al dd q : Addr} {fq : Bool} {lq : List Value} {m : Int32} (sta_DEFAULTCAPACITY_EMPTY_ELEMENTDATA : Sta Z Z.heap "java/util/ArrayList" "DEFAULTCAPACITY_EMPTY_ELEMENTDATA" "[Ljava/lang/Object;" (.ref dd)) (hdd : (dd, false, AR Z (.object "java/lang/Object") []) ∈ L) (hq : (q, fq, OB Z "java/lang/String" layS lq) ∈ L) : Ct l Z EL0 (⟨"java/util/ArrayList", "add", "(Ljava/lang/Object;[Ljava/lang/Object;I)V"⟩ : MethodName) jdk_38_method_24_code 4 none ({ frames := 3, cells := 1, slots := 10, locals := 41 } : Room) #[.ref al, .ref q, .ref dd, .int 0] ((al, true, OB Z "java/util/ArrayList" layAL [.ref dd, .int 0, .int m]) :: L) (R0 fun M => ∃ ar, M = (al, true, OB Z "java/util/ArrayList" layAL [.ref ar, .int 1, .int m]) :: (ar, true, RA Z "java/lang/Object" [.ref q, .null, .null, .null, .null, .null, .null, .null, .null, .null]) :: L) := by
  refine Ct.of (a0 := a0) (Ls := [.val (.ref _), .val (.ref _), .val (.ref _), .val (.int _)]) (plainFor_of_name pn_10) (fun m => ef_rrri_4 m _ _ _ _) hE ?_
  refine Wk.iload_n (q := 1) d38_0 rfl rfl ?_
  refine Wk.aload_n (q := 2) d38_1 rfl rfl (by first | rfl | assumption) ?_
  refine Wk.arraylength (q := 3) d38_2 rfl (by repeat (first | exact List.mem_cons_self | assumption | refine List.mem_cons_of_mem _ ?_)) (show ([] : List Value).length.toInt32 = 0 from rfl) ?_
  refine Wk.icmp_f (q := 6) d38_3 rfl (by decide) ?_
  refine Wk.aload_n (q := 7) d38_6 rfl rfl (by first | rfl | assumption) ?_
  refine Wk.priv (q := 10) (C := "java/util/ArrayList") [] _ 0 d38_7 rfl (hw _ (List.mem_of_getElem? (i := 193) rfl)) (hw _ (List.mem_of_getElem? (i := 194) rfl)) (hw _ (List.mem_of_getElem? (i := 196) rfl)) (hw _ (List.mem_of_getElem? (i := 195) rfl)) (hw _ (List.mem_of_getElem? (i := 62) rfl)) (hw _ (List.mem_of_getElem? (i := 197) rfl)) ar_24 (by decide) (by repeat (first | exact List.mem_cons_self | assumption | refine List.mem_cons_of_mem _ ?_)) rfl rfl rfl rfl (ct_alG0 hw hE sta_DEFAULTCAPACITY_EMPTY_ELEMENTDATA hdd) (by first | decide | (dsimp only; omega) | omega) (by first | decide | (dsimp only; omega) | omega) (by first | decide | (dsimp only; omega) | omega) (by first | decide | (dsimp only; omega) | omega) (kv ?_)
  rintro _ _ ⟨ar, rfl, rfl⟩
  refine Wk.astore_n (q := 11) d38_10 rfl (by first | rfl | assumption) (LS1.there (LS1.there (LS1.here (by first | exact One.u | exact One.val rfl | assumption)))) ?_
  refine Wk.aload_n (q := 12) d38_11 rfl rfl (by first | rfl | assumption) ?_
  refine Wk.iload_n (q := 13) d38_12 rfl rfl ?_
  refine Wk.aload_n (q := 14) d38_13 rfl rfl (by first | rfl | assumption) ?_
  refine Wk.aastore (q := 15) 0 d38_14 rfl (.there .here) (List.mem_cons_of_mem _ hq) (hw _ (List.mem_of_getElem? (i := 206) rfl)) (by decide) (by decide) VS.here ?_
  refine Wk.aload_n (q := 16) d38_15 rfl rfl (by first | rfl | assumption) ?_
  refine Wk.iload_n (q := 17) d38_16 rfl rfl ?_
  refine Wk.iconst (q := 18) (1) d38_17 rfl (by decide) ?_
  refine Wk.iadd (q := 19) d38_18 rfl ?_
  rw [show (0 : Int32) + 1 = 1 from by decide]
  refine Wk.putfield (q := 22) (C := "java/util/ArrayList") (lay := layAL) 1 d38_19 rfl (hw _ (List.mem_of_getElem? (i := 152) rfl)) Via.refl (layAL_ok hw) (hw _ (List.mem_of_getElem? (i := 61) rfl)) (Or.inl (hw _ (List.mem_of_getElem? (i := 153) rfl))) rfl (by decide +kernel : parseFieldDescriptor "I" = some .int) (by repeat (first | exact Ex.here | assumption | apply Ex.there)) (VS.there (VS.here)) (by first | rfl | exact narO) (by first | rfl | exact fitO (by assumption) | exact fitA (by assumption)) ?_
  refine Wk.return_ d38_22 rfl ?_
  exact ⟨rfl, ar, rfl⟩
set_option maxHeartbeats 4000000 in
theorem ct_alA3b {l : Launch} {Z : State} {a0 : Array Value} (hw : ∀ d ∈ tables_1, d.before a0 Z = true) (hE : EW Z a0 EL0) {L : Store} {al ar q : Addr} {fq : Bool} {lq : List Value} {m : Int32} {k : Nat} {vs : List Value} (hv : vs.length = 10) (hk : k < 10) (hq : (q, fq, OB Z "java/lang/String" layS lq) ∈ L) : Ct l Z EL0 (⟨"java/util/ArrayList", "add", "(Ljava/lang/Object;[Ljava/lang/Object;I)V"⟩ : MethodName) jdk_38_method_24_code 4 none ({ frames := 3, cells := 1, slots := 10, locals := 41 } : Room) #[.ref al, .ref q, .ref ar, .int k.toInt32] ((al, true, OB Z "java/util/ArrayList" layAL [.ref ar, .int k.toInt32, .int m]) :: (ar, true, RA Z "java/lang/Object" vs) :: L) (R0 fun M => M = (al, true, OB Z "java/util/ArrayList" layAL [.ref ar, .int (k + 1).toInt32, .int m]) :: (ar, true, RA Z "java/lang/Object" (vs.set k (.ref q))) :: L) := by
  refine Ct.of (a0 := a0) (Ls := [.val (.ref _), .val (.ref _), .val (.ref _), .val (.int _)]) (plainFor_of_name pn_10) (fun m => ef_rrri_4 m _ _ _ _) hE ?_
  refine Wk.iload_n (q := 1) d38_0 rfl rfl ?_
  refine Wk.aload_n (q := 2) d38_1 rfl rfl (by first | rfl | assumption) ?_
  refine Wk.arraylengthR (q := 3) d38_2 rfl (by repeat (first | exact List.mem_cons_self | assumption | refine List.mem_cons_of_mem _ ?_)) (show vs.length.toInt32 = 10 by rw [hv]; rfl) ?_
  refine Wk.icmp_t (q := 11) d38_3 (by decide) (by decide) (XT.ii_ne_t (fun q => absurd ((n32_inj (n := 10) (by omega) (by decide)).mp q) (by omega))) ?_
  refine Wk.aload_n (q := 12) d38_11 rfl rfl (by first | rfl | assumption) ?_
  refine Wk.iload_n (q := 13) d38_12 rfl rfl ?_
  refine Wk.aload_n (q := 14) d38_13 rfl rfl (by first | rfl | assumption) ?_
  refine Wk.aastore (q := 15) k d38_14 rfl (.there .here) (List.mem_cons_of_mem _ hq) (hw _ (List.mem_of_getElem? (i := 206) rfl)) (n32_nn (by omega)) (n32_nat (by omega)) (VS.of (by omega)) ?_
  refine Wk.aload_n (q := 16) d38_15 rfl rfl (by first | rfl | assumption) ?_
  refine Wk.iload_n (q := 17) d38_16 rfl rfl ?_
  refine Wk.iconst (q := 18) (1) d38_17 rfl (by decide) ?_
  refine Wk.iadd (q := 19) d38_18 rfl ?_
  rw [n32_succ]
  refine Wk.putfield (q := 22) (C := "java/util/ArrayList") (lay := layAL) 1 d38_19 rfl (hw _ (List.mem_of_getElem? (i := 152) rfl)) Via.refl (layAL_ok hw) (hw _ (List.mem_of_getElem? (i := 61) rfl)) (Or.inl (hw _ (List.mem_of_getElem? (i := 153) rfl))) rfl (by decide +kernel : parseFieldDescriptor "I" = some .int) (by repeat (first | exact Ex.here | assumption | apply Ex.there)) (VS.there (VS.here)) (by first | rfl | exact narO) (by first | rfl | exact fitO (by assumption) | exact fitA (by assumption)) ?_
  refine Wk.return_ d38_22 rfl ?_
  exact ⟨rfl, rfl⟩
set_option maxHeartbeats 4000000 in
theorem ct_alA1a {l : Launch} {Z : State} {a0 : Array Value} (hw : ∀ d ∈ tables_1, d.before a0 Z = true) (hE : EW Z a0 EL0) {L : Store} {al dd q : Addr} {fq : Bool} {lq : List Value} {m : Int32} (sta_DEFAULTCAPACITY_EMPTY_ELEMENTDATA : Sta Z Z.heap "java/util/ArrayList" "DEFAULTCAPACITY_EMPTY_ELEMENTDATA" "[Ljava/lang/Object;" (.ref dd)) (hdd : (dd, false, AR Z (.object "java/lang/Object") []) ∈ L) (hq : (q, fq, OB Z "java/lang/String" layS lq) ∈ L) : Ct l Z EL0 (⟨"java/util/ArrayList", "add", "(Ljava/lang/Object;)Z"⟩ : MethodName) jdk_38_method_25_code 2 (some .boolean) ({ frames := 4, cells := 1, slots := 10, locals := 56 } : Room) #[.ref al, .ref q] ((al, true, OB Z "java/util/ArrayList" layAL [.ref dd, .int 0, .int m]) :: L) (RV fun u M => ∃ ar, u = .int 1 ∧ M = (al, true, OB Z "java/util/ArrayList" layAL [.ref ar, .int 1, .int (m + 1)]) :: (ar, true, RA Z "java/lang/Object" [.ref q, .null, .null, .null, .null, .null, .null, .null, .null, .null]) :: L) := by
  refine Ct.of (a0 := a0) (Ls := [.val (.ref _), .val (.ref _)]) (plainFor_of_name pn_10) (fun m => ef_rr_2 m _ _) hE ?_
  refine Wk.aload_n (q := 1) d39_0 rfl rfl (by first | rfl | assumption) ?_
  refine Wk.dup (q := 2) d39_1 rfl rfl ?_
  refine Wk.getfield (q := 5) (C := "java/util/ArrayList") (lay := layAL) 2 d39_2 rfl (hw _ (List.mem_of_getElem? (i := 186) rfl)) (Via.of (hw _ (List.mem_of_getElem? (i := 187) rfl))) (by repeat (first | exact List.mem_cons_self | assumption | refine List.mem_cons_of_mem _ ?_)) rfl (by rfl) ?_
  refine Wk.iconst (q := 6) (1) d39_5 rfl (by decide) ?_
  refine Wk.iadd (q := 7) d39_6 rfl ?_
  refine Wk.putfield (q := 10) (C := "java/util/ArrayList") (lay := layAL) 2 d39_7 rfl (hw _ (List.mem_of_getElem? (i := 186) rfl)) (Via.of (hw _ (List.mem_of_getElem? (i := 187) rfl))) (layAL_ok hw) (hw _ (List.mem_of_getElem? (i := 61) rfl)) (Or.inl (hw _ (List.mem_of_getElem? (i := 80) rfl))) rfl (by decide +kernel : parseFieldDescriptor "I" = some .int) (by repeat (first | exact Ex.here | assumption | apply Ex.there)) (VS.there (VS.there (VS.here))) (by first | rfl | exact narO) (by first | rfl | exact fitO (by assumption) | exact fitA (by assumption)) ?_
  refine Wk.aload_n (q := 11) d39_10 rfl rfl (by first | rfl | assumption) ?_
  refine Wk.aload_n (q := 12) d39_11 rfl rfl (by first | rfl | assumption) ?_
  refine Wk.aload_n (q := 13) d39_12 rfl rfl (by first | rfl | assumption) ?_
  refine Wk.getfield (q := 16) (C := "java/util/ArrayList") (lay := layAL) 0 d39_13 rfl (hw _ (List.mem_of_getElem? (i := 82) rfl)) Via.refl (by repeat (first | exact List.mem_cons_self | assumption | refine List.mem_cons_of_mem _ ?_)) rfl (by rfl) ?_
  refine Wk.aload_n (q := 17) d39_16 rfl rfl (by first | rfl | assumption) ?_
  refine Wk.getfield (q := 20) (C := "java/util/ArrayList") (lay := layAL) 1 d39_17 rfl (hw _ (List.mem_of_getElem? (i := 152) rfl)) Via.refl (by repeat (first | exact List.mem_cons_self | assumption | refine List.mem_cons_of_mem _ ?_)) rfl (by rfl) ?_
  refine Wk.priv (q := 23) (C := "java/util/ArrayList") [_, _, _] _ 0 d39_20 rfl (hw _ (List.mem_of_getElem? (i := 188) rfl)) (hw _ (List.mem_of_getElem? (i := 189) rfl)) (hw _ (List.mem_of_getElem? (i := 191) rfl)) (hw _ (List.mem_of_getElem? (i := 190) rfl)) (hw _ (List.mem_of_getElem? (i := 62) rfl)) (hw _ (List.mem_of_getElem? (i := 192) rfl)) ar_25 (by decide) (by repeat (first | exact List.mem_cons_self | assumption | refine List.mem_cons_of_mem _ ?_)) rfl rfl rfl rfl (ct_alA3a hw hE sta_DEFAULTCAPACITY_EMPTY_ELEMENTDATA hdd hq) (by first | decide | (dsimp only; omega) | omega) (by first | decide | (dsimp only; omega) | omega) (by first | decide | (dsimp only; omega) | omega) (by first | decide | (dsimp only; omega) | omega) (k0 ?_)
  rintro _ ⟨ar, rfl⟩
  refine Wk.iconst (q := 24) (1) d39_23 rfl (by decide) ?_
  refine Wk.ireturn (t := .boolean) d39_24 rfl (by simp) (by rfl) ?_
  exact ⟨_, rfl, ar, rfl, rfl⟩
set_option maxHeartbeats 4000000 in
theorem ct_alA1b {l : Launch} {Z : State} {a0 : Array Value} (hw : ∀ d ∈ tables_1, d.before a0 Z = true) (hE : EW Z a0 EL0) {L : Store} {al ar q : Addr} {fq : Bool} {lq : List Value} {m : Int32} {k : Nat} {vs : List Value} (hv : vs.length = 10) (hk : k < 10) (hq : (q, fq, OB Z "java/lang/String" layS lq) ∈ L) : Ct l Z EL0 (⟨"java/util/ArrayList", "add", "(Ljava/lang/Object;)Z"⟩ : MethodName) jdk_38_method_25_code 2 (some .boolean) ({ frames := 4, cells := 1, slots := 10, locals := 56 } : Room) #[.ref al, .ref q] ((al, true, OB Z "java/util/ArrayList" layAL [.ref ar, .int k.toInt32, .int m]) :: (ar, true, RA Z "java/lang/Object" vs) :: L) (RV fun u M => u = .int 1 ∧ M = (al, true, OB Z "java/util/ArrayList" layAL [.ref ar, .int (k + 1).toInt32, .int (m + 1)]) :: (ar, true, RA Z "java/lang/Object" (vs.set k (.ref q))) :: L) := by
  refine Ct.of (a0 := a0) (Ls := [.val (.ref _), .val (.ref _)]) (plainFor_of_name pn_10) (fun m => ef_rr_2 m _ _) hE ?_
  refine Wk.aload_n (q := 1) d39_0 rfl rfl (by first | rfl | assumption) ?_
  refine Wk.dup (q := 2) d39_1 rfl rfl ?_
  refine Wk.getfield (q := 5) (C := "java/util/ArrayList") (lay := layAL) 2 d39_2 rfl (hw _ (List.mem_of_getElem? (i := 186) rfl)) (Via.of (hw _ (List.mem_of_getElem? (i := 187) rfl))) (by repeat (first | exact List.mem_cons_self | assumption | refine List.mem_cons_of_mem _ ?_)) rfl (by rfl) ?_
  refine Wk.iconst (q := 6) (1) d39_5 rfl (by decide) ?_
  refine Wk.iadd (q := 7) d39_6 rfl ?_
  refine Wk.putfield (q := 10) (C := "java/util/ArrayList") (lay := layAL) 2 d39_7 rfl (hw _ (List.mem_of_getElem? (i := 186) rfl)) (Via.of (hw _ (List.mem_of_getElem? (i := 187) rfl))) (layAL_ok hw) (hw _ (List.mem_of_getElem? (i := 61) rfl)) (Or.inl (hw _ (List.mem_of_getElem? (i := 80) rfl))) rfl (by decide +kernel : parseFieldDescriptor "I" = some .int) (by repeat (first | exact Ex.here | assumption | apply Ex.there)) (VS.there (VS.there (VS.here))) (by first | rfl | exact narO) (by first | rfl | exact fitO (by assumption) | exact fitA (by assumption)) ?_
  refine Wk.aload_n (q := 11) d39_10 rfl rfl (by first | rfl | assumption) ?_
  refine Wk.aload_n (q := 12) d39_11 rfl rfl (by first | rfl | assumption) ?_
  refine Wk.aload_n (q := 13) d39_12 rfl rfl (by first | rfl | assumption) ?_
  refine Wk.getfield (q := 16) (C := "java/util/ArrayList") (lay := layAL) 0 d39_13 rfl (hw _ (List.mem_of_getElem? (i := 82) rfl)) Via.refl (by repeat (first | exact List.mem_cons_self | assumption | refine List.mem_cons_of_mem _ ?_)) rfl (by rfl) ?_
  refine Wk.aload_n (q := 17) d39_16 rfl rfl (by first | rfl | assumption) ?_
  refine Wk.getfield (q := 20) (C := "java/util/ArrayList") (lay := layAL) 1 d39_17 rfl (hw _ (List.mem_of_getElem? (i := 152) rfl)) Via.refl (by repeat (first | exact List.mem_cons_self | assumption | refine List.mem_cons_of_mem _ ?_)) rfl (by rfl) ?_
  refine Wk.priv (q := 23) (C := "java/util/ArrayList") [_, _, _] _ 0 d39_20 rfl (hw _ (List.mem_of_getElem? (i := 188) rfl)) (hw _ (List.mem_of_getElem? (i := 189) rfl)) (hw _ (List.mem_of_getElem? (i := 191) rfl)) (hw _ (List.mem_of_getElem? (i := 190) rfl)) (hw _ (List.mem_of_getElem? (i := 62) rfl)) (hw _ (List.mem_of_getElem? (i := 192) rfl)) ar_25 (by decide) (by repeat (first | exact List.mem_cons_self | assumption | refine List.mem_cons_of_mem _ ?_)) rfl rfl rfl rfl (ct_alA3b hw hE hv hk hq) (by first | decide | (dsimp only; omega) | omega) (by first | decide | (dsimp only; omega) | omega) (by first | decide | (dsimp only; omega) | omega) (by first | decide | (dsimp only; omega) | omega) (k0 ?_)
  rintro _ rfl
  refine Wk.iconst (q := 24) (1) d39_23 rfl (by decide) ?_
  refine Wk.ireturn (t := .boolean) d39_24 rfl (by simp) (by rfl) ?_
  exact ⟨_, rfl, rfl, rfl⟩
theorem ct_alSz {l : Launch} {Z : State} {a0 : Array Value} (hw : ∀ d ∈ tables_1, d.before a0 Z = true) (hE : EW Z a0 EL0) {L : Store} {al : Addr} {v1 v3 : Value} {n : Int32} (h : (al, true, OB Z "java/util/ArrayList" layAL [v1, .int n, v3]) ∈ L) : Ct l Z EL0 (⟨"java/util/ArrayList", "size", "()I"⟩ : MethodName) jdk_38_method_8_code 1 (some .int) ({ frames := 0, cells := 0, slots := 0, locals := 0 } : Room) #[.ref al] L (RV fun u M => u = .int n ∧ M = L) := by
  refine Ct.of (a0 := a0) (Ls := [.val (.ref _)]) (plainFor_of_name pn_10) (fun m => ef_r_1 m _) hE ?_
  refine Wk.aload_n (q := 1) d40_0 rfl rfl (by first | rfl | assumption) ?_
  refine Wk.getfield (q := 4) (C := "java/util/ArrayList") (lay := layAL) 1 d40_1 rfl (hw _ (List.mem_of_getElem? (i := 152) rfl)) Via.refl (by repeat (first | exact List.mem_cons_self | assumption | refine List.mem_cons_of_mem _ ?_)) rfl (by rfl) ?_
  refine Wk.ireturn (t := .int) d40_4 rfl (by simp) (by rfl) ?_
  exact ⟨_, rfl, rfl, rfl⟩
theorem ct_alED {l : Launch} {Z : State} {a0 : Array Value} (hw : ∀ d ∈ tables_1, d.before a0 Z = true) (hE : EW Z a0 EL0) {L : Store} {al ar x1 : Addr} {v2 v3 : Value} {w : Int32} {vs : List Value} (k : Nat) (hw0 : ¬ w < 0) (hw1 : w.toNatClampNeg = k) (hk : vs[k]? = some (.ref x1)) (h : (al, true, OB Z "java/util/ArrayList" layAL [.ref ar, v2, v3]) ∈ L) (h2 : (ar, true, RA Z "java/lang/Object" vs) ∈ L) : Ct l Z EL0 (⟨"java/util/ArrayList", "elementData", "(I)Ljava/lang/Object;"⟩ : MethodName) jdk_38_method_18_code 2 (some (.object "java/lang/Object")) ({ frames := 0, cells := 0, slots := 0, locals := 0 } : Room) #[.ref al, .int w] L (RV fun u M => u = .ref x1 ∧ M = L) := by
  refine Ct.of (a0 := a0) (Ls := [.val (.ref _), .val (.int _)]) (plainFor_of_name pn_10) (fun m => ef_ri_2 m _ _) hE ?_
  refine Wk.aload_n (q := 1) d41_0 rfl rfl (by first | rfl | assumption) ?_
  refine Wk.getfield (q := 4) (C := "java/util/ArrayList") (lay := layAL) 0 d41_1 rfl (hw _ (List.mem_of_getElem? (i := 82) rfl)) Via.refl (by repeat (first | exact List.mem_cons_self | assumption | refine List.mem_cons_of_mem _ ?_)) rfl (by rfl) ?_
  refine Wk.iload_n (q := 5) d41_4 rfl rfl ?_
  refine Wk.aaload (q := 6) (k) d41_5 rfl (by repeat (first | exact List.mem_cons_self | assumption | refine List.mem_cons_of_mem _ ?_)) hw0 hw1 hk ?_
  refine Wk.areturn (t := (.object "java/lang/Object")) d41_6 rfl rfl (by first | rfl | exact narO | exact narA) (by first | rfl | assumption) ?_
  exact ⟨_, rfl, rfl, rfl⟩
theorem ct_obIx {l : Launch} {Z : State} {a0 : Array Value} (hw : ∀ d ∈ tables_1, d.before a0 Z = true) (hE : EW Z a0 EL0) {L : Store} {i n : Int32} (h0 : ¬ i < 0) (h1 : i < n) : Ct l Z EL0 (⟨"java/util/Objects", "checkIndex", "(II)I"⟩ : MethodName) jdk_31_method_17_code 2 (some .int) ({ frames := 1, cells := 0, slots := 0, locals := 14 } : Room) #[.int i, .int n] L (RV fun u M => u = .int i ∧ M = L) := by
  refine Ct.of (a0 := a0) (Ls := [.val (.int _), .val (.int _)]) (plainFor_of_name pn_11) (fun m => ef_ii_2 m _ _) hE ?_
  refine Wk.iload_n (q := 1) d42_0 rfl rfl ?_
  refine Wk.iload_n (q := 2) d42_1 rfl rfl ?_
  refine Wk.aconst_null (q := 3) d42_2 rfl ?_
  refine Wk.static (q := 6) [_, _, _] _ 0 d42_3 rfl (hw _ (List.mem_of_getElem? (i := 218) rfl)) (hw _ (List.mem_of_getElem? (i := 136) rfl)) (hw _ (List.mem_of_getElem? (i := 134) rfl)) (hw _ (List.mem_of_getElem? (i := 137) rfl)) ar_6 (by decide) rfl rfl rfl rfl (ct_preIdx hw hE (w := .null) rfl h0 h1) (by first | decide | (dsimp only; omega) | omega) (by first | decide | (dsimp only; omega) | omega) (by first | decide | (dsimp only; omega) | omega) (by first | decide | (dsimp only; omega) | omega) (kv ?_)
  rintro _ _ ⟨rfl, rfl⟩
  refine Wk.ireturn (t := .int) d42_6 rfl (by simp) (by rfl) ?_
  exact ⟨_, rfl, rfl, rfl⟩
theorem ct_alGt {l : Launch} {Z : State} {a0 : Array Value} (hw : ∀ d ∈ tables_1, d.before a0 Z = true) (hE : EW Z a0 EL0) {L : Store} {al ar x1 : Addr} {v3 : Value} {w n : Int32} {vs : List Value} (k : Nat) (hw0 : ¬ w < 0) (hw1 : w.toNatClampNeg = k) (hwn : w < n) (hk : vs[k]? = some (.ref x1)) (h : (al, true, OB Z "java/util/ArrayList" layAL [.ref ar, .int n, v3]) ∈ L) (h2 : (ar, true, RA Z "java/lang/Object" vs) ∈ L) : Ct l Z EL0 (⟨"java/util/ArrayList", "get", "(I)Ljava/lang/Object;"⟩ : MethodName) jdk_38_method_20_code 2 (some (.object "java/lang/Object")) ({ frames := 2, cells := 0, slots := 0, locals := 27 } : Room) #[.ref al, .int w] L (RV fun u M => u = .ref x1 ∧ M = L) := by
  refine Ct.of (a0 := a0) (Ls := [.val (.ref _), .val (.int _)]) (plainFor_of_name pn_10) (fun m => ef_ri_2 m _ _) hE ?_
  refine Wk.iload_n (q := 1) d43_0 rfl rfl ?_
  refine Wk.aload_n (q := 2) d43_1 rfl rfl (by first | rfl | assumption) ?_
  refine Wk.getfield (q := 5) (C := "java/util/ArrayList") (lay := layAL) 1 d43_2 rfl (hw _ (List.mem_of_getElem? (i := 152) rfl)) Via.refl (by repeat (first | exact List.mem_cons_self | assumption | refine List.mem_cons_of_mem _ ?_)) rfl (by rfl) ?_
  refine Wk.static (q := 8) [_, _] _ 0 d43_5 rfl (hw _ (List.mem_of_getElem? (i := 215) rfl)) (hw _ (List.mem_of_getElem? (i := 216) rfl)) (hw _ (List.mem_of_getElem? (i := 45) rfl)) (hw _ (List.mem_of_getElem? (i := 217) rfl)) ar_10 (by decide) rfl rfl rfl rfl (ct_obIx hw hE hw0 hwn) (by first | decide | (dsimp only; omega) | omega) (by first | decide | (dsimp only; omega) | omega) (by first | decide | (dsimp only; omega) | omega) (by first | decide | (dsimp only; omega) | omega) (kv ?_)
  rintro _ _ ⟨rfl, rfl⟩
  refine Wk.pop (q := 9) d43_8 rfl rfl ?_
  refine Wk.aload_n (q := 10) d43_9 rfl rfl (by first | rfl | assumption) ?_
  refine Wk.iload_n (q := 11) d43_10 rfl rfl ?_
  refine Wk.virtual (q := 14) (C := "java/util/ArrayList") [_] _ 0 d43_11 rfl (hw _ (List.mem_of_getElem? (i := 219) rfl)) (hw _ (List.mem_of_getElem? (i := 220) rfl)) (hw _ (List.mem_of_getElem? (i := 222) rfl)) (hw _ (List.mem_of_getElem? (i := 221) rfl)) (hw _ (List.mem_of_getElem? (i := 62) rfl)) (hw _ (List.mem_of_getElem? (i := 223) rfl)) ar_26 (by decide) (nfSel (hw _ (List.mem_of_getElem? (i := 222) rfl))) (by repeat (first | exact List.mem_cons_self | assumption | refine List.mem_cons_of_mem _ ?_)) rfl rfl rfl rfl (ct_alED hw hE k hw0 hw1 hk h h2) (by first | decide | (dsimp only; omega) | omega) (by first | decide | (dsimp only; omega) | omega) (by first | decide | (dsimp only; omega) | omega) (by first | decide | (dsimp only; omega) | omega) (kv ?_)
  rintro _ _ ⟨rfl, rfl⟩
  refine Wk.areturn (t := (.object "java/lang/Object")) d43_14 rfl rfl (by first | rfl | exact narO | exact narA) (by first | rfl | assumption) ?_
  exact ⟨_, rfl, rfl, rfl⟩
def layH : Jvm.OwnW.Lay := [("com/example/webhook_signature_check/webhooksignaturecheck/HeaderElements", "value", "Ljava/lang/String;")]
theorem layH_ok {Z : State} {a0 : Array Value} (hw : ∀ d ∈ tables_1, d.before a0 Z = true) : LayOk Z a0 "com/example/webhook_signature_check/webhooksignaturecheck/HeaderElements" layH := by
  refine ⟨fun f hf => ?_, by decide +kernel, fun f hf => ?_⟩
  all_goals simp only [layH, List.mem_cons, List.not_mem_nil, or_false] at hf
  all_goals rcases hf with rfl
  · exact Or.inr (hw _ (List.mem_of_getElem? (i := 53) rfl))
  · exact ⟨(.object "java/lang/String"), by decide +kernel⟩
theorem layH_dv : Dv layH [.null] := by decide +kernel
abbrev nH : String := "com/example/webhook_signature_check/webhooksignaturecheck/HeaderElements"
theorem ct_rnn2 {l : Launch} {Z : State} {a0 : Array Value} (hw : ∀ d ∈ tables_1, d.before a0 Z = true) (hE : EW Z a0 EL0) {L : Store} {a b : Addr} : Ct l Z EL0 (⟨"java/util/Objects", "requireNonNull", "(Ljava/lang/Object;Ljava/lang/String;)Ljava/lang/Object;"⟩ : MethodName) jdk_31_method_11_code 2 (some (.object "java/lang/Object")) ({ frames := 0, cells := 0, slots := 0, locals := 0 } : Room) #[.ref a, .ref b] L (RV fun u M => u = .ref a ∧ M = L) := by
  refine Ct.of (a0 := a0) (Ls := [.val (.ref _), .val (.ref _)]) (plainFor_of_name pn_11) (fun m => ef_rr_2 m _ _) hE ?_
  refine Wk.aload_n (q := 1) d44_0 rfl rfl (by first | rfl | assumption) ?_
  refine Wk.nonnull_t (q := 13) d44_1 (by decide) (by decide)  ?_
  refine Wk.aload_n (q := 14) d44_13 rfl rfl (by first | rfl | assumption) ?_
  refine Wk.areturn (t := (.object "java/lang/Object")) d44_14 rfl rfl (by first | rfl | exact narO | exact narA) (by first | rfl | assumption) ?_
  exact ⟨_, rfl, rfl, rfl⟩
theorem ct_hI {l : Launch} {Z : State} {a0 : Array Value} (hw : ∀ d ∈ tables_1, d.before a0 Z = true) (hE : EW Z a0 EL0) {L : Store} {h s : Addr} : Ct l Z EL0 (⟨"com/example/webhook_signature_check/webhooksignaturecheck/HeaderElements", "<init>", "(Ljava/lang/String;)V"⟩ : MethodName) prog_1_method_1_code 2 none ({ frames := 1, cells := 0, slots := 0, locals := 12 } : Room) #[.ref h, .ref s] ((h, true, OB Z nH layH [.null]) :: L) (R0 fun M => M = (h, true, OB Z nH layH [.ref s]) :: L) := by
  refine Ct.of (a0 := a0) (Ls := [.val (.ref _), .val (.ref _)]) (plainFor_of_name pn_12) (fun m => ef_rr_2 m _ _) hE ?_
  refine Wk.aload_n (q := 1) d45_0 rfl rfl (by first | rfl | assumption) ?_
  refine Wk.objinit (q := 4) 0 d45_1 rfl (hw _ (List.mem_of_getElem? (i := 51) rfl)) (hw _ (List.mem_of_getElem? (i := 16) rfl)) (hw _ (List.mem_of_getElem? (i := 17) rfl)) rfl (by first | decide | (dsimp only; omega) | omega) rfl (by first | decide | (dsimp only; omega) | omega) ?_
  refine Wk.aload_n (q := 5) d45_4 rfl rfl (by first | rfl | assumption) ?_
  refine Wk.aload_n (q := 6) d45_5 rfl rfl (by first | rfl | assumption) ?_
  refine Wk.putfield (q := 9) (C := "com/example/webhook_signature_check/webhooksignaturecheck/HeaderElements") (lay := layH) 0 d45_6 rfl (hw _ (List.mem_of_getElem? (i := 52) rfl)) Via.refl (layH_ok hw) (hw _ (List.mem_of_getElem? (i := 39) rfl)) (Or.inr ⟨(hw _ (List.mem_of_getElem? (i := 53) rfl)), rfl, rfl⟩) rfl (by decide +kernel : parseFieldDescriptor "Ljava/lang/String;" = some (.object "java/lang/String")) (by repeat (first | exact Ex.here | assumption | apply Ex.there)) (VS.here) (by first | rfl | exact narO) (by first | rfl | exact fitO (by assumption) | exact fitA (by assumption)) ?_
  refine Wk.return_ d45_9 rfl ?_
  exact ⟨rfl, rfl⟩
theorem ct_hRd {l : Launch} {Z : State} {a0 : Array Value} (hw : ∀ d ∈ tables_1, d.before a0 Z = true) (hE : EW Z a0 EL0) {L : Store} {s : Addr} {f : Bool} {ls : List Value} (hs : (s, f, OB Z "java/lang/String" layS ls) ∈ L) : Ct l Z EL0 (⟨"com/example/webhook_signature_check/webhooksignaturecheck/HeaderElements", "read", "(Ljava/lang/String;)Lcom/example/webhook_signature_check/webhooksignaturecheck/HeaderElements;"⟩ : MethodName) prog_1_method_2_code 1 (some (.object "com/example/webhook_signature_check/webhooksignaturecheck/HeaderElements")) ({ frames := 2, cells := 3, slots := 25, locals := 26 } : Room) #[.ref s] L (RV fun u M => ∃ h, u = .ref h ∧ M = (h, true, OB Z nH layH [.ref s]) :: L) := by
  refine Ct.of (a0 := a0) (Ls := [.val (.ref _)]) (plainFor_of_name pn_12) (fun m => ef_r_1 m _) hE ?_
  refine Wk.new (q := 3) d46_0 rfl (hw _ (List.mem_of_getElem? (i := 38) rfl)) (hw _ (List.mem_of_getElem? (i := 39) rfl)) (hw _ (List.mem_of_getElem? (i := 36) rfl)) (layH_ok hw) layH_dv (by first | decide | (dsimp only; omega) | omega) (by first | decide | (dsimp only; omega) | omega) ?_
  intro h
  refine Wk.dup (q := 4) d46_3 rfl rfl ?_
  refine Wk.aload_n (q := 5) d46_4 rfl rfl (by first | rfl | assumption) ?_
  refine Wk.ldcO (q := 7) 20 d46_5 rfl (hw _ (List.mem_of_getElem? (i := 40) rfl)) (wS hw) (by decide +kernel) (by decide) (by first | decide | (dsimp only; omega) | omega) (by first | decide | (dsimp only; omega) | omega) ?_
  intro t
  refine Wk.static (q := 10) [_, _] _ 2 d46_7 rfl (hw _ (List.mem_of_getElem? (i := 43) rfl)) (hw _ (List.mem_of_getElem? (i := 44) rfl)) (hw _ (List.mem_of_getElem? (i := 45) rfl)) (hw _ (List.mem_of_getElem? (i := 46) rfl)) ar_27 (by decide) rfl rfl rfl rfl (ct_rnn2 hw hE) (by first | decide | (dsimp only; omega) | omega) (by first | decide | (dsimp only; omega) | omega) (by first | decide | (dsimp only; omega) | omega) (by first | decide | (dsimp only; omega) | omega) (kv ?_)
  rintro _ _ ⟨rfl, rfl⟩
  refine Wk.checkcast (q := 13) (C := "java/lang/String") d46_10 rfl (hw _ (List.mem_of_getElem? (i := 47) rfl)) (by repeat (first | exact List.mem_cons_self | assumption | refine List.mem_cons_of_mem _ ?_)) (hw _ (List.mem_of_getElem? (i := 13) rfl)) ?_
  refine Wk.special (q := 16) [_] _ 1 d46_13 rfl rfl (hw _ (List.mem_of_getElem? (i := 48) rfl)) (hw _ (List.mem_of_getElem? (i := 49) rfl)) (hw _ (List.mem_of_getElem? (i := 36) rfl)) (hw _ (List.mem_of_getElem? (i := 50) rfl)) ar_28 (by decide) rfl rfl rfl rfl (ct_hI hw hE) (by first | decide | (dsimp only; omega) | omega) (by first | decide | (dsimp only; omega) | omega) (by first | decide | (dsimp only; omega) | omega) (by first | decide | (dsimp only; omega) | omega) (k0 ?_)
  rintro _ rfl
  refine Wk.areturn (t := (.object "com/example/webhook_signature_check/webhooksignaturecheck/HeaderElements")) d46_16 rfl rfl (by first | rfl | exact narO | exact narA) (by first | rfl | assumption) ?_
  exact ⟨_, rfl, h, rfl, rfl⟩
/-- the list as found up to here -/
def LI (Z : State) (cs : List Int32) (L : Store) (dd al : Addr) (acc : List (Nat × Nat)) (M : Store) : Prop :=
  (acc = [] ∧ ∃ m : Int32, M = (al, true, OB Z "java/util/ArrayList" layAL [.ref dd, .int 0, .int m]) :: L) ∨ (acc ≠ [] ∧ ∃ (ar : Addr) (xs : List Addr) (m : Int32) (M' : Store), xs.length = acc.length ∧ M = (al, true, OB Z "java/util/ArrayList" layAL [.ref ar, .int acc.length.toInt32, .int m]) :: (ar, true, RA Z "java/lang/Object" (xs.map Value.ref ++ List.replicate (10 - acc.length) .null)) :: M' ∧ (∀ e ∈ L, e ∈ M') ∧ ∀ (j : Nat) (y : Addr) (r : Nat × Nat), xs[j]? = some y → acc[j]? = some r → ∃ (b : Addr) (f fb : Bool), (y, f, OB Z "java/lang/String" layS [.ref b, .int 0]) ∈ M' ∧ (b, fb, AR Z .byte ((((cs.drop r.1).take (r.2 - r.1)).map b8).map .int)) ∈ M')
theorem LI.mem {Z : State} {cs : List Int32} {L M : Store} {dd al : Addr} {acc : List (Nat × Nat)} (h : LI Z cs L dd al acc M) : ∀ e ∈ L, e ∈ M := by
  rcases h with ⟨-, m, rfl⟩ | ⟨-, ar, xs, m, M', -, rfl, h, -⟩
  · exact fun e he => List.mem_cons_of_mem _ he
  · exact fun e he => List.mem_cons_of_mem _ (List.mem_cons_of_mem _ (h e he))
theorem set_app {xs : List Addr} {q : Addr} {k n : Nat} (h : xs.length = k) (hk : k < n) : (xs.map Value.ref ++ List.replicate (n - k) Value.null).set k (.ref q) = (xs ++ [q]).map Value.ref ++ List.replicate (n - (k + 1)) Value.null := by
  have h1 : (xs.map Value.ref).length = k := by simp [h]
  rw [List.set_append_right _ _ (by omega), h1, Nat.sub_self, show n - k = (n - (k + 1)) + 1 by omega, List.replicate_succ, List.set_cons_zero, List.map_append, List.append_assoc]
  rfl

set_option maxHeartbeats 4000000 in
theorem wk_trimL {l : Launch} {Z : State} {a0 : Array Value} (hw : ∀ d ∈ tables_1, d.before a0 Z = true) (hE : EW Z a0 EL0) (F : ∃ z, z ≠ (0 : Int32) ∧ Sta Z Z.heap "java/lang/String" "COMPACT_STRINGS" "Z" (.int z)) (hO : FO Z) {Q : Option Value → Store → Prop} {h s sb nm al : Addr} {fh fs fsb : Bool} {cs : List Int32} (hc : Lat cs) (hl : cs.length ≤ 9) {M : Store} (hh : (h, fh, OB Z nH layH [.ref s]) ∈ M) (hs : (s, fs, OB Z "java/lang/String" layS [.ref sb, .int 0]) ∈ M) (hsb : (sb, fsb, AR Z .byte ((cs.map b8).map .int)) ∈ M) {st e : Nat} {o4 o8 : Slot} (he : e ≤ cs.length) {cb sb' : Nat} : ∀ (k a : Nat), a + k = e →
    Wk l Z a0 EL0 (⟨"com/example/webhook_signature_check/webhooksignaturecheck/HeaderElements", "all", "(Ljava/lang/String;)Ljava/util/List;"⟩ : MethodName) prog_1_method_3_code 9 (some (.object "java/util/List")) ({ frames := 5, cells := 31, slots := 310, locals := 81 } : Room) Q M cb sb' 86 [.val (.ref h), .val (.ref nm), .val (.ref al), .val (.int st.toInt32), o4, .val (.int e.toInt32), .val (.int (nx (cs.map cl) (fun c => !c.isB) k a).toInt32), .val (.int e.toInt32), o8] [] →
    Wk l Z a0 EL0 (⟨"com/example/webhook_signature_check/webhooksignaturecheck/HeaderElements", "all", "(Ljava/lang/String;)Ljava/util/List;"⟩ : MethodName) prog_1_method_3_code 9 (some (.object "java/util/List")) ({ frames := 5, cells := 31, slots := 310, locals := 81 } : Room) Q M cb sb' 59 [.val (.ref h), .val (.ref nm), .val (.ref al), .val (.int st.toInt32), o4, .val (.int e.toInt32), .val (.int a.toInt32), .val (.int e.toInt32), o8] [] := by
  intro k
  induction k with
  | zero =>
    intro a h0 kk
    refine Wk.iload (q := 61) d47_59 rfl rfl ?_
    refine Wk.iload (q := 63) d47_61 rfl rfl ?_
    refine Wk.icmp_t (q := 86) d47_63 (by decide) (by decide) (XT.ii_ge_t (fun q => by have := (n32_lt (by omega) (by omega)).mp q; omega)) ?_
    exact kk
  | succ k ih =>
    intro a h0 kk
    have ha : a < cs.length := by omega
    unfold nx at kk
    rw [kget ha] at kk
    refine Wk.iload (q := 61) d47_59 rfl rfl ?_
    refine Wk.iload (q := 63) d47_61 rfl rfl ?_
    refine Wk.icmp_f (q := 66) d47_63 rfl (XT.ii_ge_f ((n32_lt (by omega) (by omega)).mpr (by omega))) ?_
    refine Wk.aload_n (q := 67) d47_66 rfl rfl (by first | rfl | assumption) ?_
    refine Wk.getfield (q := 70) (C := "com/example/webhook_signature_check/webhooksignaturecheck/HeaderElements") (lay := layH) 0 d47_67 rfl (hw _ (List.mem_of_getElem? (i := 52) rfl)) Via.refl (by repeat (first | exact List.mem_cons_self | assumption | refine List.mem_cons_of_mem _ ?_)) rfl (by rfl) ?_
    refine Wk.iload (q := 72) d47_70 rfl rfl ?_
    refine Wk.virtual (q := 75) (C := "java/lang/String") [_] _ 0 d47_72 rfl (hw _ (List.mem_of_getElem? (i := 122) rfl)) (hw _ (List.mem_of_getElem? (i := 123) rfl)) (hw _ (List.mem_of_getElem? (i := 125) rfl)) (hw _ (List.mem_of_getElem? (i := 124) rfl)) (hw _ (List.mem_of_getElem? (i := 7) rfl)) (hw _ (List.mem_of_getElem? (i := 126) rfl)) ar_29 (by decide) (nfSel (hw _ (List.mem_of_getElem? (i := 125) rfl))) (by repeat (first | exact List.mem_cons_self | assumption | refine List.mem_cons_of_mem _ ?_)) rfl rfl rfl rfl (ct_atL hw hE F hO hc (by omega) ha hs hsb) (by first | decide | (dsimp only; omega) | omega) (by first | decide | (dsimp only; omega) | omega) (by first | decide | (dsimp only; omega) | omega) (by first | decide | (dsimp only; omega) | omega) (kv ?_)
    rintro _ _ ⟨rfl, rfl⟩
    refine Wk.bipush (q := 77) (32) d47_75 rfl (by decide) ?_
    by_cases e1 : cs[a].toInt ≤ 32
    · rw [(cl_b _).mpr e1] at kk
      refine Wk.icmp_f (q := 80) d47_77 rfl (XT.ii_gt_f (nlt_of e1)) ?_
      refine Wk.iinc (q := 83) (1) d47_80 rfl (by decide) rfl (LS1.there (LS1.there (LS1.there (LS1.there (LS1.there (LS1.there (LS1.here (by first | exact One.u | exact One.val rfl | assumption)))))))) ?_
      rw [n32_succ]
      refine Wk.goto (q := 59) d47_83 (by decide) (by decide) ?_
      exact ih (a + 1) (by omega) kk
    · have f1 : (cl cs[a]).isB = false := by cases q : (cl cs[a]).isB; rfl; exact absurd ((cl_b _).mp q) e1
      rw [f1] at kk
      refine Wk.icmp_t (q := 86) d47_77 (by decide) (by decide) (XT.ii_gt_t (lt_of (show (32 : Int) < _ by omega))) ?_
      exact kk
set_option maxHeartbeats 4000000 in
theorem wk_trimR {l : Launch} {Z : State} {a0 : Array Value} (hw : ∀ d ∈ tables_1, d.before a0 Z = true) (hE : EW Z a0 EL0) (F : ∃ z, z ≠ (0 : Int32) ∧ Sta Z Z.heap "java/lang/String" "COMPACT_STRINGS" "Z" (.int z)) (hO : FO Z) {Q : Option Value → Store → Prop} {h s sb nm al : Addr} {fh fs fsb : Bool} {cs : List Int32} (hc : Lat cs) (hl : cs.length ≤ 9) {M : Store} (hh : (h, fh, OB Z nH layH [.ref s]) ∈ M) (hs : (s, fs, OB Z "java/lang/String" layS [.ref sb, .int 0]) ∈ M) (hsb : (sb, fsb, AR Z .byte ((cs.map b8).map .int)) ∈ M) {st e a : Nat} {o4 o8 : Slot} (he : e ≤ cs.length) {cb sb' : Nat} : ∀ (k b : Nat), a + k = b → b ≤ e →
    Wk l Z a0 EL0 (⟨"com/example/webhook_signature_check/webhooksignaturecheck/HeaderElements", "all", "(Ljava/lang/String;)Ljava/util/List;"⟩ : MethodName) prog_1_method_3_code 9 (some (.object "java/util/List")) ({ frames := 5, cells := 31, slots := 310, locals := 81 } : Room) Q M cb sb' 115 [.val (.ref h), .val (.ref nm), .val (.ref al), .val (.int st.toInt32), o4, .val (.int e.toInt32), .val (.int a.toInt32), .val (.int (pv (cs.map cl) k b).toInt32), o8] [] →
    Wk l Z a0 EL0 (⟨"com/example/webhook_signature_check/webhooksignaturecheck/HeaderElements", "all", "(Ljava/lang/String;)Ljava/util/List;"⟩ : MethodName) prog_1_method_3_code 9 (some (.object "java/util/List")) ({ frames := 5, cells := 31, slots := 310, locals := 81 } : Room) Q M cb sb' 86 [.val (.ref h), .val (.ref nm), .val (.ref al), .val (.int st.toInt32), o4, .val (.int e.toInt32), .val (.int a.toInt32), .val (.int b.toInt32), o8] [] := by
  intro k
  induction k with
  | zero =>
    intro b h0 hb kk
    refine Wk.iload (q := 88) d47_86 rfl rfl ?_
    refine Wk.iload (q := 90) d47_88 rfl rfl ?_
    refine Wk.icmp_t (q := 115) d47_90 (by decide) (by decide) (XT.ii_le_t (fun q => by have := (n32_lt (by omega) (by omega)).mp q; omega)) ?_
    exact kk
  | succ k ih =>
    intro b h0 hb kk
    have hb1 : b - 1 < cs.length := by omega
    unfold pv at kk
    rw [kget hb1] at kk
    refine Wk.iload (q := 88) d47_86 rfl rfl ?_
    refine Wk.iload (q := 90) d47_88 rfl rfl ?_
    refine Wk.icmp_f (q := 93) d47_90 rfl (XT.ii_le_f ((n32_lt (by omega) (by omega)).mpr (by omega))) ?_
    refine Wk.aload_n (q := 94) d47_93 rfl rfl (by first | rfl | assumption) ?_
    refine Wk.getfield (q := 97) (C := "com/example/webhook_signature_check/webhooksignaturecheck/HeaderElements") (lay := layH) 0 d47_94 rfl (hw _ (List.mem_of_getElem? (i := 52) rfl)) Via.refl (by repeat (first | exact List.mem_cons_self | assumption | refine List.mem_cons_of_mem _ ?_)) rfl (by rfl) ?_
    refine Wk.iload (q := 99) d47_97 rfl rfl ?_
    refine Wk.iconst (q := 100) (1) d47_99 rfl (by decide) ?_
    refine Wk.isub (q := 101) d47_100 rfl ?_
    rw [show b.toInt32 - 1 = (b - 1).toInt32 from n32_sub (i := 1) (by omega)]
    refine Wk.virtual (q := 104) (C := "java/lang/String") [_] _ 0 d47_101 rfl (hw _ (List.mem_of_getElem? (i := 122) rfl)) (hw _ (List.mem_of_getElem? (i := 123) rfl)) (hw _ (List.mem_of_getElem? (i := 125) rfl)) (hw _ (List.mem_of_getElem? (i := 124) rfl)) (hw _ (List.mem_of_getElem? (i := 7) rfl)) (hw _ (List.mem_of_getElem? (i := 126) rfl)) ar_29 (by decide) (nfSel (hw _ (List.mem_of_getElem? (i := 125) rfl))) (by repeat (first | exact List.mem_cons_self | assumption | refine List.mem_cons_of_mem _ ?_)) rfl rfl rfl rfl (ct_atL hw hE F hO hc (by omega) hb1 hs hsb) (by first | decide | (dsimp only; omega) | omega) (by first | decide | (dsimp only; omega) | omega) (by first | decide | (dsimp only; omega) | omega) (by first | decide | (dsimp only; omega) | omega) (kv ?_)
    rintro _ _ ⟨rfl, rfl⟩
    refine Wk.bipush (q := 106) (32) d47_104 rfl (by decide) ?_
    by_cases e1 : cs[b - 1].toInt ≤ 32
    · rw [if_pos ((cl_b _).mpr e1)] at kk
      refine Wk.icmp_f (q := 109) d47_106 rfl (XT.ii_gt_f (nlt_of e1)) ?_
      refine Wk.iinc (q := 112) ((-1)) d47_109 rfl (by decide) rfl (LS1.there (LS1.there (LS1.there (LS1.there (LS1.there (LS1.there (LS1.there (LS1.here (by first | exact One.u | exact One.val rfl | assumption))))))))) ?_
      rw [show b.toInt32 + (-1) = (b - 1).toInt32 from (Int32.sub_eq_add_neg _ _).symm.trans (n32_sub (i := 1) (by omega))]
      refine Wk.goto (q := 86) d47_112 (by decide) (by decide) ?_
      exact ih (b - 1) (by omega) (by omega) kk
    · rw [if_neg (fun q => e1 ((cl_b _).mp q))] at kk
      refine Wk.icmp_t (q := 115) d47_106 (by decide) (by decide) (XT.ii_gt_t (lt_of (show (32 : Int) < _ by omega))) ?_
      exact kk
set_option maxRecDepth 65536 in
set_option maxHeartbeats 8000000 in
theorem wk_seg {l : Launch} {Z : State} {a0 : Array Value} (hw : ∀ d ∈ tables_1, d.before a0 Z = true) (hE : EW Z a0 EL0) (F : ∃ z, z ≠ (0 : Int32) ∧ Sta Z Z.heap "java/lang/String" "COMPACT_STRINGS" "Z" (.int z)) (hO : FO Z) {Q : Option Value → Store → Prop} {L : Store} {h s sb nm nb al dd : Addr} {fh fs fsb fn fnb : Bool} {cs : List Int32} (hc : Lat cs) (hl : cs.length ≤ 9) (hh : (h, fh, OB Z nH layH [.ref s]) ∈ L) (hs : (s, fs, OB Z "java/lang/String" layS [.ref sb, .int 0]) ∈ L) (hsb : (sb, fsb, AR Z .byte ((cs.map b8).map .int)) ∈ L) (hn : (nm, fn, OB Z "java/lang/String" layS [.ref nb, .int 0]) ∈ L) (hnb : (nb, fnb, AR Z .byte [.int 97]) ∈ L) (sta_DEFAULTCAPACITY_EMPTY_ELEMENTDATA : Sta Z Z.heap "java/util/ArrayList" "DEFAULTCAPACITY_EMPTY_ELEMENTDATA" "[Ljava/lang/Object;" (.ref dd)) (hdd : (dd, false, AR Z (.object "java/lang/Object") []) ∈ L) {acc : List (Nat × Nat)} {M : Store} (hM : LI Z cs L dd al acc M) (hacc : acc.length < 10) {st : Nat} (hst : st ≤ cs.length) {o4 o5 o6 o7 o8 : Slot} (k4 : One o4) (k5 : One o5) (k6 : One o6) (k7 : One o7) (k8 : One o8) {cb sb' : Nat}
    (k : ∀ (M' : Store) (o4 o5 o6 o7 o8 : Slot), One o4 → One o5 → One o6 → One o7 → One o8 → LI Z cs L dd al (acc ++ sM (cs.map cl) cs.length st) M' → Wk l Z a0 EL0 (⟨"com/example/webhook_signature_check/webhooksignaturecheck/HeaderElements", "all", "(Ljava/lang/String;)Ljava/util/List;"⟩ : MethodName) prog_1_method_3_code 9 (some (.object "java/util/List")) ({ frames := 5, cells := 31, slots := 310, locals := 81 } : Room) Q M' cb sb' 10 [.val (.ref h), .val (.ref nm), .val (.ref al), .val (.int (sE (cs.map cl) cs.length st + 1).toInt32), o4, o5, o6, o7, o8] []) :
    Wk l Z a0 EL0 (⟨"com/example/webhook_signature_check/webhooksignaturecheck/HeaderElements", "all", "(Ljava/lang/String;)Ljava/util/List;"⟩ : MethodName) prog_1_method_3_code 9 (some (.object "java/util/List")) ({ frames := 5, cells := 31, slots := 310, locals := 81 } : Room) Q M (cb + 3) (sb' + 30) 10 [.val (.ref h), .val (.ref nm), .val (.ref al), .val (.int st.toInt32), o4, o5, o6, o7, o8] [] := by
  have hE1 : st ≤ sE (cs.map cl) cs.length st ∧ sE (cs.map cl) cs.length st ≤ cs.length := by
    have := nx_rng (cs.map cl) Cl.isC (cs.length - st) st
    unfold sE; omega
  have hA1 : st ≤ sA (cs.map cl) cs.length st ∧ sA (cs.map cl) cs.length st ≤ sE (cs.map cl) cs.length st := by
    have := nx_rng (cs.map cl) (fun c => !c.isB) (sE (cs.map cl) cs.length st - st) st
    unfold sA; omega
  have hB1 : sA (cs.map cl) cs.length st ≤ sB (cs.map cl) cs.length st ∧ sB (cs.map cl) cs.length st ≤ sE (cs.map cl) cs.length st := by
    have := pv_rng (cs.map cl) (sE (cs.map cl) cs.length st - sA (cs.map cl) cs.length st) (sE (cs.map cl) cs.length st) (by omega)
    unfold sB; omega
  have hh' := hM.mem _ hh
  have hs' := hM.mem _ hs
  have hsb' := hM.mem _ hsb
  have hn' := hM.mem _ hn
  have hnb' := hM.mem _ hnb
  refine Wk.iload_n (q := 11) d47_10 rfl rfl ?_
  refine Wk.aload_n (q := 12) d47_11 rfl rfl (by first | rfl | assumption) ?_
  refine Wk.getfield (q := 15) (C := "com/example/webhook_signature_check/webhooksignaturecheck/HeaderElements") (lay := layH) 0 d47_12 rfl (hw _ (List.mem_of_getElem? (i := 52) rfl)) Via.refl (by repeat (first | exact List.mem_cons_self | assumption | refine List.mem_cons_of_mem _ ?_)) rfl (by rfl) ?_
  refine Wk.virtual (q := 18) (C := "java/lang/String") [] _ 1 d47_15 rfl (hw _ (List.mem_of_getElem? (i := 84) rfl)) (hw _ (List.mem_of_getElem? (i := 85) rfl)) (hw _ (List.mem_of_getElem? (i := 87) rfl)) (hw _ (List.mem_of_getElem? (i := 86) rfl)) (hw _ (List.mem_of_getElem? (i := 7) rfl)) (hw _ (List.mem_of_getElem? (i := 88) rfl)) ar_14 (by decide) (nfSel (hw _ (List.mem_of_getElem? (i := 87) rfl))) (by repeat (first | exact List.mem_cons_self | assumption | refine List.mem_cons_of_mem _ ?_)) rfl rfl rfl rfl (ct_lenL hw hE F hs' hsb') (by first | decide | (dsimp only; omega) | omega) (by first | decide | (dsimp only; omega) | omega) (by first | decide | (dsimp only; omega) | omega) (by first | decide | (dsimp only; omega) | omega) (kv ?_)
  rintro _ M ⟨rfl, rfl⟩
  rw [List.length_map]
  refine Wk.icmp_f (q := 21) d47_18 rfl (XT.ii_gt_f (fun q => by have := (n32_lt (by omega) (by omega)).mp q; omega)) ?_
  refine Wk.aload_n (q := 22) d47_21 rfl rfl (by first | rfl | assumption) ?_
  refine Wk.getfield (q := 25) (C := "com/example/webhook_signature_check/webhooksignaturecheck/HeaderElements") (lay := layH) 0 d47_22 rfl (hw _ (List.mem_of_getElem? (i := 52) rfl)) Via.refl (by repeat (first | exact List.mem_cons_self | assumption | refine List.mem_cons_of_mem _ ?_)) rfl (by rfl) ?_
  refine Wk.bipush (q := 27) (44) d47_25 rfl (by decide) ?_
  refine Wk.iload_n (q := 28) d47_27 rfl rfl ?_
  refine Wk.virtual (q := 31) (C := "java/lang/String") [_, _] _ 0 d47_28 rfl (hw _ (List.mem_of_getElem? (i := 94) rfl)) (hw _ (List.mem_of_getElem? (i := 95) rfl)) (hw _ (List.mem_of_getElem? (i := 97) rfl)) (hw _ (List.mem_of_getElem? (i := 96) rfl)) (hw _ (List.mem_of_getElem? (i := 7) rfl)) (hw _ (List.mem_of_getElem? (i := 98) rfl)) ar_10 (by decide) (nfSel (hw _ (List.mem_of_getElem? (i := 97) rfl))) (by repeat (first | exact List.mem_cons_self | assumption | refine List.mem_cons_of_mem _ ?_)) rfl rfl rfl rfl (ct_ixS hw hE F hc (by omega) hst hs' hsb') (by first | decide | (dsimp only; omega) | omega) (by first | decide | (dsimp only; omega) | omega) (by first | decide | (dsimp only; omega) | omega) (by first | decide | (dsimp only; omega) | omega) (kv ?_)
  rintro _ M ⟨rfl, rfl⟩
  have j50 : ∀ o4 : Slot, One o4 → Wk l Z a0 EL0 (⟨"com/example/webhook_signature_check/webhooksignaturecheck/HeaderElements", "all", "(Ljava/lang/String;)Ljava/util/List;"⟩ : MethodName) prog_1_method_3_code 9 (some (.object "java/util/List")) ({ frames := 5, cells := 31, slots := 310, locals := 81 } : Room) Q M (cb + 3) (sb' + 30) 50 [.val (.ref h), .val (.ref nm), .val (.ref al), .val (.int st.toInt32), o4, o5, o6, o7, o8] [.int (sE (cs.map cl) cs.length st).toInt32] := by
    intro o4 k4
    refine Wk.istore (q := 52) d47_50 rfl (LS1.there (LS1.there (LS1.there (LS1.there (LS1.there (LS1.here (by first | exact One.u | exact One.val rfl | assumption))))))) ?_
    refine Wk.iload_n (q := 53) d47_52 rfl rfl ?_
    refine Wk.istore (q := 55) d47_53 rfl (LS1.there (LS1.there (LS1.there (LS1.there (LS1.there (LS1.there (LS1.here (by first | exact One.u | exact One.val rfl | assumption)))))))) ?_
    refine Wk.iload (q := 57) d47_55 rfl rfl ?_
    refine Wk.istore (q := 59) d47_57 rfl (LS1.there (LS1.there (LS1.there (LS1.there (LS1.there (LS1.there (LS1.there (LS1.here (by first | exact One.u | exact One.val rfl | assumption))))))))) ?_
    refine wk_trimL hw hE F hO hc hl hh' hs' hsb' hE1.2 (sE (cs.map cl) cs.length st - st) st (by omega) ?_
    refine wk_trimR hw hE F hO hc hl hh' hs' hsb' hE1.2 (sE (cs.map cl) cs.length st - sA (cs.map cl) cs.length st) (sE (cs.map cl) cs.length st) (by show sA (cs.map cl) cs.length st + _ = _; omega) (Nat.le_refl _) ?_
    rw [show nx (cs.map cl) (fun c => !c.isB) (sE (cs.map cl) cs.length st - st) st = sA (cs.map cl) cs.length st from rfl, show pv (cs.map cl) (sE (cs.map cl) cs.length st - sA (cs.map cl) cs.length st) (sE (cs.map cl) cs.length st) = sB (cs.map cl) cs.length st from rfl]
    have j178 : ∀ (M' : Store) (c2 s2 : Nat), cb ≤ c2 → sb' ≤ s2 → ∀ (o6 o7 o8 : Slot), One o6 → One o7 → One o8 → LI Z cs L dd al (acc ++ sM (cs.map cl) cs.length st) M' → Wk l Z a0 EL0 (⟨"com/example/webhook_signature_check/webhooksignaturecheck/HeaderElements", "all", "(Ljava/lang/String;)Ljava/util/List;"⟩ : MethodName) prog_1_method_3_code 9 (some (.object "java/util/List")) ({ frames := 5, cells := 31, slots := 310, locals := 81 } : Room) Q M' c2 s2 178 [.val (.ref h), .val (.ref nm), .val (.ref al), .val (.int st.toInt32), o4, .val (.int (sE (cs.map cl) cs.length st).toInt32), o6, o7, o8] [] := by
      intro M' c2 s2 q1 q2 o6 o7 o8 k6 k7 k8 hL
      refine Wk.iload (q := 180) d47_178 rfl rfl ?_
      refine Wk.iconst (q := 181) (1) d47_180 rfl (by decide) ?_
      refine Wk.iadd (q := 182) d47_181 rfl ?_
      rw [n32_succ]
      refine Wk.istore_n (q := 183) d47_182 rfl (LS1.there (LS1.there (LS1.there (LS1.here (by first | exact One.u | exact One.val rfl | assumption))))) ?_
      refine Wk.goto (q := 10) d47_183 (by decide) (by decide) ?_
      exact (k M' o4 _ o6 o7 o8 k4 (One.val rfl) k6 k7 k8 hL).mono q1 q2
    have none : (Nat.blt (sA (cs.map cl) cs.length st + 1) (sB (cs.map cl) cs.length st) && ((cs.map cl).getD (sA (cs.map cl) cs.length st + 1) .blank).isQ && ((cs.map cl).getD (sA (cs.map cl) cs.length st) .blank).isA) = false → LI Z cs L dd al (acc ++ sM (cs.map cl) cs.length st) M := by
      intro q
      rw [sM, q, if_neg (by decide), List.append_nil]
      exact hM
    refine Wk.iload (q := 117) d47_115 rfl rfl ?_
    refine Wk.aload_n (q := 118) d47_117 rfl rfl (by first | rfl | assumption) ?_
    refine Wk.virtual (q := 121) (C := "java/lang/String") [] _ 1 d47_118 rfl (hw _ (List.mem_of_getElem? (i := 84) rfl)) (hw _ (List.mem_of_getElem? (i := 85) rfl)) (hw _ (List.mem_of_getElem? (i := 87) rfl)) (hw _ (List.mem_of_getElem? (i := 86) rfl)) (hw _ (List.mem_of_getElem? (i := 7) rfl)) (hw _ (List.mem_of_getElem? (i := 88) rfl)) ar_14 (by decide) (nfSel (hw _ (List.mem_of_getElem? (i := 87) rfl))) (by repeat (first | exact List.mem_cons_self | assumption | refine List.mem_cons_of_mem _ ?_)) rfl rfl rfl rfl (ct_lenL hw hE F (xs := [97]) hn' hnb') (by first | decide | (dsimp only; omega) | omega) (by first | decide | (dsimp only; omega) | omega) (by first | decide | (dsimp only; omega) | omega) (by first | decide | (dsimp only; omega) | omega) (kv ?_)
    rintro _ M ⟨rfl, rfl⟩
    refine Wk.iadd (q := 122) d47_121 rfl ?_
    rw [show (sA (cs.map cl) cs.length st).toInt32 + ([97] : List Int32).length.toInt32 = (sA (cs.map cl) cs.length st + 1).toInt32 from n32_succ _]
    refine Wk.istore (q := 124) d47_122 rfl (LS1.there (LS1.there (LS1.there (LS1.there (LS1.there (LS1.there (LS1.there (LS1.there (LS1.here (by first | exact One.u | exact One.val rfl | assumption)))))))))) ?_
    refine Wk.iload (q := 126) d47_124 rfl rfl ?_
    refine Wk.iload (q := 128) d47_126 rfl rfl ?_
    by_cases c1 : ¬ sA (cs.map cl) cs.length st + 1 < sB (cs.map cl) cs.length st
    · refine Wk.icmp_t (q := 178) d47_128 (by decide) (by decide) (XT.ii_ge_t (fun q => c1 ((n32_lt (by omega) (by omega)).mp q))) ?_
      exact j178 M _ _ (by dsimp only; omega) (by dsimp only; omega) _ _ _ (One.val rfl) (One.val rfl) (One.val rfl) (none (by
        have : Nat.blt (sA (cs.map cl) cs.length st + 1) (sB (cs.map cl) cs.length st) = false := by
          cases q : Nat.blt (sA (cs.map cl) cs.length st + 1) (sB (cs.map cl) cs.length st)
          · rfl
          · exact absurd (Nat.blt_eq.mp q) c1
        rw [this]; rfl))
    have c1' := Classical.not_not.mp c1
    have hi1 : sA (cs.map cl) cs.length st + 1 < cs.length := by omega
    have hi0 : sA (cs.map cl) cs.length st < cs.length := by omega
    have b1 : Nat.blt (sA (cs.map cl) cs.length st + 1) (sB (cs.map cl) cs.length st) = true := Nat.blt_eq.mpr c1'
    rw [b1, kget hi1, kget hi0] at none
    refine Wk.icmp_f (q := 131) d47_128 rfl (XT.ii_ge_f ((n32_lt (by omega) (by omega)).mpr c1')) ?_
    refine Wk.aload_n (q := 132) d47_131 rfl rfl (by first | rfl | assumption) ?_
    refine Wk.getfield (q := 135) (C := "com/example/webhook_signature_check/webhooksignaturecheck/HeaderElements") (lay := layH) 0 d47_132 rfl (hw _ (List.mem_of_getElem? (i := 52) rfl)) Via.refl (by repeat (first | exact List.mem_cons_self | assumption | refine List.mem_cons_of_mem _ ?_)) rfl (by rfl) ?_
    refine Wk.iload (q := 137) d47_135 rfl rfl ?_
    refine Wk.virtual (q := 140) (C := "java/lang/String") [_] _ 0 d47_137 rfl (hw _ (List.mem_of_getElem? (i := 122) rfl)) (hw _ (List.mem_of_getElem? (i := 123) rfl)) (hw _ (List.mem_of_getElem? (i := 125) rfl)) (hw _ (List.mem_of_getElem? (i := 124) rfl)) (hw _ (List.mem_of_getElem? (i := 7) rfl)) (hw _ (List.mem_of_getElem? (i := 126) rfl)) ar_29 (by decide) (nfSel (hw _ (List.mem_of_getElem? (i := 125) rfl))) (by repeat (first | exact List.mem_cons_self | assumption | refine List.mem_cons_of_mem _ ?_)) rfl rfl rfl rfl (ct_atL hw hE F hO hc (by omega) hi1 hs' hsb') (by first | decide | (dsimp only; omega) | omega) (by first | decide | (dsimp only; omega) | omega) (by first | decide | (dsimp only; omega) | omega) (by first | decide | (dsimp only; omega) | omega) (kv ?_)
    rintro _ M ⟨rfl, rfl⟩
    refine Wk.bipush (q := 142) (61) d47_140 rfl (by decide) ?_
    by_cases c2 : ¬ cs[sA (cs.map cl) cs.length st + 1] = 61
    · refine Wk.icmp_t (q := 178) d47_142 (by decide) (by decide) (XT.ii_ne_t c2) ?_
      exact j178 M _ _ (by dsimp only; omega) (by dsimp only; omega) _ _ _ (One.val rfl) (One.val rfl) (One.val rfl) (none (by
        cases q : (cl cs[sA (cs.map cl) cs.length st + 1]).isQ
        · rfl
        · exact absurd ((cl_q _).mp q) c2))
    have c2' := Classical.not_not.mp c2
    rw [(cl_q _).mpr c2'] at none
    refine Wk.icmp_f (q := 145) d47_142 rfl (XT.ii_ne_f c2') ?_
    refine Wk.aload_n (q := 146) d47_145 rfl rfl (by first | rfl | assumption) ?_
    refine Wk.getfield (q := 149) (C := "com/example/webhook_signature_check/webhooksignaturecheck/HeaderElements") (lay := layH) 0 d47_146 rfl (hw _ (List.mem_of_getElem? (i := 52) rfl)) Via.refl (by repeat (first | exact List.mem_cons_self | assumption | refine List.mem_cons_of_mem _ ?_)) rfl (by rfl) ?_
    refine Wk.aload_n (q := 150) d47_149 rfl rfl (by first | rfl | assumption) ?_
    refine Wk.iload (q := 152) d47_150 rfl rfl ?_
    refine Wk.virtual (q := 155) (C := "java/lang/String") [_, _] _ 0 d47_152 rfl (hw _ (List.mem_of_getElem? (i := 154) rfl)) (hw _ (List.mem_of_getElem? (i := 155) rfl)) (hw _ (List.mem_of_getElem? (i := 157) rfl)) (hw _ (List.mem_of_getElem? (i := 156) rfl)) (hw _ (List.mem_of_getElem? (i := 7) rfl)) (hw _ (List.mem_of_getElem? (i := 158) rfl)) ar_30 (by decide) (nfSel (hw _ (List.mem_of_getElem? (i := 157) rfl))) (by repeat (first | exact List.mem_cons_self | assumption | refine List.mem_cons_of_mem _ ?_)) rfl rfl rfl rfl (ct_swA hw hE F hc (by omega) hi0 hs' hsb' hn' hnb') (by first | decide | (dsimp only; omega) | omega) (by first | decide | (dsimp only; omega) | omega) (by first | decide | (dsimp only; omega) | omega) (by first | decide | (dsimp only; omega) | omega) (kv ?_)
    rintro _ M ⟨rfl, rfl⟩
    by_cases c3 : ¬ cs[sA (cs.map cl) cs.length st] = 97
    · rw [if_neg c3]
      refine Wk.if_t (q := 178) d47_155 (by decide) (by decide) (by decide) ?_
      exact j178 M _ _ (by dsimp only; omega) (by dsimp only; omega) _ _ _ (One.val rfl) (One.val rfl) (One.val rfl) (none (by
        cases q : (cl cs[sA (cs.map cl) cs.length st]).isA
        · rfl
        · exact absurd ((cl_a _).mp q) c3))
    have c3' := Classical.not_not.mp c3
    rw [if_pos c3']
    have hsm : sM (cs.map cl) cs.length st = [(sA (cs.map cl) cs.length st + 2, sB (cs.map cl) cs.length st)] := by
      rw [sM, b1, kget hi1, kget hi0, (cl_q _).mpr c2', (cl_a _).mpr c3']; rfl
    rw [hsm] at j178
    refine Wk.if_f (q := 158) d47_155 rfl (by decide) ?_
    refine Wk.aload_n (q := 159) d47_158 rfl rfl (by first | rfl | assumption) ?_
    refine Wk.aload_n (q := 160) d47_159 rfl rfl (by first | rfl | assumption) ?_
    refine Wk.getfield (q := 163) (C := "com/example/webhook_signature_check/webhooksignaturecheck/HeaderElements") (lay := layH) 0 d47_160 rfl (hw _ (List.mem_of_getElem? (i := 52) rfl)) Via.refl (by repeat (first | exact List.mem_cons_self | assumption | refine List.mem_cons_of_mem _ ?_)) rfl (by rfl) ?_
    refine Wk.iload (q := 165) d47_163 rfl rfl ?_
    refine Wk.iconst (q := 166) (1) d47_165 rfl (by decide) ?_
    refine Wk.iadd (q := 167) d47_166 rfl ?_
    rw [n32_succ]
    refine Wk.iload (q := 169) d47_167 rfl rfl ?_
    refine Wk.virtual (q := 172) (C := "java/lang/String") [_, _] _ 1 d47_169 rfl (hw _ (List.mem_of_getElem? (i := 163) rfl)) (hw _ (List.mem_of_getElem? (i := 164) rfl)) (hw _ (List.mem_of_getElem? (i := 166) rfl)) (hw _ (List.mem_of_getElem? (i := 165) rfl)) (hw _ (List.mem_of_getElem? (i := 7) rfl)) (hw _ (List.mem_of_getElem? (i := 167) rfl)) ar_31 (by decide) (nfSel (hw _ (List.mem_of_getElem? (i := 166) rfl))) (by repeat (first | exact List.mem_cons_self | assumption | refine List.mem_cons_of_mem _ ?_)) rfl rfl rfl rfl (ct_sub2 hw hE F hO (i := sA (cs.map cl) cs.length st + 1 + 1) (j := sB (cs.map cl) cs.length st) (by omega) (by omega) (by omega) (by omega) 9 (by omega) hs' hsb') (by first | decide | (dsimp only; omega) | omega) (by first | decide | (dsimp only; omega) | omega) (by first | decide | (dsimp only; omega) | omega) (by first | decide | (dsimp only; omega) | omega) (kv ?_)
    rintro _ _ ⟨t, r, ft, fr, rfl, rfl⟩
    rcases hM with ⟨rfl, m, rfl⟩ | ⟨hne, ar, xs, m, M', hx, rfl, hsub, hel⟩
    · refine Wk.pull (o := (al, true, _)) (by repeat (first | exact Ex.here | assumption | apply Ex.there)) ?_
      refine Wk.interface (q := 177) (C := "java/util/ArrayList") [_] _ 0 d47_172 rfl (hw _ (List.mem_of_getElem? (i := 178) rfl)) (hw _ (List.mem_of_getElem? (i := 179) rfl)) (hw _ (List.mem_of_getElem? (i := 180) rfl)) (by rfl) (hw _ (List.mem_of_getElem? (i := 181) rfl)) (hw _ (List.mem_of_getElem? (i := 182) rfl)) (hw _ (List.mem_of_getElem? (i := 183) rfl)) (hw _ (List.mem_of_getElem? (i := 184) rfl)) (hw _ (List.mem_of_getElem? (i := 150) rfl)) (hw _ (List.mem_of_getElem? (i := 62) rfl)) (hw _ (List.mem_of_getElem? (i := 185) rfl)) ar_32 (by decide) (by repeat (first | exact List.mem_cons_self | assumption | refine List.mem_cons_of_mem _ ?_)) rfl rfl rfl rfl (ct_alA1a hw hE sta_DEFAULTCAPACITY_EMPTY_ELEMENTDATA (List.mem_cons_of_mem _ (List.mem_cons_of_mem _ hdd)) List.mem_cons_self) (by first | decide | (dsimp only; omega) | omega) (by first | decide | (dsimp only; omega) | omega) (by first | decide | (dsimp only; omega) | omega) (by first | decide | (dsimp only; omega) | omega) (kv ?_)
      rintro _ _ ⟨ar, rfl, rfl⟩
      refine Wk.pop (q := 178) d47_177 rfl rfl ?_
      refine j178 _ _ _ (by dsimp only; omega) (by dsimp only; omega) _ _ _ (One.val rfl) (One.val rfl) (One.val rfl) ?_
      refine Or.inr ⟨by simp, ar, [t], m + 1, _, rfl, rfl, fun e he => List.mem_cons_of_mem _ (List.mem_cons_of_mem _ he), fun j y r' hj hr => ?_⟩
      cases j with
      | zero =>
        cases hj; cases hr
        exact ⟨r, ft, fr, List.mem_cons_self, List.mem_cons_of_mem _ List.mem_cons_self⟩
      | succ j => exact nomatch hj
    · have hv : (xs.map Value.ref ++ List.replicate (10 - acc.length) Value.null).length = 10 := by simp [hx]; omega
      refine Wk.pull (o := (ar, true, _)) (by repeat (first | exact Ex.here | assumption | apply Ex.there)) ?_
      refine Wk.pull (o := (al, true, _)) (by repeat (first | exact Ex.here | assumption | apply Ex.there)) ?_
      refine Wk.interface (q := 177) (C := "java/util/ArrayList") [_] _ 0 d47_172 rfl (hw _ (List.mem_of_getElem? (i := 178) rfl)) (hw _ (List.mem_of_getElem? (i := 179) rfl)) (hw _ (List.mem_of_getElem? (i := 180) rfl)) (by rfl) (hw _ (List.mem_of_getElem? (i := 181) rfl)) (hw _ (List.mem_of_getElem? (i := 182) rfl)) (hw _ (List.mem_of_getElem? (i := 183) rfl)) (hw _ (List.mem_of_getElem? (i := 184) rfl)) (hw _ (List.mem_of_getElem? (i := 150) rfl)) (hw _ (List.mem_of_getElem? (i := 62) rfl)) (hw _ (List.mem_of_getElem? (i := 185) rfl)) ar_32 (by decide) (by repeat (first | exact List.mem_cons_self | assumption | refine List.mem_cons_of_mem _ ?_)) rfl rfl rfl rfl (ct_alA1b hw hE hv hacc List.mem_cons_self) (by first | decide | (dsimp only; omega) | omega) (by first | decide | (dsimp only; omega) | omega) (by first | decide | (dsimp only; omega) | omega) (by first | decide | (dsimp only; omega) | omega) (kv ?_)
      rintro _ M ⟨rfl, rfl⟩
      rw [set_app hx hacc]
      refine Wk.pop (q := 178) d47_177 rfl rfl ?_
      refine j178 _ _ _ (by dsimp only; omega) (by dsimp only; omega) _ _ _ (One.val rfl) (One.val rfl) (One.val rfl) ?_
      refine Or.inr ⟨by simp, ar, xs ++ [t], m + 1, (t, ft, OB Z "java/lang/String" layS [.ref r, .int 0]) :: (r, fr, AR Z .byte ((((cs.drop (sA (cs.map cl) cs.length st + 2)).take (sB (cs.map cl) cs.length st - (sA (cs.map cl) cs.length st + 2))).map b8).map .int)) :: M', by simp [hx], by rw [List.length_append]; rfl, fun e he => List.mem_cons_of_mem _ (List.mem_cons_of_mem _ (hsub e he)), fun j y r' hj hr => ?_⟩
      rw [List.getElem?_append] at hj hr
      by_cases hj' : j < xs.length
      · rw [if_pos hj'] at hj
        rw [if_pos (by omega)] at hr
        obtain ⟨b, f, fb, g1, g2⟩ := hel j y r' hj hr
        exact ⟨b, f, fb, List.mem_cons_of_mem _ (List.mem_cons_of_mem _ g1), List.mem_cons_of_mem _ (List.mem_cons_of_mem _ g2)⟩
      · rw [if_neg hj'] at hj
        rw [if_neg (by omega)] at hr
        have hz : j - xs.length = 0 := by
          cases q : j - xs.length with
          | zero => rfl
          | succ z => rw [q] at hj; exact nomatch hj
        rw [hz] at hj
        rw [← hx, hz] at hr
        cases hj; cases hr
        exact ⟨r, ft, fr, List.mem_cons_self, List.mem_cons_of_mem _ List.mem_cons_self⟩
  by_cases c0 : sE (cs.map cl) cs.length st < cs.length
  · rw [if_pos c0]
    refine Wk.istore (q := 33) d47_31 rfl (LS1.there (LS1.there (LS1.there (LS1.there (LS1.here (by first | exact One.u | exact One.val rfl | assumption)))))) ?_
    refine Wk.iload (q := 35) d47_33 rfl rfl ?_
    refine Wk.if_t (q := 48) d47_35 (by decide) (by decide) (XT.i0_ge_t (n32_nn (by omega))) ?_
    refine Wk.iload (q := 50) d47_48 rfl rfl ?_
    exact j50 _ (One.val rfl)
  · rw [if_neg c0]
    refine Wk.istore (q := 33) d47_31 rfl (LS1.there (LS1.there (LS1.there (LS1.there (LS1.here (by first | exact One.u | exact One.val rfl | assumption)))))) ?_
    refine Wk.iload (q := 35) d47_33 rfl rfl ?_
    refine Wk.if_f (q := 38) d47_35 rfl (by decide) ?_
    refine Wk.aload_n (q := 39) d47_38 rfl rfl (by first | rfl | assumption) ?_
    refine Wk.getfield (q := 42) (C := "com/example/webhook_signature_check/webhooksignaturecheck/HeaderElements") (lay := layH) 0 d47_39 rfl (hw _ (List.mem_of_getElem? (i := 52) rfl)) Via.refl (by repeat (first | exact List.mem_cons_self | assumption | refine List.mem_cons_of_mem _ ?_)) rfl (by rfl) ?_
    refine Wk.virtual (q := 45) (C := "java/lang/String") [] _ 0 d47_42 rfl (hw _ (List.mem_of_getElem? (i := 84) rfl)) (hw _ (List.mem_of_getElem? (i := 85) rfl)) (hw _ (List.mem_of_getElem? (i := 87) rfl)) (hw _ (List.mem_of_getElem? (i := 86) rfl)) (hw _ (List.mem_of_getElem? (i := 7) rfl)) (hw _ (List.mem_of_getElem? (i := 88) rfl)) ar_14 (by decide) (nfSel (hw _ (List.mem_of_getElem? (i := 87) rfl))) (by repeat (first | exact List.mem_cons_self | assumption | refine List.mem_cons_of_mem _ ?_)) rfl rfl rfl rfl (ct_lenL hw hE F hs' hsb') (by first | decide | (dsimp only; omega) | omega) (by first | decide | (dsimp only; omega) | omega) (by first | decide | (dsimp only; omega) | omega) (by first | decide | (dsimp only; omega) | omega) (kv ?_)
    rintro _ M ⟨rfl, rfl⟩
    rw [List.length_map, show cs.length.toInt32 = (sE (cs.map cl) cs.length st).toInt32 by rw [show sE (cs.map cl) cs.length st = cs.length by omega]]
    refine Wk.goto (q := 50) d47_45 (by decide) (by decide) ?_
    exact j50 _ (One.val rfl)
set_option maxHeartbeats 4000000 in
theorem wk_run {l : Launch} {Z : State} {a0 : Array Value} (hw : ∀ d ∈ tables_1, d.before a0 Z = true) (hE : EW Z a0 EL0) (F : ∃ z, z ≠ (0 : Int32) ∧ Sta Z Z.heap "java/lang/String" "COMPACT_STRINGS" "Z" (.int z)) (hO : FO Z) {Q : Option Value → Store → Prop} {L : Store} {h s sb nm nb al dd : Addr} {fh fs fsb fn fnb : Bool} {cs : List Int32} (hc : Lat cs) (hl : cs.length ≤ 9) (hh : (h, fh, OB Z nH layH [.ref s]) ∈ L) (hs : (s, fs, OB Z "java/lang/String" layS [.ref sb, .int 0]) ∈ L) (hsb : (sb, fsb, AR Z .byte ((cs.map b8).map .int)) ∈ L) (hn : (nm, fn, OB Z "java/lang/String" layS [.ref nb, .int 0]) ∈ L) (hnb : (nb, fnb, AR Z .byte [.int 97]) ∈ L) (sta_DEFAULTCAPACITY_EMPTY_ELEMENTDATA : Sta Z Z.heap "java/util/ArrayList" "DEFAULTCAPACITY_EMPTY_ELEMENTDATA" "[Ljava/lang/Object;" (.ref dd)) (hdd : (dd, false, AR Z (.object "java/lang/Object") []) ∈ L) {stop : Nat} (hs1 : stop ≤ cs.length + 1) (hs2 : ∀ z, z < stop → sE (cs.map cl) cs.length z + 1 ≤ stop) {cb sb' : Nat} : ∀ (k st : Nat) (acc : List (Nat × Nat)) (M : Store) (o4 o5 o6 o7 o8 : Slot), One o4 → One o5 → One o6 → One o7 → One o8 → st ≤ stop → stop - st ≤ k → acc.length + k ≤ 10 → LI Z cs L dd al acc M →
    (∀ (M' : Store) (o4 o5 o6 o7 o8 : Slot), One o4 → One o5 → One o6 → One o7 → One o8 → LI Z cs L dd al (acc ++ sg (cs.map cl) cs.length stop k st) M' → Wk l Z a0 EL0 (⟨"com/example/webhook_signature_check/webhooksignaturecheck/HeaderElements", "all", "(Ljava/lang/String;)Ljava/util/List;"⟩ : MethodName) prog_1_method_3_code 9 (some (.object "java/util/List")) ({ frames := 5, cells := 31, slots := 310, locals := 81 } : Room) Q M' cb sb' 10 [.val (.ref h), .val (.ref nm), .val (.ref al), .val (.int stop.toInt32), o4, o5, o6, o7, o8] []) →
    Wk l Z a0 EL0 (⟨"com/example/webhook_signature_check/webhooksignaturecheck/HeaderElements", "all", "(Ljava/lang/String;)Ljava/util/List;"⟩ : MethodName) prog_1_method_3_code 9 (some (.object "java/util/List")) ({ frames := 5, cells := 31, slots := 310, locals := 81 } : Room) Q M (cb + 3 * k) (sb' + 30 * k) 10 [.val (.ref h), .val (.ref nm), .val (.ref al), .val (.int st.toInt32), o4, o5, o6, o7, o8] [] := by
  intro k
  induction k with
  | zero =>
    intro st acc M o4 o5 o6 o7 o8 k4 k5 k6 k7 k8 h1 h2 h3 hM kk
    obtain rfl : st = stop := by omega
    exact kk M o4 o5 o6 o7 o8 k4 k5 k6 k7 k8 (by rw [sg, List.append_nil]; exact hM)
  | succ k ih =>
    intro st acc M o4 o5 o6 o7 o8 k4 k5 k6 k7 k8 h1 h2 h3 hM kk
    by_cases e : stop ≤ st
    · obtain rfl : st = stop := by omega
      refine (kk M o4 o5 o6 o7 o8 k4 k5 k6 k7 k8 ?_).mono (by omega) (by omega)
      rw [sg, Nat.ble_eq.mpr (Nat.le_refl _), if_pos rfl, List.append_nil]
      exact hM
    · have hb : Nat.ble stop st = false := by
        cases q : Nat.ble stop st
        · rfl
        · exact absurd (Nat.ble_eq.mp q) e
      have hr := nx_rng (cs.map cl) Cl.isC (cs.length - st) st
      refine (wk_seg (cb := cb + 3 * k) (sb' := sb' + 30 * k) hw hE F hO hc hl hh hs hsb hn hnb sta_DEFAULTCAPACITY_EMPTY_ELEMENTDATA hdd hM (by omega) (by omega) k4 k5 k6 k7 k8 (fun M' p4 p5 p6 p7 p8 q4 q5 q6 q7 q8 hM' => ?_)).mono (by omega) (by omega)
      refine ih (sE (cs.map cl) cs.length st + 1) (acc ++ sM (cs.map cl) cs.length st) M' p4 p5 p6 p7 p8 q4 q5 q6 q7 q8 (hs2 st (by omega)) (by unfold sE; omega) ?_ hM' ?_
      · have : (sM (cs.map cl) cs.length st).length ≤ 1 := by unfold sM; split <;> simp
        rw [List.length_append]; omega
      · intro M2 r4 r5 r6 r7 r8 t4 t5 t6 t7 t8 hM2
        refine kk M2 r4 r5 r6 r7 r8 t4 t5 t6 t7 t8 ?_
        rw [sg, hb, if_neg (by decide), ← List.append_assoc]
        exact hM2
set_option maxHeartbeats 4000000 in
theorem ct_hAll {l : Launch} {Z : State} {a0 : Array Value} (hw : ∀ d ∈ tables_1, d.before a0 Z = true) (hE : EW Z a0 EL0) (F : ∃ z, z ≠ (0 : Int32) ∧ Sta Z Z.heap "java/lang/String" "COMPACT_STRINGS" "Z" (.int z)) (hO : FO Z) {L : Store} {h s sb nm nb dd : Addr} {fh fs fsb fn fnb : Bool} {lc pc c1 t q e d : Int32} (hq : q = 97 ∨ q = 98) (hc : Lat [lc, pc, 61, c1, t, 44, q, e, d]) (hh : (h, fh, OB Z nH layH [.ref s]) ∈ L) (hs : (s, fs, OB Z "java/lang/String" layS [.ref sb, .int 0]) ∈ L) (hsb : (sb, fsb, AR Z .byte ((([lc, pc, 61, c1, t, 44, q, e, d] : List Int32).map b8).map .int)) ∈ L) (hn : (nm, fn, OB Z "java/lang/String" layS [.ref nb, .int 0]) ∈ L) (hnb : (nb, fnb, AR Z .byte [.int 97]) ∈ L) (sta_DEFAULTCAPACITY_EMPTY_ELEMENTDATA : Sta Z Z.heap "java/util/ArrayList" "DEFAULTCAPACITY_EMPTY_ELEMENTDATA" "[Ljava/lang/Object;" (.ref dd)) (hdd : (dd, false, AR Z (.object "java/lang/Object") []) ∈ L) :
    Ct l Z EL0 (⟨"com/example/webhook_signature_check/webhooksignaturecheck/HeaderElements", "all", "(Ljava/lang/String;)Ljava/util/List;"⟩ : MethodName) prog_1_method_3_code 9 (some (.object "java/util/List")) ({ frames := 5, cells := 31, slots := 310, locals := 81 } : Room) #[.ref h, .ref nm] L (RV fun u M => ∃ al, u = .ref al ∧ LI Z [lc, pc, 61, c1, t, 44, q, e, d] L dd al (ex1 (cl lc) (cl pc) (cl c1) (cl t) ++ ex2 (cl q) (cl e) (cl d)) M) := by
  have hK : ([lc, pc, 61, c1, t, 44, q, e, d] : List Int32).map cl = [cl lc, cl pc, .eq, cl c1, cl t, .comma, cl q, cl e, cl d] := rfl
  refine Ct.of (a0 := a0) (Ls := [.val (.ref _), .val (.ref _), .unset, .unset, .unset, .unset, .unset, .unset, .unset]) (plainFor_of_name pn_12) (fun m => ef_rr_9 m _ _) hE ?_
  refine Wk.new (q := 3) d47_0 rfl (hw _ (List.mem_of_getElem? (i := 60) rfl)) (hw _ (List.mem_of_getElem? (i := 61) rfl)) (hw _ (List.mem_of_getElem? (i := 62) rfl)) (layAL_ok hw) layAL_dv (by first | decide | (dsimp only; omega) | omega) (by first | decide | (dsimp only; omega) | omega) ?_
  intro al
  refine Wk.dup (q := 4) d47_3 rfl rfl ?_
  refine Wk.special (q := 7) [] _ 1 d47_4 rfl rfl (hw _ (List.mem_of_getElem? (i := 63) rfl)) (hw _ (List.mem_of_getElem? (i := 64) rfl)) (hw _ (List.mem_of_getElem? (i := 62) rfl)) (hw _ (List.mem_of_getElem? (i := 65) rfl)) ar_22 (by decide) rfl rfl rfl rfl (ct_alI hw hE sta_DEFAULTCAPACITY_EMPTY_ELEMENTDATA) (by first | decide | (dsimp only; omega) | omega) (by first | decide | (dsimp only; omega) | omega) (by first | decide | (dsimp only; omega) | omega) (by first | decide | (dsimp only; omega) | omega) (k0 ?_)
  rintro _ rfl
  refine Wk.astore_n (q := 8) d47_7 rfl (by first | rfl | assumption) (LS1.there (LS1.there (LS1.here (by first | exact One.u | exact One.val rfl | assumption)))) ?_
  refine Wk.iconst (q := 9) (0) d47_8 rfl (by decide) ?_
  refine Wk.istore_n (q := 10) d47_9 rfl (LS1.there (LS1.there (LS1.there (LS1.here (by first | exact One.u | exact One.val rfl | assumption))))) ?_
  refine (wk_run (cb := 12) (sb' := 120) (stop := 6) hw hE F hO hc (by simp) hh hs hsb hn hnb sta_DEFAULTCAPACITY_EMPTY_ELEMENTDATA hdd (by simp) ?_ 6 0 [] _ .unset .unset .unset .unset .unset One.u One.u One.u One.u One.u (by decide) (by decide) (by decide) (Or.inl ⟨rfl, 0, rfl⟩) ?_).mono (by decide) (by decide)
  · intro z hz
    have := nx_le (([lc, pc, 61, c1, t, 44, q, e, d] : List Int32).map cl) Cl.isC (j := 5) rfl (9 - z) z (by omega) (by omega)
    show sE _ 9 z + 1 ≤ 6
    unfold sE; omega
  intro M1 o4 o5 o6 o7 o8 k4 k5 k6 k7 k8 h1
  rw [show ([] : List (Nat × Nat)) ++ sg (([lc, pc, 61, c1, t, 44, q, e, d] : List Int32).map cl) ([lc, pc, 61, c1, t, 44, q, e, d] : List Int32).length 6 6 0 = ex1 (cl lc) (cl pc) (cl c1) (cl t) from first_ok (cl lc) (cl pc) (cl c1) (cl t) (cl q) (cl e) (cl d)] at h1
  have hx1 : (ex1 (cl lc) (cl pc) (cl c1) (cl t)).length ≤ 1 := by
    unfold ex1
    split
    · simp
    · split <;> simp
  refine (wk_run (cb := 0) (sb' := 0) (stop := 10) hw hE F hO hc (by simp) hh hs hsb hn hnb sta_DEFAULTCAPACITY_EMPTY_ELEMENTDATA hdd (by simp) ?_ 4 6 _ M1 o4 o5 o6 o7 o8 k4 k5 k6 k7 k8 (by decide) (by decide) (by omega) h1 ?_).mono (by decide) (by decide)
  · intro z hz
    have := nx_rng (([lc, pc, 61, c1, t, 44, q, e, d] : List Int32).map cl) Cl.isC (9 - z) z
    show sE _ 9 z + 1 ≤ 10
    unfold sE; omega
  intro M2 p4 p5 p6 p7 p8 q4 q5 q6 q7 q8 h2
  rw [show sg (([lc, pc, 61, c1, t, 44, q, e, d] : List Int32).map cl) ([lc, pc, 61, c1, t, 44, q, e, d] : List Int32).length 10 4 6 = ex2 (cl q) (cl e) (cl d) from second_ok (cl lc) (cl pc) (cl c1) (cl t) (cl q) (cl e) (cl d) (hq.imp (fun h => by rw [h]; rfl) (fun h => by rw [h]; rfl))] at h2
  have hh2 := h2.mem _ hh
  have hs2 := h2.mem _ hs
  refine Wk.iload_n (q := 11) d47_10 rfl rfl ?_
  refine Wk.aload_n (q := 12) d47_11 rfl rfl (by first | rfl | assumption) ?_
  refine Wk.getfield (q := 15) (C := "com/example/webhook_signature_check/webhooksignaturecheck/HeaderElements") (lay := layH) 0 d47_12 rfl (hw _ (List.mem_of_getElem? (i := 52) rfl)) Via.refl (by repeat (first | exact List.mem_cons_self | assumption | refine List.mem_cons_of_mem _ ?_)) rfl (by rfl) ?_
  refine Wk.virtual (q := 18) (C := "java/lang/String") [] _ 1 d47_15 rfl (hw _ (List.mem_of_getElem? (i := 84) rfl)) (hw _ (List.mem_of_getElem? (i := 85) rfl)) (hw _ (List.mem_of_getElem? (i := 87) rfl)) (hw _ (List.mem_of_getElem? (i := 86) rfl)) (hw _ (List.mem_of_getElem? (i := 7) rfl)) (hw _ (List.mem_of_getElem? (i := 88) rfl)) ar_14 (by decide) (nfSel (hw _ (List.mem_of_getElem? (i := 87) rfl))) (by repeat (first | exact List.mem_cons_self | assumption | refine List.mem_cons_of_mem _ ?_)) rfl rfl rfl rfl (ct_lenL hw hE F (h2.mem _ hs) (h2.mem _ hsb)) (by first | decide | (dsimp only; omega) | omega) (by first | decide | (dsimp only; omega) | omega) (by first | decide | (dsimp only; omega) | omega) (by first | decide | (dsimp only; omega) | omega) (kv ?_)
  rintro _ _ ⟨rfl, rfl⟩
  rw [List.length_map, show ([lc, pc, 61, c1, t, 44, q, e, d] : List Int32).length.toInt32 = (9 : Int32) from rfl]
  refine Wk.icmp_t (q := 186) d47_18 (by decide) (by decide) (by decide) ?_
  refine Wk.aload_n (q := 187) d47_186 rfl rfl (by first | rfl | assumption) ?_
  refine Wk.areturn (t := (.object "java/util/List")) d47_187 rfl rfl (by first | rfl | exact narO | exact narA) (by first | rfl | assumption) ?_
  exact ⟨_, rfl, al, rfl, h2⟩

theorem ct_lpick {l : Launch} {Z : State} {a0 : Array Value} (hw : ∀ d ∈ tables_1, d.before a0 Z = true) (hE : EW Z a0 EL0) {L : Store} {w a b : Int32} (ha : Lat1 a) (hb : Lat1 b) : Ct l Z EL0 (⟨"com/example/webhook_signature_check/webhooksignaturecheck/HeaderElementsReadPinLaw", "pick", "(ICC)C"⟩ : MethodName) method_3_code 4 (some .char) ({ frames := 0, cells := 0, slots := 0, locals := 0 } : Room) #[.int w, .int a, .int b] L (RV fun u M => ∃ c, u = .int c ∧ Lat1 c ∧ M = L) := by
  refine Ct.of (a0 := a0) (Ls := [.val (.int _), .val (.int _), .val (.int _), .unset]) (plainFor_of_name pn_13) (fun m => ef_iii_4 m _ _ _) hE ?_
  refine Wk.iload_n (q := 1) d48_0 rfl rfl ?_
  refine Wk.iconst (q := 2) (3) d48_1 rfl (by decide) ?_
  refine Wk.iand (q := 3) d48_2 rfl ?_
  refine Wk.istore_n (q := 4) d48_3 rfl (LS1.there (LS1.there (LS1.there (LS1.here (by first | exact One.u | exact One.val rfl | assumption))))) ?_
  refine Wk.iload_n (q := 5) d48_4 rfl rfl ?_
  refine Wk.if_s (q := 10) (q' := 8) d48_5 (by decide) (by decide) rfl ?_ ?_
  · intro _
    refine Wk.iload_n (q := 11) d48_10 rfl rfl ?_
    refine Wk.iconst (q := 12) (1) d48_11 rfl (by decide) ?_
    refine Wk.icmp_s (q := 17) (q' := 15) d48_12 (by decide) (by decide) rfl ?_ ?_
    · intro _
      refine Wk.iload_n (q := 18) d48_17 rfl rfl ?_
      refine Wk.iconst (q := 19) (2) d48_18 rfl (by decide) ?_
      refine Wk.iushr (q := 20) d48_19 rfl ?_
      refine Wk.sipush (q := 23) (255) d48_20 rfl (by decide) ?_
      refine Wk.iand (q := 24) d48_23 rfl ?_
      refine Wk.i2c (q := 25) d48_24 rfl ?_
      rw [i2c_mask]
      refine Wk.ireturn (t := .char) d48_25 rfl (by simp) (congrArg Value.int (nchar_mask _)) ?_
      exact ⟨_, rfl, _, rfl, mask_lat _, rfl⟩
    · intro _
      refine Wk.iload_n (q := 16) d48_15 rfl rfl ?_
      refine Wk.ireturn (t := .char) d48_16 rfl (by simp) (congrArg Value.int (nchar_lat hb)) ?_
      exact ⟨_, rfl, _, rfl, hb, rfl⟩
  · intro _
    refine Wk.iload_n (q := 9) d48_8 rfl rfl ?_
    refine Wk.ireturn (t := .char) d48_9 rfl (by simp) (congrArg Value.int (nchar_lat ha)) ?_
    exact ⟨_, rfl, _, rfl, ha, rfl⟩
set_option maxHeartbeats 4000000 in
theorem ct_ltail {l : Launch} {Z : State} {a0 : Array Value} (hw : ∀ d ∈ tables_1, d.before a0 Z = true) (hE : EW Z a0 EL0) {L : Store} {a b : Int32} (ha : Lat1 a) (hb : Lat1 b) : Ct l Z EL0 (⟨"com/example/webhook_signature_check/webhooksignaturecheck/HeaderElementsReadPinLaw", "tail", "(CC)[C"⟩ : MethodName) method_4_code 2 (some (.array .char)) ({ frames := 0, cells := 1, slots := 2, locals := 0 } : Room) #[.int a, .int b] L (RV fun u M => ∃ r, u = .ref r ∧ M = (r, true, AR Z .char ((tailF a b).map .int)) :: L) := by
  refine Ct.of (a0 := a0) (Ls := [.val (.int _), .val (.int _)]) (plainFor_of_name pn_13) (fun m => ef_ii_2 m _ _) hE ?_
  refine Wk.iload_n (q := 1) d49_0 rfl rfl ?_
  refine Wk.bipush (q := 3) (44) d49_1 rfl (by decide) ?_
  by_cases e1 : a = 44
  · rw [tailF, if_pos e1]
    refine Wk.icmp_f (q := 6) d49_3 rfl (XT.ii_ne_f e1) ?_
    refine Wk.iconst (q := 7) (0) d49_6 rfl (by decide) ?_
    refine Wk.newarray (q := 9) .char (0) [] d49_7 rfl rfl rfl (hw _ (List.mem_of_getElem? (i := 4) rfl)) (by decide) (by decide) (by decide) (by first | decide | (dsimp only; omega) | omega) (by first | decide | (dsimp only; omega) | omega) ?_
    intro r
    refine Wk.areturn (t := (.array .char)) d49_9 rfl rfl (by first | rfl | exact narO | exact narA) (by first | rfl | assumption) ?_
    exact ⟨_, rfl, r, rfl, rfl⟩
  · rw [tailF, if_neg e1]
    refine Wk.icmp_t (q := 10) d49_3 (by decide) (by decide) (XT.ii_ne_t e1) ?_
    refine Wk.iload_n (q := 11) d49_10 rfl rfl ?_
    refine Wk.bipush (q := 13) (44) d49_11 rfl (by decide) ?_
    have j34 : ¬ (¬ b = 44 ∧ ¬ b.toInt ≤ 32) → ∀ cb sb : Nat, 1 ≤ cb → 2 ≤ sb → Wk l Z a0 EL0 (⟨"com/example/webhook_signature_check/webhooksignaturecheck/HeaderElementsReadPinLaw", "tail", "(CC)[C"⟩ : MethodName) method_4_code 2 (some (.array .char)) ({ frames := 0, cells := 1, slots := 2, locals := 0 } : Room) (RV fun u M => ∃ r, u = .ref r ∧ M = (r, true, AR Z .char ((if ¬ b = 44 ∧ ¬ b.toInt ≤ 32 then [a, b] else if ¬ a.toInt ≤ 32 then [a] else []).map .int)) :: L) L cb sb 34 [.val (.int a), .val (.int b)] [] := by
      intro h cb sb q1 q2
      rw [if_neg h]
      refine Wk.iload_n (q := 35) d49_34 rfl rfl ?_
      refine Wk.bipush (q := 37) (32) d49_35 rfl (by decide) ?_
      by_cases e3 : ¬ a.toInt ≤ 32
      · rw [if_pos e3]
        refine Wk.icmp_f (q := 40) d49_37 rfl (XT.ii_le_f (lt_of (show (32 : Int) < _ by omega))) ?_
        refine Wk.iconst (q := 41) (1) d49_40 rfl (by decide) ?_
        refine Wk.newarray (q := 43) .char (1) [(.int 0)] d49_41 rfl rfl rfl (hw _ (List.mem_of_getElem? (i := 4) rfl)) (by decide) (by decide) (by decide) (by first | decide | (dsimp only; omega) | omega) (by first | decide | (dsimp only; omega) | omega) ?_
        intro r
        refine Wk.dup (q := 44) d49_43 rfl rfl ?_
        refine Wk.iconst (q := 45) (0) d49_44 rfl (by decide) ?_
        refine Wk.iload_n (q := 46) d49_45 rfl rfl ?_
        refine Wk.castore (q := 47) (0) d49_46 rfl (by repeat (first | exact Ex.here | assumption | apply Ex.there)) (by decide) (by decide) (nchar_lat ha) (VS.here) ?_
        refine Wk.areturn (t := (.array .char)) d49_47 rfl rfl (by first | rfl | exact narO | exact narA) (by first | rfl | assumption) ?_
        exact ⟨_, rfl, r, rfl, rfl⟩
      · rw [if_neg e3]
        refine Wk.icmp_t (q := 48) d49_37 (by decide) (by decide) (XT.ii_le_t (nlt_of (Classical.not_not.mp e3))) ?_
        refine Wk.iconst (q := 49) (0) d49_48 rfl (by decide) ?_
        refine Wk.newarray (q := 51) .char (0) [] d49_49 rfl rfl rfl (hw _ (List.mem_of_getElem? (i := 4) rfl)) (by decide) (by decide) (by decide) (by first | decide | (dsimp only; omega) | omega) (by first | decide | (dsimp only; omega) | omega) ?_
        intro r
        refine Wk.areturn (t := (.array .char)) d49_51 rfl rfl (by first | rfl | exact narO | exact narA) (by first | rfl | assumption) ?_
        exact ⟨_, rfl, r, rfl, rfl⟩
    by_cases e2 : b = 44
    · refine Wk.icmp_t (q := 34) d49_13 (by decide) (by decide) (XT.ii_eq_t e2) ?_
      exact j34 (fun h => h.1 e2) _ _ (by decide) (by decide)
    · refine Wk.icmp_f (q := 16) d49_13 rfl (XT.ii_eq_f e2) ?_
      refine Wk.iload_n (q := 17) d49_16 rfl rfl ?_
      refine Wk.bipush (q := 19) (32) d49_17 rfl (by decide) ?_
      by_cases e3 : b.toInt ≤ 32
      · refine Wk.icmp_t (q := 34) d49_19 (by decide) (by decide) (XT.ii_le_t (nlt_of e3)) ?_
        exact j34 (fun h => h.2 e3) _ _ (by decide) (by decide)
      · rw [if_pos ⟨e2, e3⟩]
        refine Wk.icmp_f (q := 22) d49_19 rfl (XT.ii_le_f (lt_of (show (32 : Int) < _ by omega))) ?_
        refine Wk.iconst (q := 23) (2) d49_22 rfl (by decide) ?_
        refine Wk.newarray (q := 25) .char (2) [(.int 0), (.int 0)] d49_23 rfl rfl rfl (hw _ (List.mem_of_getElem? (i := 4) rfl)) (by decide) (by decide) (by decide) (by first | decide | (dsimp only; omega) | omega) (by first | decide | (dsimp only; omega) | omega) ?_
        intro r
        refine Wk.dup (q := 26) d49_25 rfl rfl ?_
        refine Wk.iconst (q := 27) (0) d49_26 rfl (by decide) ?_
        refine Wk.iload_n (q := 28) d49_27 rfl rfl ?_
        refine Wk.castore (q := 29) (0) d49_28 rfl (by repeat (first | exact Ex.here | assumption | apply Ex.there)) (by decide) (by decide) (nchar_lat ha) (VS.here) ?_
        refine Wk.dup (q := 30) d49_29 rfl rfl ?_
        refine Wk.iconst (q := 31) (1) d49_30 rfl (by decide) ?_
        refine Wk.iload_n (q := 32) d49_31 rfl rfl ?_
        refine Wk.castore (q := 33) (1) d49_32 rfl (by repeat (first | exact Ex.here | assumption | apply Ex.there)) (by decide) (by decide) (nchar_lat hb) (VS.there (VS.here)) ?_
        refine Wk.areturn (t := (.array .char)) d49_33 rfl rfl (by first | rfl | exact narO | exact narA) (by first | rfl | assumption) ?_
        exact ⟨_, rfl, r, rfl, rfl⟩
theorem tail_cs (a b : Int32) : tailF a b = [] ∨ (∃ y, tailF a b = [y] ∧ (y = a ∨ y = b)) ∨ tailF a b = [a, b] := by
  unfold tailF
  split
  · exact Or.inl rfl
  · split
    · exact Or.inr (Or.inr rfl)
    · split
      · exact Or.inr (Or.inl ⟨a, rfl, Or.inl rfl⟩)
      · exact Or.inl rfl
theorem tail_lat {a b : Int32} (ha : Lat1 a) (hb : Lat1 b) : Lat (tailF a b) := by
  rcases tail_cs a b with h | ⟨y, h, rfl | rfl⟩ | h <;> rw [h]
  · exact lat_nil
  · exact lat_cons ha lat_nil
  · exact lat_cons hb lat_nil
  · exact lat_cons ha (lat_cons hb lat_nil)
theorem tail_len (a b : Int32) : (tailF a b).length ≤ 2 := by
  rcases tail_cs a b with h | ⟨y, h, -⟩ | h <;> rw [h] <;> simp
set_option maxHeartbeats 4000000 in
theorem ct_lweq {l : Launch} {Z : State} {a0 : Array Value} (hw : ∀ d ∈ tables_1, d.before a0 Z = true) (hE : EW Z a0 EL0) {L : Store} {a b : Int32} (ha : Lat1 a) (hb : Lat1 b) : Ct l Z EL0 (⟨"com/example/webhook_signature_check/webhooksignaturecheck/HeaderElementsReadPinLaw", "withEq", "(CC)[C"⟩ : MethodName) method_5_code 3 (some (.array .char)) ({ frames := 1, cells := 2, slots := 5, locals := 13 } : Room) #[.int a, .int b] L (RV fun u M => ∃ r, u = .ref r ∧ M = (r, true, AR Z .char ((61 :: tailF a b).map .int)) :: L) := by
  have tl := tail_lat ha hb
  refine Ct.of (a0 := a0) (Ls := [.val (.int _), .val (.int _), .unset]) (plainFor_of_name pn_13) (fun m => ef_ii_3 m _ _) hE ?_
  refine Wk.iload_n (q := 1) d50_0 rfl rfl ?_
  refine Wk.iload_n (q := 2) d50_1 rfl rfl ?_
  refine Wk.static (q := 5) [_, _] _ 0 d50_2 rfl (hw _ (List.mem_of_getElem? (i := 138) rfl)) (hw _ (List.mem_of_getElem? (i := 139) rfl)) (hw _ (List.mem_of_getElem? (i := 2) rfl)) (hw _ (List.mem_of_getElem? (i := 140) rfl)) ar_33 (by decide) rfl rfl rfl rfl (ct_ltail hw hE ha hb) (by first | decide | (dsimp only; omega) | omega) (by first | decide | (dsimp only; omega) | omega) (by first | decide | (dsimp only; omega) | omega) (by first | decide | (dsimp only; omega) | omega) (kv ?_)
  rintro _ _ ⟨r0, rfl, rfl⟩
  rcases tail_cs a b with h | ⟨y, h, -⟩ | h <;> rw [h] at tl ⊢
  · refine Wk.astore_n (q := 6) d50_5 rfl (by first | rfl | assumption) (LS1.there (LS1.there (LS1.here (by first | exact One.u | exact One.val rfl | assumption)))) ?_
    refine Wk.aload_n (q := 7) d50_6 rfl rfl (by first | rfl | assumption) ?_
    refine Wk.arraylength (q := 8) d50_7 rfl (by repeat (first | exact List.mem_cons_self | assumption | refine List.mem_cons_of_mem _ ?_)) (show (([] : List Int32).map Value.int).length.toInt32 = 0 from rfl) ?_
    refine Wk.if_f (q := 11) d50_8 rfl (by decide) ?_
    refine Wk.iconst (q := 12) (1) d50_11 rfl (by decide) ?_
    refine Wk.newarray (q := 14) .char (1) [(.int 0)] d50_12 rfl rfl rfl (hw _ (List.mem_of_getElem? (i := 4) rfl)) (by decide) (by decide) (by decide) (by first | decide | (dsimp only; omega) | omega) (by first | decide | (dsimp only; omega) | omega) ?_
    intro r
    refine Wk.dup (q := 15) d50_14 rfl rfl ?_
    refine Wk.iconst (q := 16) (0) d50_15 rfl (by decide) ?_
    refine Wk.bipush (q := 18) (61) d50_16 rfl (by decide) ?_
    refine Wk.castore (q := 19) (0) d50_18 rfl (by repeat (first | exact Ex.here | assumption | apply Ex.there)) (by decide) (by decide) (by rfl) (VS.here) ?_
    refine Wk.sub (.cons_cons _ (.cons _ (.refl _))) ?_
    refine Wk.areturn (t := (.array .char)) d50_19 rfl rfl (by first | rfl | exact narO | exact narA) (by first | rfl | assumption) ?_
    exact ⟨_, rfl, r, rfl, rfl⟩
  · have hy := tl y List.mem_cons_self
    refine Wk.astore_n (q := 6) d50_5 rfl (by first | rfl | assumption) (LS1.there (LS1.there (LS1.here (by first | exact One.u | exact One.val rfl | assumption)))) ?_
    refine Wk.aload_n (q := 7) d50_6 rfl rfl (by first | rfl | assumption) ?_
    refine Wk.arraylength (q := 8) d50_7 rfl (by repeat (first | exact List.mem_cons_self | assumption | refine List.mem_cons_of_mem _ ?_)) (show (([y] : List Int32).map Value.int).length.toInt32 = 1 from rfl) ?_
    refine Wk.if_t (q := 20) d50_8 (by decide) (by decide) (by decide) ?_
    refine Wk.aload_n (q := 21) d50_20 rfl rfl (by first | rfl | assumption) ?_
    refine Wk.arraylength (q := 22) d50_21 rfl (by repeat (first | exact List.mem_cons_self | assumption | refine List.mem_cons_of_mem _ ?_)) (show (([y] : List Int32).map Value.int).length.toInt32 = 1 from rfl) ?_
    refine Wk.iconst (q := 23) (1) d50_22 rfl (by decide) ?_
    refine Wk.icmp_f (q := 26) d50_23 rfl (by decide) ?_
    refine Wk.iconst (q := 27) (2) d50_26 rfl (by decide) ?_
    refine Wk.newarray (q := 29) .char (2) [(.int 0), (.int 0)] d50_27 rfl rfl rfl (hw _ (List.mem_of_getElem? (i := 4) rfl)) (by decide) (by decide) (by decide) (by first | decide | (dsimp only; omega) | omega) (by first | decide | (dsimp only; omega) | omega) ?_
    intro r
    refine Wk.dup (q := 30) d50_29 rfl rfl ?_
    refine Wk.iconst (q := 31) (0) d50_30 rfl (by decide) ?_
    refine Wk.bipush (q := 33) (61) d50_31 rfl (by decide) ?_
    refine Wk.castore (q := 34) (0) d50_33 rfl (by repeat (first | exact Ex.here | assumption | apply Ex.there)) (by decide) (by decide) (by rfl) (VS.here) ?_
    refine Wk.dup (q := 35) d50_34 rfl rfl ?_
    refine Wk.iconst (q := 36) (1) d50_35 rfl (by decide) ?_
    refine Wk.aload_n (q := 37) d50_36 rfl rfl (by first | rfl | assumption) ?_
    refine Wk.iconst (q := 38) (0) d50_37 rfl (by decide) ?_
    refine Wk.caload (q := 39) (0) d50_38 rfl (by repeat (first | exact List.mem_cons_self | assumption | refine List.mem_cons_of_mem _ ?_)) (by decide) (by decide) (by rfl) ?_
    refine Wk.castore (q := 40) (1) d50_39 rfl (by repeat (first | exact Ex.here | assumption | apply Ex.there)) (by decide) (by decide) (nchar_lat hy) (VS.there (VS.here)) ?_
    refine Wk.sub (.cons_cons _ (.cons _ (.refl _))) ?_
    refine Wk.areturn (t := (.array .char)) d50_40 rfl rfl (by first | rfl | exact narO | exact narA) (by first | rfl | assumption) ?_
    exact ⟨_, rfl, r, rfl, rfl⟩
  · refine Wk.astore_n (q := 6) d50_5 rfl (by first | rfl | assumption) (LS1.there (LS1.there (LS1.here (by first | exact One.u | exact One.val rfl | assumption)))) ?_
    refine Wk.aload_n (q := 7) d50_6 rfl rfl (by first | rfl | assumption) ?_
    refine Wk.arraylength (q := 8) d50_7 rfl (by repeat (first | exact List.mem_cons_self | assumption | refine List.mem_cons_of_mem _ ?_)) (show (([a, b] : List Int32).map Value.int).length.toInt32 = 2 from rfl) ?_
    refine Wk.if_t (q := 20) d50_8 (by decide) (by decide) (by decide) ?_
    refine Wk.aload_n (q := 21) d50_20 rfl rfl (by first | rfl | assumption) ?_
    refine Wk.arraylength (q := 22) d50_21 rfl (by repeat (first | exact List.mem_cons_self | assumption | refine List.mem_cons_of_mem _ ?_)) (show (([a, b] : List Int32).map Value.int).length.toInt32 = 2 from rfl) ?_
    refine Wk.iconst (q := 23) (1) d50_22 rfl (by decide) ?_
    refine Wk.icmp_t (q := 41) d50_23 (by decide) (by decide) (by decide) ?_
    refine Wk.iconst (q := 42) (3) d50_41 rfl (by decide) ?_
    refine Wk.newarray (q := 44) .char (3) [(.int 0), (.int 0), (.int 0)] d50_42 rfl rfl rfl (hw _ (List.mem_of_getElem? (i := 4) rfl)) (by decide) (by decide) (by decide) (by first | decide | (dsimp only; omega) | omega) (by first | decide | (dsimp only; omega) | omega) ?_
    intro r
    refine Wk.dup (q := 45) d50_44 rfl rfl ?_
    refine Wk.iconst (q := 46) (0) d50_45 rfl (by decide) ?_
    refine Wk.bipush (q := 48) (61) d50_46 rfl (by decide) ?_
    refine Wk.castore (q := 49) (0) d50_48 rfl (by repeat (first | exact Ex.here | assumption | apply Ex.there)) (by decide) (by decide) (by rfl) (VS.here) ?_
    refine Wk.dup (q := 50) d50_49 rfl rfl ?_
    refine Wk.iconst (q := 51) (1) d50_50 rfl (by decide) ?_
    refine Wk.aload_n (q := 52) d50_51 rfl rfl (by first | rfl | assumption) ?_
    refine Wk.iconst (q := 53) (0) d50_52 rfl (by decide) ?_
    refine Wk.caload (q := 54) (0) d50_53 rfl (by repeat (first | exact List.mem_cons_self | assumption | refine List.mem_cons_of_mem _ ?_)) (by decide) (by decide) (by rfl) ?_
    refine Wk.castore (q := 55) (1) d50_54 rfl (by repeat (first | exact Ex.here | assumption | apply Ex.there)) (by decide) (by decide) (nchar_lat ha) (VS.there (VS.here)) ?_
    refine Wk.dup (q := 56) d50_55 rfl rfl ?_
    refine Wk.iconst (q := 57) (2) d50_56 rfl (by decide) ?_
    refine Wk.aload_n (q := 58) d50_57 rfl rfl (by first | rfl | assumption) ?_
    refine Wk.iconst (q := 59) (1) d50_58 rfl (by decide) ?_
    refine Wk.caload (q := 60) (1) d50_59 rfl (by repeat (first | exact List.mem_cons_self | assumption | refine List.mem_cons_of_mem _ ?_)) (by decide) (by decide) (by rfl) ?_
    refine Wk.castore (q := 61) (2) d50_60 rfl (by repeat (first | exact Ex.here | assumption | apply Ex.there)) (by decide) (by decide) (nchar_lat hb) (VS.there (VS.there (VS.here))) ?_
    refine Wk.sub (.cons_cons _ (.cons _ (.refl _))) ?_
    refine Wk.areturn (t := (.array .char)) d50_61 rfl rfl (by first | rfl | exact narO | exact narA) (by first | rfl | assumption) ?_
    exact ⟨_, rfl, r, rfl, rfl⟩
def v2F (d : Int32) : List Int32 := if ¬ d.toInt ≤ 32 ∧ ¬ d = 44 then [d] else []
/-- what the law asks of the list -/
theorem sl1 {lc pc c1 t q e d : Int32} (f : Nat) (hf : f = 2 ∨ f = 3) : (([lc, pc, 61, c1, t, 44, q, e, d] : List Int32).drop f).take (te (cl c1) (cl t) - f) = (if f = 2 then 61 :: tailF c1 t else tailF c1 t) := by
  rcases te_tail c1 t with ⟨h1, h2⟩ | ⟨h1, h2⟩ | ⟨h1, h2⟩ <;> rcases hf with rfl | rfl <;> rw [h1, h2] <;> rfl
theorem sl2 {lc pc c1 t q e d : Int32} : (([lc, pc, 61, c1, t, 44, q, e, d] : List Int32).drop 8).take ((if (cl d).isB || (cl d).isC then 8 else 9) - 8) = v2F d := by
  unfold v2F
  by_cases h : ¬ d.toInt ≤ 32 ∧ ¬ d = 44
  · have f1 : (cl d).isB = false := by cases q : (cl d).isB; rfl; exact absurd ((cl_b _).mp q) h.1
    have f2 : (cl d).isC = false := by cases q : (cl d).isC; rfl; exact absurd ((cl_c _).mp q) h.2
    rw [if_pos h, f1, f2]; rfl
  · rw [if_neg h]
    have : ((cl d).isB || (cl d).isC) = true := by
      by_cases h1 : d.toInt ≤ 32
      · rw [(cl_b _).mpr h1]; rfl
      · have h2 : d = 44 := Classical.not_not.mp (fun z => h ⟨h1, z⟩)
        rw [(cl_c _).mpr h2, Bool.or_true]
    rw [this]; rfl

set_option maxRecDepth 65536 in
set_option maxHeartbeats 8000000 in
theorem wk_end {l : Launch} {Z : State} {a0 : Array Value} (hw : ∀ d ∈ tables_1, d.before a0 Z = true) (hE : EW Z a0 EL0) (F : ∃ z, z ≠ (0 : Int32) ∧ Sta Z Z.heap "java/lang/String" "COMPACT_STRINGS" "Z" (.int z)) {L M : Store} {i0 i1 i2 i3 i4 lc pc c1 t q e d p14 p15 p16 p17 : Int32} {ca al dd v1 b1 v2 b2 : Addr} {f1 g1 f2 g2 : Bool} {w1 w2 : List Int32} {acc1 acc2 : List (Nat × Nat)} (hw1 : w1.length ≤ 3) (hw2 : w2.length ≤ 3) (hM : LI Z [lc, pc, 61, c1, t, 44, q, e, d] L dd al (acc1 ++ acc2) M)
    (h16 : (p16 = 1 ∧ ∃ f z, acc1 = [(f, z)] ∧ (([lc, pc, 61, c1, t, 44, q, e, d] : List Int32).drop f).take (z - f) = w1) ∨ (p16 = 0 ∧ acc1 = [])) (h17 : (p17 = 1 ∧ ∃ f z, acc2 = [(f, z)] ∧ (([lc, pc, 61, c1, t, 44, q, e, d] : List Int32).drop f).take (z - f) = w2) ∨ (p17 = 0 ∧ acc2 = []))
    (E : Store) (m1 : (v1, f1, OB Z "java/lang/String" layS [.ref b1, .int 0]) ∈ E) (n1 : (b1, g1, AR Z .byte ((w1.map b8).map .int)) ∈ E) (m2 : (v2, f2, OB Z "java/lang/String" layS [.ref b2, .int 0]) ∈ E) (n2 : (b2, g2, AR Z .byte ((w2.map b8).map .int)) ∈ E) {cb sb : Nat} :
    Wk l Z a0 EL0 x code 20 (some .boolean) room_1 (RV fun u M => u = .int 1) (E ++ M) cb sb 304 [.val (.int i0), .val (.int i1), .val (.int i2), .val (.int i3), .val (.int i4), .val (.int lc), .val (.int pc), .val (.int c1), .val (.int t), .val (.int q), .val (.int d), .val (.int e), .val (.ref ca), .val (.ref al), .val (.int p14), .val (.int p15), .val (.int p16), .val (.int p17), .val (.ref v1), .val (.ref v2)] [] := by
  have eE : ∀ y ∈ E, y ∈ E ++ M := fun y hy => List.mem_append_left _ hy
  have eM : ∀ y ∈ M, y ∈ E ++ M := fun y hy => List.mem_append_right _ hy
  have lw1 : (w1.map b8).length < 2 ^ 31 := by rw [List.length_map]; omega
  have lw2 : (w2.map b8).length < 2 ^ 31 := by rw [List.length_map]; omega
  rcases h16 with ⟨rfl, f, z, rfl, hs1⟩ | ⟨rfl, rfl⟩ <;> rcases h17 with ⟨rfl, f', z', rfl, hs2⟩ | ⟨rfl, rfl⟩
  · rcases hM with ⟨h0, -⟩ | ⟨-, ar, xs, m, M', hx, rfl, -, hel⟩
    · exact nomatch h0
    obtain ⟨y1, y2, rfl⟩ : ∃ y1 y2, xs = [y1, y2] := by
      match xs, hx with
      | [y1, y2], _ => exact ⟨y1, y2, rfl⟩
    obtain ⟨d1, ff1, gg1, k1, k2⟩ := hel 0 y1 _ rfl rfl
    obtain ⟨d2, ff2, gg2, k3, k4⟩ := hel 1 y2 _ rfl rfl
    rw [hs1] at k2
    rw [hs2] at k4
    rw [show ([(f, z)] ++ [(f', z')] : List (Nat × Nat)).length.toInt32 = (2 : Int32) from rfl] at eE eM ⊢
    have kal := eM _ (List.mem_cons_self (a := (al, true, OB Z "java/util/ArrayList" layAL [.ref ar, .int 2, .int m])))
    have kar := eM _ (List.mem_cons_of_mem _ (List.mem_cons_self (a := (ar, true, RA Z "java/lang/Object" (([y1, y2] : List Addr).map Value.ref ++ List.replicate (10 - ([(f, z)] ++ [(f', z')]).length) .null)))))
    have e1 := fun y hy => eM y (List.mem_cons_of_mem _ (List.mem_cons_of_mem _ hy))
    have ky1 := e1 _ k1
    have ky2 := e1 _ k3
    refine Wk.iload (q := 306) at_304 rfl rfl ?_
    refine Wk.if_f (q := 309) at_306 rfl (by decide) ?_
    refine Wk.iload (q := 311) at_309 rfl rfl ?_
    refine Wk.if_f (q := 314) at_311 rfl (by decide) ?_
    refine Wk.aload (q := 316) at_314 rfl rfl (by first | rfl | assumption) ?_
    refine Wk.interface (q := 321) (C := "java/util/ArrayList") [] _ 0 at_316 rfl (hw _ (List.mem_of_getElem? (i := 143) rfl)) (hw _ (List.mem_of_getElem? (i := 144) rfl)) (hw _ (List.mem_of_getElem? (i := 145) rfl)) (by rfl) (hw _ (List.mem_of_getElem? (i := 146) rfl)) (hw _ (List.mem_of_getElem? (i := 147) rfl)) (hw _ (List.mem_of_getElem? (i := 148) rfl)) (hw _ (List.mem_of_getElem? (i := 149) rfl)) (hw _ (List.mem_of_getElem? (i := 150) rfl)) (hw _ (List.mem_of_getElem? (i := 62) rfl)) (hw _ (List.mem_of_getElem? (i := 151) rfl)) ar_14 (by decide) (by repeat (first | exact List.mem_cons_self | assumption | refine List.mem_cons_of_mem _ ?_)) rfl rfl rfl rfl (ct_alSz hw hE kal) (by first | decide | (dsimp only; omega) | omega) (by first | decide | (dsimp only; omega) | omega) (by first | decide | (dsimp only; omega) | omega) (by first | decide | (dsimp only; omega) | omega) (kv ?_)
    rintro _ _ ⟨rfl, rfl⟩
    refine Wk.iconst (q := 322) (2) at_321 rfl (by decide) ?_
    refine Wk.icmp_f (q := 325) at_322 rfl (by decide) ?_
    refine Wk.aload (q := 327) at_325 rfl rfl (by first | rfl | assumption) ?_
    refine Wk.iconst (q := 328) (0) at_327 rfl (by decide) ?_
    refine Wk.interface (q := 333) (C := "java/util/ArrayList") [_] _ 0 at_328 rfl (hw _ (List.mem_of_getElem? (i := 207) rfl)) (hw _ (List.mem_of_getElem? (i := 208) rfl)) (hw _ (List.mem_of_getElem? (i := 209) rfl)) (by rfl) (hw _ (List.mem_of_getElem? (i := 210) rfl)) (hw _ (List.mem_of_getElem? (i := 211) rfl)) (hw _ (List.mem_of_getElem? (i := 212) rfl)) (hw _ (List.mem_of_getElem? (i := 213) rfl)) (hw _ (List.mem_of_getElem? (i := 150) rfl)) (hw _ (List.mem_of_getElem? (i := 62) rfl)) (hw _ (List.mem_of_getElem? (i := 214) rfl)) ar_26 (by decide) (by repeat (first | exact List.mem_cons_self | assumption | refine List.mem_cons_of_mem _ ?_)) rfl rfl rfl rfl (ct_alGt hw hE 0 (by decide) (by decide) (by decide) rfl kal kar) (by first | decide | (dsimp only; omega) | omega) (by first | decide | (dsimp only; omega) | omega) (by first | decide | (dsimp only; omega) | omega) (by first | decide | (dsimp only; omega) | omega) (kv ?_)
    rintro _ _ ⟨rfl, rfl⟩
    refine Wk.checkcast (q := 336) (C := "java/lang/String") at_333 rfl (hw _ (List.mem_of_getElem? (i := 5) rfl)) (e1 _ k1) (hw _ (List.mem_of_getElem? (i := 13) rfl)) ?_
    refine Wk.aload (q := 338) at_336 rfl rfl (by first | rfl | assumption) ?_
    refine Wk.virtual (q := 341) (C := "java/lang/String") [_] _ 0 at_338 rfl (hw _ (List.mem_of_getElem? (i := 224) rfl)) (hw _ (List.mem_of_getElem? (i := 225) rfl)) (hw _ (List.mem_of_getElem? (i := 227) rfl)) (hw _ (List.mem_of_getElem? (i := 226) rfl)) (hw _ (List.mem_of_getElem? (i := 7) rfl)) (hw _ (List.mem_of_getElem? (i := 228) rfl)) ar_32 (by decide) (nfSel (hw _ (List.mem_of_getElem? (i := 227) rfl))) (by repeat (first | exact List.mem_cons_self | assumption | refine List.mem_cons_of_mem _ ?_)) rfl rfl rfl rfl (ct_strEq hw hE F lw1 lw1 (e1 _ k1) (eE _ m1) (e1 _ k2) (eE _ n1)) (by first | decide | (dsimp only; omega) | omega) (by first | decide | (dsimp only; omega) | omega) (by first | decide | (dsimp only; omega) | omega) (by first | decide | (dsimp only; omega) | omega) (kv ?_)
    rintro _ _ ⟨rfl, rfl⟩
    rw [if_pos rfl]
    refine Wk.if_f (q := 344) at_341 rfl (by decide) ?_
    refine Wk.aload (q := 346) at_344 rfl rfl (by first | rfl | assumption) ?_
    refine Wk.iconst (q := 347) (1) at_346 rfl (by decide) ?_
    refine Wk.interface (q := 352) (C := "java/util/ArrayList") [_] _ 0 at_347 rfl (hw _ (List.mem_of_getElem? (i := 207) rfl)) (hw _ (List.mem_of_getElem? (i := 208) rfl)) (hw _ (List.mem_of_getElem? (i := 209) rfl)) (by rfl) (hw _ (List.mem_of_getElem? (i := 210) rfl)) (hw _ (List.mem_of_getElem? (i := 211) rfl)) (hw _ (List.mem_of_getElem? (i := 212) rfl)) (hw _ (List.mem_of_getElem? (i := 213) rfl)) (hw _ (List.mem_of_getElem? (i := 150) rfl)) (hw _ (List.mem_of_getElem? (i := 62) rfl)) (hw _ (List.mem_of_getElem? (i := 214) rfl)) ar_26 (by decide) (by repeat (first | exact List.mem_cons_self | assumption | refine List.mem_cons_of_mem _ ?_)) rfl rfl rfl rfl (ct_alGt hw hE 1 (by decide) (by decide) (by decide) rfl kal kar) (by first | decide | (dsimp only; omega) | omega) (by first | decide | (dsimp only; omega) | omega) (by first | decide | (dsimp only; omega) | omega) (by first | decide | (dsimp only; omega) | omega) (kv ?_)
    rintro _ _ ⟨rfl, rfl⟩
    refine Wk.checkcast (q := 355) (C := "java/lang/String") at_352 rfl (hw _ (List.mem_of_getElem? (i := 5) rfl)) (e1 _ k3) (hw _ (List.mem_of_getElem? (i := 13) rfl)) ?_
    refine Wk.aload (q := 357) at_355 rfl rfl (by first | rfl | assumption) ?_
    refine Wk.virtual (q := 360) (C := "java/lang/String") [_] _ 0 at_357 rfl (hw _ (List.mem_of_getElem? (i := 224) rfl)) (hw _ (List.mem_of_getElem? (i := 225) rfl)) (hw _ (List.mem_of_getElem? (i := 227) rfl)) (hw _ (List.mem_of_getElem? (i := 226) rfl)) (hw _ (List.mem_of_getElem? (i := 7) rfl)) (hw _ (List.mem_of_getElem? (i := 228) rfl)) ar_32 (by decide) (nfSel (hw _ (List.mem_of_getElem? (i := 227) rfl))) (by repeat (first | exact List.mem_cons_self | assumption | refine List.mem_cons_of_mem _ ?_)) rfl rfl rfl rfl (ct_strEq hw hE F lw2 lw2 (e1 _ k3) (eE _ m2) (e1 _ k4) (eE _ n2)) (by first | decide | (dsimp only; omega) | omega) (by first | decide | (dsimp only; omega) | omega) (by first | decide | (dsimp only; omega) | omega) (by first | decide | (dsimp only; omega) | omega) (kv ?_)
    rintro _ _ ⟨rfl, rfl⟩
    rw [if_pos rfl]
    refine Wk.if_f (q := 363) at_360 rfl (by decide) ?_
    refine Wk.iconst (q := 364) (1) at_363 rfl (by decide) ?_
    refine Wk.goto (q := 368) at_364 (by decide) (by decide) ?_
    refine Wk.ireturn (t := .boolean) at_368 rfl (by simp) (by rfl) ?_
    exact ⟨_, rfl, rfl⟩
  · rcases hM with ⟨h0, -⟩ | ⟨-, ar, xs, m, M', hx, rfl, -, hel⟩
    · exact nomatch h0
    obtain ⟨y1, rfl⟩ : ∃ y1, xs = [y1] := by
      match xs, hx with
      | [y1], _ => exact ⟨y1, rfl⟩
    obtain ⟨d1, ff1, gg1, k1, k2⟩ := hel 0 y1 _ rfl rfl
    rw [hs1] at k2
    rw [show ([(f, z)] ++ [] : List (Nat × Nat)).length.toInt32 = (1 : Int32) from rfl] at eE eM ⊢
    have kal := eM _ (List.mem_cons_self (a := (al, true, OB Z "java/util/ArrayList" layAL [.ref ar, .int 1, .int m])))
    have kar := eM _ (List.mem_cons_of_mem _ (List.mem_cons_self (a := (ar, true, RA Z "java/lang/Object" (([y1] : List Addr).map Value.ref ++ List.replicate (10 - ([(f, z)] ++ []).length) .null)))))
    have e1 := fun y hy => eM y (List.mem_cons_of_mem _ (List.mem_cons_of_mem _ hy))
    have ky1 := e1 _ k1
    refine Wk.iload (q := 306) at_304 rfl rfl ?_
    refine Wk.if_f (q := 309) at_306 rfl (by decide) ?_
    refine Wk.iload (q := 311) at_309 rfl rfl ?_
    refine Wk.if_t (q := 369) at_311 (by decide) (by decide) (by decide) ?_
    refine Wk.iload (q := 371) at_369 rfl rfl ?_
    refine Wk.if_f (q := 374) at_371 rfl (by decide) ?_
    refine Wk.aload (q := 376) at_374 rfl rfl (by first | rfl | assumption) ?_
    refine Wk.interface (q := 381) (C := "java/util/ArrayList") [] _ 0 at_376 rfl (hw _ (List.mem_of_getElem? (i := 143) rfl)) (hw _ (List.mem_of_getElem? (i := 144) rfl)) (hw _ (List.mem_of_getElem? (i := 145) rfl)) (by rfl) (hw _ (List.mem_of_getElem? (i := 146) rfl)) (hw _ (List.mem_of_getElem? (i := 147) rfl)) (hw _ (List.mem_of_getElem? (i := 148) rfl)) (hw _ (List.mem_of_getElem? (i := 149) rfl)) (hw _ (List.mem_of_getElem? (i := 150) rfl)) (hw _ (List.mem_of_getElem? (i := 62) rfl)) (hw _ (List.mem_of_getElem? (i := 151) rfl)) ar_14 (by decide) (by repeat (first | exact List.mem_cons_self | assumption | refine List.mem_cons_of_mem _ ?_)) rfl rfl rfl rfl (ct_alSz hw hE kal) (by first | decide | (dsimp only; omega) | omega) (by first | decide | (dsimp only; omega) | omega) (by first | decide | (dsimp only; omega) | omega) (by first | decide | (dsimp only; omega) | omega) (kv ?_)
    rintro _ _ ⟨rfl, rfl⟩
    refine Wk.iconst (q := 382) (1) at_381 rfl (by decide) ?_
    refine Wk.icmp_f (q := 385) at_382 rfl (by decide) ?_
    refine Wk.aload (q := 387) at_385 rfl rfl (by first | rfl | assumption) ?_
    refine Wk.iconst (q := 388) (0) at_387 rfl (by decide) ?_
    refine Wk.interface (q := 393) (C := "java/util/ArrayList") [_] _ 0 at_388 rfl (hw _ (List.mem_of_getElem? (i := 207) rfl)) (hw _ (List.mem_of_getElem? (i := 208) rfl)) (hw _ (List.mem_of_getElem? (i := 209) rfl)) (by rfl) (hw _ (List.mem_of_getElem? (i := 210) rfl)) (hw _ (List.mem_of_getElem? (i := 211) rfl)) (hw _ (List.mem_of_getElem? (i := 212) rfl)) (hw _ (List.mem_of_getElem? (i := 213) rfl)) (hw _ (List.mem_of_getElem? (i := 150) rfl)) (hw _ (List.mem_of_getElem? (i := 62) rfl)) (hw _ (List.mem_of_getElem? (i := 214) rfl)) ar_26 (by decide) (by repeat (first | exact List.mem_cons_self | assumption | refine List.mem_cons_of_mem _ ?_)) rfl rfl rfl rfl (ct_alGt hw hE 0 (by decide) (by decide) (by decide) rfl kal kar) (by first | decide | (dsimp only; omega) | omega) (by first | decide | (dsimp only; omega) | omega) (by first | decide | (dsimp only; omega) | omega) (by first | decide | (dsimp only; omega) | omega) (kv ?_)
    rintro _ _ ⟨rfl, rfl⟩
    refine Wk.checkcast (q := 396) (C := "java/lang/String") at_393 rfl (hw _ (List.mem_of_getElem? (i := 5) rfl)) (e1 _ k1) (hw _ (List.mem_of_getElem? (i := 13) rfl)) ?_
    refine Wk.aload (q := 398) at_396 rfl rfl (by first | rfl | assumption) ?_
    refine Wk.virtual (q := 401) (C := "java/lang/String") [_] _ 0 at_398 rfl (hw _ (List.mem_of_getElem? (i := 224) rfl)) (hw _ (List.mem_of_getElem? (i := 225) rfl)) (hw _ (List.mem_of_getElem? (i := 227) rfl)) (hw _ (List.mem_of_getElem? (i := 226) rfl)) (hw _ (List.mem_of_getElem? (i := 7) rfl)) (hw _ (List.mem_of_getElem? (i := 228) rfl)) ar_32 (by decide) (nfSel (hw _ (List.mem_of_getElem? (i := 227) rfl))) (by repeat (first | exact List.mem_cons_self | assumption | refine List.mem_cons_of_mem _ ?_)) rfl rfl rfl rfl (ct_strEq hw hE F lw1 lw1 (e1 _ k1) (eE _ m1) (e1 _ k2) (eE _ n1)) (by first | decide | (dsimp only; omega) | omega) (by first | decide | (dsimp only; omega) | omega) (by first | decide | (dsimp only; omega) | omega) (by first | decide | (dsimp only; omega) | omega) (kv ?_)
    rintro _ _ ⟨rfl, rfl⟩
    rw [if_pos rfl]
    refine Wk.if_f (q := 404) at_401 rfl (by decide) ?_
    refine Wk.iconst (q := 405) (1) at_404 rfl (by decide) ?_
    refine Wk.goto (q := 409) at_405 (by decide) (by decide) ?_
    refine Wk.ireturn (t := .boolean) at_409 rfl (by simp) (by rfl) ?_
    exact ⟨_, rfl, rfl⟩
  · rcases hM with ⟨h0, -⟩ | ⟨-, ar, xs, m, M', hx, rfl, -, hel⟩
    · exact nomatch h0
    obtain ⟨y1, rfl⟩ : ∃ y1, xs = [y1] := by
      match xs, hx with
      | [y1], _ => exact ⟨y1, rfl⟩
    obtain ⟨d1, ff1, gg1, k1, k2⟩ := hel 0 y1 _ rfl rfl
    rw [hs2] at k2
    rw [show ([] ++ [(f', z')] : List (Nat × Nat)).length.toInt32 = (1 : Int32) from rfl] at eE eM ⊢
    have kal := eM _ (List.mem_cons_self (a := (al, true, OB Z "java/util/ArrayList" layAL [.ref ar, .int 1, .int m])))
    have kar := eM _ (List.mem_cons_of_mem _ (List.mem_cons_self (a := (ar, true, RA Z "java/lang/Object" (([y1] : List Addr).map Value.ref ++ List.replicate (10 - ([] ++ [(f', z')]).length) .null)))))
    have e1 := fun y hy => eM y (List.mem_cons_of_mem _ (List.mem_cons_of_mem _ hy))
    have ky1 := e1 _ k1
    refine Wk.iload (q := 306) at_304 rfl rfl ?_
    refine Wk.if_t (q := 369) at_306 (by decide) (by decide) (by decide) ?_
    refine Wk.iload (q := 371) at_369 rfl rfl ?_
    refine Wk.if_t (q := 410) at_371 (by decide) (by decide) (by decide) ?_
    refine Wk.iload (q := 412) at_410 rfl rfl ?_
    refine Wk.if_f (q := 415) at_412 rfl (by decide) ?_
    refine Wk.aload (q := 417) at_415 rfl rfl (by first | rfl | assumption) ?_
    refine Wk.interface (q := 422) (C := "java/util/ArrayList") [] _ 0 at_417 rfl (hw _ (List.mem_of_getElem? (i := 143) rfl)) (hw _ (List.mem_of_getElem? (i := 144) rfl)) (hw _ (List.mem_of_getElem? (i := 145) rfl)) (by rfl) (hw _ (List.mem_of_getElem? (i := 146) rfl)) (hw _ (List.mem_of_getElem? (i := 147) rfl)) (hw _ (List.mem_of_getElem? (i := 148) rfl)) (hw _ (List.mem_of_getElem? (i := 149) rfl)) (hw _ (List.mem_of_getElem? (i := 150) rfl)) (hw _ (List.mem_of_getElem? (i := 62) rfl)) (hw _ (List.mem_of_getElem? (i := 151) rfl)) ar_14 (by decide) (by repeat (first | exact List.mem_cons_self | assumption | refine List.mem_cons_of_mem _ ?_)) rfl rfl rfl rfl (ct_alSz hw hE kal) (by first | decide | (dsimp only; omega) | omega) (by first | decide | (dsimp only; omega) | omega) (by first | decide | (dsimp only; omega) | omega) (by first | decide | (dsimp only; omega) | omega) (kv ?_)
    rintro _ _ ⟨rfl, rfl⟩
    refine Wk.iconst (q := 423) (1) at_422 rfl (by decide) ?_
    refine Wk.icmp_f (q := 426) at_423 rfl (by decide) ?_
    refine Wk.aload (q := 428) at_426 rfl rfl (by first | rfl | assumption) ?_
    refine Wk.iconst (q := 429) (0) at_428 rfl (by decide) ?_
    refine Wk.interface (q := 434) (C := "java/util/ArrayList") [_] _ 0 at_429 rfl (hw _ (List.mem_of_getElem? (i := 207) rfl)) (hw _ (List.mem_of_getElem? (i := 208) rfl)) (hw _ (List.mem_of_getElem? (i := 209) rfl)) (by rfl) (hw _ (List.mem_of_getElem? (i := 210) rfl)) (hw _ (List.mem_of_getElem? (i := 211) rfl)) (hw _ (List.mem_of_getElem? (i := 212) rfl)) (hw _ (List.mem_of_getElem? (i := 213) rfl)) (hw _ (List.mem_of_getElem? (i := 150) rfl)) (hw _ (List.mem_of_getElem? (i := 62) rfl)) (hw _ (List.mem_of_getElem? (i := 214) rfl)) ar_26 (by decide) (by repeat (first | exact List.mem_cons_self | assumption | refine List.mem_cons_of_mem _ ?_)) rfl rfl rfl rfl (ct_alGt hw hE 0 (by decide) (by decide) (by decide) rfl kal kar) (by first | decide | (dsimp only; omega) | omega) (by first | decide | (dsimp only; omega) | omega) (by first | decide | (dsimp only; omega) | omega) (by first | decide | (dsimp only; omega) | omega) (kv ?_)
    rintro _ _ ⟨rfl, rfl⟩
    refine Wk.checkcast (q := 437) (C := "java/lang/String") at_434 rfl (hw _ (List.mem_of_getElem? (i := 5) rfl)) (e1 _ k1) (hw _ (List.mem_of_getElem? (i := 13) rfl)) ?_
    refine Wk.aload (q := 439) at_437 rfl rfl (by first | rfl | assumption) ?_
    refine Wk.virtual (q := 442) (C := "java/lang/String") [_] _ 0 at_439 rfl (hw _ (List.mem_of_getElem? (i := 224) rfl)) (hw _ (List.mem_of_getElem? (i := 225) rfl)) (hw _ (List.mem_of_getElem? (i := 227) rfl)) (hw _ (List.mem_of_getElem? (i := 226) rfl)) (hw _ (List.mem_of_getElem? (i := 7) rfl)) (hw _ (List.mem_of_getElem? (i := 228) rfl)) ar_32 (by decide) (nfSel (hw _ (List.mem_of_getElem? (i := 227) rfl))) (by repeat (first | exact List.mem_cons_self | assumption | refine List.mem_cons_of_mem _ ?_)) rfl rfl rfl rfl (ct_strEq hw hE F lw2 lw2 (e1 _ k1) (eE _ m2) (e1 _ k2) (eE _ n2)) (by first | decide | (dsimp only; omega) | omega) (by first | decide | (dsimp only; omega) | omega) (by first | decide | (dsimp only; omega) | omega) (by first | decide | (dsimp only; omega) | omega) (kv ?_)
    rintro _ _ ⟨rfl, rfl⟩
    rw [if_pos rfl]
    refine Wk.if_f (q := 445) at_442 rfl (by decide) ?_
    refine Wk.iconst (q := 446) (1) at_445 rfl (by decide) ?_
    refine Wk.goto (q := 450) at_446 (by decide) (by decide) ?_
    refine Wk.ireturn (t := .boolean) at_450 rfl (by simp) (by rfl) ?_
    exact ⟨_, rfl, rfl⟩
  · rcases hM with ⟨-, m, rfl⟩ | ⟨h0, -⟩
    · have kal := eM _ (List.mem_cons_self (a := (al, true, OB Z "java/util/ArrayList" layAL [.ref dd, .int 0, .int m])))
      refine Wk.iload (q := 306) at_304 rfl rfl ?_
      refine Wk.if_t (q := 369) at_306 (by decide) (by decide) (by decide) ?_
      refine Wk.iload (q := 371) at_369 rfl rfl ?_
      refine Wk.if_t (q := 410) at_371 (by decide) (by decide) (by decide) ?_
      refine Wk.iload (q := 412) at_410 rfl rfl ?_
      refine Wk.if_t (q := 451) at_412 (by decide) (by decide) (by decide) ?_
      refine Wk.aload (q := 453) at_451 rfl rfl (by first | rfl | assumption) ?_
      refine Wk.interface (q := 458) (C := "java/util/ArrayList") [] _ 0 at_453 rfl (hw _ (List.mem_of_getElem? (i := 143) rfl)) (hw _ (List.mem_of_getElem? (i := 144) rfl)) (hw _ (List.mem_of_getElem? (i := 145) rfl)) (by rfl) (hw _ (List.mem_of_getElem? (i := 146) rfl)) (hw _ (List.mem_of_getElem? (i := 147) rfl)) (hw _ (List.mem_of_getElem? (i := 148) rfl)) (hw _ (List.mem_of_getElem? (i := 149) rfl)) (hw _ (List.mem_of_getElem? (i := 150) rfl)) (hw _ (List.mem_of_getElem? (i := 62) rfl)) (hw _ (List.mem_of_getElem? (i := 151) rfl)) ar_14 (by decide) (by repeat (first | exact List.mem_cons_self | assumption | refine List.mem_cons_of_mem _ ?_)) rfl rfl rfl rfl (ct_alSz hw hE kal) (by first | decide | (dsimp only; omega) | omega) (by first | decide | (dsimp only; omega) | omega) (by first | decide | (dsimp only; omega) | omega) (by first | decide | (dsimp only; omega) | omega) (kv ?_)
      rintro _ _ ⟨rfl, rfl⟩
      refine Wk.if_f (q := 461) at_458 rfl (by decide) ?_
      refine Wk.iconst (q := 462) (1) at_461 rfl (by decide) ?_
      refine Wk.goto (q := 466) at_462 (by decide) (by decide) ?_
      refine Wk.ireturn (t := .boolean) at_466 rfl (by simp) (by rfl) ?_
      exact ⟨_, rfl, rfl⟩
    · exact absurd rfl h0
theorem bool_and {p q : Prop} [Decidable p] [Decidable q] {a b : Bool} (h1 : a = true ↔ p) (h2 : b = true ↔ q) : (a && b) = true ↔ p ∧ q := by rw [Bool.and_eq_true, h1, h2]
set_option maxRecDepth 65536 in
set_option maxHeartbeats 8000000 in
theorem ct_law {l : Launch} {Z : State} {a0 : Array Value} (hw : ∀ d ∈ tables_1, d.before a0 Z = true) (hE : EW Z a0 EL0) (F : ∃ z, z ≠ (0 : Int32) ∧ Sta Z Z.heap "java/lang/String" "COMPACT_STRINGS" "Z" (.int z)) (hO : FO Z) (hDE : DE Z) (i0 i1 i2 i3 i4 : Int32) :
    Ct l Z EL0 x code 20 (some .boolean) room_1 #[.int i0, .int i1, .int i2, .int i3, .int i4] [] (RV fun u M => u = .int 1) := by
  obtain ⟨dd, cdd, SD, hcd, hA⟩ := hDE
  refine Ct.of (a0 := a0) (Ls := [.val (.int _), .val (.int _), .val (.int _), .val (.int _), .val (.int _), .unset, .unset, .unset, .unset, .unset, .unset, .unset, .unset, .unset, .unset, .unset, .unset, .unset, .unset, .unset]) (plainFor_of_name pn_13) (fun m => ef_iiiii_20 m _ _ _ _ _) hE ?_
  refine Wk.oldC hcd hA ?_
  refine Wk.iload_n (q := 1) at_0 rfl rfl ?_
  refine Wk.bipush (q := 3) (32) at_1 rfl (by decide) ?_
  refine Wk.bipush (q := 5) (97) at_3 rfl (by decide) ?_
  refine Wk.static (q := 8) [_, _, _] _ 0 at_5 rfl (hw _ (List.mem_of_getElem? (i := 0) rfl)) (hw _ (List.mem_of_getElem? (i := 1) rfl)) (hw _ (List.mem_of_getElem? (i := 2) rfl)) (hw _ (List.mem_of_getElem? (i := 3) rfl)) ar_34 (by decide) rfl rfl rfl rfl (ct_lpick hw hE (by decide) (by decide)) (by first | decide | (dsimp only; omega) | omega) (by first | decide | (dsimp only; omega) | omega) (by first | decide | (dsimp only; omega) | omega) (by first | decide | (dsimp only; omega) | omega) (kv ?_)
  rintro _ _ ⟨lc, rfl, hl, rfl⟩
  refine Wk.istore (q := 10) at_8 rfl (LS1.there (LS1.there (LS1.there (LS1.there (LS1.there (LS1.here (by first | exact One.u | exact One.val rfl | assumption))))))) ?_
  refine Wk.iload_n (q := 11) at_10 rfl rfl ?_
  refine Wk.bipush (q := 13) (97) at_11 rfl (by decide) ?_
  refine Wk.bipush (q := 15) (61) at_13 rfl (by decide) ?_
  refine Wk.static (q := 18) [_, _, _] _ 0 at_15 rfl (hw _ (List.mem_of_getElem? (i := 0) rfl)) (hw _ (List.mem_of_getElem? (i := 1) rfl)) (hw _ (List.mem_of_getElem? (i := 2) rfl)) (hw _ (List.mem_of_getElem? (i := 3) rfl)) ar_34 (by decide) rfl rfl rfl rfl (ct_lpick hw hE (by decide) (by decide)) (by first | decide | (dsimp only; omega) | omega) (by first | decide | (dsimp only; omega) | omega) (by first | decide | (dsimp only; omega) | omega) (by first | decide | (dsimp only; omega) | omega) (kv ?_)
  rintro _ _ ⟨pc, rfl, hpc, rfl⟩
  refine Wk.istore (q := 20) at_18 rfl (LS1.there (LS1.there (LS1.there (LS1.there (LS1.there (LS1.there (LS1.here (by first | exact One.u | exact One.val rfl | assumption)))))))) ?_
  refine Wk.iload_n (q := 21) at_20 rfl rfl ?_
  refine Wk.sipush (q := 24) (255) at_21 rfl (by decide) ?_
  refine Wk.iand (q := 25) at_24 rfl ?_
  refine Wk.i2c (q := 26) at_25 rfl ?_
  rw [i2c_mask]
  refine Wk.istore (q := 28) at_26 rfl (LS1.there (LS1.there (LS1.there (LS1.there (LS1.there (LS1.there (LS1.there (LS1.here (by first | exact One.u | exact One.val rfl | assumption))))))))) ?_
  refine Wk.iload_n (q := 29) at_28 rfl rfl ?_
  refine Wk.bipush (q := 31) (8) at_29 rfl (by decide) ?_
  refine Wk.iushr (q := 32) at_31 rfl ?_
  refine Wk.sipush (q := 35) (255) at_32 rfl (by decide) ?_
  refine Wk.iand (q := 36) at_35 rfl ?_
  refine Wk.i2c (q := 37) at_36 rfl ?_
  rw [i2c_mask]
  have hc1 := mask_lat i2
  have ht := mask_lat (XT.ushr i2 8)
  generalize i2 &&& 255 = c1 at hc1 ⊢
  generalize XT.ushr i2 8 &&& 255 = t at ht ⊢
  refine Wk.istore (q := 39) at_37 rfl (LS1.there (LS1.there (LS1.there (LS1.there (LS1.there (LS1.there (LS1.there (LS1.there (LS1.here (by first | exact One.u | exact One.val rfl | assumption)))))))))) ?_
  refine Wk.iload_n (q := 40) at_39 rfl rfl ?_
  refine Wk.iconst (q := 41) (1) at_40 rfl (by decide) ?_
  refine Wk.iand (q := 42) at_41 rfl ?_
  have j52 : ∀ q : Int32, (q = 97 ∨ q = 98) → Wk l Z a0 EL0 x code 20 (some .boolean) room_1 (RV fun u M => u = .int 1) [(dd, false, AR Z (.object "java/lang/Object") [])] room_1.cells room_1.slots 52 [.val (.int i0), .val (.int i1), .val (.int i2), .val (.int i3), .val (.int i4), .val (.int lc), .val (.int pc), .val (.int c1), .val (.int t), .unset, .unset, .unset, .unset, .unset, .unset, .unset, .unset, .unset, .unset, .unset] [.int q] := by
    intro q hq97
    have hq : Lat1 q := by rcases hq97 with rfl | rfl <;> decide
    refine Wk.istore (q := 54) at_52 rfl (LS1.there (LS1.there (LS1.there (LS1.there (LS1.there (LS1.there (LS1.there (LS1.there (LS1.there (LS1.here (by first | exact One.u | exact One.val rfl | assumption))))))))))) ?_
    refine Wk.iload_n (q := 55) at_54 rfl rfl ?_
    refine Wk.iconst (q := 56) (1) at_55 rfl (by decide) ?_
    refine Wk.iushr (q := 57) at_56 rfl ?_
    refine Wk.sipush (q := 60) (255) at_57 rfl (by decide) ?_
    refine Wk.iand (q := 61) at_60 rfl ?_
    refine Wk.i2c (q := 62) at_61 rfl ?_
    rw [i2c_mask]
    have hd := mask_lat (XT.ushr i3 1)
    generalize XT.ushr i3 1 &&& 255 = d at hd ⊢
    refine Wk.istore (q := 64) at_62 rfl (LS1.there (LS1.there (LS1.there (LS1.there (LS1.there (LS1.there (LS1.there (LS1.there (LS1.there (LS1.there (LS1.here (by first | exact One.u | exact One.val rfl | assumption)))))))))))) ?_
    refine Wk.iload (q := 66) at_64 rfl rfl ?_
    refine Wk.iconst (q := 67) (1) at_66 rfl (by decide) ?_
    refine Wk.iand (q := 68) at_67 rfl ?_
    have j85 : ∀ e : Int32, Lat1 e → Wk l Z a0 EL0 x code 20 (some .boolean) room_1 (RV fun u M => u = .int 1) [(dd, false, AR Z (.object "java/lang/Object") [])] room_1.cells room_1.slots 85 [.val (.int i0), .val (.int i1), .val (.int i2), .val (.int i3), .val (.int i4), .val (.int lc), .val (.int pc), .val (.int c1), .val (.int t), .val (.int q), .val (.int d), .unset, .unset, .unset, .unset, .unset, .unset, .unset, .unset, .unset] [.int e] := by
      intro e he
      have hcs : Lat [lc, pc, 61, c1, t, 44, q, e, d] := lat_cons hl (lat_cons hpc (lat_cons (by decide) (lat_cons hc1 (lat_cons ht (lat_cons (by decide) (lat_cons hq (lat_cons he (lat_cons hd lat_nil))))))))
      refine Wk.istore (q := 87) at_85 rfl (LS1.there (LS1.there (LS1.there (LS1.there (LS1.there (LS1.there (LS1.there (LS1.there (LS1.there (LS1.there (LS1.there (LS1.here (by first | exact One.u | exact One.val rfl | assumption))))))))))))) ?_
      refine Wk.bipush (q := 89) (9) at_87 rfl (by decide) ?_
      refine Wk.newarray (q := 91) .char (9) [(.int 0), (.int 0), (.int 0), (.int 0), (.int 0), (.int 0), (.int 0), (.int 0), (.int 0)] at_89 rfl rfl rfl (hw _ (List.mem_of_getElem? (i := 4) rfl)) (by decide) (by decide) (by decide) (by first | decide | (dsimp only; omega) | omega) (by first | decide | (dsimp only; omega) | omega) ?_
      intro ca
      refine Wk.dup (q := 92) at_91 rfl rfl ?_
      refine Wk.iconst (q := 93) (0) at_92 rfl (by decide) ?_
      refine Wk.iload (q := 95) at_93 rfl rfl ?_
      refine Wk.castore (q := 96) (0) at_95 rfl (by repeat (first | exact Ex.here | assumption | apply Ex.there)) (by decide) (by decide) (nchar_lat hl) (VS.here) ?_
      refine Wk.dup (q := 97) at_96 rfl rfl ?_
      refine Wk.iconst (q := 98) (1) at_97 rfl (by decide) ?_
      refine Wk.iload (q := 100) at_98 rfl rfl ?_
      refine Wk.castore (q := 101) (1) at_100 rfl (by repeat (first | exact Ex.here | assumption | apply Ex.there)) (by decide) (by decide) (nchar_lat hpc) (VS.there (VS.here)) ?_
      refine Wk.dup (q := 102) at_101 rfl rfl ?_
      refine Wk.iconst (q := 103) (2) at_102 rfl (by decide) ?_
      refine Wk.bipush (q := 105) (61) at_103 rfl (by decide) ?_
      refine Wk.castore (q := 106) (2) at_105 rfl (by repeat (first | exact Ex.here | assumption | apply Ex.there)) (by decide) (by decide) (by rfl) (VS.there (VS.there (VS.here))) ?_
      refine Wk.dup (q := 107) at_106 rfl rfl ?_
      refine Wk.iconst (q := 108) (3) at_107 rfl (by decide) ?_
      refine Wk.iload (q := 110) at_108 rfl rfl ?_
      refine Wk.castore (q := 111) (3) at_110 rfl (by repeat (first | exact Ex.here | assumption | apply Ex.there)) (by decide) (by decide) (nchar_lat hc1) (VS.there (VS.there (VS.there (VS.here)))) ?_
      refine Wk.dup (q := 112) at_111 rfl rfl ?_
      refine Wk.iconst (q := 113) (4) at_112 rfl (by decide) ?_
      refine Wk.iload (q := 115) at_113 rfl rfl ?_
      refine Wk.castore (q := 116) (4) at_115 rfl (by repeat (first | exact Ex.here | assumption | apply Ex.there)) (by decide) (by decide) (nchar_lat ht) (VS.there (VS.there (VS.there (VS.there (VS.here))))) ?_
      refine Wk.dup (q := 117) at_116 rfl rfl ?_
      refine Wk.iconst (q := 118) (5) at_117 rfl (by decide) ?_
      refine Wk.bipush (q := 120) (44) at_118 rfl (by decide) ?_
      refine Wk.castore (q := 121) (5) at_120 rfl (by repeat (first | exact Ex.here | assumption | apply Ex.there)) (by decide) (by decide) (by rfl) (VS.there (VS.there (VS.there (VS.there (VS.there (VS.here)))))) ?_
      refine Wk.dup (q := 122) at_121 rfl rfl ?_
      refine Wk.bipush (q := 124) (6) at_122 rfl (by decide) ?_
      refine Wk.iload (q := 126) at_124 rfl rfl ?_
      refine Wk.castore (q := 127) (6) at_126 rfl (by repeat (first | exact Ex.here | assumption | apply Ex.there)) (by decide) (by decide) (nchar_lat hq) (VS.there (VS.there (VS.there (VS.there (VS.there (VS.there (VS.here))))))) ?_
      refine Wk.dup (q := 128) at_127 rfl rfl ?_
      refine Wk.bipush (q := 130) (7) at_128 rfl (by decide) ?_
      refine Wk.iload (q := 132) at_130 rfl rfl ?_
      refine Wk.castore (q := 133) (7) at_132 rfl (by repeat (first | exact Ex.here | assumption | apply Ex.there)) (by decide) (by decide) (nchar_lat he) (VS.there (VS.there (VS.there (VS.there (VS.there (VS.there (VS.there (VS.here)))))))) ?_
      refine Wk.dup (q := 134) at_133 rfl rfl ?_
      refine Wk.bipush (q := 136) (8) at_134 rfl (by decide) ?_
      refine Wk.iload (q := 138) at_136 rfl rfl ?_
      refine Wk.castore (q := 139) (8) at_138 rfl (by repeat (first | exact Ex.here | assumption | apply Ex.there)) (by decide) (by decide) (nchar_lat hd) (VS.there (VS.there (VS.there (VS.there (VS.there (VS.there (VS.there (VS.there (VS.here))))))))) ?_
      refine Wk.astore (q := 141) at_139 rfl (by first | rfl | assumption) (LS1.there (LS1.there (LS1.there (LS1.there (LS1.there (LS1.there (LS1.there (LS1.there (LS1.there (LS1.there (LS1.there (LS1.there (LS1.here (by first | exact One.u | exact One.val rfl | assumption)))))))))))))) ?_
      refine Wk.new (q := 144) at_141 rfl (hw _ (List.mem_of_getElem? (i := 5) rfl)) (hw _ (List.mem_of_getElem? (i := 6) rfl)) (hw _ (List.mem_of_getElem? (i := 7) rfl)) (layS_ok hw) layS_dv (by first | decide | (dsimp only; omega) | omega) (by first | decide | (dsimp only; omega) | omega) ?_
      intro s
      refine Wk.dup (q := 145) at_144 rfl rfl ?_
      refine Wk.aload (q := 147) at_145 rfl rfl (by first | rfl | assumption) ?_
      refine Wk.special (q := 150) [_] _ 1 at_147 rfl rfl (hw _ (List.mem_of_getElem? (i := 8) rfl)) (hw _ (List.mem_of_getElem? (i := 9) rfl)) (hw _ (List.mem_of_getElem? (i := 7) rfl)) (hw _ (List.mem_of_getElem? (i := 10) rfl)) ar_35 (by decide) rfl rfl rfl rfl (ct_strInitG hw hE F (cs := [lc, pc, 61, c1, t, 44, q, e, d]) hcs 9 (by simp) (by simp) (by repeat (first | exact List.mem_cons_self | assumption | refine List.mem_cons_of_mem _ ?_))) (by first | decide | (dsimp only; omega) | omega) (by first | decide | (dsimp only; omega) | omega) (by first | decide | (dsimp only; omega) | omega) (by first | decide | (dsimp only; omega) | omega) (k0 ?_)
      rintro _ ⟨sb, fsb, rfl⟩
      refine Wk.static (q := 153) [_] _ 0 at_150 rfl (hw _ (List.mem_of_getElem? (i := 34) rfl)) (hw _ (List.mem_of_getElem? (i := 35) rfl)) (hw _ (List.mem_of_getElem? (i := 36) rfl)) (hw _ (List.mem_of_getElem? (i := 37) rfl)) ar_36 (by decide) rfl rfl rfl rfl (ct_hRd hw hE (by repeat (first | exact List.mem_cons_self | assumption | refine List.mem_cons_of_mem _ ?_))) (by first | decide | (dsimp only; omega) | omega) (by first | decide | (dsimp only; omega) | omega) (by first | decide | (dsimp only; omega) | omega) (by first | decide | (dsimp only; omega) | omega) (kv ?_)
      rintro _ _ ⟨h, rfl, rfl⟩
      refine Wk.ldcS (q := 155) 4 [.int 97] 1 at_153 rfl (hw _ (List.mem_of_getElem? (i := 54) rfl)) (wS hw) (by decide +kernel) (by decide +kernel) (by decide) (by decide) (by decide +kernel) (by decide) (by first | decide | (dsimp only; omega) | omega) (by first | decide | (dsimp only; omega) | omega) ?_
      intro nm nb
      refine Wk.virtual (q := 158) (C := "com/example/webhook_signature_check/webhooksignaturecheck/HeaderElements") [_] _ 0 at_155 rfl (hw _ (List.mem_of_getElem? (i := 55) rfl)) (hw _ (List.mem_of_getElem? (i := 56) rfl)) (hw _ (List.mem_of_getElem? (i := 58) rfl)) (hw _ (List.mem_of_getElem? (i := 57) rfl)) (hw _ (List.mem_of_getElem? (i := 36) rfl)) (hw _ (List.mem_of_getElem? (i := 59) rfl)) ar_37 (by decide) (nfSel (hw _ (List.mem_of_getElem? (i := 58) rfl))) (by repeat (first | exact List.mem_cons_self | assumption | refine List.mem_cons_of_mem _ ?_)) rfl rfl rfl rfl (ct_hAll hw hE F hO hq97 hcs (by repeat (first | exact List.mem_cons_self | assumption | refine List.mem_cons_of_mem _ ?_)) (by repeat (first | exact List.mem_cons_self | assumption | refine List.mem_cons_of_mem _ ?_)) (show (sb, fsb, AR Z .byte ((([lc, pc, 61, c1, t, 44, q, e, d] : List Int32).map b8).map .int)) ∈ _ from (by repeat (first | exact List.mem_cons_self | assumption | refine List.mem_cons_of_mem _ ?_))) (by repeat (first | exact List.mem_cons_self | assumption | refine List.mem_cons_of_mem _ ?_)) (by repeat (first | exact List.mem_cons_self | assumption | refine List.mem_cons_of_mem _ ?_)) SD (by repeat (first | exact List.mem_cons_self | assumption | refine List.mem_cons_of_mem _ ?_))) (by first | decide | (dsimp only; omega) | omega) (by first | decide | (dsimp only; omega) | omega) (by first | decide | (dsimp only; omega) | omega) (by first | decide | (dsimp only; omega) | omega) (kv ?_)
      rintro _ M ⟨al, rfl, hM⟩
      refine Wk.astore (q := 160) at_158 rfl (by first | rfl | assumption) (LS1.there (LS1.there (LS1.there (LS1.there (LS1.there (LS1.there (LS1.there (LS1.there (LS1.there (LS1.there (LS1.there (LS1.there (LS1.there (LS1.here (by first | exact One.u | exact One.val rfl | assumption))))))))))))))) ?_
      have j304 : ∀ (p14 p15 p16 p17 : Int32), ((p15 = 1 ∧ (lc = 97 ∧ pc = 61)) ∨ (p15 = 0 ∧ ¬ (lc = 97 ∧ pc = 61))) → ((p16 = 1 ∧ (((lc.toInt ≤ 32 ∨ lc = 44) ∧ pc = 97) ∨ (lc = 97 ∧ pc = 61))) ∨ (p16 = 0 ∧ ¬ (((lc.toInt ≤ 32 ∨ lc = 44) ∧ pc = 97) ∨ (lc = 97 ∧ pc = 61)))) → ((p17 = 1 ∧ (q = 97 ∧ e = 61)) ∨ (p17 = 0 ∧ ¬ (q = 97 ∧ e = 61))) → Wk l Z a0 EL0 x code 20 (some .boolean) room_1 (RV fun u M => u = .int 1) M 12 60 247 [.val (.int i0), .val (.int i1), .val (.int i2), .val (.int i3), .val (.int i4), .val (.int lc), .val (.int pc), .val (.int c1), .val (.int t), .val (.int q), .val (.int d), .val (.int e), .val (.ref ca), .val (.ref al), .val (.int p14), .val (.int p15), .val (.int p16), .val (.int p17), .unset, .unset] [] := by
        intro p14 p15 p16 p17 h15 h16 h17
        have bA := bool_and (Iff.trans (by rw [Bool.or_eq_true, cl_b, cl_c]) (Iff.refl (lc.toInt ≤ 32 ∨ lc = 44)) : ((cl lc).isB || (cl lc).isC) = true ↔ _) (cl_a pc)
        have bB := bool_and (cl_a lc) (cl_q pc)
        have b2 := bool_and (cl_a q) (cl_q e)
        have tl := tail_lat hc1 ht
        have fin : ∀ (E : Store) (w1 : List Int32) (v1 b1 : Addr) (f1 g1 : Bool) (cb sb : Nat), 2 ≤ cb → 5 ≤ sb → w1 = (if lc = 97 ∧ pc = 61 then 61 :: tailF c1 t else tailF c1 t) → (v1, f1, OB Z "java/lang/String" layS [.ref b1, .int 0]) ∈ E → (b1, g1, AR Z .byte ((w1.map b8).map .int)) ∈ E → Wk l Z a0 EL0 x code 20 (some .boolean) room_1 (RV fun u M => u = .int 1) (E ++ M) cb sb 276 [.val (.int i0), .val (.int i1), .val (.int i2), .val (.int i3), .val (.int i4), .val (.int lc), .val (.int pc), .val (.int c1), .val (.int t), .val (.int q), .val (.int d), .val (.int e), .val (.ref ca), .val (.ref al), .val (.int p14), .val (.int p15), .val (.int p16), .val (.int p17), .unset, .unset] [.ref v1] := by
          intro E w1 v1 b1 f1 g1 cb sb q1 q2 hw1 m1 n1
          have l1 : w1.length ≤ 3 := by rw [hw1]; have := tail_len c1 t; split <;> simp <;> omega
          have hx16 : (p16 = 1 ∧ ∃ f z, ex1 (cl lc) (cl pc) (cl c1) (cl t) = [(f, z)] ∧ (([lc, pc, 61, c1, t, 44, q, e, d] : List Int32).drop f).take (z - f) = w1) ∨ (p16 = 0 ∧ ex1 (cl lc) (cl pc) (cl c1) (cl t) = []) := by
            rcases h16 with ⟨e16, h | h⟩ | ⟨e16, h⟩
            · refine Or.inl ⟨e16, 3, te (cl c1) (cl t), by rw [ex1, if_pos (bA.mpr h)], ?_⟩
              have hn : ¬ (lc = 97 ∧ pc = 61) := fun z => by rw [z.2] at h; exact absurd h.2 (by decide)
              rw [sl1 3 (Or.inr rfl), hw1, if_neg (by decide), if_neg hn]
            · have hn : ¬ ((lc.toInt ≤ 32 ∨ lc = 44) ∧ pc = 97) := fun z => by rw [h.2] at z; exact absurd z.2 (by decide)
              refine Or.inl ⟨e16, 2, te (cl c1) (cl t), by rw [ex1, if_neg (fun z => hn (bA.mp z)), if_pos (bB.mpr h)], ?_⟩
              rw [sl1 2 (Or.inl rfl), hw1, if_pos rfl, if_pos h]
            · exact Or.inr ⟨e16, by rw [ex1, if_neg (fun z => h (Or.inl (bA.mp z))), if_neg (fun z => h (Or.inr (bB.mp z)))]⟩
          have hx17 : (p17 = 1 ∧ ∃ f z, ex2 (cl q) (cl e) (cl d) = [(f, z)] ∧ (([lc, pc, 61, c1, t, 44, q, e, d] : List Int32).drop f).take (z - f) = v2F d) ∨ (p17 = 0 ∧ ex2 (cl q) (cl e) (cl d) = []) := by
            rcases h17 with ⟨e17, h⟩ | ⟨e17, h⟩
            · exact Or.inl ⟨e17, 8, _, by rw [ex2, if_pos (b2.mpr h)], sl2⟩
            · exact Or.inr ⟨e17, by rw [ex2, if_neg (fun z => h (b2.mp z))]⟩
          have l2 : (v2F d).length ≤ 3 := by unfold v2F; split <;> simp
          refine Wk.astore (q := 278) at_276 rfl (by first | rfl | assumption) (LS1.there (LS1.there (LS1.there (LS1.there (LS1.there (LS1.there (LS1.there (LS1.there (LS1.there (LS1.there (LS1.there (LS1.there (LS1.there (LS1.there (LS1.there (LS1.there (LS1.there (LS1.there (LS1.here (by first | exact One.u | exact One.val rfl | assumption)))))))))))))))))))) ?_
          refine Wk.iload (q := 280) at_278 rfl rfl ?_
          refine Wk.bipush (q := 282) (32) at_280 rfl (by decide) ?_
          have emp : v2F d = [] → Wk l Z a0 EL0 x code 20 (some .boolean) room_1 (RV fun u M => u = .int 1) (E ++ M) cb sb 300 [.val (.int i0), .val (.int i1), .val (.int i2), .val (.int i3), .val (.int i4), .val (.int lc), .val (.int pc), .val (.int c1), .val (.int t), .val (.int q), .val (.int d), .val (.int e), .val (.ref ca), .val (.ref al), .val (.int p14), .val (.int p15), .val (.int p16), .val (.int p17), .val (.ref v1), .unset] [] := by
            intro hv
            rw [hv] at hx17 l2
            refine Wk.ldcS (q := 302) 0 [] 0 at_300 rfl (hw _ (List.mem_of_getElem? (i := 142) rfl)) (wS hw) (by decide +kernel) (by decide +kernel) (by decide) (by decide) (by decide +kernel) (by decide) (by first | decide | (dsimp only; omega) | omega) (by first | decide | (dsimp only; omega) | omega) ?_
            intro v2 c2
            refine Wk.astore (q := 304) at_302 rfl (by first | rfl | assumption) (LS1.there (LS1.there (LS1.there (LS1.there (LS1.there (LS1.there (LS1.there (LS1.there (LS1.there (LS1.there (LS1.there (LS1.there (LS1.there (LS1.there (LS1.there (LS1.there (LS1.there (LS1.there (LS1.there (LS1.here (by first | exact One.u | exact One.val rfl | assumption))))))))))))))))))))) ?_
            exact wk_end hw hE F l1 l2 hM hx16 hx17 ((v2, false, OB Z "java/lang/String" layS [.ref c2, .int 0]) :: (c2, false, AR Z .byte []) :: E) (List.mem_cons_of_mem _ (List.mem_cons_of_mem _ m1)) (List.mem_cons_of_mem _ (List.mem_cons_of_mem _ n1)) List.mem_cons_self (List.mem_cons_of_mem _ List.mem_cons_self)
          by_cases y1 : d.toInt ≤ 32
          · refine Wk.icmp_t (q := 300) at_282 (by decide) (by decide) (XT.ii_le_t (nlt_of y1)) ?_
            exact emp (by rw [v2F, if_neg (fun z => z.1 y1)])
          · refine Wk.icmp_f (q := 285) at_282 rfl (XT.ii_le_f (lt_of (show (32 : Int) < _ by omega))) ?_
            refine Wk.iload (q := 287) at_285 rfl rfl ?_
            refine Wk.bipush (q := 289) (44) at_287 rfl (by decide) ?_
            by_cases y2 : d = 44
            · refine Wk.icmp_t (q := 300) at_289 (by decide) (by decide) (XT.ii_eq_t y2) ?_
              exact emp (by rw [v2F, if_neg (fun z => z.2 y2)])
            · have hv : v2F d = [d] := by rw [v2F, if_pos ⟨y1, y2⟩]
              rw [hv] at hx17 l2
              refine Wk.icmp_f (q := 292) at_289 rfl (XT.ii_eq_f y2) ?_
              refine Wk.iload (q := 294) at_292 rfl rfl ?_
              refine Wk.static (q := 297) [_] _ 0 at_294 rfl (hw _ (List.mem_of_getElem? (i := 233) rfl)) (hw _ (List.mem_of_getElem? (i := 234) rfl)) (hw _ (List.mem_of_getElem? (i := 7) rfl)) (hw _ (List.mem_of_getElem? (i := 235) rfl)) ar_38 (by decide) rfl rfl rfl rfl (ct_valC hw hE F hd) (by first | decide | (dsimp only; omega) | omega) (by first | decide | (dsimp only; omega) | omega) (by first | decide | (dsimp only; omega) | omega) (by first | decide | (dsimp only; omega) | omega) (kv ?_)
              rintro _ _ ⟨v2, c2, rfl, rfl⟩
              refine Wk.goto (q := 302) at_297 (by decide) (by decide) ?_
              refine Wk.astore (q := 304) at_302 rfl (by first | rfl | assumption) (LS1.there (LS1.there (LS1.there (LS1.there (LS1.there (LS1.there (LS1.there (LS1.there (LS1.there (LS1.there (LS1.there (LS1.there (LS1.there (LS1.there (LS1.there (LS1.there (LS1.there (LS1.there (LS1.there (LS1.here (by first | exact One.u | exact One.val rfl | assumption))))))))))))))))))))) ?_
              exact wk_end hw hE F l1 l2 hM hx16 hx17 ((v2, true, OB Z "java/lang/String" layS [.ref c2, .int 0]) :: (c2, true, AR Z .byte [.int (b8 d)]) :: E) (List.mem_cons_of_mem _ (List.mem_cons_of_mem _ m1)) (List.mem_cons_of_mem _ (List.mem_cons_of_mem _ n1)) List.mem_cons_self (List.mem_cons_of_mem _ List.mem_cons_self)
        refine Wk.new (q := 250) at_247 rfl (hw _ (List.mem_of_getElem? (i := 5) rfl)) (hw _ (List.mem_of_getElem? (i := 6) rfl)) (hw _ (List.mem_of_getElem? (i := 7) rfl)) (layS_ok hw) layS_dv (by first | decide | (dsimp only; omega) | omega) (by first | decide | (dsimp only; omega) | omega) ?_
        intro v1
        refine Wk.dup (q := 251) at_250 rfl rfl ?_
        refine Wk.iload (q := 253) at_251 rfl rfl ?_
        rcases h15 with ⟨rfl, h⟩ | ⟨rfl, h⟩
        · refine Wk.if_f (q := 256) at_253 rfl (by decide) ?_
          refine Wk.iload (q := 258) at_256 rfl rfl ?_
          refine Wk.iload (q := 260) at_258 rfl rfl ?_
          refine Wk.static (q := 263) [_, _] _ 2 at_260 rfl (hw _ (List.mem_of_getElem? (i := 262) rfl)) (hw _ (List.mem_of_getElem? (i := 263) rfl)) (hw _ (List.mem_of_getElem? (i := 2) rfl)) (hw _ (List.mem_of_getElem? (i := 264) rfl)) ar_33 (by decide) rfl rfl rfl rfl (ct_lweq hw hE hc1 ht) (by first | decide | (dsimp only; omega) | omega) (by first | decide | (dsimp only; omega) | omega) (by first | decide | (dsimp only; omega) | omega) (by first | decide | (dsimp only; omega) | omega) (kv ?_)
          rintro _ _ ⟨r0, rfl, rfl⟩
          refine Wk.goto (q := 273) at_263 (by decide) (by decide) ?_
          refine Wk.pull (o := (v1, true, _)) (by repeat (first | exact Ex.here | assumption | apply Ex.there)) ?_
          refine Wk.special (q := 276) [_] _ 1 at_273 rfl rfl (hw _ (List.mem_of_getElem? (i := 8) rfl)) (hw _ (List.mem_of_getElem? (i := 9) rfl)) (hw _ (List.mem_of_getElem? (i := 7) rfl)) (hw _ (List.mem_of_getElem? (i := 10) rfl)) ar_35 (by decide) rfl rfl rfl rfl (ct_strInitG hw hE F (cs := 61 :: tailF c1 t) (lat_cons (by decide) tl) 3 (by have := tail_len c1 t; simp; omega) (by have := tail_len c1 t; simp; omega) (by repeat (first | exact List.mem_cons_self | assumption | refine List.mem_cons_of_mem _ ?_))) (by first | decide | (dsimp only; omega) | omega) (by first | decide | (dsimp only; omega) | omega) (by first | decide | (dsimp only; omega) | omega) (by first | decide | (dsimp only; omega) | omega) (k0 ?_)
          rintro _ ⟨b1, fb1, rfl⟩
          exact fin [_, _, _] _ v1 b1 true fb1 _ _ (by decide) (by decide) (by rw [if_pos h]) List.mem_cons_self (List.mem_cons_of_mem _ List.mem_cons_self)
        · refine Wk.if_t (q := 266) at_253 (by decide) (by decide) (by decide) ?_
          refine Wk.iload (q := 268) at_266 rfl rfl ?_
          refine Wk.iload (q := 270) at_268 rfl rfl ?_
          refine Wk.static (q := 273) [_, _] _ 2 at_270 rfl (hw _ (List.mem_of_getElem? (i := 138) rfl)) (hw _ (List.mem_of_getElem? (i := 139) rfl)) (hw _ (List.mem_of_getElem? (i := 2) rfl)) (hw _ (List.mem_of_getElem? (i := 140) rfl)) ar_33 (by decide) rfl rfl rfl rfl (ct_ltail hw hE hc1 ht) (by first | decide | (dsimp only; omega) | omega) (by first | decide | (dsimp only; omega) | omega) (by first | decide | (dsimp only; omega) | omega) (by first | decide | (dsimp only; omega) | omega) (kv ?_)
          rintro _ _ ⟨r0, rfl, rfl⟩
          refine Wk.pull (o := (v1, true, _)) (by repeat (first | exact Ex.here | assumption | apply Ex.there)) ?_
          refine Wk.special (q := 276) [_] _ 1 at_273 rfl rfl (hw _ (List.mem_of_getElem? (i := 8) rfl)) (hw _ (List.mem_of_getElem? (i := 9) rfl)) (hw _ (List.mem_of_getElem? (i := 7) rfl)) (hw _ (List.mem_of_getElem? (i := 10) rfl)) ar_35 (by decide) rfl rfl rfl rfl (ct_strInitG hw hE F (cs := tailF c1 t) tl 3 (by have := tail_len c1 t; omega) (by have := tail_len c1 t; omega) (by repeat (first | exact List.mem_cons_self | assumption | refine List.mem_cons_of_mem _ ?_))) (by first | decide | (dsimp only; omega) | omega) (by first | decide | (dsimp only; omega) | omega) (by first | decide | (dsimp only; omega) | omega) (by first | decide | (dsimp only; omega) | omega) (k0 ?_)
          rintro _ ⟨b1, fb1, rfl⟩
          exact fin [_, _, _] _ v1 b1 true fb1 _ _ (by decide) (by decide) (by rw [if_neg h]) List.mem_cons_self (List.mem_cons_of_mem _ List.mem_cons_self)
      have j224 : ∀ (p14 p15 p16 : Int32), ((p15 = 1 ∧ (lc = 97 ∧ pc = 61)) ∨ (p15 = 0 ∧ ¬ (lc = 97 ∧ pc = 61))) → ((p16 = 1 ∧ (((lc.toInt ≤ 32 ∨ lc = 44) ∧ pc = 97) ∨ (lc = 97 ∧ pc = 61))) ∨ (p16 = 0 ∧ ¬ (((lc.toInt ≤ 32 ∨ lc = 44) ∧ pc = 97) ∨ (lc = 97 ∧ pc = 61)))) → Wk l Z a0 EL0 x code 20 (some .boolean) room_1 (RV fun u M => u = .int 1) M 12 60 224 [.val (.int i0), .val (.int i1), .val (.int i2), .val (.int i3), .val (.int i4), .val (.int lc), .val (.int pc), .val (.int c1), .val (.int t), .val (.int q), .val (.int d), .val (.int e), .val (.ref ca), .val (.ref al), .val (.int p14), .val (.int p15), .unset, .unset, .unset, .unset] [.int p16] := by
        intro p14 p15 p16 h15 h16
        refine Wk.istore (q := 226) at_224 rfl (LS1.there (LS1.there (LS1.there (LS1.there (LS1.there (LS1.there (LS1.there (LS1.there (LS1.there (LS1.there (LS1.there (LS1.there (LS1.there (LS1.there (LS1.there (LS1.there (LS1.here (by first | exact One.u | exact One.val rfl | assumption)))))))))))))))))) ?_
        refine Wk.iload (q := 228) at_226 rfl rfl ?_
        refine Wk.bipush (q := 230) (97) at_228 rfl (by decide) ?_
        by_cases y1 : q = 97
        · refine Wk.icmp_f (q := 233) at_230 rfl (XT.ii_ne_f y1) ?_
          refine Wk.iload (q := 235) at_233 rfl rfl ?_
          refine Wk.bipush (q := 237) (61) at_235 rfl (by decide) ?_
          by_cases y2 : e = 61
          · refine Wk.icmp_f (q := 240) at_237 rfl (XT.ii_ne_f y2) ?_
            refine Wk.iconst (q := 241) (1) at_240 rfl (by decide) ?_
            refine Wk.goto (q := 245) at_241 (by decide) (by decide) ?_
            refine Wk.istore (q := 247) at_245 rfl (LS1.there (LS1.there (LS1.there (LS1.there (LS1.there (LS1.there (LS1.there (LS1.there (LS1.there (LS1.there (LS1.there (LS1.there (LS1.there (LS1.there (LS1.there (LS1.there (LS1.there (LS1.here (by first | exact One.u | exact One.val rfl | assumption))))))))))))))))))) ?_
            exact j304 p14 p15 p16 1 h15 h16 (Or.inl ⟨rfl, y1, y2⟩)
          · refine Wk.icmp_t (q := 244) at_237 (by decide) (by decide) (XT.ii_ne_t y2) ?_
            refine Wk.iconst (q := 245) (0) at_244 rfl (by decide) ?_
            refine Wk.istore (q := 247) at_245 rfl (LS1.there (LS1.there (LS1.there (LS1.there (LS1.there (LS1.there (LS1.there (LS1.there (LS1.there (LS1.there (LS1.there (LS1.there (LS1.there (LS1.there (LS1.there (LS1.there (LS1.there (LS1.here (by first | exact One.u | exact One.val rfl | assumption))))))))))))))))))) ?_
            exact j304 p14 p15 p16 0 h15 h16 (Or.inr ⟨rfl, fun z => y2 z.2⟩)
        · refine Wk.icmp_t (q := 244) at_230 (by decide) (by decide) (XT.ii_ne_t y1) ?_
          refine Wk.iconst (q := 245) (0) at_244 rfl (by decide) ?_
          refine Wk.istore (q := 247) at_245 rfl (LS1.there (LS1.there (LS1.there (LS1.there (LS1.there (LS1.there (LS1.there (LS1.there (LS1.there (LS1.there (LS1.there (LS1.there (LS1.there (LS1.there (LS1.there (LS1.there (LS1.there (LS1.here (by first | exact One.u | exact One.val rfl | assumption))))))))))))))))))) ?_
          exact j304 p14 p15 p16 0 h15 h16 (Or.inr ⟨rfl, fun z => y1 z.1⟩)
      have j207 : ∀ (p14 p15 : Int32), ((p14 = 1 ∧ ((lc.toInt ≤ 32 ∨ lc = 44) ∧ pc = 97)) ∨ (p14 = 0 ∧ ¬ ((lc.toInt ≤ 32 ∨ lc = 44) ∧ pc = 97))) → ((p15 = 1 ∧ (lc = 97 ∧ pc = 61)) ∨ (p15 = 0 ∧ ¬ (lc = 97 ∧ pc = 61))) → Wk l Z a0 EL0 x code 20 (some .boolean) room_1 (RV fun u M => u = .int 1) M 12 60 207 [.val (.int i0), .val (.int i1), .val (.int i2), .val (.int i3), .val (.int i4), .val (.int lc), .val (.int pc), .val (.int c1), .val (.int t), .val (.int q), .val (.int d), .val (.int e), .val (.ref ca), .val (.ref al), .val (.int p14), .unset, .unset, .unset, .unset, .unset] [.int p15] := by
        intro p14 p15 h14 h15
        refine Wk.istore (q := 209) at_207 rfl (LS1.there (LS1.there (LS1.there (LS1.there (LS1.there (LS1.there (LS1.there (LS1.there (LS1.there (LS1.there (LS1.there (LS1.there (LS1.there (LS1.there (LS1.there (LS1.here (by first | exact One.u | exact One.val rfl | assumption))))))))))))))))) ?_
        refine Wk.iload (q := 211) at_209 rfl rfl ?_
        rcases h14 with ⟨rfl, h⟩ | ⟨rfl, h⟩
        · refine Wk.if_t (q := 219) at_211 (by decide) (by decide) (by decide) ?_
          refine Wk.iconst (q := 220) (1) at_219 rfl (by decide) ?_
          refine Wk.goto (q := 224) at_220 (by decide) (by decide) ?_
          exact j224 1 p15 1 h15 (Or.inl ⟨rfl, Or.inl h⟩)
        · refine Wk.if_f (q := 214) at_211 rfl (by decide) ?_
          refine Wk.iload (q := 216) at_214 rfl rfl ?_
          rcases h15 with ⟨rfl, h'⟩ | ⟨rfl, h'⟩
          · refine Wk.if_f (q := 219) at_216 rfl (by decide) ?_
            refine Wk.iconst (q := 220) (1) at_219 rfl (by decide) ?_
            refine Wk.goto (q := 224) at_220 (by decide) (by decide) ?_
            exact j224 0 1 1 (Or.inl ⟨rfl, h'⟩) (Or.inl ⟨rfl, Or.inr h'⟩)
          · refine Wk.if_t (q := 223) at_216 (by decide) (by decide) (by decide) ?_
            refine Wk.iconst (q := 224) (0) at_223 rfl (by decide) ?_
            exact j224 0 0 0 (Or.inr ⟨rfl, h'⟩) (Or.inr ⟨rfl, fun z => z.elim h h'⟩)
      have j186 : ∀ (p14 : Int32), ((p14 = 1 ∧ ((lc.toInt ≤ 32 ∨ lc = 44) ∧ pc = 97)) ∨ (p14 = 0 ∧ ¬ ((lc.toInt ≤ 32 ∨ lc = 44) ∧ pc = 97))) → Wk l Z a0 EL0 x code 20 (some .boolean) room_1 (RV fun u M => u = .int 1) M 12 60 186 [.val (.int i0), .val (.int i1), .val (.int i2), .val (.int i3), .val (.int i4), .val (.int lc), .val (.int pc), .val (.int c1), .val (.int t), .val (.int q), .val (.int d), .val (.int e), .val (.ref ca), .val (.ref al), .unset, .unset, .unset, .unset, .unset, .unset] [.int p14] := by
        intro p14 h14
        refine Wk.istore (q := 188) at_186 rfl (LS1.there (LS1.there (LS1.there (LS1.there (LS1.there (LS1.there (LS1.there (LS1.there (LS1.there (LS1.there (LS1.there (LS1.there (LS1.there (LS1.there (LS1.here (by first | exact One.u | exact One.val rfl | assumption)))))))))))))))) ?_
        refine Wk.iload (q := 190) at_188 rfl rfl ?_
        refine Wk.bipush (q := 192) (97) at_190 rfl (by decide) ?_
        by_cases y1 : lc = 97
        · refine Wk.icmp_f (q := 195) at_192 rfl (XT.ii_ne_f y1) ?_
          refine Wk.iload (q := 197) at_195 rfl rfl ?_
          refine Wk.bipush (q := 199) (61) at_197 rfl (by decide) ?_
          by_cases y2 : pc = 61
          · refine Wk.icmp_f (q := 202) at_199 rfl (XT.ii_ne_f y2) ?_
            refine Wk.iconst (q := 203) (1) at_202 rfl (by decide) ?_
            refine Wk.goto (q := 207) at_203 (by decide) (by decide) ?_
            exact j207 p14 1 h14 (Or.inl ⟨rfl, y1, y2⟩)
          · refine Wk.icmp_t (q := 206) at_199 (by decide) (by decide) (XT.ii_ne_t y2) ?_
            refine Wk.iconst (q := 207) (0) at_206 rfl (by decide) ?_
            exact j207 p14 0 h14 (Or.inr ⟨rfl, fun z => y2 z.2⟩)
        · refine Wk.icmp_t (q := 206) at_192 (by decide) (by decide) (XT.ii_ne_t y1) ?_
          refine Wk.iconst (q := 207) (0) at_206 rfl (by decide) ?_
          exact j207 p14 0 h14 (Or.inr ⟨rfl, fun z => y1 z.1⟩)
      have j174 : (lc.toInt ≤ 32 ∨ lc = 44) → Wk l Z a0 EL0 x code 20 (some .boolean) room_1 (RV fun u M => u = .int 1) M 12 60 174 [.val (.int i0), .val (.int i1), .val (.int i2), .val (.int i3), .val (.int i4), .val (.int lc), .val (.int pc), .val (.int c1), .val (.int t), .val (.int q), .val (.int d), .val (.int e), .val (.ref ca), .val (.ref al), .unset, .unset, .unset, .unset, .unset, .unset] [] := by
        intro hy
        refine Wk.iload (q := 176) at_174 rfl rfl ?_
        refine Wk.bipush (q := 178) (97) at_176 rfl (by decide) ?_
        by_cases y2 : pc = 97
        · refine Wk.icmp_f (q := 181) at_178 rfl (XT.ii_ne_f y2) ?_
          refine Wk.iconst (q := 182) (1) at_181 rfl (by decide) ?_
          refine Wk.goto (q := 186) at_182 (by decide) (by decide) ?_
          exact j186 1 (Or.inl ⟨rfl, hy, y2⟩)
        · refine Wk.icmp_t (q := 185) at_178 (by decide) (by decide) (XT.ii_ne_t y2) ?_
          refine Wk.iconst (q := 186) (0) at_185 rfl (by decide) ?_
          exact j186 0 (Or.inr ⟨rfl, fun z => y2 z.2⟩)
      refine Wk.mono (?_ : Wk l Z a0 EL0 x code 20 (some .boolean) room_1 (RV fun u M => u = .int 1) M 12 60 160 [.val (.int i0), .val (.int i1), .val (.int i2), .val (.int i3), .val (.int i4), .val (.int lc), .val (.int pc), .val (.int c1), .val (.int t), .val (.int q), .val (.int d), .val (.int e), .val (.ref ca), .val (.ref al), .unset, .unset, .unset, .unset, .unset, .unset] []) (by decide) (by decide)
      refine Wk.iload (q := 162) at_160 rfl rfl ?_
      refine Wk.bipush (q := 164) (32) at_162 rfl (by decide) ?_
      by_cases y1 : lc.toInt ≤ 32
      · refine Wk.icmp_t (q := 174) at_164 (by decide) (by decide) (XT.ii_le_t (nlt_of y1)) ?_
        exact j174 (Or.inl y1)
      · refine Wk.icmp_f (q := 167) at_164 rfl (XT.ii_le_f (lt_of (show (32 : Int) < _ by omega))) ?_
        refine Wk.iload (q := 169) at_167 rfl rfl ?_
        refine Wk.bipush (q := 171) (44) at_169 rfl (by decide) ?_
        by_cases y2 : lc = 44
        · refine Wk.icmp_f (q := 174) at_171 rfl (XT.ii_ne_f y2) ?_
          exact j174 (Or.inr y2)
        · refine Wk.icmp_t (q := 185) at_171 (by decide) (by decide) (XT.ii_ne_t y2) ?_
          refine Wk.iconst (q := 186) (0) at_185 rfl (by decide) ?_
          exact j186 0 (Or.inr ⟨rfl, fun z => z.1.elim y1 y2⟩)
    refine Wk.if_s (q := 76) (q' := 71) at_68 (by decide) (by decide) rfl ?_ ?_
    · intro _
      refine Wk.iload (q := 78) at_76 rfl rfl ?_
      refine Wk.iconst (q := 79) (1) at_78 rfl (by decide) ?_
      refine Wk.iushr (q := 80) at_79 rfl ?_
      refine Wk.sipush (q := 83) (255) at_80 rfl (by decide) ?_
      refine Wk.iand (q := 84) at_83 rfl ?_
      refine Wk.i2c (q := 85) at_84 rfl ?_
      rw [i2c_mask]
      exact j85 _ (mask_lat _)
    · intro _
      refine Wk.bipush (q := 73) (61) at_71 rfl (by decide) ?_
      refine Wk.goto (q := 85) at_73 (by decide) (by decide) ?_
      exact j85 61 (by decide)
  refine Wk.if_s (q := 50) (q' := 45) at_42 (by decide) (by decide) rfl ?_ ?_
  · intro _
    refine Wk.bipush (q := 52) (98) at_50 rfl (by decide) ?_
    exact j52 98 (Or.inr rfl)
  · intro _
    refine Wk.bipush (q := 47) (97) at_45 rfl (by decide) ?_
    refine Wk.goto (q := 52) at_47 (by decide) (by decide) ?_
    exact j52 97 (Or.inl rfl)
set_option maxRecDepth 65536 in
set_option maxHeartbeats 4000000 in
theorem comes_1 {Post : Tables → Env → Array Value → State → Outcome → State → Prop} (hpost : ∀ tb e args s v u, (limb_1_1.after args s (.returned v) u = true ∧ limb_1_2.after args s (.returned v) u = true) → ReturnedEndW s (.returned v) u (Jvm.fieldLocs frame_1_writes args s ++ Jvm.arrayLocs frame_1_arrays args s ++ Jvm.staticLocs frame_1_statics s) 56 5376 → Post tb e args s (.returned v) u) :
    ArmFor flags0 classFile x code maxLocals ret World_1 tables_1 room_1 Calls_1 rest_1 Pre_1 Post := by
  intro l hfl _ _ p e ha hc hk s m args below hf hA hF happ hP
  obtain ⟨hcalls, hrest, hpre⟩ := hP
  obtain ⟨-, -, -, hnamed, -, -, -, hat⟩ := (Spec.applies_iff hf).mp happ
  obtain ⟨hg, hn⟩ := and_e (Cond.before_iff.mp (show (Jvm.Cond.and given_1 narrow_1).before args s = true from hpre))
  obtain ⟨g_n, gr⟩ := and_e hg
  obtain ⟨g0, gr⟩ := and_e gr
  obtain ⟨g1, gr⟩ := and_e gr
  obtain ⟨g2, gr⟩ := and_e gr
  obtain ⟨g3, gr⟩ := and_e gr
  have g4 := gr
  obtain ⟨w0, w1, w2, w3, w4, rfl⟩ : ∃ w0 w1 w2 w3 w4 : Value, args = #[w0, w1, w2, w3, w4] := by
    have hs : args.size = 5 := by simpa [Cond.value, given_1] using g_n
    obtain ⟨L⟩ := args
    match L, hs with
    | [w0, w1, w2, w3, w4], _ => exact ⟨w0, w1, w2, w3, w4, rfl⟩
  obtain ⟨i0, ei0⟩ := is_v g0
  obtain rfl : w0 = (.int i0) := Option.some.inj ei0
  obtain ⟨i1, ei1⟩ := is_v g1
  obtain rfl : w1 = (.int i1) := Option.some.inj ei1
  obtain ⟨i2, ei2⟩ := is_v g2
  obtain rfl : w2 = (.int i2) := Option.some.inj ei2
  obtain ⟨i3, ei3⟩ := is_v g3
  obtain rfl : w3 = (.int i3) := Option.some.inj ei3
  obtain ⟨i4, ei4⟩ := is_v g4
  obtain rfl : w4 = (.int i4) := Option.some.inj ei4
  have hw := fun d (hd : d ∈ tables_1) => atoms_spec (ws := Jvm.Cond.code x code maxLocals ret :: tables_1) hat d (List.mem_cons_of_mem _ hd)
  obtain ⟨hsets, hown0⟩ := atoms_of _ (rest_1_c_eq ▸ (show rest_1_c.before _ s = true from hrest))
  have F := compact (hsets _ (List.mem_of_getElem? (i := 0) rfl)) (hsets _ (List.mem_of_getElem? (i := 1) rfl)) (hsets _ (List.mem_of_getElem? (i := 2) rfl))
  have hE : EW s _ EL0 := (EW.cons (hw _ (List.mem_of_getElem? (i := 40) rfl)) (by decide +kernel) (EW.cons (hw _ (List.mem_of_getElem? (i := 54) rfl)) (by decide +kernel) (EW.cons (hw _ (List.mem_of_getElem? (i := 142) rfl)) (by decide +kernel) (EW.cons (hw _ (List.mem_of_getElem? (i := 141) rfl)) (by decide +kernel) (EW.cons (hw _ (List.mem_of_getElem? (i := 177) rfl)) (by decide +kernel) EW.nil)))))
  have hheld : constsHeld consts_1 s := hcalls.1
  have hCH : CHv s EL0 s.vm s.heap := CHv.start hE (fun p hp => hheld p hp) (hsets _ (List.mem_of_getElem? (i := 2) rfl)) (hw _ (List.mem_of_getElem? (i := 23) rfl)) (hw _ (List.mem_of_getElem? (i := 6) rfl))
  have hI : Inv s EL0 s.vm s.heap [] := ⟨⟨Nat.le_refl _, fun _ _ q => q⟩, hCH, (fun o ho => nomatch ho), (fun o ho => nomatch ho), List.Pairwise.nil⟩
  have hO : FO s := FO_of (hsets _ (List.mem_of_getElem? (i := 7) rfl)) (hsets _ (List.mem_of_getElem? (i := 8) rfl))
  have hDE : DE s := DE_of (hsets _ (List.mem_of_getElem? (i := 15) rfl)) (hsets _ (List.mem_of_getElem? (i := 17) rfl)) (hw _ (List.mem_of_getElem? (i := 62) rfl)) (hsets _ (List.mem_of_getElem? (i := 11) rfl))
  obtain ⟨n, o, h1, h2, h3, v, Lc, L', rfl, ⟨u, rfl, rfl⟩, -, N, hq⟩ := ct_law hw hE F hO hDE i0 i1 i2 i3 i4 tables_1 p e ha hc hk s m _ below hf ((Spec.applies_iff_loose hf).mp happ).1 ⟨rfl, State.Warmed39.refl s, hI⟩ trivial
  exact ⟨n, _, h1, h2, h3, hpost _ _ _ _ _ _ ⟨Cond.after_iff.mpr rfl, Cond.after_iff.mpr (eq_i res_at (Term.int_eval (1)) rfl)⟩ ⟨hq.1, hq.2.1, hq.2.2.1, (hq.2.2.2.sift fun y hy => Or.inr (N y hy)).mono (by decide) (by decide)⟩⟩
theorem main_1_1 : Claimed_1_1 := comes_1 fun _ _ _ _ _ _ h hF => ⟨h.1, hF⟩
theorem main_1_2 : Claimed_1_2 := comes_1 fun _ _ _ _ _ _ h hF => ⟨h.2, hF⟩

end Jvm.Pilot.@@N@@
namespace Jvm.Pilot.@@N@@
open Jvm Jvm.ClassFile Sem Op Lib Jvm.Free Jvm.Stand Jvm.Pilot.@@N@@.Jvm.D
/-! MADE BY PROGRAM (witnessworld.py) out of the Statement's table words and the real class files: 33 classes; the members and pool entries that the words name. The judged class is class 1, her method 1. -/
namespace start1
open Jvm.ClassFile
def u (s : String) : CpInfo := .utf8 (stringToUtf16 s)
/-- a pool by its gaps: so many unusable entries, then the entry; so many at the end -/
def gap : Nat → List CpInfo → List CpInfo
  | 0, r => r
  | n + 1, r => .unusable :: gap n r
def poolList (es : List (Nat × CpInfo)) (last : Nat) : List CpInfo := es.foldr (fun e r => gap e.1 (e.2 :: r)) (gap last [])
def pool (es : List (Nat × CpInfo)) (last : Nat) : Array CpInfo := ⟨poolList es last⟩
def fileOf (pool : Array CpInfo) (this : Nat) (attrs : Array Attribute := #[]) (ms : Array MethodInfo := #[]) (fl : Nat := 33) (sup : Nat := 0) (ifs : Array Nat := #[]) (fds : Array FieldInfo := #[]) : ClassFile where
  minorVersion := 0
  majorVersion := 65
  constantPool := pool
  accessFlags := fl
  thisClass := this
  superClass := sup
  interfaces := ifs
  fields := fds
  methods := ms
  attributes := attrs
def plain (name : String) (sup : Option ClassId) : Class where
  name := name
  kind := .ordinary
  loader := none
  accessFlags := 33
  super := sup
  interfaces := #[]
  cf := none
  fields := #[]
  methods := #[]
  instanceTypes := #[]
  staticTypes := #[]
  resolved := #[]
  callSites := []
  init := .initialized
  statics := none
  mirror := none

def pool0 : Array CpInfo := pool [(5, u "<init>"), (0, u "()V"), (1, .class_ 10), (1, u "java/lang/Object")] 113

def k0c0 : Code := { maxStack := 0, maxLocals := 1, code := object_method_1_code, exceptionTable := #[], attributes := #[] }
def k0m0 : Method := { name := "<init>", desc := "()V", sig := { parameters := [], returnType := none }, accessFlags := 1, code := some k0c0 }
/-- java/lang/Object -/
def k0 : Class := { plain "java/lang/Object" none with
  accessFlags := 33
  interfaces := #[]
  cf := some (fileOf pool0 8 #[] #[{ accessFlags := 1, nameIndex := 5, descriptorIndex := 6, attributes := #[] }] 33 0 #[] #[])
  fields := #[]
  methods := #[k0m0]
  instanceTypes := #[]
  staticTypes := #[]
  resolved := Array.replicate 124 none
  statics := none }

def pool1 : Array CpInfo := pool [(2, .class_ 4), (1, u "java/lang/Object"), (0, u "<init>"), (0, u "()V"), (0, .methodref 8 9), (0, .class_ 10), (0, .nameAndType 11 12), (0, u "com/example/webhook_signature_check/webhooksignaturecheck/HeaderElementsReadPinLaw"), (0, u "pick"), (0, u "(ICC)C"), (0, .class_ 14), (0, u "java/lang/String"), (0, .methodref 13 16), (0, .nameAndType 5 17), (0, u "([C)V"), (0, .methodref 19 20), (0, .class_ 21), (0, .nameAndType 22 23), (0, u "com/example/webhook_signature_check/webhooksignaturecheck/HeaderElements"), (0, u "read"), (0, u "(Ljava/lang/String;)Lcom/example/webhook_signature_check/webhooksignaturecheck/HeaderElements;"), (0, .string 25), (0, u "a"), (0, .methodref 19 27), (0, .nameAndType 28 29), (0, u "all"), (0, u "(Ljava/lang/String;)Ljava/util/List;"), (0, .methodref 8 31), (0, .nameAndType 32 33), (0, u "withEq"), (0, u "(CC)[C"), (0, .methodref 8 35), (0, .nameAndType 36 33), (0, u "tail"), (0, .methodref 13 38), (0, .nameAndType 39 40), (0, u "valueOf"), (0, u "(C)Ljava/lang/String;"), (0, .string 42), (0, u ""), (0, .interfaceMethodref 44 45), (0, .class_ 46), (0, .nameAndType 47 48), (0, u "java/util/List"), (0, u "size"), (0, u "()I"), (0, .interfaceMethodref 44 50), (0, .nameAndType 51 52), (0, u "get"), (0, u "(I)Ljava/lang/Object;"), (0, .methodref 13 54), (0, .nameAndType 55 56), (0, u "equals"), (0, u "(Ljava/lang/Object;)Z"), (2, u "law"), (0, u "(IIIII)Z")] 5

def k1m0 : Method := { name := "<init>", desc := "()V", sig := { parameters := [], returnType := none }, accessFlags := 2, code := none }
def k1c1 : Code := { maxStack := 4, maxLocals := 20, code := code, exceptionTable := #[], attributes := #[] }
def k1m1 : Method := { name := "law", desc := "(IIIII)Z", sig := { parameters := [.int, .int, .int, .int, .int], returnType := some .boolean }, accessFlags := 9, code := some k1c1 }
def k1c2 : Code := { maxStack := 2, maxLocals := 4, code := method_3_code, exceptionTable := #[], attributes := #[] }
def k1m2 : Method := { name := "pick", desc := "(ICC)C", sig := { parameters := [.int, .char, .char], returnType := some .char }, accessFlags := 10, code := some k1c2 }
def k1c3 : Code := { maxStack := 4, maxLocals := 2, code := method_4_code, exceptionTable := #[], attributes := #[] }
def k1m3 : Method := { name := "tail", desc := "(CC)[C", sig := { parameters := [.char, .char], returnType := some (.array .char) }, accessFlags := 10, code := some k1c3 }
def k1c4 : Code := { maxStack := 5, maxLocals := 3, code := method_5_code, exceptionTable := #[], attributes := #[] }
def k1m4 : Method := { name := "withEq", desc := "(CC)[C", sig := { parameters := [.char, .char], returnType := some (.array .char) }, accessFlags := 10, code := some k1c4 }
/-- com/example/webhook_signature_check/webhooksignaturecheck/HeaderElementsReadPinLaw -/
def k1 : Class := { plain "com/example/webhook_signature_check/webhooksignaturecheck/HeaderElementsReadPinLaw" (some 0) with
  accessFlags := 49
  interfaces := #[]
  cf := some (fileOf pool1 8 #[] #[{ accessFlags := 2, nameIndex := 5, descriptorIndex := 6, attributes := #[] }, { accessFlags := 9, nameIndex := 59, descriptorIndex := 60, attributes := #[] }, { accessFlags := 10, nameIndex := 11, descriptorIndex := 12, attributes := #[] }, { accessFlags := 10, nameIndex := 36, descriptorIndex := 33, attributes := #[] }, { accessFlags := 10, nameIndex := 32, descriptorIndex := 33, attributes := #[] }] 49 2 #[] #[])
  fields := #[]
  methods := #[k1m0, k1m1, k1m2, k1m3, k1m4]
  instanceTypes := #[]
  staticTypes := #[]
  resolved := Array.replicate 66 none
  statics := none }

def pool2 : Array CpInfo := pool [(1, .class_ 2), (0, u "java/io/Serializable"), (0, .class_ 4), (0, u "java/lang/Object")] 2

/-- java/io/Serializable -/
def k2 : Class := { plain "java/io/Serializable" (some 0) with
  accessFlags := 1537
  interfaces := #[]
  cf := some (fileOf pool2 1 #[] #[] 1537 3 #[] #[])
  fields := #[]
  methods := #[]
  instanceTypes := #[]
  staticTypes := #[]
  resolved := Array.replicate 7 none
  statics := none }

def pool3 : Array CpInfo := pool [(1, .class_ 2), (0, u "java/lang/Comparable"), (0, .class_ 4), (0, u "java/lang/Object")] 7

/-- java/lang/Comparable -/
def k3 : Class := { plain "java/lang/Comparable" (some 0) with
  accessFlags := 1537
  interfaces := #[]
  cf := some (fileOf pool3 1 #[] #[] 1537 3 #[] #[])
  fields := #[]
  methods := #[]
  instanceTypes := #[]
  staticTypes := #[]
  resolved := Array.replicate 12 none
  statics := none }

def pool4 : Array CpInfo := pool [(2, .class_ 4), (1, u "java/lang/CharSequence"), (42, .class_ 48), (0, u "java/lang/CharSequence$1CodePointIterator"), (10, .class_ 60), (0, u "java/lang/CharSequence$1CharIterator"), (5, .class_ 67), (0, u "java/lang/Object")] 63

/-- java/lang/CharSequence -/
def k4 : Class := { plain "java/lang/CharSequence" (some 0) with
  accessFlags := 1537
  interfaces := #[]
  cf := some (fileOf pool4 2 #[.nestMembers #[47, 59]] #[] 1537 66 #[] #[])
  fields := #[]
  methods := #[]
  instanceTypes := #[]
  staticTypes := #[]
  resolved := Array.replicate 131 none
  statics := none }

def pool5 : Array CpInfo := pool [(1, .class_ 2), (0, u "java/lang/constant/Constable"), (0, .class_ 4), (0, u "java/lang/Object")] 6

/-- java/lang/constant/Constable -/
def k5 : Class := { plain "java/lang/constant/Constable" (some 0) with
  accessFlags := 1537
  interfaces := #[]
  cf := some (fileOf pool5 1 #[] #[] 1537 3 #[] #[])
  fields := #[]
  methods := #[]
  instanceTypes := #[]
  staticTypes := #[]
  resolved := Array.replicate 11 none
  statics := none }

def pool6 : Array CpInfo := pool [(1, .class_ 2), (0, u "java/lang/constant/ConstantDesc"), (0, .class_ 4), (0, u "java/lang/Object")] 32

/-- java/lang/constant/ConstantDesc -/
def k6 : Class := { plain "java/lang/constant/ConstantDesc" (some 0) with
  accessFlags := 1537
  interfaces := #[]
  cf := some (fileOf pool6 1 #[] #[] 1537 3 #[] #[])
  fields := #[]
  methods := #[]
  instanceTypes := #[]
  staticTypes := #[]
  resolved := Array.replicate 37 none
  statics := none }

def pool7 : Array CpInfo := pool [(1, .methodref 2 3), (0, .class_ 4), (0, .nameAndType 5 6), (0, u "java/lang/Object"), (0, u "<init>"), (0, u "()V"), (0, .string 8), (0, u ""), (0, .fieldref 10 11), (0, .class_ 12), (0, .nameAndType 13 14), (0, u "java/lang/String"), (0, u "value"), (0, u "[B"), (0, .fieldref 10 16), (0, .nameAndType 17 18), (0, u "coder"), (0, u "B"), (2, u "hash"), (0, u "I"), (2, u "hashIsZero"), (0, u "Z"), (0, .methodref 10 28), (0, .nameAndType 5 29), (0, u "([CIILjava/lang/Void;)V"), (8, .fieldref 10 39), (0, .nameAndType 40 26), (0, u "COMPACT_STRINGS"), (1, .class_ 44), (1, u "java/lang/StringUTF16"), (0, u "compress"), (1, .methodref 42 48), (0, .nameAndType 49 50), (0, u "coderFromArrayLen"), (0, u "([BI)B"), (2, u "toBytes"), (53, .class_ 109), (1, u "java/lang/StringLatin1"), (32, u "()Z"), (34, .methodref 42 178), (0, .nameAndType 45 179), (0, u "([CII)[B"), (29, .methodref 10 210), (0, .nameAndType 5 211), (0, u "([BB)V"), (122, u "()I"), (0, .methodref 10 336), (0, .nameAndType 17 337), (0, u "()B"), (25, u "([BI)C"), (5, u "(C)Z"), (6, u "([BI[BII)I"), (14, u "(II)V"), (35, u "(I)C"), (64, .methodref 10 493), (0, .nameAndType 494 142), (0, u "isLatin1"), (0, .methodref 107 496), (0, .nameAndType 497 363), (0, u "charAt"), (3, u "checkIndex"), (3, .methodref 10 506), (0, .nameAndType 507 334), (0, u "length"), (5, u "checkFromToIndex"), (7, .methodref 10 522), (0, .nameAndType 523 524), (0, u "checkBoundsBeginEnd"), (0, u "(III)V"), (16, .methodref 107 542), (0, .nameAndType 543 544), (0, u "equals"), (0, u "([B[B)Z"), (14, .class_ 561), (1, u "jdk/internal/util/ArraysSupport"), (0, u "mismatch"), (10, u "(Ljava/lang/Object;)Z"), (1, .class_ 576), (0, u "java/lang/CharSequence"), (22, u "CASE_INSENSITIVE_ORDER"), (0, u "Ljava/util/Comparator;"), (6, .methodref 559 608), (0, .nameAndType 562 376), (17, u "startsWith"), (0, u "(Ljava/lang/String;I)Z"), (7, u "indexOf"), (0, u "(II)I"), (0, .methodref 107 638), (0, .nameAndType 635 639), (0, u "([BIII)I"), (43, u "substring"), (0, u "(II)Ljava/lang/String;"), (0, .methodref 107 686), (0, .nameAndType 687 688), (0, u "newString"), (0, u "([BII)Ljava/lang/String;"), (93, u "valueOf"), (0, u "(C)Ljava/lang/String;"), (226, u "([C)V"), (4, .methodref 107 1016), (0, .nameAndType 1017 369), (0, u "canEncode"), (0, .methodref 107 1019), (0, .nameAndType 53 1020), (0, u "(C)[B"), (32, .fieldref 1054 1055), (0, .class_ 1056), (0, .nameAndType 1057 1058), (0, u "jdk/internal/util/Preconditions"), (0, u "SIOOBE_FORMATTER"), (0, u "Ljava/util/function/BiFunction;"), (0, .methodref 1054 1060), (0, .nameAndType 501 1061), (0, u "(IILjava/util/function/BiFunction;)I"), (0, .methodref 1054 1063), (0, .nameAndType 513 1064), (0, u "(IIILjava/util/function/BiFunction;)I"), (36, u "serialPersistentFields"), (0, u "[Ljava/io/ObjectStreamField;"), (0, .class_ 1104), (0, u "java/lang/String$CaseInsensitiveComparator"), (1, .class_ 1107), (0, u "java/io/Serializable"), (0, .class_ 1109), (0, u "java/lang/Comparable"), (0, .class_ 1111), (0, u "java/lang/constant/Constable"), (0, .class_ 1113), (0, u "java/lang/constant/ConstantDesc"), (2, u "serialVersionUID"), (0, u "J"), (3, u "REPL"), (0, u "C"), (2, u "LATIN1"), (1, u "UTF16")] 323

def k7m0 : Method := { name := "<init>", desc := "()V", sig := { parameters := [], returnType := none }, accessFlags := 1, code := none }
def k7c1 : Code := { maxStack := 5, maxLocals := 2, code := jdk_42_method_3_code, exceptionTable := #[], attributes := #[] }
def k7m1 : Method := { name := "<init>", desc := "([C)V", sig := { parameters := [(.array .char)], returnType := none }, accessFlags := 1, code := some k7c1 }
def k7c2 : Code := { maxStack := 2, maxLocals := 1, code := jdk_42_method_54_code, exceptionTable := #[], attributes := #[] }
def k7m2 : Method := { name := "length", desc := "()I", sig := { parameters := [], returnType := some .int }, accessFlags := 1, code := some k7c2 }
def k7c3 : Code := { maxStack := 2, maxLocals := 2, code := jdk_42_method_56_code, exceptionTable := #[], attributes := #[] }
def k7m3 : Method := { name := "charAt", desc := "(I)C", sig := { parameters := [.int], returnType := some .char }, accessFlags := 1, code := some k7c3 }
def k7c4 : Code := { maxStack := 2, maxLocals := 3, code := jdk_42_method_66_code, exceptionTable := #[], attributes := #[] }
def k7m4 : Method := { name := "equals", desc := "(Ljava/lang/Object;)Z", sig := { parameters := [(.object "java/lang/Object")], returnType := some .boolean }, accessFlags := 1, code := some k7c4 }
def k7c5 : Code := { maxStack := 5, maxLocals := 8, code := jdk_42_method_75_code, exceptionTable := #[], attributes := #[] }
def k7m5 : Method := { name := "startsWith", desc := "(Ljava/lang/String;I)Z", sig := { parameters := [(.object "java/lang/String"), .int], returnType := some .boolean }, accessFlags := 1, code := some k7c5 }
def k7c6 : Code := { maxStack := 4, maxLocals := 3, code := jdk_42_method_80_code, exceptionTable := #[], attributes := #[] }
def k7m6 : Method := { name := "indexOf", desc := "(II)I", sig := { parameters := [.int, .int], returnType := some .int }, accessFlags := 1, code := some k7c6 }
def k7c7 : Code := { maxStack := 3, maxLocals := 5, code := jdk_42_method_92_code, exceptionTable := #[], attributes := #[] }
def k7m7 : Method := { name := "substring", desc := "(II)Ljava/lang/String;", sig := { parameters := [.int, .int], returnType := some (.object "java/lang/String") }, accessFlags := 1, code := some k7c7 }
def k7c8 : Code := { maxStack := 4, maxLocals := 1, code := jdk_42_method_139_code, exceptionTable := #[], attributes := #[] }
def k7m8 : Method := { name := "valueOf", desc := "(C)Ljava/lang/String;", sig := { parameters := [.char], returnType := some (.object "java/lang/String") }, accessFlags := 9, code := some k7c8 }
def k7c9 : Code := { maxStack := 4, maxLocals := 6, code := jdk_42_method_149_code, exceptionTable := #[], attributes := #[] }
def k7m9 : Method := { name := "<init>", desc := "([CIILjava/lang/Void;)V", sig := { parameters := [(.array .char), .int, .int, (.object "java/lang/Void")], returnType := none }, accessFlags := 2, code := some k7c9 }
def k7c10 : Code := { maxStack := 2, maxLocals := 3, code := jdk_42_method_151_code, exceptionTable := #[], attributes := #[] }
def k7m10 : Method := { name := "<init>", desc := "([BB)V", sig := { parameters := [(.array .byte), .byte], returnType := none }, accessFlags := 0, code := some k7c10 }
def k7c11 : Code := { maxStack := 1, maxLocals := 1, code := jdk_42_method_152_code, exceptionTable := #[], attributes := #[] }
def k7m11 : Method := { name := "coder", desc := "()B", sig := { parameters := [], returnType := some .byte }, accessFlags := 0, code := some k7c11 }
def k7c12 : Code := { maxStack := 1, maxLocals := 1, code := jdk_42_method_154_code, exceptionTable := #[], attributes := #[] }
def k7m12 : Method := { name := "isLatin1", desc := "()Z", sig := { parameters := [], returnType := some .boolean }, accessFlags := 0, code := some k7c12 }
def k7c13 : Code := { maxStack := 3, maxLocals := 2, code := jdk_42_method_155_code, exceptionTable := #[], attributes := #[] }
def k7m13 : Method := { name := "checkIndex", desc := "(II)V", sig := { parameters := [.int, .int], returnType := none }, accessFlags := 8, code := some k7c13 }
def k7c14 : Code := { maxStack := 4, maxLocals := 3, code := jdk_42_method_158_code, exceptionTable := #[], attributes := #[] }
def k7m14 : Method := { name := "checkBoundsBeginEnd", desc := "(III)V", sig := { parameters := [.int, .int, .int], returnType := none }, accessFlags := 8, code := some k7c14 }
/-- java/lang/String -/
def k7 : Class := { plain "java/lang/String" (some 0) with
  accessFlags := 49
  interfaces := #[2, 3, 4, 5, 6]
  cf := some (fileOf pool7 10 #[.nestMembers #[1103]] #[{ accessFlags := 1, nameIndex := 5, descriptorIndex := 6, attributes := #[] }, { accessFlags := 1, nameIndex := 5, descriptorIndex := 1010, attributes := #[] }, { accessFlags := 1, nameIndex := 507, descriptorIndex := 334, attributes := #[] }, { accessFlags := 1, nameIndex := 497, descriptorIndex := 427, attributes := #[] }, { accessFlags := 1, nameIndex := 543, descriptorIndex := 573, attributes := #[] }, { accessFlags := 1, nameIndex := 626, descriptorIndex := 627, attributes := #[] }, { accessFlags := 1, nameIndex := 635, descriptorIndex := 636, attributes := #[] }, { accessFlags := 1, nameIndex := 683, descriptorIndex := 684, attributes := #[] }, { accessFlags := 9, nameIndex := 782, descriptorIndex := 783, attributes := #[] }, { accessFlags := 2, nameIndex := 5, descriptorIndex := 29, attributes := #[] }, { accessFlags := 0, nameIndex := 5, descriptorIndex := 211, attributes := #[] }, { accessFlags := 0, nameIndex := 17, descriptorIndex := 337, attributes := #[] }, { accessFlags := 0, nameIndex := 494, descriptorIndex := 142, attributes := #[] }, { accessFlags := 8, nameIndex := 501, descriptorIndex := 391, attributes := #[] }, { accessFlags := 8, nameIndex := 523, descriptorIndex := 524, attributes := #[] }] 49 2 #[1106, 1108, 575, 1110, 1112] #[{ accessFlags := 18, nameIndex := 13, descriptorIndex := 14, attributes := #[] }, { accessFlags := 18, nameIndex := 17, descriptorIndex := 18, attributes := #[] }, { accessFlags := 2, nameIndex := 21, descriptorIndex := 22, attributes := #[] }, { accessFlags := 2, nameIndex := 25, descriptorIndex := 26, attributes := #[] }, { accessFlags := 26, nameIndex := 1116, descriptorIndex := 1117, attributes := #[] }, { accessFlags := 24, nameIndex := 40, descriptorIndex := 26, attributes := #[] }, { accessFlags := 26, nameIndex := 1101, descriptorIndex := 1102, attributes := #[] }, { accessFlags := 26, nameIndex := 1121, descriptorIndex := 1122, attributes := #[] }, { accessFlags := 25, nameIndex := 599, descriptorIndex := 600, attributes := #[] }, { accessFlags := 24, nameIndex := 1125, descriptorIndex := 18, attributes := #[] }, { accessFlags := 24, nameIndex := 1127, descriptorIndex := 18, attributes := #[] }])
  fields := #[{ name := "value", type := (.array .byte), accessFlags := 18, slot := 0, constantValue := 0 }, { name := "coder", type := .byte, accessFlags := 18, slot := 1, constantValue := 0 }, { name := "hash", type := .int, accessFlags := 2, slot := 2, constantValue := 0 }, { name := "hashIsZero", type := .boolean, accessFlags := 2, slot := 3, constantValue := 0 }, { name := "serialVersionUID", type := .long, accessFlags := 26, slot := 0, constantValue := 0 }, { name := "COMPACT_STRINGS", type := .boolean, accessFlags := 24, slot := 1, constantValue := 0 }, { name := "serialPersistentFields", type := (.array (.object "java/io/ObjectStreamField")), accessFlags := 26, slot := 2, constantValue := 0 }, { name := "REPL", type := .char, accessFlags := 26, slot := 3, constantValue := 0 }, { name := "CASE_INSENSITIVE_ORDER", type := (.object "java/util/Comparator"), accessFlags := 25, slot := 4, constantValue := 0 }, { name := "LATIN1", type := .byte, accessFlags := 24, slot := 5, constantValue := 0 }, { name := "UTF16", type := .byte, accessFlags := 24, slot := 6, constantValue := 0 }]
  methods := #[k7m0, k7m1, k7m2, k7m3, k7m4, k7m5, k7m6, k7m7, k7m8, k7m9, k7m10, k7m11, k7m12, k7m13, k7m14]
  instanceTypes := #[(.array .byte), .byte, .int, .boolean]
  staticTypes := #[.long, .boolean, (.array (.object "java/io/ObjectStreamField")), .char, (.object "java/util/Comparator"), .byte, .byte]
  resolved := Array.replicate 1451 none
  statics := some 0 }

def pool8 : Array CpInfo := pool [(6, .class_ 8), (1, u "java/lang/Object"), (0, u "<init>"), (0, u "()V"), (1, .class_ 14), (1, u "java/lang/StringUTF16"), (31, u "$assertionsDisabled"), (0, u "Z"), (13, u "HI_BYTE_SHIFT"), (0, u "I"), (2, u "LO_BYTE_SHIFT"), (49, .methodref 12 116), (0, .nameAndType 117 118), (0, u "compress"), (0, u "([CI[BII)I"), (3, u "([CII)[B"), (138, u "coderFromArrayLen"), (0, u "([BI)B"), (106, .class_ 371), (1, u "java/lang/StringUTF16$LinesSpliterator"), (58, u "MAX_LENGTH"), (196, .class_ 628), (0, u "java/lang/StringUTF16$CodePointsSpliterator"), (0, .class_ 630), (0, u "java/lang/StringUTF16$CharsSpliterator")] 4

def k8m0 : Method := { name := "<init>", desc := "()V", sig := { parameters := [], returnType := none }, accessFlags := 0, code := none }
def k8c1 : Code := { maxStack := 2, maxLocals := 2, code := jdk_52_method_15_code, exceptionTable := #[], attributes := #[] }
def k8m1 : Method := { name := "coderFromArrayLen", desc := "([BI)B", sig := { parameters := [(.array .byte), .int], returnType := some .byte }, accessFlags := 8, code := some k8c1 }
def k8c2 : Code := { maxStack := 5, maxLocals := 6, code := jdk_52_method_16_code, exceptionTable := #[], attributes := #[] }
def k8m2 : Method := { name := "compress", desc := "([CII)[B", sig := { parameters := [(.array .char), .int, .int], returnType := some (.array .byte) }, accessFlags := 9, code := some k8c2 }
def k8c3 : Code := { maxStack := 3, maxLocals := 7, code := jdk_52_method_21_code, exceptionTable := #[], attributes := #[] }
def k8m3 : Method := { name := "compress", desc := "([CI[BII)I", sig := { parameters := [(.array .char), .int, (.array .byte), .int, .int], returnType := some .int }, accessFlags := 9, code := some k8c3 }
/-- java/lang/StringUTF16 -/
def k8 : Class := { plain "java/lang/StringUTF16" (some 0) with
  accessFlags := 48
  interfaces := #[]
  cf := some (fileOf pool8 12 #[.nestMembers #[627, 629, 369]] #[{ accessFlags := 0, nameIndex := 9, descriptorIndex := 10, attributes := #[] }, { accessFlags := 8, nameIndex := 261, descriptorIndex := 262, attributes := #[] }, { accessFlags := 9, nameIndex := 117, descriptorIndex := 122, attributes := #[] }, { accessFlags := 9, nameIndex := 117, descriptorIndex := 118, attributes := #[] }] 48 6 #[] #[{ accessFlags := 26, nameIndex := 61, descriptorIndex := 62, attributes := #[] }, { accessFlags := 26, nameIndex := 65, descriptorIndex := 62, attributes := #[] }, { accessFlags := 24, nameIndex := 430, descriptorIndex := 62, attributes := #[] }, { accessFlags := 4120, nameIndex := 46, descriptorIndex := 47, attributes := #[] }])
  fields := #[{ name := "HI_BYTE_SHIFT", type := .int, accessFlags := 26, slot := 0, constantValue := 0 }, { name := "LO_BYTE_SHIFT", type := .int, accessFlags := 26, slot := 1, constantValue := 0 }, { name := "MAX_LENGTH", type := .int, accessFlags := 24, slot := 2, constantValue := 0 }, { name := "$assertionsDisabled", type := .boolean, accessFlags := 4120, slot := 3, constantValue := 0 }]
  methods := #[k8m0, k8m1, k8m2, k8m3]
  instanceTypes := #[]
  staticTypes := #[.int, .int, .int, .boolean]
  resolved := Array.replicate 635 none
  statics := none }

def pool9 : Array CpInfo := pool [(1, .methodref 2 3), (0, .class_ 4), (0, .nameAndType 5 6), (0, u "java/lang/Object"), (0, u "<init>"), (0, u "()V"), (0, .fieldref 8 9), (0, .class_ 10), (0, .nameAndType 11 12), (0, u "com/example/webhook_signature_check/webhooksignaturecheck/HeaderElements"), (0, u "value"), (0, u "Ljava/lang/String;"), (0, .string 11), (0, .methodref 15 16), (0, .class_ 17), (0, .nameAndType 18 19), (0, u "java/util/Objects"), (0, u "requireNonNull"), (0, u "(Ljava/lang/Object;Ljava/lang/String;)Ljava/lang/Object;"), (0, .class_ 21), (0, u "java/lang/String"), (0, .methodref 8 23), (0, .nameAndType 5 24), (0, u "(Ljava/lang/String;)V"), (0, .class_ 26), (0, u "java/util/ArrayList"), (0, .methodref 25 3), (0, .methodref 20 29), (0, .nameAndType 30 31), (0, u "length"), (0, u "()I"), (0, .methodref 20 33), (0, .nameAndType 34 35), (0, u "indexOf"), (0, u "(II)I"), (0, .methodref 20 37), (0, .nameAndType 38 39), (0, u "charAt"), (0, u "(I)C"), (0, .methodref 20 41), (0, .nameAndType 42 43), (0, u "startsWith"), (0, u "(Ljava/lang/String;I)Z"), (0, .methodref 20 45), (0, .nameAndType 46 47), (0, u "substring"), (0, u "(II)Ljava/lang/String;"), (0, .interfaceMethodref 49 50), (0, .class_ 51), (0, .nameAndType 52 53), (0, u "java/util/List"), (0, u "add"), (0, u "(Ljava/lang/Object;)Z"), (2, u "all"), (0, u "(Ljava/lang/String;)Ljava/util/List;"), (39, u "SIGNATURE_DIGITS"), (0, u "I"), (4, u "read"), (0, u "(Ljava/lang/String;)Lcom/example/webhook_signature_check/webhooksignaturecheck/HeaderElements;")] 14

def k9c0 : Code := { maxStack := 2, maxLocals := 2, code := prog_1_method_1_code, exceptionTable := #[], attributes := #[] }
def k9m0 : Method := { name := "<init>", desc := "(Ljava/lang/String;)V", sig := { parameters := [(.object "java/lang/String")], returnType := none }, accessFlags := 2, code := some k9c0 }
def k9c1 : Code := { maxStack := 4, maxLocals := 1, code := prog_1_method_2_code, exceptionTable := #[], attributes := #[] }
def k9m1 : Method := { name := "read", desc := "(Ljava/lang/String;)Lcom/example/webhook_signature_check/webhooksignaturecheck/HeaderElements;", sig := { parameters := [(.object "java/lang/String")], returnType := some (.object "com/example/webhook_signature_check/webhooksignaturecheck/HeaderElements") }, accessFlags := 8, code := some k9c1 }
def k9c2 : Code := { maxStack := 4, maxLocals := 9, code := prog_1_method_3_code, exceptionTable := #[], attributes := #[] }
def k9m2 : Method := { name := "all", desc := "(Ljava/lang/String;)Ljava/util/List;", sig := { parameters := [(.object "java/lang/String")], returnType := some (.object "java/util/List") }, accessFlags := 0, code := some k9c2 }
/-- com/example/webhook_signature_check/webhooksignaturecheck/HeaderElements -/
def k9 : Class := { plain "com/example/webhook_signature_check/webhooksignaturecheck/HeaderElements" (some 0) with
  accessFlags := 32
  interfaces := #[]
  cf := some (fileOf pool9 8 #[] #[{ accessFlags := 2, nameIndex := 5, descriptorIndex := 24, attributes := #[] }, { accessFlags := 8, nameIndex := 103, descriptorIndex := 104, attributes := #[] }, { accessFlags := 0, nameIndex := 56, descriptorIndex := 57, attributes := #[] }] 32 2 #[] #[{ accessFlags := 26, nameIndex := 97, descriptorIndex := 98, attributes := #[] }, { accessFlags := 18, nameIndex := 11, descriptorIndex := 12, attributes := #[] }])
  fields := #[{ name := "SIGNATURE_DIGITS", type := .int, accessFlags := 26, slot := 0, constantValue := 0 }, { name := "value", type := (.object "java/lang/String"), accessFlags := 18, slot := 0, constantValue := 0 }]
  methods := #[k9m0, k9m1, k9m2]
  instanceTypes := #[(.object "java/lang/String")]
  staticTypes := #[.int]
  resolved := Array.replicate 119 none
  statics := none }

def pool10 : Array CpInfo := pool [(2, .class_ 4), (1, u "java/lang/Object"), (0, u "<init>"), (0, u "()V"), (35, .class_ 44), (1, u "java/util/Objects"), (0, u "requireNonNull"), (48, u "(Ljava/lang/Object;Ljava/lang/String;)Ljava/lang/Object;"), (10, .methodref 106 107), (0, .class_ 108), (0, .nameAndType 109 110), (0, u "jdk/internal/util/Preconditions"), (0, u "checkIndex"), (0, u "(IILjava/util/function/BiFunction;)I"), (60, u "(II)I")] 12

def k10m0 : Method := { name := "<init>", desc := "()V", sig := { parameters := [], returnType := none }, accessFlags := 2, code := none }
def k10c1 : Code := { maxStack := 3, maxLocals := 2, code := jdk_31_method_11_code, exceptionTable := #[], attributes := #[] }
def k10m1 : Method := { name := "requireNonNull", desc := "(Ljava/lang/Object;Ljava/lang/String;)Ljava/lang/Object;", sig := { parameters := [(.object "java/lang/Object"), (.object "java/lang/String")], returnType := some (.object "java/lang/Object") }, accessFlags := 9, code := some k10c1 }
def k10c2 : Code := { maxStack := 3, maxLocals := 2, code := jdk_31_method_17_code, exceptionTable := #[], attributes := #[] }
def k10m2 : Method := { name := "checkIndex", desc := "(II)I", sig := { parameters := [.int, .int], returnType := some .int }, accessFlags := 9, code := some k10c2 }
/-- java/util/Objects -/
def k10 : Class := { plain "java/util/Objects" (some 0) with
  accessFlags := 49
  interfaces := #[]
  cf := some (fileOf pool10 42 #[] #[{ accessFlags := 2, nameIndex := 5, descriptorIndex := 6, attributes := #[] }, { accessFlags := 9, nameIndex := 45, descriptorIndex := 94, attributes := #[] }, { accessFlags := 9, nameIndex := 109, descriptorIndex := 171, attributes := #[] }] 49 2 #[] #[])
  fields := #[]
  methods := #[k10m0, k10m1, k10m2]
  instanceTypes := #[]
  staticTypes := #[]
  resolved := Array.replicate 184 none
  statics := none }

def pool11 : Array CpInfo := pool [(8, .class_ 10), (1, u "java/lang/Iterable"), (24, .class_ 36), (0, u "java/lang/Object")] 25

/-- java/lang/Iterable -/
def k11 : Class := { plain "java/lang/Iterable" (some 0) with
  accessFlags := 1537
  interfaces := #[]
  cf := some (fileOf pool11 8 #[] #[] 1537 35 #[] #[])
  fields := #[]
  methods := #[]
  instanceTypes := #[]
  staticTypes := #[]
  resolved := Array.replicate 62 none
  statics := none }

def pool12 : Array CpInfo := pool [(10, .class_ 12), (1, u "java/util/Collection"), (47, .class_ 61), (0, u "java/lang/Object"), (0, .class_ 63), (0, u "java/lang/Iterable")] 51

/-- java/util/Collection -/
def k12 : Class := { plain "java/util/Collection" (some 0) with
  accessFlags := 1537
  interfaces := #[11]
  cf := some (fileOf pool12 10 #[] #[] 1537 60 #[62] #[])
  fields := #[]
  methods := #[]
  instanceTypes := #[]
  staticTypes := #[]
  resolved := Array.replicate 115 none
  statics := none }

def pool13 : Array CpInfo := pool [(1, .methodref 2 3), (0, .class_ 4), (0, .nameAndType 5 6), (0, u "java/lang/Object"), (0, u "<init>"), (0, u "()V"), (1, .class_ 10), (1, u "java/util/AbstractCollection"), (66, .class_ 78), (0, u "java/util/Collection")] 81

def k13c0 : Code := { maxStack := 1, maxLocals := 1, code := jdk_22_method_1_code, exceptionTable := #[], attributes := #[] }
def k13m0 : Method := { name := "<init>", desc := "()V", sig := { parameters := [], returnType := none }, accessFlags := 4, code := some k13c0 }
/-- java/util/AbstractCollection -/
def k13 : Class := { plain "java/util/AbstractCollection" (some 0) with
  accessFlags := 1057
  interfaces := #[12]
  cf := some (fileOf pool13 8 #[] #[{ accessFlags := 4, nameIndex := 5, descriptorIndex := 6, attributes := #[] }] 1057 2 #[77] #[])
  fields := #[]
  methods := #[k13m0]
  instanceTypes := #[]
  staticTypes := #[]
  resolved := Array.replicate 160 none
  statics := none }

def pool14 : Array CpInfo := pool [(8, .class_ 10), (1, u "java/util/SequencedCollection"), (15, .class_ 27), (0, u "java/lang/Object"), (0, .class_ 29), (0, u "java/util/Collection")] 27

/-- java/util/SequencedCollection -/
def k14 : Class := { plain "java/util/SequencedCollection" (some 0) with
  accessFlags := 1537
  interfaces := #[12]
  cf := some (fileOf pool14 8 #[] #[] 1537 26 #[28] #[])
  fields := #[]
  methods := #[]
  instanceTypes := #[]
  staticTypes := #[]
  resolved := Array.replicate 57 none
  statics := none }

def pool15 : Array CpInfo := pool [(8, .class_ 10), (1, u "java/util/List"), (49, u "add"), (3, u "(Ljava/lang/Object;)Z"), (10, u "get"), (0, u "(I)Ljava/lang/Object;"), (2, u "size"), (0, u "()I"), (22, .class_ 104), (0, u "java/lang/Object"), (15, .class_ 121), (0, u "java/util/SequencedCollection")] 129

def k15m0 : Method := { name := "size", desc := "()I", sig := { parameters := [], returnType := some .int }, accessFlags := 1025, code := none }
def k15m1 : Method := { name := "add", desc := "(Ljava/lang/Object;)Z", sig := { parameters := [(.object "java/lang/Object")], returnType := some .boolean }, accessFlags := 1025, code := none }
def k15m2 : Method := { name := "get", desc := "(I)Ljava/lang/Object;", sig := { parameters := [.int], returnType := some (.object "java/lang/Object") }, accessFlags := 1025, code := none }
/-- java/util/List -/
def k15 : Class := { plain "java/util/List" (some 0) with
  accessFlags := 1537
  interfaces := #[14]
  cf := some (fileOf pool15 8 #[] #[{ accessFlags := 1025, nameIndex := 79, descriptorIndex := 80, attributes := #[] }, { accessFlags := 1025, nameIndex := 60, descriptorIndex := 64, attributes := #[] }, { accessFlags := 1025, nameIndex := 75, descriptorIndex := 76, attributes := #[] }] 1537 103 #[120] #[])
  fields := #[]
  methods := #[k15m0, k15m1, k15m2]
  instanceTypes := #[]
  staticTypes := #[]
  resolved := Array.replicate 251 none
  statics := none }

def pool16 : Array CpInfo := pool [(1, .methodref 2 3), (0, .class_ 4), (0, .nameAndType 5 6), (0, u "java/util/AbstractCollection"), (0, u "<init>"), (0, u "()V"), (0, .fieldref 8 9), (0, .class_ 10), (0, .nameAndType 11 12), (0, u "java/util/AbstractList"), (0, u "modCount"), (0, u "I"), (64, .class_ 78), (0, u "java/util/AbstractList$Itr"), (3, .class_ 83), (0, u "java/util/AbstractList$ListItr"), (9, .class_ 94), (0, u "java/util/AbstractList$RandomAccessSubList"), (3, .class_ 99), (0, u "java/util/AbstractList$SubList"), (33, .class_ 134), (0, u "java/util/List"), (73, .class_ 209), (0, u "java/util/AbstractList$SubList$1"), (0, .class_ 211), (0, u "java/util/AbstractList$RandomAccessSpliterator")] 6

def k16c0 : Code := { maxStack := 2, maxLocals := 1, code := jdk_39_method_1_code, exceptionTable := #[], attributes := #[] }
def k16m0 : Method := { name := "<init>", desc := "()V", sig := { parameters := [], returnType := none }, accessFlags := 4, code := some k16c0 }
/-- java/util/AbstractList -/
def k16 : Class := { plain "java/util/AbstractList" (some 13) with
  accessFlags := 1057
  interfaces := #[15]
  cf := some (fileOf pool16 8 #[.nestMembers #[93, 98, 208, 210, 82, 77]] #[{ accessFlags := 4, nameIndex := 5, descriptorIndex := 6, attributes := #[] }] 1057 2 #[133] #[{ accessFlags := 132, nameIndex := 11, descriptorIndex := 12, attributes := #[] }])
  fields := #[{ name := "modCount", type := .int, accessFlags := 132, slot := 0, constantValue := 0 }]
  methods := #[k16m0]
  instanceTypes := #[.int]
  staticTypes := #[]
  resolved := Array.replicate 218 none
  statics := none }

def pool17 : Array CpInfo := pool [(1, .class_ 2), (0, u "java/util/RandomAccess"), (0, .class_ 4), (0, u "java/lang/Object")] 2

/-- java/util/RandomAccess -/
def k17 : Class := { plain "java/util/RandomAccess" (some 0) with
  accessFlags := 1537
  interfaces := #[]
  cf := some (fileOf pool17 1 #[] #[] 1537 3 #[] #[])
  fields := #[]
  methods := #[]
  instanceTypes := #[]
  staticTypes := #[]
  resolved := Array.replicate 7 none
  statics := none }

def pool18 : Array CpInfo := pool [(1, .class_ 2), (0, u "java/lang/Cloneable"), (0, .class_ 4), (0, u "java/lang/Object")] 2

/-- java/lang/Cloneable -/
def k18 : Class := { plain "java/lang/Cloneable" (some 0) with
  accessFlags := 1537
  interfaces := #[]
  cf := some (fileOf pool18 1 #[] #[] 1537 3 #[] #[])
  fields := #[]
  methods := #[]
  instanceTypes := #[]
  staticTypes := #[]
  resolved := Array.replicate 7 none
  statics := none }

def pool19 : Array CpInfo := pool [(1, .methodref 2 3), (0, .class_ 4), (0, .nameAndType 5 6), (0, u "java/util/AbstractList"), (0, u "<init>"), (0, u "()V"), (0, .class_ 8), (0, u "java/lang/Object"), (0, .fieldref 10 11), (0, .class_ 12), (0, .nameAndType 13 14), (0, u "java/util/ArrayList"), (0, u "elementData"), (0, u "[Ljava/lang/Object;"), (2, u "EMPTY_ELEMENTDATA"), (21, .fieldref 10 40), (0, .nameAndType 41 14), (0, u "DEFAULTCAPACITY_EMPTY_ELEMENTDATA"), (5, u "()[Ljava/lang/Object;"), (0, .fieldref 10 49), (0, .nameAndType 50 51), (0, u "size"), (0, u "I"), (11, .fieldref 10 64), (0, .nameAndType 65 51), (0, u "modCount"), (3, .methodref 10 70), (0, .nameAndType 71 72), (0, u "grow"), (0, u "(I)[Ljava/lang/Object;"), (6, .methodref 80 81), (0, .class_ 82), (0, .nameAndType 83 84), (0, u "java/lang/Math"), (0, u "max"), (0, u "(II)I"), (11, u "(Ljava/lang/Object;)Z"), (21, .methodref 119 120), (0, .class_ 121), (0, .nameAndType 122 84), (0, u "java/util/Objects"), (0, u "checkIndex"), (0, .methodref 10 124), (0, .nameAndType 13 125), (0, u "(I)Ljava/lang/Object;"), (3, .methodref 10 130), (0, .nameAndType 71 47), (0, .methodref 10 132), (0, .nameAndType 133 134), (0, u "add"), (0, u "(Ljava/lang/Object;[Ljava/lang/Object;I)V"), (13, .class_ 149), (0, u "java/util/List"), (36, u "()I"), (75, .class_ 263), (0, u "java/util/ArrayList$ListItr"), (3, .class_ 268), (0, u "java/util/ArrayList$Itr"), (7, .class_ 277), (0, u "java/util/ArrayList$SubList"), (12, .class_ 291), (0, u "java/util/ArrayList$ArrayListSpliterator"), (37, .class_ 330), (0, u "java/util/RandomAccess"), (0, .class_ 332), (0, u "java/lang/Cloneable"), (0, .class_ 334), (0, u "java/io/Serializable"), (0, u "serialVersionUID"), (0, u "J"), (3, u "DEFAULT_CAPACITY"), (40, u "get"), (118, .class_ 501), (0, u "java/util/ArrayList$SubList$2"), (0, .class_ 503), (0, u "java/util/ArrayList$SubList$1")] 5

def k19c0 : Code := { maxStack := 2, maxLocals := 1, code := jdk_38_method_2_code, exceptionTable := #[], attributes := #[] }
def k19m0 : Method := { name := "<init>", desc := "()V", sig := { parameters := [], returnType := none }, accessFlags := 1, code := some k19c0 }
def k19c1 : Code := { maxStack := 4, maxLocals := 4, code := jdk_38_method_6_code, exceptionTable := #[], attributes := #[] }
def k19m1 : Method := { name := "grow", desc := "(I)[Ljava/lang/Object;", sig := { parameters := [.int], returnType := some (.array (.object "java/lang/Object")) }, accessFlags := 2, code := some k19c1 }
def k19c2 : Code := { maxStack := 3, maxLocals := 1, code := jdk_38_method_7_code, exceptionTable := #[], attributes := #[] }
def k19m2 : Method := { name := "grow", desc := "()[Ljava/lang/Object;", sig := { parameters := [], returnType := some (.array (.object "java/lang/Object")) }, accessFlags := 2, code := some k19c2 }
def k19c3 : Code := { maxStack := 1, maxLocals := 1, code := jdk_38_method_8_code, exceptionTable := #[], attributes := #[] }
def k19m3 : Method := { name := "size", desc := "()I", sig := { parameters := [], returnType := some .int }, accessFlags := 1, code := some k19c3 }
def k19c4 : Code := { maxStack := 2, maxLocals := 2, code := jdk_38_method_18_code, exceptionTable := #[], attributes := #[] }
def k19m4 : Method := { name := "elementData", desc := "(I)Ljava/lang/Object;", sig := { parameters := [.int], returnType := some (.object "java/lang/Object") }, accessFlags := 0, code := some k19c4 }
def k19c5 : Code := { maxStack := 2, maxLocals := 2, code := jdk_38_method_20_code, exceptionTable := #[], attributes := #[] }
def k19m5 : Method := { name := "get", desc := "(I)Ljava/lang/Object;", sig := { parameters := [.int], returnType := some (.object "java/lang/Object") }, accessFlags := 1, code := some k19c5 }
def k19c6 : Code := { maxStack := 3, maxLocals := 4, code := jdk_38_method_24_code, exceptionTable := #[], attributes := #[] }
def k19m6 : Method := { name := "add", desc := "(Ljava/lang/Object;[Ljava/lang/Object;I)V", sig := { parameters := [(.object "java/lang/Object"), (.array (.object "java/lang/Object")), .int], returnType := none }, accessFlags := 2, code := some k19c6 }
def k19c7 : Code := { maxStack := 4, maxLocals := 2, code := jdk_38_method_25_code, exceptionTable := #[], attributes := #[] }
def k19m7 : Method := { name := "add", desc := "(Ljava/lang/Object;)Z", sig := { parameters := [(.object "java/lang/Object")], returnType := some .boolean }, accessFlags := 1, code := some k19c7 }
/-- java/util/ArrayList -/
def k19 : Class := { plain "java/util/ArrayList" (some 16) with
  accessFlags := 33
  interfaces := #[15, 17, 18, 2]
  cf := some (fileOf pool19 10 #[.nestMembers #[290, 276, 500, 502, 262, 267]] #[{ accessFlags := 1, nameIndex := 5, descriptorIndex := 6, attributes := #[] }, { accessFlags := 2, nameIndex := 71, descriptorIndex := 72, attributes := #[] }, { accessFlags := 2, nameIndex := 71, descriptorIndex := 47, attributes := #[] }, { accessFlags := 1, nameIndex := 50, descriptorIndex := 186, attributes := #[] }, { accessFlags := 0, nameIndex := 13, descriptorIndex := 125, attributes := #[] }, { accessFlags := 1, nameIndex := 381, descriptorIndex := 125, attributes := #[] }, { accessFlags := 2, nameIndex := 133, descriptorIndex := 134, attributes := #[] }, { accessFlags := 1, nameIndex := 133, descriptorIndex := 96, attributes := #[] }] 33 2 #[148, 329, 331, 333] #[{ accessFlags := 26, nameIndex := 335, descriptorIndex := 336, attributes := #[] }, { accessFlags := 26, nameIndex := 340, descriptorIndex := 51, attributes := #[] }, { accessFlags := 26, nameIndex := 17, descriptorIndex := 14, attributes := #[] }, { accessFlags := 26, nameIndex := 41, descriptorIndex := 14, attributes := #[] }, { accessFlags := 128, nameIndex := 13, descriptorIndex := 14, attributes := #[] }, { accessFlags := 2, nameIndex := 50, descriptorIndex := 51, attributes := #[] }])
  fields := #[{ name := "serialVersionUID", type := .long, accessFlags := 26, slot := 0, constantValue := 0 }, { name := "DEFAULT_CAPACITY", type := .int, accessFlags := 26, slot := 1, constantValue := 0 }, { name := "EMPTY_ELEMENTDATA", type := (.array (.object "java/lang/Object")), accessFlags := 26, slot := 2, constantValue := 0 }, { name := "DEFAULTCAPACITY_EMPTY_ELEMENTDATA", type := (.array (.object "java/lang/Object")), accessFlags := 26, slot := 3, constantValue := 0 }, { name := "elementData", type := (.array (.object "java/lang/Object")), accessFlags := 128, slot := 1, constantValue := 0 }, { name := "size", type := .int, accessFlags := 2, slot := 2, constantValue := 0 }]
  methods := #[k19m0, k19m1, k19m2, k19m3, k19m4, k19m5, k19m6, k19m7]
  instanceTypes := #[.int, (.array (.object "java/lang/Object")), .int]
  staticTypes := #[.long, .int, (.array (.object "java/lang/Object")), (.array (.object "java/lang/Object"))]
  resolved := Array.replicate 509 none
  statics := some 1 }

def pool20 : Array CpInfo := pool [(1, .class_ 2), (0, u "java/lang/String"), (1, .class_ 6), (1, u "java/lang/Object"), (0, u "<init>"), (0, u "()V"), (0, .methodref 1 10), (0, .nameAndType 11 12), (0, u "checkIndex"), (0, u "(II)V"), (1, .class_ 16), (1, u "java/lang/StringLatin1"), (21, .methodref 39 40), (0, .class_ 41), (0, .nameAndType 42 43), (0, u "java/lang/Math"), (0, u "min"), (0, u "(II)I"), (9, u "([BI)C"), (34, .methodref 14 89), (0, .nameAndType 90 91), (0, u "canEncode"), (0, u "(I)Z"), (0, .methodref 39 93), (0, .nameAndType 94 43), (0, u "max"), (0, .methodref 14 96), (0, .nameAndType 97 98), (0, u "indexOfChar"), (0, u "([BIII)I"), (2, u "indexOf"), (3, u "(C)Z"), (6, .methodref 1 113), (0, .nameAndType 7 114), (0, u "([BB)V"), (6, u "$assertionsDisabled"), (0, u "Z"), (8, .class_ 133), (1, u "java/util/Arrays"), (17, .string 152), (0, u ""), (43, u "newString"), (0, u "([BII)Ljava/lang/String;"), (23, .class_ 223), (1, u "java/lang/StringLatin1$LinesSpliterator"), (8, .methodref 131 233), (0, .nameAndType 234 235), (0, u "copyOfRange"), (0, u "([BII)[B"), (16, u "charAt"), (28, u "equals"), (0, u "([B[B)Z"), (97, u "toBytes"), (1, u "(C)[B"), (7, .class_ 391), (0, u "java/lang/StringLatin1$CharsSpliterator")] 3

def k20m0 : Method := { name := "<init>", desc := "()V", sig := { parameters := [], returnType := none }, accessFlags := 0, code := none }
def k20c1 : Code := { maxStack := 2, maxLocals := 2, code := jdk_43_method_2_code, exceptionTable := #[], attributes := #[] }
def k20m1 : Method := { name := "charAt", desc := "([BI)C", sig := { parameters := [(.array .byte), .int], returnType := some .char }, accessFlags := 9, code := some k20c1 }
def k20c2 : Code := { maxStack := 2, maxLocals := 1, code := jdk_43_method_3_code, exceptionTable := #[], attributes := #[] }
def k20m2 : Method := { name := "canEncode", desc := "(C)Z", sig := { parameters := [.char], returnType := some .boolean }, accessFlags := 9, code := some k20c2 }
def k20c3 : Code := { maxStack := 2, maxLocals := 1, code := jdk_43_method_4_code, exceptionTable := #[], attributes := #[] }
def k20m3 : Method := { name := "canEncode", desc := "(I)Z", sig := { parameters := [.int], returnType := some .boolean }, accessFlags := 9, code := some k20c3 }
def k20c4 : Code := { maxStack := 3, maxLocals := 3, code := jdk_43_method_13_code, exceptionTable := #[], attributes := #[] }
def k20m4 : Method := { name := "equals", desc := "([B[B)Z", sig := { parameters := [(.array .byte), (.array .byte)], returnType := some .boolean }, accessFlags := 9, code := some k20c4 }
def k20c5 : Code := { maxStack := 4, maxLocals := 4, code := jdk_43_method_22_code, exceptionTable := #[], attributes := #[] }
def k20m5 : Method := { name := "indexOf", desc := "([BIII)I", sig := { parameters := [(.array .byte), .int, .int, .int], returnType := some .int }, accessFlags := 9, code := some k20c5 }
def k20c6 : Code := { maxStack := 2, maxLocals := 6, code := jdk_43_method_23_code, exceptionTable := #[], attributes := #[] }
def k20m6 : Method := { name := "indexOfChar", desc := "([BIII)I", sig := { parameters := [(.array .byte), .int, .int, .int], returnType := some .int }, accessFlags := 10, code := some k20c6 }
def k20c7 : Code := { maxStack := 4, maxLocals := 1, code := jdk_43_method_46_code, exceptionTable := #[], attributes := #[] }
def k20m7 : Method := { name := "toBytes", desc := "(C)[B", sig := { parameters := [.char], returnType := some (.array .byte) }, accessFlags := 9, code := some k20c7 }
def k20c8 : Code := { maxStack := 6, maxLocals := 3, code := jdk_43_method_47_code, exceptionTable := #[], attributes := #[] }
def k20m8 : Method := { name := "newString", desc := "([BII)Ljava/lang/String;", sig := { parameters := [(.array .byte), .int, .int], returnType := some (.object "java/lang/String") }, accessFlags := 9, code := some k20c8 }
/-- java/lang/StringLatin1 -/
def k20 : Class := { plain "java/lang/StringLatin1" (some 0) with
  accessFlags := 48
  interfaces := #[]
  cf := some (fileOf pool20 14 #[.nestMembers #[390, 221]] #[{ accessFlags := 0, nameIndex := 7, descriptorIndex := 8, attributes := #[] }, { accessFlags := 9, nameIndex := 252, descriptorIndex := 53, attributes := #[] }, { accessFlags := 9, nameIndex := 90, descriptorIndex := 105, attributes := #[] }, { accessFlags := 9, nameIndex := 90, descriptorIndex := 91, attributes := #[] }, { accessFlags := 9, nameIndex := 281, descriptorIndex := 282, attributes := #[] }, { accessFlags := 9, nameIndex := 101, descriptorIndex := 98, attributes := #[] }, { accessFlags := 10, nameIndex := 97, descriptorIndex := 98, attributes := #[] }, { accessFlags := 9, nameIndex := 380, descriptorIndex := 382, attributes := #[] }, { accessFlags := 9, nameIndex := 196, descriptorIndex := 197, attributes := #[] }] 48 4 #[] #[{ accessFlags := 4120, nameIndex := 121, descriptorIndex := 122, attributes := #[] }])
  fields := #[{ name := "$assertionsDisabled", type := .boolean, accessFlags := 4120, slot := 0, constantValue := 0 }]
  methods := #[k20m0, k20m1, k20m2, k20m3, k20m4, k20m5, k20m6, k20m7, k20m8]
  instanceTypes := #[]
  staticTypes := #[.boolean]
  resolved := Array.replicate 395 none
  statics := none }

def pool21 : Array CpInfo := pool [(1, .class_ 2), (0, u "java/lang/Math"), (1, .class_ 6), (1, u "java/lang/Object"), (0, u "<init>"), (0, u "()V"), (89, .class_ 100), (1, u "java/lang/Math$RandomNumberGeneratorHolder"), (71, u "negativeZeroFloatBits"), (0, u "J"), (2, u "negativeZeroDoubleBits"), (21, u "max"), (2, u "min"), (43, u "$assertionsDisabled"), (0, u "Z"), (88, u "(II)I"), (2, u "twoToTheDoubleScaleDown"), (0, u "D"), (4, u "twoToTheDoubleScaleUp"), (9, u "E"), (3, u "PI"), (2, u "TAU"), (2, u "DEGREES_TO_RADIANS"), (0, u "RADIANS_TO_DEGREES")] 94

def k21m0 : Method := { name := "<init>", desc := "()V", sig := { parameters := [], returnType := none }, accessFlags := 2, code := none }
def k21c1 : Code := { maxStack := 2, maxLocals := 2, code := jdk_29_method_65_code, exceptionTable := #[], attributes := #[] }
def k21m1 : Method := { name := "max", desc := "(II)I", sig := { parameters := [.int, .int], returnType := some .int }, accessFlags := 9, code := some k21c1 }
def k21c2 : Code := { maxStack := 2, maxLocals := 2, code := jdk_29_method_69_code, exceptionTable := #[], attributes := #[] }
def k21m2 : Method := { name := "min", desc := "(II)I", sig := { parameters := [.int, .int], returnType := some .int }, accessFlags := 9, code := some k21c2 }
/-- java/lang/Math -/
def k21 : Class := { plain "java/lang/Math" (some 0) with
  accessFlags := 49
  interfaces := #[]
  cf := some (fileOf pool21 1 #[.nestMembers #[98]] #[{ accessFlags := 2, nameIndex := 7, descriptorIndex := 8, attributes := #[] }, { accessFlags := 9, nameIndex := 198, descriptorIndex := 335, attributes := #[] }, { accessFlags := 9, nameIndex := 201, descriptorIndex := 335, attributes := #[] }] 49 4 #[] #[{ accessFlags := 25, nameIndex := 354, descriptorIndex := 339, attributes := #[] }, { accessFlags := 25, nameIndex := 358, descriptorIndex := 339, attributes := #[] }, { accessFlags := 25, nameIndex := 361, descriptorIndex := 339, attributes := #[] }, { accessFlags := 26, nameIndex := 364, descriptorIndex := 339, attributes := #[] }, { accessFlags := 26, nameIndex := 365, descriptorIndex := 339, attributes := #[] }, { accessFlags := 26, nameIndex := 172, descriptorIndex := 173, attributes := #[] }, { accessFlags := 26, nameIndex := 176, descriptorIndex := 173, attributes := #[] }, { accessFlags := 8, nameIndex := 344, descriptorIndex := 339, attributes := #[] }, { accessFlags := 8, nameIndex := 338, descriptorIndex := 339, attributes := #[] }, { accessFlags := 4120, nameIndex := 245, descriptorIndex := 246, attributes := #[] }])
  fields := #[{ name := "E", type := .double, accessFlags := 25, slot := 0, constantValue := 0 }, { name := "PI", type := .double, accessFlags := 25, slot := 1, constantValue := 0 }, { name := "TAU", type := .double, accessFlags := 25, slot := 2, constantValue := 0 }, { name := "DEGREES_TO_RADIANS", type := .double, accessFlags := 26, slot := 3, constantValue := 0 }, { name := "RADIANS_TO_DEGREES", type := .double, accessFlags := 26, slot := 4, constantValue := 0 }, { name := "negativeZeroFloatBits", type := .long, accessFlags := 26, slot := 5, constantValue := 0 }, { name := "negativeZeroDoubleBits", type := .long, accessFlags := 26, slot := 6, constantValue := 0 }, { name := "twoToTheDoubleScaleUp", type := .double, accessFlags := 8, slot := 7, constantValue := 0 }, { name := "twoToTheDoubleScaleDown", type := .double, accessFlags := 8, slot := 8, constantValue := 0 }, { name := "$assertionsDisabled", type := .boolean, accessFlags := 4120, slot := 9, constantValue := 0 }]
  methods := #[k21m0, k21m1, k21m2]
  instanceTypes := #[]
  staticTypes := #[.double, .double, .double, .double, .double, .long, .long, .double, .double, .boolean]
  resolved := Array.replicate 460 none
  statics := none }

def pool22 : Array CpInfo := pool [(2, .class_ 4), (1, u "java/lang/Object"), (0, u "<init>"), (0, u "()V"), (17, .class_ 26), (1, u "jdk/internal/util/Preconditions"), (6, u "checkIndex"), (13, u "checkFromToIndex"), (7, .class_ 56), (0, u "jdk/internal/util/Preconditions$4"), (57, .class_ 115), (0, u "jdk/internal/util/Preconditions$1"), (7, u "SIOOBE_FORMATTER"), (0, u "Ljava/util/function/BiFunction;"), (0, .class_ 126), (0, u "jdk/internal/util/Preconditions$2"), (3, u "AIOOBE_FORMATTER"), (0, .class_ 132), (0, u "jdk/internal/util/Preconditions$3"), (3, u "IOOBE_FORMATTER"), (41, u "(IILjava/util/function/BiFunction;)I"), (4, u "(IIILjava/util/function/BiFunction;)I")] 10

def k22m0 : Method := { name := "<init>", desc := "()V", sig := { parameters := [], returnType := none }, accessFlags := 1, code := none }
def k22c1 : Code := { maxStack := 3, maxLocals := 3, code := jdk_41_method_11_code, exceptionTable := #[], attributes := #[] }
def k22m1 : Method := { name := "checkIndex", desc := "(IILjava/util/function/BiFunction;)I", sig := { parameters := [.int, .int, (.object "java/util/function/BiFunction")], returnType := some .int }, accessFlags := 9, code := some k22c1 }
def k22c2 : Code := { maxStack := 4, maxLocals := 4, code := jdk_41_method_12_code, exceptionTable := #[], attributes := #[] }
def k22m2 : Method := { name := "checkFromToIndex", desc := "(IIILjava/util/function/BiFunction;)I", sig := { parameters := [.int, .int, .int, (.object "java/util/function/BiFunction")], returnType := some .int }, accessFlags := 9, code := some k22c2 }
/-- jdk/internal/util/Preconditions -/
def k22 : Class := { plain "jdk/internal/util/Preconditions" (some 0) with
  accessFlags := 33
  interfaces := #[]
  cf := some (fileOf pool22 24 #[.nestMembers #[55, 131, 125, 114]] #[{ accessFlags := 1, nameIndex := 5, descriptorIndex := 6, attributes := #[] }, { accessFlags := 9, nameIndex := 33, descriptorIndex := 178, attributes := #[] }, { accessFlags := 9, nameIndex := 47, descriptorIndex := 183, attributes := #[] }] 33 2 #[] #[{ accessFlags := 25, nameIndex := 123, descriptorIndex := 124, attributes := #[] }, { accessFlags := 25, nameIndex := 130, descriptorIndex := 124, attributes := #[] }, { accessFlags := 25, nameIndex := 136, descriptorIndex := 124, attributes := #[] }])
  fields := #[{ name := "SIOOBE_FORMATTER", type := (.object "java/util/function/BiFunction"), accessFlags := 25, slot := 0, constantValue := 0 }, { name := "AIOOBE_FORMATTER", type := (.object "java/util/function/BiFunction"), accessFlags := 25, slot := 1, constantValue := 0 }, { name := "IOOBE_FORMATTER", type := (.object "java/util/function/BiFunction"), accessFlags := 25, slot := 2, constantValue := 0 }]
  methods := #[k22m0, k22m1, k22m2]
  instanceTypes := #[]
  staticTypes := #[(.object "java/util/function/BiFunction"), (.object "java/util/function/BiFunction"), (.object "java/util/function/BiFunction")]
  resolved := Array.replicate 194 none
  statics := some 2 }

def pool23 : Array CpInfo := pool [(9, u "<init>"), (6, .class_ 18), (1, u "java/lang/Object"), (0, u "()V"), (1, .class_ 23), (1, u "jdk/internal/util/ArraysSupport"), (0, u "LOG2_ARRAY_LONG_INDEX_SCALE"), (0, u "I"), (2, u "U"), (0, u "Ljdk/internal/misc/Unsafe;"), (8, u "BIG_ENDIAN"), (0, u "Z"), (8, u "LOG2_BYTE_BIT_SIZE"), (4, u "LOG2_ARRAY_INT_INDEX_SCALE"), (54, u "JLA"), (0, u "Ljdk/internal/access/JavaLangAccess;"), (11, u "LOG2_ARRAY_BOOLEAN_INDEX_SCALE"), (9, u "LOG2_ARRAY_BYTE_INDEX_SCALE"), (5, u "LOG2_ARRAY_CHAR_INDEX_SCALE"), (5, u "LOG2_ARRAY_SHORT_INDEX_SCALE"), (5, u "mismatch"), (12, u "LOG2_ARRAY_FLOAT_INDEX_SCALE"), (24, u "LOG2_ARRAY_DOUBLE_INDEX_SCALE"), (89, u "T_BOOLEAN"), (2, u "T_CHAR"), (1, u "T_FLOAT"), (1, u "T_DOUBLE"), (1, u "T_BYTE"), (1, u "T_SHORT"), (1, u "T_INT"), (1, u "T_LONG"), (1, u "SOFT_MAX_ARRAY_LENGTH"), (42, u "([BI[BII)I")] 40

def k23m0 : Method := { name := "<init>", desc := "()V", sig := { parameters := [], returnType := none }, accessFlags := 2, code := none }
def k23c1 : Code := { maxStack := 8, maxLocals := 8, code := jdk_48_method_14_code, exceptionTable := #[], attributes := #[] }
def k23m1 : Method := { name := "mismatch", desc := "([BI[BII)I", sig := { parameters := [(.array .byte), .int, (.array .byte), .int, .int], returnType := some .int }, accessFlags := 9, code := some k23c1 }
/-- jdk/internal/util/ArraysSupport -/
def k23 : Class := { plain "jdk/internal/util/ArraysSupport" (some 0) with
  accessFlags := 33
  interfaces := #[]
  cf := some (fileOf pool23 21 #[] #[{ accessFlags := 2, nameIndex := 9, descriptorIndex := 19, attributes := #[] }, { accessFlags := 9, nameIndex := 149, descriptorIndex := 337, attributes := #[] }] 33 16 #[] #[{ accessFlags := 24, nameIndex := 28, descriptorIndex := 29, attributes := #[] }, { accessFlags := 26, nameIndex := 38, descriptorIndex := 39, attributes := #[] }, { accessFlags := 25, nameIndex := 121, descriptorIndex := 25, attributes := #[] }, { accessFlags := 25, nameIndex := 131, descriptorIndex := 25, attributes := #[] }, { accessFlags := 25, nameIndex := 137, descriptorIndex := 25, attributes := #[] }, { accessFlags := 25, nameIndex := 143, descriptorIndex := 25, attributes := #[] }, { accessFlags := 25, nameIndex := 53, descriptorIndex := 25, attributes := #[] }, { accessFlags := 25, nameIndex := 24, descriptorIndex := 25, attributes := #[] }, { accessFlags := 25, nameIndex := 162, descriptorIndex := 25, attributes := #[] }, { accessFlags := 25, nameIndex := 187, descriptorIndex := 25, attributes := #[] }, { accessFlags := 26, nameIndex := 48, descriptorIndex := 25, attributes := #[] }, { accessFlags := 25, nameIndex := 277, descriptorIndex := 25, attributes := #[] }, { accessFlags := 25, nameIndex := 280, descriptorIndex := 25, attributes := #[] }, { accessFlags := 25, nameIndex := 282, descriptorIndex := 25, attributes := #[] }, { accessFlags := 25, nameIndex := 284, descriptorIndex := 25, attributes := #[] }, { accessFlags := 25, nameIndex := 286, descriptorIndex := 25, attributes := #[] }, { accessFlags := 25, nameIndex := 288, descriptorIndex := 25, attributes := #[] }, { accessFlags := 25, nameIndex := 290, descriptorIndex := 25, attributes := #[] }, { accessFlags := 25, nameIndex := 292, descriptorIndex := 25, attributes := #[] }, { accessFlags := 26, nameIndex := 108, descriptorIndex := 109, attributes := #[] }, { accessFlags := 25, nameIndex := 294, descriptorIndex := 25, attributes := #[] }])
  fields := #[{ name := "U", type := (.object "jdk/internal/misc/Unsafe"), accessFlags := 24, slot := 0, constantValue := 0 }, { name := "BIG_ENDIAN", type := .boolean, accessFlags := 26, slot := 1, constantValue := 0 }, { name := "LOG2_ARRAY_BOOLEAN_INDEX_SCALE", type := .int, accessFlags := 25, slot := 2, constantValue := 0 }, { name := "LOG2_ARRAY_BYTE_INDEX_SCALE", type := .int, accessFlags := 25, slot := 3, constantValue := 0 }, { name := "LOG2_ARRAY_CHAR_INDEX_SCALE", type := .int, accessFlags := 25, slot := 4, constantValue := 0 }, { name := "LOG2_ARRAY_SHORT_INDEX_SCALE", type := .int, accessFlags := 25, slot := 5, constantValue := 0 }, { name := "LOG2_ARRAY_INT_INDEX_SCALE", type := .int, accessFlags := 25, slot := 6, constantValue := 0 }, { name := "LOG2_ARRAY_LONG_INDEX_SCALE", type := .int, accessFlags := 25, slot := 7, constantValue := 0 }, { name := "LOG2_ARRAY_FLOAT_INDEX_SCALE", type := .int, accessFlags := 25, slot := 8, constantValue := 0 }, { name := "LOG2_ARRAY_DOUBLE_INDEX_SCALE", type := .int, accessFlags := 25, slot := 9, constantValue := 0 }, { name := "LOG2_BYTE_BIT_SIZE", type := .int, accessFlags := 26, slot := 10, constantValue := 0 }, { name := "T_BOOLEAN", type := .int, accessFlags := 25, slot := 11, constantValue := 0 }, { name := "T_CHAR", type := .int, accessFlags := 25, slot := 12, constantValue := 0 }, { name := "T_FLOAT", type := .int, accessFlags := 25, slot := 13, constantValue := 0 }, { name := "T_DOUBLE", type := .int, accessFlags := 25, slot := 14, constantValue := 0 }, { name := "T_BYTE", type := .int, accessFlags := 25, slot := 15, constantValue := 0 }, { name := "T_SHORT", type := .int, accessFlags := 25, slot := 16, constantValue := 0 }, { name := "T_INT", type := .int, accessFlags := 25, slot := 17, constantValue := 0 }, { name := "T_LONG", type := .int, accessFlags := 25, slot := 18, constantValue := 0 }, { name := "JLA", type := (.object "jdk/internal/access/JavaLangAccess"), accessFlags := 26, slot := 19, constantValue := 0 }, { name := "SOFT_MAX_ARRAY_LENGTH", type := .int, accessFlags := 25, slot := 20, constantValue := 0 }]
  methods := #[k23m0, k23m1]
  instanceTypes := #[]
  staticTypes := #[(.object "jdk/internal/misc/Unsafe"), .boolean, .int, .int, .int, .int, .int, .int, .int, .int, .int, .int, .int, .int, .int, .int, .int, .int, .int, (.object "jdk/internal/access/JavaLangAccess"), .int]
  resolved := Array.replicate 378 none
  statics := none }

def pool24 : Array CpInfo := pool [(2, .class_ 4), (1, u "java/lang/Object"), (0, u "<init>"), (0, u "()V"), (7, .class_ 16), (1, u "java/util/Arrays"), (57, .class_ 76), (1, u "java/util/Arrays$NaturalOrder"), (36, .class_ 115), (1, u "java/util/Arrays$LegacyMergeSort"), (1, u "Z"), (21, u "copyOfRange"), (10, .methodref 151 152), (0, .class_ 153), (0, .nameAndType 154 155), (0, u "java/lang/System"), (0, u "arraycopy"), (0, u "(Ljava/lang/Object;ILjava/lang/Object;II)V"), (148, .methodref 305 306), (0, .class_ 307), (0, .nameAndType 308 309), (0, u "java/lang/Math"), (0, u "min"), (0, u "(II)I"), (29, .methodref 14 340), (0, .nameAndType 341 342), (0, u "copyOfRangeByte"), (0, u "([BII)[B"), (0, .methodref 14 344), (0, .nameAndType 345 346), (0, u "checkLength"), (0, u "(II)V"), (28, .class_ 376), (0, u "java/util/Arrays$ArrayList"), (68, u "$assertionsDisabled"), (269, u "MIN_ARRAY_SORT_GRAN"), (0, u "I"), (2, u "INSERTIONSORT_THRESHOLD"), (255, .class_ 976), (0, u "java/util/Arrays$ArrayItr")] 52

def k24m0 : Method := { name := "<init>", desc := "()V", sig := { parameters := [], returnType := none }, accessFlags := 2, code := none }
def k24c1 : Code := { maxStack := 4, maxLocals := 2, code := jdk_65_method_131_code, exceptionTable := #[], attributes := #[] }
def k24m1 : Method := { name := "checkLength", desc := "(II)V", sig := { parameters := [.int, .int], returnType := none }, accessFlags := 10, code := some k24c1 }
def k24c2 : Code := { maxStack := 3, maxLocals := 3, code := jdk_65_method_132_code, exceptionTable := #[], attributes := #[] }
def k24m2 : Method := { name := "copyOfRange", desc := "([BII)[B", sig := { parameters := [(.array .byte), .int, .int], returnType := some (.array .byte) }, accessFlags := 9, code := some k24c2 }
def k24c3 : Code := { maxStack := 6, maxLocals := 5, code := jdk_65_method_133_code, exceptionTable := #[], attributes := #[] }
def k24m3 : Method := { name := "copyOfRangeByte", desc := "([BII)[B", sig := { parameters := [(.array .byte), .int, .int], returnType := some (.array .byte) }, accessFlags := 10, code := some k24c3 }
/-- java/util/Arrays -/
def k24 : Class := { plain "java/util/Arrays" (some 0) with
  accessFlags := 49
  interfaces := #[]
  cf := some (fileOf pool24 14 #[.nestMembers #[975, 375, 113, 74]] #[{ accessFlags := 2, nameIndex := 5, descriptorIndex := 6, attributes := #[] }, { accessFlags := 10, nameIndex := 345, descriptorIndex := 346, attributes := #[] }, { accessFlags := 9, nameIndex := 139, descriptorIndex := 342, attributes := #[] }, { accessFlags := 10, nameIndex := 341, descriptorIndex := 342, attributes := #[] }] 49 2 #[] #[{ accessFlags := 26, nameIndex := 715, descriptorIndex := 716, attributes := #[] }, { accessFlags := 26, nameIndex := 719, descriptorIndex := 716, attributes := #[] }, { accessFlags := 4120, nameIndex := 445, descriptorIndex := 117, attributes := #[] }])
  fields := #[{ name := "MIN_ARRAY_SORT_GRAN", type := .int, accessFlags := 26, slot := 0, constantValue := 0 }, { name := "INSERTIONSORT_THRESHOLD", type := .int, accessFlags := 26, slot := 1, constantValue := 0 }, { name := "$assertionsDisabled", type := .boolean, accessFlags := 4120, slot := 2, constantValue := 0 }]
  methods := #[k24m0, k24m1, k24m2, k24m3]
  instanceTypes := #[]
  staticTypes := #[.int, .int, .boolean]
  resolved := Array.replicate 1029 none
  statics := none }

def pool25 : Array CpInfo := pool [(2, .class_ 4), (1, u "java/lang/Object"), (0, u "<init>"), (0, u "()V"), (1, .class_ 10), (1, u "java/lang/System"), (0, u "allowSecurityManager"), (0, u "I"), (16, u "cons"), (0, u "Ljava/io/Console;"), (77, .class_ 110), (1, u "java/lang/System$CallersHolder"), (43, u "initialErrStream"), (0, u "Ljava/io/PrintStream;"), (19, u "security"), (0, u "Ljava/lang/SecurityManager;"), (31, .class_ 209), (0, u "java/lang/System$1"), (7, u "props"), (0, u "Ljava/util/Properties;"), (2, u "lineSeparator"), (0, u "Ljava/lang/String;"), (96, .class_ 321), (1, u "java/lang/System$LoggerFinder"), (5, .class_ 328), (0, u "java/lang/System$Logger"), (67, u "err"), (2, u "out"), (91, u "notSupportedJnuEncoding"), (15, u "in"), (17, u "initialIn"), (0, u "Ljava/io/InputStream;"), (35, u "bootLayer"), (0, u "Ljava/lang/ModuleLayer;"), (99, .class_ 664), (0, u "java/lang/System$2"), (9, u "NEVER"), (2, u "MAYBE"), (49, u "arraycopy"), (0, u "(Ljava/lang/Object;ILjava/lang/Object;II)V"), (72, .class_ 802), (0, u "java/lang/System$Logger$Level")] 31

def k25m0 : Method := { name := "<init>", desc := "()V", sig := { parameters := [], returnType := none }, accessFlags := 2, code := none }
def k25m1 : Method := { name := "arraycopy", desc := "(Ljava/lang/Object;ILjava/lang/Object;II)V", sig := { parameters := [(.object "java/lang/Object"), .int, (.object "java/lang/Object"), .int, .int], returnType := none }, accessFlags := 265, code := none }
/-- java/lang/System -/
def k25 : Class := { plain "java/lang/System" (some 0) with
  accessFlags := 49
  interfaces := #[]
  cf := some (fileOf pool25 8 #[.nestMembers #[319, 327, 801, 108, 663, 208]] #[{ accessFlags := 2, nameIndex := 5, descriptorIndex := 6, attributes := #[] }, { accessFlags := 265, nameIndex := 727, descriptorIndex := 728, attributes := #[] }] 49 2 #[] #[{ accessFlags := 25, nameIndex := 507, descriptorIndex := 526, attributes := #[] }, { accessFlags := 25, nameIndex := 399, descriptorIndex := 155, attributes := #[] }, { accessFlags := 25, nameIndex := 396, descriptorIndex := 155, attributes := #[] }, { accessFlags := 10, nameIndex := 525, descriptorIndex := 526, attributes := #[] }, { accessFlags := 26, nameIndex := 674, descriptorIndex := 12, attributes := #[] }, { accessFlags := 26, nameIndex := 677, descriptorIndex := 12, attributes := #[] }, { accessFlags := 10, nameIndex := 11, descriptorIndex := 12, attributes := #[] }, { accessFlags := 74, nameIndex := 175, descriptorIndex := 176, attributes := #[] }, { accessFlags := 10, nameIndex := 491, descriptorIndex := 222, attributes := #[] }, { accessFlags := 74, nameIndex := 29, descriptorIndex := 30, attributes := #[] }, { accessFlags := 74, nameIndex := 154, descriptorIndex := 155, attributes := #[] }, { accessFlags := 10, nameIndex := 217, descriptorIndex := 218, attributes := #[] }, { accessFlags := 10, nameIndex := 221, descriptorIndex := 222, attributes := #[] }, { accessFlags := 8, nameIndex := 562, descriptorIndex := 563, attributes := #[] }])
  fields := #[{ name := "in", type := (.object "java/io/InputStream"), accessFlags := 25, slot := 0, constantValue := 0 }, { name := "out", type := (.object "java/io/PrintStream"), accessFlags := 25, slot := 1, constantValue := 0 }, { name := "err", type := (.object "java/io/PrintStream"), accessFlags := 25, slot := 2, constantValue := 0 }, { name := "initialIn", type := (.object "java/io/InputStream"), accessFlags := 10, slot := 3, constantValue := 0 }, { name := "NEVER", type := .int, accessFlags := 26, slot := 4, constantValue := 0 }, { name := "MAYBE", type := .int, accessFlags := 26, slot := 5, constantValue := 0 }, { name := "allowSecurityManager", type := .int, accessFlags := 10, slot := 6, constantValue := 0 }, { name := "security", type := (.object "java/lang/SecurityManager"), accessFlags := 74, slot := 7, constantValue := 0 }, { name := "notSupportedJnuEncoding", type := (.object "java/lang/String"), accessFlags := 10, slot := 8, constantValue := 0 }, { name := "cons", type := (.object "java/io/Console"), accessFlags := 74, slot := 9, constantValue := 0 }, { name := "initialErrStream", type := (.object "java/io/PrintStream"), accessFlags := 74, slot := 10, constantValue := 0 }, { name := "props", type := (.object "java/util/Properties"), accessFlags := 10, slot := 11, constantValue := 0 }, { name := "lineSeparator", type := (.object "java/lang/String"), accessFlags := 10, slot := 12, constantValue := 0 }, { name := "bootLayer", type := (.object "java/lang/ModuleLayer"), accessFlags := 8, slot := 13, constantValue := 0 }]
  methods := #[k25m0, k25m1]
  instanceTypes := #[]
  staticTypes := #[(.object "java/io/InputStream"), (.object "java/io/PrintStream"), (.object "java/io/PrintStream"), (.object "java/io/InputStream"), .int, .int, .int, (.object "java/lang/SecurityManager"), (.object "java/lang/String"), (.object "java/io/Console"), (.object "java/io/PrintStream"), (.object "java/util/Properties"), (.object "java/lang/String"), (.object "java/lang/ModuleLayer")]
  resolved := Array.replicate 834 none
  statics := none }

/-- the primitive byte -/
def k26 : Class := { plain "byte" none with kind := .primitive 'B', accessFlags := 0x411 }
/-- [B -/
def k27 : Class := { plain "[B" (some 0) with kind := .array 26 .byte, interfaces := #[18, 2], accessFlags := 1041 }

/-- the primitive char -/
def k28 : Class := { plain "char" none with kind := .primitive 'C', accessFlags := 0x411 }
/-- [C -/
def k29 : Class := { plain "[C" (some 0) with kind := .array 28 .char, interfaces := #[18, 2], accessFlags := 1041 }

/-- the primitive int -/
def k30 : Class := { plain "int" none with kind := .primitive 'I', accessFlags := 0x411 }
/-- [I -/
def k31 : Class := { plain "[I" (some 0) with kind := .array 30 .int, interfaces := #[18, 2], accessFlags := 1041 }

/-- [Ljava/lang/Object; -/
def k32 : Class := { plain "[Ljava/lang/Object;" (some 0) with kind := .array 0 (.object "java/lang/Object"), interfaces := #[18, 2], accessFlags := 1041 }

def heap : Heap := #[{ cls := 7, slots := #[.long 0, .int 1, .null, .int 0, .null, .int 0, .int 0], vm := .statics 7 },
  { cls := 19, slots := #[.long 0, .int 0, .ref 3, .ref 4], vm := .statics 19 },
  { cls := 22, slots := #[.null, .null, .null], vm := .statics 22 },
  { cls := 32, slots := #[], vm := .none },
  { cls := 32, slots := #[], vm := .none }]
def classes : Array Class := #[k0, k1, k2, k3, k4, k5, k6, k7, k8, k9, k10, k11, k12, k13, k14, k15, k16, k17, k18, k19, k20, k21, k22, k23, k24, k25, k26, k27, k28, k29, k30, k31, k32]
def interned : List (Array UInt16 × Addr) := []
def slotsUsed : Nat := 14
def theMethod : MethodId := ⟨1, 1⟩
def args0 : Array Value := #[.int 5, .int 5, .int 5, .int 5, .int 5]
def aboutOver (below : List Frame) : State where
  vm := { classes := classes, interned := interned.toArray }
  heap := heap
  slotsUsed := slotsUsed
  threads := #[{ frames := .invoking theMethod args0 :: below }]
def below0 : List Frame := [.native { method := ⟨0, 0⟩, args := #[] }]
def about1 : State := aboutOver below0
def p0 : Program := .bare "" "" ""
def e0 : Env := launch0.env 0 0 0
theorem w_frames : about1.frames = Frame.invoking theMethod args0 :: below0 := rfl
set_option maxRecDepth 65536 in
theorem w_args : argsFit about1.vm theMethod args0 = true := by decide +kernel
set_option maxRecDepth 65536 in
theorem w_heap : heapFits about1 = true := by decide +kernel
set_option maxRecDepth 65536 in
theorem w_runnable : about1.curStatus? = some .runnable := by decide +kernel
set_option maxRecDepth 65536 in
theorem w_alone : about1.alone = true := by decide +kernel
set_option maxRecDepth 65536 in
theorem w_named : about1.methodNamed? x = some theMethod := by decide +kernel
set_option maxRecDepth 65536 in
theorem w_hears : about1.hears theMethod below0 = true := by decide +kernel
set_option maxRecDepth 65536 in
theorem w_ripe : about1.ripe theMethod args0 below0 = true := by decide +kernel
theorem w_running : about1.status = .running := rfl
set_option maxRecDepth 65536 in
theorem w_room : about1.hasRoom e0.platform room_1 = true :=
  launch0.hasRoom_least _ room_1 (by decide +kernel) (by decide +kernel) (by decide +kernel) (by decide +kernel) (by decide +kernel) (by decide +kernel)
theorem allAtoms_all (ts : List Jvm.Cond) (a : Array Jvm.Value) (st : Jvm.State) : (allAtoms ts).before a st = ts.all (fun c => c.before a st) := by
  induction ts with
  | nil => rfl
  | cons c t ih =>
    show (Jvm.Cond.and c (allAtoms t)).before a st = _
    rw [Jvm.Cond.before_and, ih, List.all_cons]
def words1 : List Jvm.Cond := Jvm.Cond.code x code maxLocals ret :: tables_1
/-- a 'code' word, met by the world's own term for the bytes: nothing is compared byte by byte -/
theorem code_word {y : MethodName} {bytes : ByteArray} {mx : Nat} {rt : Option FieldType} {a : Array Value} {s : State} {m : MethodId} {meth : Method} {c : Code} (h1 : s.methodNamed? y = some m) (h2 : s.vm.method? m = some meth) (h3 : meth.code = some c) (h4 : c.code = bytes)
    (h5 : (c.maxLocals == mx && c.exceptionTable.isEmpty && decide (c.maxStack ≤ mostOperands) && decide (meth.sig.returnType = rt) && !meth.locks && decide (parseMethodDescriptor y.desc = some meth.sig)) = true) : (Jvm.Cond.code y bytes mx rt).before a s = true := by
  simp only [Bool.and_eq_true, beq_iff_eq, Bool.not_eq_true', decide_eq_true_eq] at h5
  obtain ⟨⟨⟨⟨⟨g1, g2⟩, g3⟩, g4⟩, g5⟩, g6⟩ := h5
  simp [Cond.before, Cond.holds, Cond.value, h1, h2, h3, h4, g1, g2, g3, g4, g5, g6]
def isCode : Jvm.Cond → Bool
  | .code _ _ _ _ => true
  | _ => false
theorem all_split {L : List Jvm.Cond} {P : Jvm.Cond → Bool} (h1 : L.all (fun c => isCode c || P c) = true) (h2 : ∀ c ∈ L.filter isCode, P c = true) : L.all P = true := by
  refine List.all_eq_true.mpr fun c hc => ?_
  have h := List.all_eq_true.mp h1 c hc
  rcases Bool.eq_false_or_eq_true (isCode c) with hi | hi
  · exact h2 c (List.mem_filter.mpr ⟨hc, hi⟩)
  · simpa [hi] using h
set_option maxRecDepth 65536 in
theorem w_c0 : (Jvm.Cond.code x code maxLocals ret).before args0 about1 = true := code_word (m := ⟨1, 1⟩) (meth := k1m1) (c := k1c1) (by decide +kernel) rfl rfl rfl (by decide +kernel)
set_option maxRecDepth 65536 in
theorem w_c1 : (Jvm.Cond.code ({ cls := "com/example/webhook_signature_check/webhooksignaturecheck/HeaderElementsReadPinLaw", name := "pick", desc := "(ICC)C" } : Jvm.MethodName) method_3_code (4 : Nat) (Option.some Jvm.ClassFile.FieldType.char)).before args0 about1 = true := code_word (m := ⟨1, 2⟩) (meth := k1m2) (c := k1c2) (by decide +kernel) rfl rfl rfl (by decide +kernel)
set_option maxRecDepth 65536 in
theorem w_c2 : (Jvm.Cond.code ({ cls := "java/lang/String", name := "<init>", desc := "([C)V" } : Jvm.MethodName) jdk_42_method_3_code (2 : Nat) (Option.none : Option Jvm.ClassFile.FieldType)).before args0 about1 = true := code_word (m := ⟨7, 1⟩) (meth := k7m1) (c := k7c1) (by decide +kernel) rfl rfl rfl (by decide +kernel)
set_option maxRecDepth 65536 in
theorem w_c3 : (Jvm.Cond.code ({ cls := "java/lang/String", name := "<init>", desc := "([CIILjava/lang/Void;)V" } : Jvm.MethodName) jdk_42_method_149_code (6 : Nat) (Option.none : Option Jvm.ClassFile.FieldType)).before args0 about1 = true := code_word (m := ⟨7, 9⟩) (meth := k7m9) (c := k7c9) (by decide +kernel) rfl rfl rfl (by decide +kernel)
set_option maxRecDepth 65536 in
theorem w_c4 : (Jvm.Cond.code ({ cls := "java/lang/Object", name := "<init>", desc := "()V" } : Jvm.MethodName) object_method_1_code (1 : Nat) (Option.none : Option Jvm.ClassFile.FieldType)).before args0 about1 = true := code_word (m := ⟨0, 0⟩) (meth := k0m0) (c := k0c0) (by decide +kernel) rfl rfl rfl (by decide +kernel)
set_option maxRecDepth 65536 in
theorem w_c5 : (Jvm.Cond.code ({ cls := "java/lang/StringUTF16", name := "compress", desc := "([CII)[B" } : Jvm.MethodName) jdk_52_method_16_code (6 : Nat) (Option.some (Jvm.ClassFile.FieldType.array Jvm.ClassFile.FieldType.byte))).before args0 about1 = true := code_word (m := ⟨8, 2⟩) (meth := k8m2) (c := k8c2) (by decide +kernel) rfl rfl rfl (by decide +kernel)
set_option maxRecDepth 65536 in
theorem w_c6 : (Jvm.Cond.code ({ cls := "java/lang/StringUTF16", name := "compress", desc := "([CI[BII)I" } : Jvm.MethodName) jdk_52_method_21_code (7 : Nat) (Option.some Jvm.ClassFile.FieldType.int)).before args0 about1 = true := code_word (m := ⟨8, 3⟩) (meth := k8m3) (c := k8c3) (by decide +kernel) rfl rfl rfl (by decide +kernel)
set_option maxRecDepth 65536 in
theorem w_c7 : (Jvm.Cond.code ({ cls := "java/lang/StringUTF16", name := "coderFromArrayLen", desc := "([BI)B" } : Jvm.MethodName) jdk_52_method_15_code (2 : Nat) (Option.some Jvm.ClassFile.FieldType.byte)).before args0 about1 = true := code_word (m := ⟨8, 1⟩) (meth := k8m1) (c := k8c1) (by decide +kernel) rfl rfl rfl (by decide +kernel)
set_option maxRecDepth 65536 in
theorem w_c8 : (Jvm.Cond.code ({ cls := "com/example/webhook_signature_check/webhooksignaturecheck/HeaderElements", name := "read", desc := "(Ljava/lang/String;)Lcom/example/webhook_signature_check/webhooksignaturecheck/HeaderElements;" } : Jvm.MethodName) prog_1_method_2_code (1 : Nat) (Option.some (Jvm.ClassFile.FieldType.object "com/example/webhook_signature_check/webhooksignaturecheck/HeaderElements"))).before args0 about1 = true := code_word (m := ⟨9, 1⟩) (meth := k9m1) (c := k9c1) (by decide +kernel) rfl rfl rfl (by decide +kernel)
set_option maxRecDepth 65536 in
theorem w_c9 : (Jvm.Cond.code ({ cls := "java/util/Objects", name := "requireNonNull", desc := "(Ljava/lang/Object;Ljava/lang/String;)Ljava/lang/Object;" } : Jvm.MethodName) jdk_31_method_11_code (2 : Nat) (Option.some (Jvm.ClassFile.FieldType.object "java/lang/Object"))).before args0 about1 = true := code_word (m := ⟨10, 1⟩) (meth := k10m1) (c := k10c1) (by decide +kernel) rfl rfl rfl (by decide +kernel)
set_option maxRecDepth 65536 in
theorem w_c10 : (Jvm.Cond.code ({ cls := "com/example/webhook_signature_check/webhooksignaturecheck/HeaderElements", name := "<init>", desc := "(Ljava/lang/String;)V" } : Jvm.MethodName) prog_1_method_1_code (2 : Nat) (Option.none : Option Jvm.ClassFile.FieldType)).before args0 about1 = true := code_word (m := ⟨9, 0⟩) (meth := k9m0) (c := k9c0) (by decide +kernel) rfl rfl rfl (by decide +kernel)
set_option maxRecDepth 65536 in
theorem w_c11 : (Jvm.Cond.code ({ cls := "com/example/webhook_signature_check/webhooksignaturecheck/HeaderElements", name := "all", desc := "(Ljava/lang/String;)Ljava/util/List;" } : Jvm.MethodName) prog_1_method_3_code (9 : Nat) (Option.some (Jvm.ClassFile.FieldType.object "java/util/List"))).before args0 about1 = true := code_word (m := ⟨9, 2⟩) (meth := k9m2) (c := k9c2) (by decide +kernel) rfl rfl rfl (by decide +kernel)
set_option maxRecDepth 65536 in
theorem w_c12 : (Jvm.Cond.code ({ cls := "java/util/ArrayList", name := "<init>", desc := "()V" } : Jvm.MethodName) jdk_38_method_2_code (1 : Nat) (Option.none : Option Jvm.ClassFile.FieldType)).before args0 about1 = true := code_word (m := ⟨19, 0⟩) (meth := k19m0) (c := k19c0) (by decide +kernel) rfl rfl rfl (by decide +kernel)
set_option maxRecDepth 65536 in
theorem w_c13 : (Jvm.Cond.code ({ cls := "java/util/AbstractList", name := "<init>", desc := "()V" } : Jvm.MethodName) jdk_39_method_1_code (1 : Nat) (Option.none : Option Jvm.ClassFile.FieldType)).before args0 about1 = true := code_word (m := ⟨16, 0⟩) (meth := k16m0) (c := k16c0) (by decide +kernel) rfl rfl rfl (by decide +kernel)
set_option maxRecDepth 65536 in
theorem w_c14 : (Jvm.Cond.code ({ cls := "java/util/AbstractCollection", name := "<init>", desc := "()V" } : Jvm.MethodName) jdk_22_method_1_code (1 : Nat) (Option.none : Option Jvm.ClassFile.FieldType)).before args0 about1 = true := code_word (m := ⟨13, 0⟩) (meth := k13m0) (c := k13c0) (by decide +kernel) rfl rfl rfl (by decide +kernel)
set_option maxRecDepth 65536 in
theorem w_c15 : (Jvm.Cond.code ({ cls := "java/lang/String", name := "length", desc := "()I" } : Jvm.MethodName) jdk_42_method_54_code (1 : Nat) (Option.some Jvm.ClassFile.FieldType.int)).before args0 about1 = true := code_word (m := ⟨7, 2⟩) (meth := k7m2) (c := k7c2) (by decide +kernel) rfl rfl rfl (by decide +kernel)
set_option maxRecDepth 65536 in
theorem w_c16 : (Jvm.Cond.code ({ cls := "java/lang/String", name := "coder", desc := "()B" } : Jvm.MethodName) jdk_42_method_152_code (1 : Nat) (Option.some Jvm.ClassFile.FieldType.byte)).before args0 about1 = true := code_word (m := ⟨7, 11⟩) (meth := k7m11) (c := k7c11) (by decide +kernel) rfl rfl rfl (by decide +kernel)
set_option maxRecDepth 65536 in
theorem w_c17 : (Jvm.Cond.code ({ cls := "java/lang/String", name := "indexOf", desc := "(II)I" } : Jvm.MethodName) jdk_42_method_80_code (3 : Nat) (Option.some Jvm.ClassFile.FieldType.int)).before args0 about1 = true := code_word (m := ⟨7, 6⟩) (meth := k7m6) (c := k7c6) (by decide +kernel) rfl rfl rfl (by decide +kernel)
set_option maxRecDepth 65536 in
theorem w_c18 : (Jvm.Cond.code ({ cls := "java/lang/String", name := "isLatin1", desc := "()Z" } : Jvm.MethodName) jdk_42_method_154_code (1 : Nat) (Option.some Jvm.ClassFile.FieldType.boolean)).before args0 about1 = true := code_word (m := ⟨7, 12⟩) (meth := k7m12) (c := k7c12) (by decide +kernel) rfl rfl rfl (by decide +kernel)
set_option maxRecDepth 65536 in
theorem w_c19 : (Jvm.Cond.code ({ cls := "java/lang/StringLatin1", name := "indexOf", desc := "([BIII)I" } : Jvm.MethodName) jdk_43_method_22_code (4 : Nat) (Option.some Jvm.ClassFile.FieldType.int)).before args0 about1 = true := code_word (m := ⟨20, 5⟩) (meth := k20m5) (c := k20c5) (by decide +kernel) rfl rfl rfl (by decide +kernel)
set_option maxRecDepth 65536 in
theorem w_c20 : (Jvm.Cond.code ({ cls := "java/lang/StringLatin1", name := "canEncode", desc := "(I)Z" } : Jvm.MethodName) jdk_43_method_4_code (1 : Nat) (Option.some Jvm.ClassFile.FieldType.boolean)).before args0 about1 = true := code_word (m := ⟨20, 3⟩) (meth := k20m3) (c := k20c3) (by decide +kernel) rfl rfl rfl (by decide +kernel)
set_option maxRecDepth 65536 in
theorem w_c21 : (Jvm.Cond.code ({ cls := "java/lang/Math", name := "max", desc := "(II)I" } : Jvm.MethodName) jdk_29_method_65_code (2 : Nat) (Option.some Jvm.ClassFile.FieldType.int)).before args0 about1 = true := code_word (m := ⟨21, 1⟩) (meth := k21m1) (c := k21c1) (by decide +kernel) rfl rfl rfl (by decide +kernel)
set_option maxRecDepth 65536 in
theorem w_c22 : (Jvm.Cond.code ({ cls := "java/lang/Math", name := "min", desc := "(II)I" } : Jvm.MethodName) jdk_29_method_69_code (2 : Nat) (Option.some Jvm.ClassFile.FieldType.int)).before args0 about1 = true := code_word (m := ⟨21, 2⟩) (meth := k21m2) (c := k21c2) (by decide +kernel) rfl rfl rfl (by decide +kernel)
set_option maxRecDepth 65536 in
theorem w_c23 : (Jvm.Cond.code ({ cls := "java/lang/StringLatin1", name := "indexOfChar", desc := "([BIII)I" } : Jvm.MethodName) jdk_43_method_23_code (6 : Nat) (Option.some Jvm.ClassFile.FieldType.int)).before args0 about1 = true := code_word (m := ⟨20, 6⟩) (meth := k20m6) (c := k20c6) (by decide +kernel) rfl rfl rfl (by decide +kernel)
set_option maxRecDepth 65536 in
theorem w_c24 : (Jvm.Cond.code ({ cls := "java/lang/String", name := "charAt", desc := "(I)C" } : Jvm.MethodName) jdk_42_method_56_code (2 : Nat) (Option.some Jvm.ClassFile.FieldType.char)).before args0 about1 = true := code_word (m := ⟨7, 3⟩) (meth := k7m3) (c := k7c3) (by decide +kernel) rfl rfl rfl (by decide +kernel)
set_option maxRecDepth 65536 in
theorem w_c25 : (Jvm.Cond.code ({ cls := "java/lang/StringLatin1", name := "charAt", desc := "([BI)C" } : Jvm.MethodName) jdk_43_method_2_code (2 : Nat) (Option.some Jvm.ClassFile.FieldType.char)).before args0 about1 = true := code_word (m := ⟨20, 1⟩) (meth := k20m1) (c := k20c1) (by decide +kernel) rfl rfl rfl (by decide +kernel)
set_option maxRecDepth 65536 in
theorem w_c26 : (Jvm.Cond.code ({ cls := "java/lang/String", name := "checkIndex", desc := "(II)V" } : Jvm.MethodName) jdk_42_method_155_code (2 : Nat) (Option.none : Option Jvm.ClassFile.FieldType)).before args0 about1 = true := code_word (m := ⟨7, 13⟩) (meth := k7m13) (c := k7c13) (by decide +kernel) rfl rfl rfl (by decide +kernel)
set_option maxRecDepth 65536 in
theorem w_c27 : (Jvm.Cond.code ({ cls := "jdk/internal/util/Preconditions", name := "checkIndex", desc := "(IILjava/util/function/BiFunction;)I" } : Jvm.MethodName) jdk_41_method_11_code (3 : Nat) (Option.some Jvm.ClassFile.FieldType.int)).before args0 about1 = true := code_word (m := ⟨22, 1⟩) (meth := k22m1) (c := k22c1) (by decide +kernel) rfl rfl rfl (by decide +kernel)
set_option maxRecDepth 65536 in
theorem w_c28 : (Jvm.Cond.code ({ cls := "com/example/webhook_signature_check/webhooksignaturecheck/HeaderElementsReadPinLaw", name := "tail", desc := "(CC)[C" } : Jvm.MethodName) method_4_code (2 : Nat) (Option.some (Jvm.ClassFile.FieldType.array Jvm.ClassFile.FieldType.char))).before args0 about1 = true := code_word (m := ⟨1, 3⟩) (meth := k1m3) (c := k1c3) (by decide +kernel) rfl rfl rfl (by decide +kernel)
set_option maxRecDepth 65536 in
theorem w_c29 : (Jvm.Cond.code ({ cls := "java/util/ArrayList", name := "size", desc := "()I" } : Jvm.MethodName) jdk_38_method_8_code (1 : Nat) (Option.some Jvm.ClassFile.FieldType.int)).before args0 about1 = true := code_word (m := ⟨19, 3⟩) (meth := k19m3) (c := k19c3) (by decide +kernel) rfl rfl rfl (by decide +kernel)
set_option maxRecDepth 65536 in
theorem w_c30 : (Jvm.Cond.code ({ cls := "java/lang/String", name := "startsWith", desc := "(Ljava/lang/String;I)Z" } : Jvm.MethodName) jdk_42_method_75_code (8 : Nat) (Option.some Jvm.ClassFile.FieldType.boolean)).before args0 about1 = true := code_word (m := ⟨7, 5⟩) (meth := k7m5) (c := k7c5) (by decide +kernel) rfl rfl rfl (by decide +kernel)
set_option maxRecDepth 65536 in
theorem w_c31 : (Jvm.Cond.code ({ cls := "jdk/internal/util/ArraysSupport", name := "mismatch", desc := "([BI[BII)I" } : Jvm.MethodName) jdk_48_method_14_code (8 : Nat) (Option.some Jvm.ClassFile.FieldType.int)).before args0 about1 = true := code_word (m := ⟨23, 1⟩) (meth := k23m1) (c := k23c1) (by decide +kernel) rfl rfl rfl (by decide +kernel)
set_option maxRecDepth 65536 in
theorem w_c32 : (Jvm.Cond.code ({ cls := "java/lang/String", name := "substring", desc := "(II)Ljava/lang/String;" } : Jvm.MethodName) jdk_42_method_92_code (5 : Nat) (Option.some (Jvm.ClassFile.FieldType.object "java/lang/String"))).before args0 about1 = true := code_word (m := ⟨7, 7⟩) (meth := k7m7) (c := k7c7) (by decide +kernel) rfl rfl rfl (by decide +kernel)
set_option maxRecDepth 65536 in
theorem w_c33 : (Jvm.Cond.code ({ cls := "java/lang/String", name := "checkBoundsBeginEnd", desc := "(III)V" } : Jvm.MethodName) jdk_42_method_158_code (3 : Nat) (Option.none : Option Jvm.ClassFile.FieldType)).before args0 about1 = true := code_word (m := ⟨7, 14⟩) (meth := k7m14) (c := k7c14) (by decide +kernel) rfl rfl rfl (by decide +kernel)
set_option maxRecDepth 65536 in
theorem w_c34 : (Jvm.Cond.code ({ cls := "jdk/internal/util/Preconditions", name := "checkFromToIndex", desc := "(IIILjava/util/function/BiFunction;)I" } : Jvm.MethodName) jdk_41_method_12_code (4 : Nat) (Option.some Jvm.ClassFile.FieldType.int)).before args0 about1 = true := code_word (m := ⟨22, 2⟩) (meth := k22m2) (c := k22c2) (by decide +kernel) rfl rfl rfl (by decide +kernel)
set_option maxRecDepth 65536 in
theorem w_c35 : (Jvm.Cond.code ({ cls := "java/lang/StringLatin1", name := "newString", desc := "([BII)Ljava/lang/String;" } : Jvm.MethodName) jdk_43_method_47_code (3 : Nat) (Option.some (Jvm.ClassFile.FieldType.object "java/lang/String"))).before args0 about1 = true := code_word (m := ⟨20, 8⟩) (meth := k20m8) (c := k20c8) (by decide +kernel) rfl rfl rfl (by decide +kernel)
set_option maxRecDepth 65536 in
theorem w_c36 : (Jvm.Cond.code ({ cls := "java/util/ArrayList", name := "add", desc := "(Ljava/lang/Object;)Z" } : Jvm.MethodName) jdk_38_method_25_code (2 : Nat) (Option.some Jvm.ClassFile.FieldType.boolean)).before args0 about1 = true := code_word (m := ⟨19, 7⟩) (meth := k19m7) (c := k19c7) (by decide +kernel) rfl rfl rfl (by decide +kernel)
set_option maxRecDepth 65536 in
theorem w_c37 : (Jvm.Cond.code ({ cls := "java/util/ArrayList", name := "add", desc := "(Ljava/lang/Object;[Ljava/lang/Object;I)V" } : Jvm.MethodName) jdk_38_method_24_code (4 : Nat) (Option.none : Option Jvm.ClassFile.FieldType)).before args0 about1 = true := code_word (m := ⟨19, 6⟩) (meth := k19m6) (c := k19c6) (by decide +kernel) rfl rfl rfl (by decide +kernel)
set_option maxRecDepth 65536 in
theorem w_c38 : (Jvm.Cond.code ({ cls := "java/util/ArrayList", name := "grow", desc := "()[Ljava/lang/Object;" } : Jvm.MethodName) jdk_38_method_7_code (1 : Nat) (Option.some (Jvm.ClassFile.FieldType.array (Jvm.ClassFile.FieldType.object "java/lang/Object")))).before args0 about1 = true := code_word (m := ⟨19, 2⟩) (meth := k19m2) (c := k19c2) (by decide +kernel) rfl rfl rfl (by decide +kernel)
set_option maxRecDepth 65536 in
theorem w_c39 : (Jvm.Cond.code ({ cls := "java/util/ArrayList", name := "grow", desc := "(I)[Ljava/lang/Object;" } : Jvm.MethodName) jdk_38_method_6_code (4 : Nat) (Option.some (Jvm.ClassFile.FieldType.array (Jvm.ClassFile.FieldType.object "java/lang/Object")))).before args0 about1 = true := code_word (m := ⟨19, 1⟩) (meth := k19m1) (c := k19c1) (by decide +kernel) rfl rfl rfl (by decide +kernel)
set_option maxRecDepth 65536 in
theorem w_c40 : (Jvm.Cond.code ({ cls := "java/util/ArrayList", name := "get", desc := "(I)Ljava/lang/Object;" } : Jvm.MethodName) jdk_38_method_20_code (2 : Nat) (Option.some (Jvm.ClassFile.FieldType.object "java/lang/Object"))).before args0 about1 = true := code_word (m := ⟨19, 5⟩) (meth := k19m5) (c := k19c5) (by decide +kernel) rfl rfl rfl (by decide +kernel)
set_option maxRecDepth 65536 in
theorem w_c41 : (Jvm.Cond.code ({ cls := "java/util/Objects", name := "checkIndex", desc := "(II)I" } : Jvm.MethodName) jdk_31_method_17_code (2 : Nat) (Option.some Jvm.ClassFile.FieldType.int)).before args0 about1 = true := code_word (m := ⟨10, 2⟩) (meth := k10m2) (c := k10c2) (by decide +kernel) rfl rfl rfl (by decide +kernel)
set_option maxRecDepth 65536 in
theorem w_c42 : (Jvm.Cond.code ({ cls := "java/util/ArrayList", name := "elementData", desc := "(I)Ljava/lang/Object;" } : Jvm.MethodName) jdk_38_method_18_code (2 : Nat) (Option.some (Jvm.ClassFile.FieldType.object "java/lang/Object"))).before args0 about1 = true := code_word (m := ⟨19, 4⟩) (meth := k19m4) (c := k19c4) (by decide +kernel) rfl rfl rfl (by decide +kernel)
set_option maxRecDepth 65536 in
theorem w_c43 : (Jvm.Cond.code ({ cls := "java/lang/String", name := "equals", desc := "(Ljava/lang/Object;)Z" } : Jvm.MethodName) jdk_42_method_66_code (3 : Nat) (Option.some Jvm.ClassFile.FieldType.boolean)).before args0 about1 = true := code_word (m := ⟨7, 4⟩) (meth := k7m4) (c := k7c4) (by decide +kernel) rfl rfl rfl (by decide +kernel)
set_option maxRecDepth 65536 in
theorem w_c44 : (Jvm.Cond.code ({ cls := "java/lang/StringLatin1", name := "equals", desc := "([B[B)Z" } : Jvm.MethodName) jdk_43_method_13_code (3 : Nat) (Option.some Jvm.ClassFile.FieldType.boolean)).before args0 about1 = true := code_word (m := ⟨20, 4⟩) (meth := k20m4) (c := k20c4) (by decide +kernel) rfl rfl rfl (by decide +kernel)
set_option maxRecDepth 65536 in
theorem w_c45 : (Jvm.Cond.code ({ cls := "java/lang/String", name := "valueOf", desc := "(C)Ljava/lang/String;" } : Jvm.MethodName) jdk_42_method_139_code (1 : Nat) (Option.some (Jvm.ClassFile.FieldType.object "java/lang/String"))).before args0 about1 = true := code_word (m := ⟨7, 8⟩) (meth := k7m8) (c := k7c8) (by decide +kernel) rfl rfl rfl (by decide +kernel)
set_option maxRecDepth 65536 in
theorem w_c46 : (Jvm.Cond.code ({ cls := "java/lang/StringLatin1", name := "canEncode", desc := "(C)Z" } : Jvm.MethodName) jdk_43_method_3_code (1 : Nat) (Option.some Jvm.ClassFile.FieldType.boolean)).before args0 about1 = true := code_word (m := ⟨20, 2⟩) (meth := k20m2) (c := k20c2) (by decide +kernel) rfl rfl rfl (by decide +kernel)
set_option maxRecDepth 65536 in
theorem w_c47 : (Jvm.Cond.code ({ cls := "java/lang/StringLatin1", name := "toBytes", desc := "(C)[B" } : Jvm.MethodName) jdk_43_method_46_code (1 : Nat) (Option.some (Jvm.ClassFile.FieldType.array Jvm.ClassFile.FieldType.byte))).before args0 about1 = true := code_word (m := ⟨20, 7⟩) (meth := k20m7) (c := k20c7) (by decide +kernel) rfl rfl rfl (by decide +kernel)
set_option maxRecDepth 65536 in
theorem w_c48 : (Jvm.Cond.code ({ cls := "java/lang/String", name := "<init>", desc := "([BB)V" } : Jvm.MethodName) jdk_42_method_151_code (3 : Nat) (Option.none : Option Jvm.ClassFile.FieldType)).before args0 about1 = true := code_word (m := ⟨7, 10⟩) (meth := k7m10) (c := k7c10) (by decide +kernel) rfl rfl rfl (by decide +kernel)
set_option maxRecDepth 65536 in
theorem w_c49 : (Jvm.Cond.code ({ cls := "java/util/Arrays", name := "copyOfRange", desc := "([BII)[B" } : Jvm.MethodName) jdk_65_method_132_code (3 : Nat) (Option.some (Jvm.ClassFile.FieldType.array Jvm.ClassFile.FieldType.byte))).before args0 about1 = true := code_word (m := ⟨24, 2⟩) (meth := k24m2) (c := k24c2) (by decide +kernel) rfl rfl rfl (by decide +kernel)
set_option maxRecDepth 65536 in
theorem w_c50 : (Jvm.Cond.code ({ cls := "java/util/Arrays", name := "copyOfRangeByte", desc := "([BII)[B" } : Jvm.MethodName) jdk_65_method_133_code (5 : Nat) (Option.some (Jvm.ClassFile.FieldType.array Jvm.ClassFile.FieldType.byte))).before args0 about1 = true := code_word (m := ⟨24, 3⟩) (meth := k24m3) (c := k24c3) (by decide +kernel) rfl rfl rfl (by decide +kernel)
set_option maxRecDepth 65536 in
theorem w_c51 : (Jvm.Cond.code ({ cls := "java/util/Arrays", name := "checkLength", desc := "(II)V" } : Jvm.MethodName) jdk_65_method_131_code (2 : Nat) (Option.none : Option Jvm.ClassFile.FieldType)).before args0 about1 = true := code_word (m := ⟨24, 1⟩) (meth := k24m1) (c := k24c1) (by decide +kernel) rfl rfl rfl (by decide +kernel)
set_option maxRecDepth 65536 in
theorem w_c52 : (Jvm.Cond.code ({ cls := "com/example/webhook_signature_check/webhooksignaturecheck/HeaderElementsReadPinLaw", name := "withEq", desc := "(CC)[C" } : Jvm.MethodName) method_5_code (3 : Nat) (Option.some (Jvm.ClassFile.FieldType.array Jvm.ClassFile.FieldType.char))).before args0 about1 = true := code_word (m := ⟨1, 4⟩) (meth := k1m4) (c := k1c4) (by decide +kernel) rfl rfl rfl (by decide +kernel)
def codes1 : List Jvm.Cond := [Jvm.Cond.code x code maxLocals ret, Jvm.Cond.code ({ cls := "com/example/webhook_signature_check/webhooksignaturecheck/HeaderElementsReadPinLaw", name := "pick", desc := "(ICC)C" } : Jvm.MethodName) method_3_code (4 : Nat) (Option.some Jvm.ClassFile.FieldType.char), Jvm.Cond.code ({ cls := "java/lang/String", name := "<init>", desc := "([C)V" } : Jvm.MethodName) jdk_42_method_3_code (2 : Nat) (Option.none : Option Jvm.ClassFile.FieldType), Jvm.Cond.code ({ cls := "java/lang/String", name := "<init>", desc := "([CIILjava/lang/Void;)V" } : Jvm.MethodName) jdk_42_method_149_code (6 : Nat) (Option.none : Option Jvm.ClassFile.FieldType), Jvm.Cond.code ({ cls := "java/lang/Object", name := "<init>", desc := "()V" } : Jvm.MethodName) object_method_1_code (1 : Nat) (Option.none : Option Jvm.ClassFile.FieldType), Jvm.Cond.code ({ cls := "java/lang/StringUTF16", name := "compress", desc := "([CII)[B" } : Jvm.MethodName) jdk_52_method_16_code (6 : Nat) (Option.some (Jvm.ClassFile.FieldType.array Jvm.ClassFile.FieldType.byte)), Jvm.Cond.code ({ cls := "java/lang/StringUTF16", name := "compress", desc := "([CI[BII)I" } : Jvm.MethodName) jdk_52_method_21_code (7 : Nat) (Option.some Jvm.ClassFile.FieldType.int), Jvm.Cond.code ({ cls := "java/lang/StringUTF16", name := "coderFromArrayLen", desc := "([BI)B" } : Jvm.MethodName) jdk_52_method_15_code (2 : Nat) (Option.some Jvm.ClassFile.FieldType.byte), Jvm.Cond.code ({ cls := "com/example/webhook_signature_check/webhooksignaturecheck/HeaderElements", name := "read", desc := "(Ljava/lang/String;)Lcom/example/webhook_signature_check/webhooksignaturecheck/HeaderElements;" } : Jvm.MethodName) prog_1_method_2_code (1 : Nat) (Option.some (Jvm.ClassFile.FieldType.object "com/example/webhook_signature_check/webhooksignaturecheck/HeaderElements")), Jvm.Cond.code ({ cls := "java/util/Objects", name := "requireNonNull", desc := "(Ljava/lang/Object;Ljava/lang/String;)Ljava/lang/Object;" } : Jvm.MethodName) jdk_31_method_11_code (2 : Nat) (Option.some (Jvm.ClassFile.FieldType.object "java/lang/Object")), Jvm.Cond.code ({ cls := "com/example/webhook_signature_check/webhooksignaturecheck/HeaderElements", name := "<init>", desc := "(Ljava/lang/String;)V" } : Jvm.MethodName) prog_1_method_1_code (2 : Nat) (Option.none : Option Jvm.ClassFile.FieldType), Jvm.Cond.code ({ cls := "com/example/webhook_signature_check/webhooksignaturecheck/HeaderElements", name := "all", desc := "(Ljava/lang/String;)Ljava/util/List;" } : Jvm.MethodName) prog_1_method_3_code (9 : Nat) (Option.some (Jvm.ClassFile.FieldType.object "java/util/List")), Jvm.Cond.code ({ cls := "java/util/ArrayList", name := "<init>", desc := "()V" } : Jvm.MethodName) jdk_38_method_2_code (1 : Nat) (Option.none : Option Jvm.ClassFile.FieldType), Jvm.Cond.code ({ cls := "java/util/AbstractList", name := "<init>", desc := "()V" } : Jvm.MethodName) jdk_39_method_1_code (1 : Nat) (Option.none : Option Jvm.ClassFile.FieldType), Jvm.Cond.code ({ cls := "java/util/AbstractCollection", name := "<init>", desc := "()V" } : Jvm.MethodName) jdk_22_method_1_code (1 : Nat) (Option.none : Option Jvm.ClassFile.FieldType), Jvm.Cond.code ({ cls := "java/lang/String", name := "length", desc := "()I" } : Jvm.MethodName) jdk_42_method_54_code (1 : Nat) (Option.some Jvm.ClassFile.FieldType.int), Jvm.Cond.code ({ cls := "java/lang/String", name := "coder", desc := "()B" } : Jvm.MethodName) jdk_42_method_152_code (1 : Nat) (Option.some Jvm.ClassFile.FieldType.byte), Jvm.Cond.code ({ cls := "java/lang/String", name := "indexOf", desc := "(II)I" } : Jvm.MethodName) jdk_42_method_80_code (3 : Nat) (Option.some Jvm.ClassFile.FieldType.int), Jvm.Cond.code ({ cls := "java/lang/String", name := "isLatin1", desc := "()Z" } : Jvm.MethodName) jdk_42_method_154_code (1 : Nat) (Option.some Jvm.ClassFile.FieldType.boolean), Jvm.Cond.code ({ cls := "java/lang/StringLatin1", name := "indexOf", desc := "([BIII)I" } : Jvm.MethodName) jdk_43_method_22_code (4 : Nat) (Option.some Jvm.ClassFile.FieldType.int), Jvm.Cond.code ({ cls := "java/lang/StringLatin1", name := "canEncode", desc := "(I)Z" } : Jvm.MethodName) jdk_43_method_4_code (1 : Nat) (Option.some Jvm.ClassFile.FieldType.boolean), Jvm.Cond.code ({ cls := "java/lang/Math", name := "max", desc := "(II)I" } : Jvm.MethodName) jdk_29_method_65_code (2 : Nat) (Option.some Jvm.ClassFile.FieldType.int), Jvm.Cond.code ({ cls := "java/lang/Math", name := "min", desc := "(II)I" } : Jvm.MethodName) jdk_29_method_69_code (2 : Nat) (Option.some Jvm.ClassFile.FieldType.int), Jvm.Cond.code ({ cls := "java/lang/StringLatin1", name := "indexOfChar", desc := "([BIII)I" } : Jvm.MethodName) jdk_43_method_23_code (6 : Nat) (Option.some Jvm.ClassFile.FieldType.int), Jvm.Cond.code ({ cls := "java/lang/String", name := "charAt", desc := "(I)C" } : Jvm.MethodName) jdk_42_method_56_code (2 : Nat) (Option.some Jvm.ClassFile.FieldType.char), Jvm.Cond.code ({ cls := "java/lang/StringLatin1", name := "charAt", desc := "([BI)C" } : Jvm.MethodName) jdk_43_method_2_code (2 : Nat) (Option.some Jvm.ClassFile.FieldType.char), Jvm.Cond.code ({ cls := "java/lang/String", name := "checkIndex", desc := "(II)V" } : Jvm.MethodName) jdk_42_method_155_code (2 : Nat) (Option.none : Option Jvm.ClassFile.FieldType), Jvm.Cond.code ({ cls := "jdk/internal/util/Preconditions", name := "checkIndex", desc := "(IILjava/util/function/BiFunction;)I" } : Jvm.MethodName) jdk_41_method_11_code (3 : Nat) (Option.some Jvm.ClassFile.FieldType.int), Jvm.Cond.code ({ cls := "com/example/webhook_signature_check/webhooksignaturecheck/HeaderElementsReadPinLaw", name := "tail", desc := "(CC)[C" } : Jvm.MethodName) method_4_code (2 : Nat) (Option.some (Jvm.ClassFile.FieldType.array Jvm.ClassFile.FieldType.char)), Jvm.Cond.code ({ cls := "java/util/ArrayList", name := "size", desc := "()I" } : Jvm.MethodName) jdk_38_method_8_code (1 : Nat) (Option.some Jvm.ClassFile.FieldType.int), Jvm.Cond.code ({ cls := "java/lang/String", name := "startsWith", desc := "(Ljava/lang/String;I)Z" } : Jvm.MethodName) jdk_42_method_75_code (8 : Nat) (Option.some Jvm.ClassFile.FieldType.boolean), Jvm.Cond.code ({ cls := "jdk/internal/util/ArraysSupport", name := "mismatch", desc := "([BI[BII)I" } : Jvm.MethodName) jdk_48_method_14_code (8 : Nat) (Option.some Jvm.ClassFile.FieldType.int), Jvm.Cond.code ({ cls := "java/lang/String", name := "substring", desc := "(II)Ljava/lang/String;" } : Jvm.MethodName) jdk_42_method_92_code (5 : Nat) (Option.some (Jvm.ClassFile.FieldType.object "java/lang/String")), Jvm.Cond.code ({ cls := "java/lang/String", name := "checkBoundsBeginEnd", desc := "(III)V" } : Jvm.MethodName) jdk_42_method_158_code (3 : Nat) (Option.none : Option Jvm.ClassFile.FieldType), Jvm.Cond.code ({ cls := "jdk/internal/util/Preconditions", name := "checkFromToIndex", desc := "(IIILjava/util/function/BiFunction;)I" } : Jvm.MethodName) jdk_41_method_12_code (4 : Nat) (Option.some Jvm.ClassFile.FieldType.int), Jvm.Cond.code ({ cls := "java/lang/StringLatin1", name := "newString", desc := "([BII)Ljava/lang/String;" } : Jvm.MethodName) jdk_43_method_47_code (3 : Nat) (Option.some (Jvm.ClassFile.FieldType.object "java/lang/String")), Jvm.Cond.code ({ cls := "java/util/ArrayList", name := "add", desc := "(Ljava/lang/Object;)Z" } : Jvm.MethodName) jdk_38_method_25_code (2 : Nat) (Option.some Jvm.ClassFile.FieldType.boolean), Jvm.Cond.code ({ cls := "java/util/ArrayList", name := "add", desc := "(Ljava/lang/Object;[Ljava/lang/Object;I)V" } : Jvm.MethodName) jdk_38_method_24_code (4 : Nat) (Option.none : Option Jvm.ClassFile.FieldType), Jvm.Cond.code ({ cls := "java/util/ArrayList", name := "grow", desc := "()[Ljava/lang/Object;" } : Jvm.MethodName) jdk_38_method_7_code (1 : Nat) (Option.some (Jvm.ClassFile.FieldType.array (Jvm.ClassFile.FieldType.object "java/lang/Object"))), Jvm.Cond.code ({ cls := "java/util/ArrayList", name := "grow", desc := "(I)[Ljava/lang/Object;" } : Jvm.MethodName) jdk_38_method_6_code (4 : Nat) (Option.some (Jvm.ClassFile.FieldType.array (Jvm.ClassFile.FieldType.object "java/lang/Object"))), Jvm.Cond.code ({ cls := "java/util/ArrayList", name := "get", desc := "(I)Ljava/lang/Object;" } : Jvm.MethodName) jdk_38_method_20_code (2 : Nat) (Option.some (Jvm.ClassFile.FieldType.object "java/lang/Object")), Jvm.Cond.code ({ cls := "java/util/Objects", name := "checkIndex", desc := "(II)I" } : Jvm.MethodName) jdk_31_method_17_code (2 : Nat) (Option.some Jvm.ClassFile.FieldType.int), Jvm.Cond.code ({ cls := "java/util/ArrayList", name := "elementData", desc := "(I)Ljava/lang/Object;" } : Jvm.MethodName) jdk_38_method_18_code (2 : Nat) (Option.some (Jvm.ClassFile.FieldType.object "java/lang/Object")), Jvm.Cond.code ({ cls := "java/lang/String", name := "equals", desc := "(Ljava/lang/Object;)Z" } : Jvm.MethodName) jdk_42_method_66_code (3 : Nat) (Option.some Jvm.ClassFile.FieldType.boolean), Jvm.Cond.code ({ cls := "java/lang/StringLatin1", name := "equals", desc := "([B[B)Z" } : Jvm.MethodName) jdk_43_method_13_code (3 : Nat) (Option.some Jvm.ClassFile.FieldType.boolean), Jvm.Cond.code ({ cls := "java/lang/String", name := "valueOf", desc := "(C)Ljava/lang/String;" } : Jvm.MethodName) jdk_42_method_139_code (1 : Nat) (Option.some (Jvm.ClassFile.FieldType.object "java/lang/String")), Jvm.Cond.code ({ cls := "java/lang/StringLatin1", name := "canEncode", desc := "(C)Z" } : Jvm.MethodName) jdk_43_method_3_code (1 : Nat) (Option.some Jvm.ClassFile.FieldType.boolean), Jvm.Cond.code ({ cls := "java/lang/StringLatin1", name := "toBytes", desc := "(C)[B" } : Jvm.MethodName) jdk_43_method_46_code (1 : Nat) (Option.some (Jvm.ClassFile.FieldType.array Jvm.ClassFile.FieldType.byte)), Jvm.Cond.code ({ cls := "java/lang/String", name := "<init>", desc := "([BB)V" } : Jvm.MethodName) jdk_42_method_151_code (3 : Nat) (Option.none : Option Jvm.ClassFile.FieldType), Jvm.Cond.code ({ cls := "java/util/Arrays", name := "copyOfRange", desc := "([BII)[B" } : Jvm.MethodName) jdk_65_method_132_code (3 : Nat) (Option.some (Jvm.ClassFile.FieldType.array Jvm.ClassFile.FieldType.byte)), Jvm.Cond.code ({ cls := "java/util/Arrays", name := "copyOfRangeByte", desc := "([BII)[B" } : Jvm.MethodName) jdk_65_method_133_code (5 : Nat) (Option.some (Jvm.ClassFile.FieldType.array Jvm.ClassFile.FieldType.byte)), Jvm.Cond.code ({ cls := "java/util/Arrays", name := "checkLength", desc := "(II)V" } : Jvm.MethodName) jdk_65_method_131_code (2 : Nat) (Option.none : Option Jvm.ClassFile.FieldType), Jvm.Cond.code ({ cls := "com/example/webhook_signature_check/webhooksignaturecheck/HeaderElementsReadPinLaw", name := "withEq", desc := "(CC)[C" } : Jvm.MethodName) method_5_code (3 : Nat) (Option.some (Jvm.ClassFile.FieldType.array Jvm.ClassFile.FieldType.char))]
set_option maxRecDepth 65536 in
theorem codes_eq : words1.filter isCode = codes1 := rfl
theorem w_codes : ∀ c ∈ words1.filter isCode, c.before args0 about1 = true := by
  rw [codes_eq]
  intro c hc
  simp only [codes1, List.mem_cons, List.not_mem_nil, or_false] at hc
  rcases hc with rfl | rfl | rfl | rfl | rfl | rfl | rfl | rfl | rfl | rfl | rfl | rfl | rfl | rfl | rfl | rfl | rfl | rfl | rfl | rfl | rfl | rfl | rfl | rfl | rfl | rfl | rfl | rfl | rfl | rfl | rfl | rfl | rfl | rfl | rfl | rfl | rfl | rfl | rfl | rfl | rfl | rfl | rfl | rfl | rfl | rfl | rfl | rfl | rfl | rfl | rfl | rfl | rfl
  · exact w_c0
  · exact w_c1
  · exact w_c2
  · exact w_c3
  · exact w_c4
  · exact w_c5
  · exact w_c6
  · exact w_c7
  · exact w_c8
  · exact w_c9
  · exact w_c10
  · exact w_c11
  · exact w_c12
  · exact w_c13
  · exact w_c14
  · exact w_c15
  · exact w_c16
  · exact w_c17
  · exact w_c18
  · exact w_c19
  · exact w_c20
  · exact w_c21
  · exact w_c22
  · exact w_c23
  · exact w_c24
  · exact w_c25
  · exact w_c26
  · exact w_c27
  · exact w_c28
  · exact w_c29
  · exact w_c30
  · exact w_c31
  · exact w_c32
  · exact w_c33
  · exact w_c34
  · exact w_c35
  · exact w_c36
  · exact w_c37
  · exact w_c38
  · exact w_c39
  · exact w_c40
  · exact w_c41
  · exact w_c42
  · exact w_c43
  · exact w_c44
  · exact w_c45
  · exact w_c46
  · exact w_c47
  · exact w_c48
  · exact w_c49
  · exact w_c50
  · exact w_c51
  · exact w_c52
set_option maxRecDepth 65536 in
theorem w_t1 : (words1.take 24).all (fun c => isCode c || c.before args0 about1) = true := by decide +kernel
set_option maxRecDepth 65536 in
theorem w_t2 : ((words1.drop 24).take 24).all (fun c => isCode c || c.before args0 about1) = true := by decide +kernel
set_option maxRecDepth 65536 in
theorem w_t3 : (((words1.drop 24).drop 24).take 24).all (fun c => isCode c || c.before args0 about1) = true := by decide +kernel
set_option maxRecDepth 65536 in
theorem w_t4 : ((((words1.drop 24).drop 24).drop 24).take 24).all (fun c => isCode c || c.before args0 about1) = true := by decide +kernel
set_option maxRecDepth 65536 in
theorem w_t5 : (((((words1.drop 24).drop 24).drop 24).drop 24).take 24).all (fun c => isCode c || c.before args0 about1) = true := by decide +kernel
set_option maxRecDepth 65536 in
theorem w_t6 : ((((((words1.drop 24).drop 24).drop 24).drop 24).drop 24).take 24).all (fun c => isCode c || c.before args0 about1) = true := by decide +kernel
set_option maxRecDepth 65536 in
theorem w_t7 : (((((((words1.drop 24).drop 24).drop 24).drop 24).drop 24).drop 24).take 24).all (fun c => isCode c || c.before args0 about1) = true := by decide +kernel
set_option maxRecDepth 65536 in
theorem w_t8 : ((((((((words1.drop 24).drop 24).drop 24).drop 24).drop 24).drop 24).drop 24).take 24).all (fun c => isCode c || c.before args0 about1) = true := by decide +kernel
set_option maxRecDepth 65536 in
theorem w_t9 : (((((((((words1.drop 24).drop 24).drop 24).drop 24).drop 24).drop 24).drop 24).drop 24).take 24).all (fun c => isCode c || c.before args0 about1) = true := by decide +kernel
set_option maxRecDepth 65536 in
theorem w_t10 : ((((((((((words1.drop 24).drop 24).drop 24).drop 24).drop 24).drop 24).drop 24).drop 24).drop 24).take 24).all (fun c => isCode c || c.before args0 about1) = true := by decide +kernel
set_option maxRecDepth 65536 in
theorem w_t11 : (((((((((((words1.drop 24).drop 24).drop 24).drop 24).drop 24).drop 24).drop 24).drop 24).drop 24).drop 24).take 24).all (fun c => isCode c || c.before args0 about1) = true := by decide +kernel
set_option maxRecDepth 65536 in
theorem w_t12 : (((((((((((words1.drop 24).drop 24).drop 24).drop 24).drop 24).drop 24).drop 24).drop 24).drop 24).drop 24).drop 24).all (fun c => isCode c || c.before args0 about1) = true := by decide +kernel
theorem w_tables : (allAtoms (Jvm.Cond.code x code maxLocals ret :: tables_1)).before args0 about1 = true := by
  rw [allAtoms_all]
  show words1.all (fun c => c.before args0 about1) = true
  refine all_split ?_ w_codes
  rw [← List.take_append_drop 24 words1, List.all_append, w_t1, ← List.take_append_drop 24 (words1.drop 24), List.all_append, w_t2, ← List.take_append_drop 24 ((words1.drop 24).drop 24), List.all_append, w_t3, ← List.take_append_drop 24 (((words1.drop 24).drop 24).drop 24), List.all_append, w_t4, ← List.take_append_drop 24 ((((words1.drop 24).drop 24).drop 24).drop 24), List.all_append, w_t5, ← List.take_append_drop 24 (((((words1.drop 24).drop 24).drop 24).drop 24).drop 24), List.all_append, w_t6, ← List.take_append_drop 24 ((((((words1.drop 24).drop 24).drop 24).drop 24).drop 24).drop 24), List.all_append, w_t7, ← List.take_append_drop 24 (((((((words1.drop 24).drop 24).drop 24).drop 24).drop 24).drop 24).drop 24), List.all_append, w_t8, ← List.take_append_drop 24 ((((((((words1.drop 24).drop 24).drop 24).drop 24).drop 24).drop 24).drop 24).drop 24), List.all_append, w_t9, ← List.take_append_drop 24 (((((((((words1.drop 24).drop 24).drop 24).drop 24).drop 24).drop 24).drop 24).drop 24).drop 24), List.all_append, w_t10, ← List.take_append_drop 24 ((((((((((words1.drop 24).drop 24).drop 24).drop 24).drop 24).drop 24).drop 24).drop 24).drop 24).drop 24), List.all_append, w_t11, w_t12]
  rfl
set_option maxRecDepth 65536 in
theorem w_rest : rest_1_c.before args0 about1 = true := by decide +kernel
set_option maxRecDepth 65536 in
theorem w_case : (Jvm.Cond.and given_1 narrow_1).before args0 about1 = true := by decide +kernel
set_option maxRecDepth 65536 in
theorem w_consts : constsHeld consts_1 about1 := Jvm.Lit.constsHeldB_iff.mp (by decide +kernel)
theorem w_applies : (headSpec (Jvm.Cond.code x code maxLocals ret :: tables_1) room_1).applies x e0.platform about1 = true :=
  (Spec.applies_iff w_frames).mpr ⟨w_running, w_runnable, w_alone, w_named, w_hears, w_ripe, w_room, w_tables⟩
theorem atStart : AtStart classFile x code maxLocals ret World_1 tables_1 room_1 Calls_1 rest_1 Pre_1 launch0 p0 e0 about1 theMethod args0 below0 :=
  ⟨lists_1, trivial, launch0.admits_env _ _ _, launch0.least_env, fairChoices_fair.cas, fairChoices_fair.clock, w_frames, w_args, w_heap, w_applies, ⟨w_consts, trivial⟩, w_rest, w_case⟩
end start1
theorem witness_1 : WitnessClaimed_1 := ⟨start1.p0, start1.e0, start1.about1, start1.theMethod, start1.args0, start1.below0, start1.atStart⟩
end Jvm.Pilot.@@N@@
