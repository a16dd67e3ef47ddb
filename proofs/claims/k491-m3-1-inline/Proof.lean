import JvmDerived
import JvmDerived.Pilot.@@N@@Statement
import JvmDerived.Pilot.@@N@@Code
set_option linter.unusedVariables false
set_option linter.unusedSimpArgs false
namespace Jvm.OwnW
open Jvm Jvm.ClassFile Sem Op Lib Jvm.Free Jvm.Stand Jvm.LawKit Jvm.RoadKit
/-! A small logic of walks of its own: a store L (what is known of single cells), one rule an instruction. -/
abbrev Ent : Type := Addr × Bool × (Cell → Prop)
abbrev Store : Type := List Ent
abbrev Lay : Type := List (String × String × String)
def FldC (Z : State) (C n d : String) (v : Value) (cell : Cell) : Prop := ∃ (cf : ClassId) (k : Class) (i : Nat) (f : Field), Z.fieldFound? C n d = some (cf, k, i, f) ∧ f.isStatic = false ∧ cell.vm ≠ .unknown ∧ cell.vm.isStatics = false ∧ Z.vm.assignable cell.cls cf = true ∧ cell.slots[f.slot]? = some v
def ExaC (Z : State) (C : String) (cell : Cell) : Prop := ∃ k : Class, Z.vm.findClass C = some cell.cls ∧ Z.vm.classes[cell.cls]? = some k ∧ cell.vm.isStatics = false ∧ (k.kind = .ordinary → cell.slots.size = k.instanceTypes.size)
/-- an object of exactly the class C, the fields of lay hold vs -/
def OB (Z : State) (C : String) (lay : Lay) (vs : List Value) (c : Cell) : Prop := ExaC Z C c ∧ ∀ (j : Nat) (f : String × String × String) (v : Value), lay[j]? = some f → vs[j]? = some v → FldC Z f.1 f.2.1 f.2.2 v c
/-- an array of ty that holds vs -/
def AR (Z : State) (ty : FieldType) (vs : List Value) (c : Cell) : Prop := Z.isArrayOf c ty ∧ c.vm ≠ .unknown ∧ c.slots.toList = vs ∧ vs.length < 2 ^ 31
/-- an array of references over the class C -/
def RA (Z : State) (C : String) (vs : List Value) (c : Cell) : Prop := AR Z (.object C) vs c ∧ Ovr Z c.cls C
def Inv (Z : State) (EL : List (String × Nat)) (vm : Vm) (h : Heap) (L : Store) : Prop :=
  Ext Z.heap h ∧ CHv Z EL vm h ∧ (∀ o ∈ L, ∃ c : Cell, h[o.1]? = some c ∧ o.2.2 c) ∧ (∀ o ∈ L, o.2.1 = true → Z.heap.size ≤ o.1 ∧ Safe Z EL vm h o.1) ∧ L.Pairwise (fun o o' => (o.2.1 = true ∨ o'.2.1 = true) → o.1 ≠ o'.1)
section Facts
variable {Z : State} {EL : List (String × Nat)} {vm vm' : Vm} {h h' : Heap} {L L' L0 : Store} {a b : Addr} {C n d : String} {v w : Value} {c c' : Cell} {P P' : Cell → Prop} {lay : Lay} {vs : List Value} {j sl : Nat} {ty : FieldType} {a0 : Array Value} {fl : Bool}
theorem fld_of (hc : h[a]? = some c) (F : FldC Z C n d v c) : Fld Z h a C n d v := by obtain ⟨cf, k, i, f, r⟩ := F; exact ⟨c, cf, k, i, f, hc, r⟩
theorem of_fld (hc : h[a]? = some c) (F : Fld Z h a C n d v) : FldC Z C n d v c := by
  obtain ⟨c1, cf, k, i, f, h1, r⟩ := F
  cases hc.symm.trans h1
  exact ⟨cf, k, i, f, r⟩
theorem exa_of (hc : h[a]? = some c) (F : ExaC Z C c) : Exa Z h a C := by obtain ⟨k, r⟩ := F; exact ⟨c, k, hc, r⟩
theorem of_exa (hc : h[a]? = some c) (F : Exa Z h a C) : ExaC Z C c := by
  obtain ⟨c1, k, h1, r⟩ := F
  cases hc.symm.trans h1
  exact ⟨k, r⟩
theorem OB.exa (F : OB Z C lay vs c) (hc : h[a]? = some c) : Exa Z h a C := exa_of hc F.1
theorem OB.fld {f : String × String × String} (F : OB Z C lay vs c) (hc : h[a]? = some c) (hj : lay[j]? = some f) (hv : vs[j]? = some v) : Fld Z h a f.1 f.2.1 f.2.2 v := fld_of hc (F.2 j f v hj hv)
theorem AR.arr (F : AR Z ty vs c) (hc : h[a]? = some c) : Arr Z h a c ty := ⟨hc, F.1, F.2.1⟩
theorem AR.size (F : AR Z ty vs c) : c.slots.size = vs.length := by rw [← F.2.2.1]; simp
theorem AR.get (F : AR Z ty vs c) (hv : vs[j]? = some v) : c.slots[j]? = some v := by rw [← F.2.2.1] at hv; simpa using hv
theorem AR.set (F : AR Z ty vs c) (j : Nat) (v : Value) : AR Z ty (vs.set j v) (c.setSlot j v) :=
  ⟨F.1, F.2.1, by rw [← F.2.2.1]; simp [Cell.setSlot], by rw [List.length_set]; exact F.2.2.2⟩
theorem Inv.at_ (I : Inv Z EL vm h L) (m : (a, fl, P) ∈ L) : ∃ c : Cell, h[a]? = some c ∧ P c := I.2.2.1 _ m
theorem Inv.perm (p : L.Perm L') (I : Inv Z EL vm h L) : Inv Z EL vm h L' :=
  ⟨I.1, I.2.1, fun o ho => I.2.2.1 o (p.symm.subset ho), fun o ho => I.2.2.2.1 o (p.symm.subset ho), (p.pairwise_iff (fun {x y} q r => (q r.symm).symm)).mp I.2.2.2.2⟩
theorem Inv.sub (p : L'.Sublist L) (I : Inv Z EL vm h L) : Inv Z EL vm h L' :=
  ⟨I.1, I.2.1, fun o ho => I.2.2.1 o (p.subset ho), fun o ho => I.2.2.2.1 o (p.subset ho), I.2.2.2.2.sublist p⟩
theorem Inv.weak (hP : ∀ c, P c → P' c) (I : Inv Z EL vm h ((a, fl, P) :: L)) : Inv Z EL vm h ((a, fl, P') :: L) := by
  obtain ⟨h1, h2, h3, h4, h5⟩ := I
  rw [List.pairwise_cons] at h5
  refine ⟨h1, h2, fun o ho => ?_, fun o ho => ?_, List.pairwise_cons.mpr ⟨fun o ho q => h5.1 o ho q, h5.2⟩⟩
  · rcases List.mem_cons.mp ho with rfl | ho
    · obtain ⟨c, e1, e2⟩ := h3 (a, fl, P) (List.mem_cons_self ..); exact ⟨c, e1, hP c e2⟩
    · exact h3 o (List.mem_cons_of_mem _ ho)
  · rcases List.mem_cons.mp ho with rfl | ho
    · exact h4 (a, fl, P) (List.mem_cons_self ..)
    · exact h4 o (List.mem_cons_of_mem _ ho)
theorem Inv.lt (I : Inv Z EL vm h L) {o : Ent} (m : o ∈ L) : o.1 < h.size := by obtain ⟨c, e, -⟩ := I.2.2.1 o m; exact (Array.getElem?_eq_some_iff.mp e).1
/-- a new cell -/
theorem Inv.new (I : Inv Z EL vm h L) (E : Ext h h') (hc : h'[h.size]? = some c) (hP : P c) : Inv Z EL vm h' ((h.size, true, P) :: L) := by
  have I0 := I
  obtain ⟨h1, h2, h3, h4, h5⟩ := I
  refine ⟨⟨Nat.le_trans h1.1 E.1, fun x c q => E.2 x c (h1.2 x c q)⟩, h2.ext E, fun o ho => ?_, fun o ho q => ?_, List.pairwise_cons.mpr ⟨fun o ho _ q => ?_, h5⟩⟩
  · rcases List.mem_cons.mp ho with rfl | ho
    · exact ⟨c, hc, hP⟩
    · obtain ⟨c1, e1, e2⟩ := h3 o ho; exact ⟨c1, E.2 _ _ e1, e2⟩
  · rcases List.mem_cons.mp ho with rfl | ho
    · exact ⟨h1.1, Safe.ext E h2 (Safe.new (Nat.le_refl _))⟩
    · exact ⟨(h4 o ho q).1, Safe.ext E h2 (h4 o ho q).2⟩
  · have := I0.lt ho
    exact absurd q (Nat.ne_of_gt this)
/-- a write to the first -/
theorem Inv.wr (I : Inv Z EL vm h ((a, true, P) :: L)) (W : Wr h h' a sl v) (hP : ∀ c, h[a]? = some c → P c → P' (c.setSlot sl v)) : Inv Z EL vm h' ((a, true, P') :: L) := by
  have I0 := I
  obtain ⟨h1, h2, h3, h4, h5⟩ := I
  have hs := (h4 _ (List.mem_cons_self ..) rfl)
  rw [List.pairwise_cons] at h5
  have W0 := W
  obtain ⟨cell, e1, e2, e3, rfl⟩ := W
  refine ⟨⟨by simpa using h1.1, fun x c q => ?_⟩, h2.wr W0 hs.2, fun o ho => ?_, fun o ho q => ?_, List.pairwise_cons.mpr ⟨fun o ho q => h5.1 o ho q, h5.2⟩⟩
  · have hx : x < Z.heap.size := (Array.getElem?_eq_some_iff.mp q).1
    have hne : a ≠ x := fun e => by have := hs.1; rw [e] at this; exact absurd hx (Nat.not_lt.mpr this)
    rw [Array.getElem?_setIfInBounds_ne hne]; exact h1.2 x c q
  · rcases List.mem_cons.mp ho with rfl | ho
    · obtain ⟨c1, q1, q2⟩ := h3 (a, true, P) (List.mem_cons_self ..)
      cases e1.symm.trans q1
      exact ⟨_, Array.getElem?_setIfInBounds_self_of_lt (Array.getElem?_eq_some_iff.mp e1).1, hP _ e1 q2⟩
    · obtain ⟨c1, q1, q2⟩ := h3 o (List.mem_cons_of_mem _ ho)
      have hne : a ≠ o.1 := h5.1 o ho (Or.inl rfl)
      exact ⟨c1, by rw [Array.getElem?_setIfInBounds_ne hne]; exact q1, q2⟩
  · rcases List.mem_cons.mp ho with rfl | ho
    · exact ⟨hs.1, Safe.wr W0 hs.2 h2 hs.2⟩
    · have q2 := h4 o (List.mem_cons_of_mem _ ho) q
      exact ⟨q2.1, Safe.wr W0 hs.2 h2 q2.2⟩
/-- the tables go on -/
theorem Inv.later (I : Inv Z EL vm h L) (E : Ext h h') (A : CHr Z EL vm h vm' h') : Inv Z EL vm' h' L := by
  have I0 := I
  obtain ⟨h1, h2, h3, h4, h5⟩ := I
  refine ⟨⟨Nat.le_trans h1.1 E.1, fun x c q => E.2 x c (h1.2 x c q)⟩, A.1, fun o ho => ?_, fun o ho q => ?_, h5⟩
  · obtain ⟨c1, e1, e2⟩ := h3 o ho; exact ⟨c1, E.2 _ _ e1, e2⟩
  · exact ⟨(h4 o ho q).1, A.safe (I0.lt ho) (h4 o ho q).2⟩
/-- a cell that isn't written -/
theorem Inv.old (I : Inv Z EL vm h L) (hc : h[a]? = some c) (hP : P c) (hne : ∀ x, Z.heap.size ≤ x → Safe Z EL vm h x → x ≠ a) : Inv Z EL vm h ((a, false, P) :: L) := by
  obtain ⟨h1, h2, h3, h4, h5⟩ := I
  refine ⟨h1, h2, fun o ho => ?_, fun o ho q => ?_, List.pairwise_cons.mpr ⟨fun o ho q r => ?_, h5⟩⟩
  · rcases List.mem_cons.mp ho with rfl | ho
    · exact ⟨c, hc, hP⟩
    · exact h3 o ho
  · rcases List.mem_cons.mp ho with rfl | ho
    · cases q
    · exact h4 o ho q
  · rcases q with q | q
    · cases q
    · exact hne o.1 (h4 o ho q).1 (h4 o ho q).2 r.symm
theorem Inv.ne {o o' : Ent} (I : Inv Z EL vm h L) {i j : Nat} (hi : L[i]? = some o) (hj : L[j]? = some o') (hij : i < j) (hf : o.2.1 = true ∨ o'.2.1 = true) : o.1 ≠ o'.1 := by
  obtain ⟨h1, e1⟩ := List.getElem?_eq_some_iff.mp hi
  obtain ⟨h2, e2⟩ := List.getElem?_eq_some_iff.mp hj
  have := List.pairwise_iff_getElem.mp I.2.2.2.2 i j h1 h2 hij
  rw [e1, e2] at this
  exact this hf
/-- the slots of a layout are unlike -/
def LayOk (Z : State) (a0 : Array Value) (C : String) (lay : Lay) : Prop := (∀ f ∈ lay, Laid Z a0 C f.1 f.2.1 f.2.2) ∧ (lay.map (·.2.1)).Nodup ∧ ∀ f ∈ lay, ∃ t, parseFieldDescriptor f.2.2 = some t
theorem LayOk.ne {f f' : String × String × String} {j' : Nat} (K : LayOk Z a0 C lay) (hj : lay[j]? = some f) (hj' : lay[j']? = some f') (hne : j ≠ j') : RoadKit.slotOf Z f.1 f.2.1 f.2.2 ≠ RoadKit.slotOf Z f'.1 f'.2.1 f'.2.2 := by
  have m1 := List.mem_of_getElem? hj
  have m2 := List.mem_of_getElem? hj'
  obtain ⟨t1, q1⟩ := K.2.2 f m1
  obtain ⟨t2, q2⟩ := K.2.2 f' m2
  refine slot_ne (K.1 f m1) (K.1 f' m2) (fun e => ?_) q1 q2
  have n1 : (lay.map (·.2.1))[j]? = some f.2.1 := by simp [hj]
  have n2 : (lay.map (·.2.1))[j']? = some f'.2.1 := by simp [hj']
  obtain ⟨l1, g1⟩ := List.getElem?_eq_some_iff.mp n1
  obtain ⟨l2, g2⟩ := List.getElem?_eq_some_iff.mp n2
  have := List.pairwise_iff_getElem.mp (show (lay.map (·.2.1)).Pairwise (· ≠ ·) from K.2.1)
  rcases Nat.lt_or_gt_of_ne hne with q | q
  · exact this j j' l1 l2 q (by rw [g1, g2]; exact e)
  · exact this j' j l2 l1 q (by rw [g1, g2]; exact e.symm)
theorem OB.set {f : String × String × String} (K : LayOk Z a0 C lay) (F : OB Z C lay vs c) (hj : lay[j]? = some f) (hv : vs[j]? = some w) (v : Value) : OB Z C lay (vs.set j v) (c.setSlot (RoadKit.slotOf Z f.1 f.2.1 f.2.2) v) := by
  obtain ⟨⟨k, x1, x2, x3, x4⟩, F2⟩ := F
  have Fj := F2 j f w hj hv
  obtain ⟨cf, kf, i, fi, y1, y2, y3, y4, y5, y6⟩ := Fj
  have es : RoadKit.slotOf Z f.1 f.2.1 f.2.2 = fi.slot := by simp [RoadKit.slotOf, y1]
  refine ⟨⟨k, x1, x2, x3, fun q => by rw [sz_set]; exact x4 q⟩, fun j' f' v' h1 h2 => ?_⟩
  by_cases e : j = j'
  · subst e
    cases hj.symm.trans h1
    have hlt : j < vs.length := (List.getElem?_eq_some_iff.mp hv).1
    have : v' = v := by rw [List.getElem?_set_self hlt] at h2; exact (Option.some.inj h2).symm
    subst this
    have hsl := (Array.getElem?_eq_some_iff.mp y6).1
    exact ⟨cf, kf, i, fi, y1, y2, y3, y4, y5, by rw [es]; simp [Cell.setSlot, hsl]⟩
  · rw [List.getElem?_set_ne e] at h2
    obtain ⟨cf', kf', i', fi', z1, z2, z3, z4, z5, z6⟩ := F2 j' f' v' h1 h2
    have es' : RoadKit.slotOf Z f'.1 f'.2.1 f'.2.2 = fi'.slot := by simp [RoadKit.slotOf, z1]
    have hne := K.ne hj h1 e
    rw [es, es'] at hne
    exact ⟨cf', kf', i', fi', z1, z2, z3, z4, z5, by rw [es]; simp only [Cell.setSlot]; rw [Array.getElem?_setIfInBounds_ne hne]; exact z6⟩
end Facts
/-- the store with the entry o taken out -/
def Ex (L : Store) (o : Ent) (L0 : Store) : Prop := L.Perm (o :: L0)
theorem Ex.here {o : Ent} {L : Store} : Ex (o :: L) o L := List.Perm.refl _
theorem Ex.there {o x : Ent} {L L0 : Store} (h : Ex L o L0) : Ex (x :: L) o (x :: L0) := (List.Perm.cons x h).trans (List.Perm.swap o x L0)
/-- a local is written over -/
def LS1 (k : Nat) (v : Value) (Ls Ls' : List Slot) : Prop := v.category = 1 → storeLocals ⟨Ls⟩ k v = some ⟨Ls'⟩ ∧ ∃ o, Ls[k]? = some o ∧ One o ∧ Ls' = Ls.set k (.val v)
theorem LS1.of {Ls : List Slot} {i : Nat} {v : Value} {o : Slot} (hold : Ls[i]? = some o) (ho : One o) : LS1 i v Ls (Ls.set i (.val v)) := fun hv => by
  have q := XS.store1 (l := ⟨Ls⟩) (i := i) (v := v) (o := o) (by simpa using hold) ho hv
  exact ⟨by simpa using q, o, hold, ho, rfl⟩
theorem LS1.here {v : Value} {o : Slot} {Ls : List Slot} (ho : One o) : LS1 0 v (o :: Ls) (.val v :: Ls) := LS1.of (Ls := o :: Ls) (i := 0) rfl ho
theorem LS1.there {k : Nat} {v : Value} {x : Slot} {Ls Ls' : List Slot} (h : LS1 k v Ls Ls') : LS1 (k + 1) v (x :: Ls) (x :: Ls') := fun hv => by
  obtain ⟨-, o, h1, h2, rfl⟩ := h hv
  exact LS1.of (Ls := x :: Ls) (i := k + 1) (by simpa using h1) h2 hv
def LS2 (k : Nat) (v : Int64) (Ls Ls' : List Slot) : Prop := ∃ (A B : List Slot) (o1 o2 : Slot), Ls = A ++ o1 :: o2 :: B ∧ A.length = k ∧ ((One o1 ∧ One o2) ∨ ∃ x, o1 = .val (.long x) ∧ o2 = .second) ∧ Ls' = A ++ .val (.long v) :: .second :: B
theorem LS2.here {v : Int64} {o1 o2 : Slot} {Ls : List Slot} (ho : (One o1 ∧ One o2) ∨ ∃ x, o1 = .val (.long x) ∧ o2 = .second) : LS2 0 v (o1 :: o2 :: Ls) (.val (.long v) :: .second :: Ls) := ⟨[], Ls, o1, o2, rfl, rfl, ho, rfl⟩
theorem LS2.there {k : Nat} {v : Int64} {x : Slot} {Ls Ls' : List Slot} (h : LS2 k v Ls Ls') : LS2 (k + 1) v (x :: Ls) (x :: Ls') := by
  obtain ⟨A, B, o1, o2, rfl, h2, h3, rfl⟩ := h
  exact ⟨x :: A, B, o1, o2, rfl, by simp [h2], h3, rfl⟩
theorem LS2.store {k : Nat} {v : Int64} {Ls Ls' : List Slot} (h : LS2 k v Ls Ls') : storeLocals ⟨Ls⟩ k (.long v) = some ⟨Ls'⟩ := by
  obtain ⟨A, B, o1, o2, rfl, rfl, h3, rfl⟩ := h
  have hv : (Value.long v).category = 2 := rfl
  rcases h3 with ⟨h1 | ⟨w1, h1, g1⟩, h2 | ⟨w2, h2, g2⟩⟩ | ⟨x, h1, h2⟩
  · subst h1 h2; simp [storeLocals, storeSelf, setAt, hv]
  · subst h1 h2; simp [storeLocals, storeSelf, setAt, hv, g2]
  · subst h1 h2; simp [storeLocals, storeSelf, setAt, hv, g1]
  · subst h1 h2; simp [storeLocals, storeSelf, setAt, hv, g1, g2]
  · have hx : (Value.long x).category = 2 := rfl
    subst h1 h2; simp [storeLocals, storeSelf, setAt, hv, hx]
/-- nothing is asked of the frames below -/
def KF (_ : State) (_ : Vm) (_ : List Frame) (_ : State) : Prop := True
abbrev KC : Program → Env → List Frame → State → Array Value → Prop := fun _ _ _ _ _ => True
section Kn
variable {p : Program} {l : Launch} {e : Env} {R : Room} {Z s : State} {m : MethodId} {args : Array Value} {below : List Frame} {meth : Method} {c : Code} {T : State} {locs : List Loc} {cells slots : Nat} {vm0 vm1 : Vm}
theorem KF.move (h : KF Z vm0 below s) (A : vm0.Alike vm1) : KF Z vm1 below s := trivial
theorem KF.start (h : KC p e below s args) (E : Ext Z.heap s.heap) : KF Z s.vm below s := trivial
theorem KF.call (h : KF Z vm0 below s) (X : Stand p l e R (s.setVm vm0) m args below meth c T locs cells slots) {g : JFrame} (hg : g.method = m) {mk : MethodId} {a : Array Value} : KC p e (T.setTop g).frames (T.calling g mk a) a := trivial
end Kn
/-- what is known of the frame and of those below -/
def KN (Z : State) (vm0 : Vm) (below : List Frame) (s : State) (y : MethodName) (m : MethodId) : Prop := KF Z vm0 below s ∧ (s.setVm vm0).methodNamed? y = some m
theorem KN.move {Z s : State} {vm0 vm1 : Vm} {below : List Frame} {y : MethodName} {m : MethodId} (h : KN Z vm0 below s y m) (A : vm0.Alike vm1) : KN Z vm1 below s y m := ⟨h.1.move A, (State.methodNamed?_setVm (s := s.setVm vm0) A y).trans h.2⟩
/-- THE WALK: from pc with these locals and this stack, the store L, cb cells and sb slots yet to be made, the body comes to its return, and Q holds there -/
def Wk (l : Launch) (Z : State) (a0 : Array Value) (EL : List (String × Nat)) (y : MethodName) (bytes : ByteArray) (mx : Nat) (ret : Option FieldType) (R : Room) (Q : Option Value → Store → Prop) (L : Store) (cb sb pc : Nat) (Ls : List Slot) (St : List Value) : Prop :=
  ∀ (p : Program) (e : Env) (s : State) (m : MethodId) (args : Array Value) (below : List Frame) (meth : Method) (c : Code) (T : State) (vm0 : Vm) (k0 : Nat) (locs : List Loc) (cells slots : Nat),
    p.tables.exec = Jvm.exec → c.code = bytes → c.maxLocals = mx → meth.sig.returnType = ret → meth.locks = false → meth.name = y.name → vm0.findClass y.cls = some m.cls → KN Z vm0 below s y m →
    Stand p l e R (s.setVm vm0) m args below meth c T locs cells slots → s.Since vm0 k0 → k0 ≤ T.heap.size → Z.Warmed39 vm0 → EW Z a0 EL → Inv Z EL vm0 T.heap L → Fr Z.heap.size locs → cells + cb ≤ R.cells → slots + sb ≤ R.slots →
    ∃ (fin : State) (v : Option Value) (Lc : List Loc) (L' : Store), Steps p.tables e below (T.setTop (mkF m pc ⟨Ls⟩ St)) fin ∧ fin.status = .running ∧ Ended fin below (.returned v) ∧ Q v L' ∧ Inv Z EL fin.vm fin.heap L' ∧ Fr Z.heap.size Lc ∧ ReturnedEndW s (.returned v) fin Lc R.cells R.slots
/-- THE CONTRACT of a body -/
def Ct (l : Launch) (Z : State) (EL : List (String × Nat)) (y : MethodName) (bytes : ByteArray) (mx : Nat) (ret : Option FieldType) (R : Room) (as' : Array Value) (L : Store) (Q : Option Value → Store → Prop) : Prop :=
  ∀ ws : List Jvm.Cond, MetFree l y (head1 (Jvm.Cond.code y bytes mx ret :: ws) R) (fun a U => a = as' ∧ Z.Warmed39 U.vm ∧ Inv Z EL U.vm U.heap L) KC (fun _ U o U' => ∃ v Lc L', o = .returned v ∧ Q v L' ∧ Inv Z EL U'.vm U'.heap L' ∧ Fr Z.heap.size Lc ∧ ReturnedEndW U o U' Lc R.cells R.slots)
theorem endMono {s t : State} {o : Outcome} {L : List Loc} {k n k' n' : Nat} (h : ReturnedEndW s o t L k n) (hk : k ≤ k') (hn : n ≤ n') : ReturnedEndW s o t L k' n' := ⟨h.1, h.2.1, h.2.2.1, h.2.2.2.mono hk hn⟩
section Rules
variable {l : Launch} {Z : State} {a0 : Array Value} {EL : List (String × Nat)} {y : MethodName} {bytes : ByteArray} {mx : Nat} {ret : Option FieldType} {R : Room} {Q Q' : Option Value → Store → Prop} {L L0 L' : Store} {cb sb pc q : Nat} {Ls Ls' : List Slot} {St rest : List Value}
theorem Wk.mono (k : Wk l Z a0 EL y bytes mx ret R Q L cb sb pc Ls St) {cb' sb' : Nat} (h1 : cb ≤ cb') (h2 : sb ≤ sb') : Wk l Z a0 EL y bytes mx ret R Q L cb' sb' pc Ls St := by
  intro p e s m args below meth c T vm0 k0 locs cells slots hx hby hmx hret hlk hnm hown hkn X hS hk hZ hE hI hF hc hs
  exact k p e s m args below meth c T vm0 k0 locs cells slots hx hby hmx hret hlk hnm hown hkn X hS hk hZ hE hI hF (Nat.le_trans (Nat.add_le_add_left h1 _) hc) (Nat.le_trans (Nat.add_le_add_left h2 _) hs)
theorem Wk.imp (hq : ∀ v L, Q v L → Q' v L) (k : Wk l Z a0 EL y bytes mx ret R Q L cb sb pc Ls St) : Wk l Z a0 EL y bytes mx ret R Q' L cb sb pc Ls St := by
  intro p e s m args below meth c T vm0 k0 locs cells slots hx hby hmx hret hlk hnm hown hkn X hS hk hZ hE hI hF hc hs
  obtain ⟨fin, v, Lc, L', h1, h2, h3, h4, r⟩ := k p e s m args below meth c T vm0 k0 locs cells slots hx hby hmx hret hlk hnm hown hkn X hS hk hZ hE hI hF hc hs
  exact ⟨fin, v, Lc, L', h1, h2, h3, hq _ _ h4, r⟩
theorem Wk.inv (hi : ∀ vm h, Inv Z EL vm h L → Inv Z EL vm h L') (k : Wk l Z a0 EL y bytes mx ret R Q L' cb sb pc Ls St) : Wk l Z a0 EL y bytes mx ret R Q L cb sb pc Ls St := by
  intro p e s m args below meth c T vm0 k0 locs cells slots hx hby hmx hret hlk hnm hown hkn X hS hk hZ hE hI hF hc hs
  exact k p e s m args below meth c T vm0 k0 locs cells slots hx hby hmx hret hlk hnm hown hkn X hS hk hZ hE (hi _ _ hI) hF hc hs
/-- the entry o comes to the front -/
theorem Wk.pull {o : Ent} (h : Ex L o L0) (k : Wk l Z a0 EL y bytes mx ret R Q (o :: L0) cb sb pc Ls St) : Wk l Z a0 EL y bytes mx ret R Q L cb sb pc Ls St := Wk.inv (fun _ _ I => I.perm h) k
theorem Wk.perm (h : L.Perm L') (k : Wk l Z a0 EL y bytes mx ret R Q L' cb sb pc Ls St) : Wk l Z a0 EL y bytes mx ret R Q L cb sb pc Ls St := Wk.inv (fun _ _ I => I.perm h) k
theorem Wk.sub (h : L'.Sublist L) (k : Wk l Z a0 EL y bytes mx ret R Q L' cb sb pc Ls St) : Wk l Z a0 EL y bytes mx ret R Q L cb sb pc Ls St := Wk.inv (fun _ _ I => I.sub h) k
theorem Wk.distinct {i j : Nat} {o o' : Ent} (hi : L[i]? = some o) (hj : L[j]? = some o') (hij : i < j) (hf : o.2.1 = true ∨ o'.2.1 = true) (k : o.1 ≠ o'.1 → Wk l Z a0 EL y bytes mx ret R Q L cb sb pc Ls St) : Wk l Z a0 EL y bytes mx ret R Q L cb sb pc Ls St := by
  intro p e s m args below meth c T vm0 k0 locs cells slots hx hby hmx hret hlk hnm hown hkn X hS hk hZ hE hI hF hc hs
  exact k (hI.ne hi hj hij hf) p e s m args below meth c T vm0 k0 locs cells slots hx hby hmx hret hlk hnm hown hkn X hS hk hZ hE hI hF hc hs
/-- an old object, known at the start -/
theorem Wk.old {a : Addr} {c0 : Cell} {P : Cell → Prop} (h0 : Z.heap[a]? = some c0) (hP : P c0) (k : Wk l Z a0 EL y bytes mx ret R Q ((a, false, P) :: L) cb sb pc Ls St) : Wk l Z a0 EL y bytes mx ret R Q L cb sb pc Ls St := by
  refine Wk.inv (fun vm h I => I.old (I.1.2 _ _ h0) hP fun x hx _ e => ?_) k
  subst e
  exact absurd (Array.getElem?_eq_some_iff.mp h0).1 (Nat.not_lt.mpr hx)
/-- one plain step -/
theorem Wk.pure {q : Nat} {Ls' : List Slot} {St' : List Value} (st : ∀ {p : Program} {e : Env} {below : List Frame} {T : State} {m : MethodId} {c : Code} {target : State}, At T m c below → p.tables.exec = Jvm.exec → c.code = bytes → Steps p.tables e below (T.setTop (mkF m q ⟨Ls'⟩ St')) target → Steps p.tables e below (T.setTop (mkF m pc ⟨Ls⟩ St)) target)
    (k : Wk l Z a0 EL y bytes mx ret R Q L cb sb q Ls' St') : Wk l Z a0 EL y bytes mx ret R Q L cb sb pc Ls St := by
  intro p e s m args below meth c T vm0 k0 locs cells slots hx hby hmx hret hlk hnm hown hkn X hS hk hZ hE hI hF hc hs
  obtain ⟨fin, v, Lc, L', h1, r⟩ := k p e s m args below meth c T vm0 k0 locs cells slots hx hby hmx hret hlk hnm hown hkn X hS hk hZ hE hI hF hc hs
  exact ⟨fin, v, Lc, L', st X.here hx hby h1, r⟩
theorem getL {k : Nat} {o : Slot} (h : Ls[k]? = some o) : (⟨Ls⟩ : Array Slot)[k]? = some o := by simpa using h
theorem Wk.iload_n {i : Fin 4} {u : Int32} (hd : decode bytes pc = .ok (.iload_n i, 1)) (hq : pc + 1 = q) (hl : Ls[i.val]? = some (.val (.int u))) (k : Wk l Z a0 EL y bytes mx ret R Q L cb sb q Ls (.int u :: St)) : Wk l Z a0 EL y bytes mx ret R Q L cb sb pc Ls (St) := by
  subst hq; exact Wk.pure (fun X hx hby r => XS.iloadN X hx rfl (hb hby hd) (getL hl) r) k
theorem Wk.iload {i : Nat} {u : Int32} (hd : decode bytes pc = .ok (.iload i, 2)) (hq : pc + 2 = q) (hl : Ls[i]? = some (.val (.int u))) (k : Wk l Z a0 EL y bytes mx ret R Q L cb sb q Ls (.int u :: St)) : Wk l Z a0 EL y bytes mx ret R Q L cb sb pc Ls (St) := by
  subst hq; exact Wk.pure (fun X hx hby r => XS.iload X hx rfl (hb hby hd) (getL hl) r) k
theorem Wk.aload_n {i : Fin 4} {u : Value} (hd : decode bytes pc = .ok (.aload_n i, 1)) (hq : pc + 1 = q) (hl : Ls[i.val]? = some (.val u)) (hr : u.isRef = true) (k : Wk l Z a0 EL y bytes mx ret R Q L cb sb q Ls (u :: St)) : Wk l Z a0 EL y bytes mx ret R Q L cb sb pc Ls (St) := by
  subst hq; exact Wk.pure (fun X hx hby r => XS.aloadN X hx rfl (hb hby hd) (getL hl) hr r) k
theorem Wk.aload {i : Nat} {u : Value} (hd : decode bytes pc = .ok (.aload i, 2)) (hq : pc + 2 = q) (hl : Ls[i]? = some (.val u)) (hr : u.isRef = true) (k : Wk l Z a0 EL y bytes mx ret R Q L cb sb q Ls (u :: St)) : Wk l Z a0 EL y bytes mx ret R Q L cb sb pc Ls (St) := by
  subst hq; exact Wk.pure (fun X hx hby r => XS.aload X hx rfl (hb hby hd) (getL hl) hr r) k
theorem Wk.lload_n {i : Fin 4} {u : Int64} (hd : decode bytes pc = .ok (.lload_n i, 1)) (hq : pc + 1 = q) (hl : Ls[i.val]? = some (.val (.long u))) (k : Wk l Z a0 EL y bytes mx ret R Q L cb sb q Ls (.long u :: St)) : Wk l Z a0 EL y bytes mx ret R Q L cb sb pc Ls (St) := by
  subst hq; exact Wk.pure (fun X hx hby r => XT.lloadN X hx rfl (hb hby hd) (getL hl) r) k
theorem Wk.lload {i : Nat} {u : Int64} (hd : decode bytes pc = .ok (.lload i, 2)) (hq : pc + 2 = q) (hl : Ls[i]? = some (.val (.long u))) (k : Wk l Z a0 EL y bytes mx ret R Q L cb sb q Ls (.long u :: St)) : Wk l Z a0 EL y bytes mx ret R Q L cb sb pc Ls (St) := by
  subst hq; exact Wk.pure (fun X hx hby r => XT.lload X hx rfl (hb hby hd) (getL hl) r) k
theorem Wk.istore_n {i : Fin 4} {u : Int32} (hd : decode bytes pc = .ok (.istore_n i, 1)) (hq : pc + 1 = q) (hl : LS1 i.val (.int u) Ls Ls') (k : Wk l Z a0 EL y bytes mx ret R Q L cb sb q Ls' (St)) : Wk l Z a0 EL y bytes mx ret R Q L cb sb pc Ls (.int u :: St) := by
  subst hq; exact Wk.pure (fun X hx hby r => XS.istoreN X hx rfl (hb hby hd) rfl (hl rfl).1 r) k
theorem Wk.istore {i : Nat} {u : Int32} (hd : decode bytes pc = .ok (.istore i, 2)) (hq : pc + 2 = q) (hl : LS1 i (.int u) Ls Ls') (k : Wk l Z a0 EL y bytes mx ret R Q L cb sb q Ls' (St)) : Wk l Z a0 EL y bytes mx ret R Q L cb sb pc Ls (.int u :: St) := by
  subst hq; exact Wk.pure (fun X hx hby r => XS.istore X hx rfl (hb hby hd) rfl (hl rfl).1 r) k
theorem Wk.astore_n {i : Fin 4} {u : Value} (hd : decode bytes pc = .ok (.astore_n i, 1)) (hq : pc + 1 = q) (hr : u.isRef = true) (hl : LS1 i.val u Ls Ls') (k : Wk l Z a0 EL y bytes mx ret R Q L cb sb q Ls' (St)) : Wk l Z a0 EL y bytes mx ret R Q L cb sb pc Ls (u :: St) := by
  subst hq; exact Wk.pure (fun X hx hby r => XS.astoreN X hx rfl (hb hby hd) rfl hr (hl (XT.cat1 hr)).1 r) k
theorem Wk.astore {i : Nat} {u : Value} (hd : decode bytes pc = .ok (.astore i, 2)) (hq : pc + 2 = q) (hr : u.isRef = true) (hl : LS1 i u Ls Ls') (k : Wk l Z a0 EL y bytes mx ret R Q L cb sb q Ls' (St)) : Wk l Z a0 EL y bytes mx ret R Q L cb sb pc Ls (u :: St) := by
  subst hq; exact Wk.pure (fun X hx hby r => XS.astore X hx rfl (hb hby hd) rfl hr (hl (XT.cat1 hr)).1 r) k
theorem Wk.lstore_n {i : Fin 4} {u : Int64} (hd : decode bytes pc = .ok (.lstore_n i, 1)) (hq : pc + 1 = q) (hl : LS2 i.val u Ls Ls') (k : Wk l Z a0 EL y bytes mx ret R Q L cb sb q Ls' (St)) : Wk l Z a0 EL y bytes mx ret R Q L cb sb pc Ls (.long u :: St) := by
  subst hq; exact Wk.pure (fun X hx hby r => XT.lstoreN X hx rfl (hb hby hd) rfl hl.store r) k
theorem Wk.lstore {i : Nat} {u : Int64} (hd : decode bytes pc = .ok (.lstore i, 2)) (hq : pc + 2 = q) (hl : LS2 i u Ls Ls') (k : Wk l Z a0 EL y bytes mx ret R Q L cb sb q Ls' (St)) : Wk l Z a0 EL y bytes mx ret R Q L cb sb pc Ls (.long u :: St) := by
  subst hq; exact Wk.pure (fun X hx hby r => XT.lstore X hx rfl (hb hby hd) rfl hl.store r) k
theorem Wk.iconst {i : Int} (u : Int32) (hd : decode bytes pc = .ok (.iconst i, 1)) (hq : pc + 1 = q) (hu : Int32.ofInt i = u) (k : Wk l Z a0 EL y bytes mx ret R Q L cb sb q Ls (.int u :: St)) : Wk l Z a0 EL y bytes mx ret R Q L cb sb pc Ls (St) := by
  subst hq; exact Wk.pure (fun X hx hby r => XS.iconst X hx rfl (hb hby hd) (by rw [hu]; exact r)) k
theorem Wk.bipush {i : Int} (u : Int32) (hd : decode bytes pc = .ok (.bipush i, 2)) (hq : pc + 2 = q) (hu : (Int8.ofInt i).toInt32 = u) (k : Wk l Z a0 EL y bytes mx ret R Q L cb sb q Ls (.int u :: St)) : Wk l Z a0 EL y bytes mx ret R Q L cb sb pc Ls (St) := by
  subst hq; exact Wk.pure (fun X hx hby r => XS.bipush X hx rfl (hb hby hd) (by rw [hu]; exact r)) k
theorem Wk.sipush {i : Int} (u : Int32) (hd : decode bytes pc = .ok (.sipush i, 3)) (hq : pc + 3 = q) (hu : (Int16.ofInt i).toInt32 = u) (k : Wk l Z a0 EL y bytes mx ret R Q L cb sb q Ls (.int u :: St)) : Wk l Z a0 EL y bytes mx ret R Q L cb sb pc Ls (St) := by
  subst hq; exact Wk.pure (fun X hx hby r => XS.sipush X hx rfl (hb hby hd) (by rw [hu]; exact r)) k
theorem Wk.lconst {i : Fin 2} (u : Int64) (hd : decode bytes pc = .ok (.lconst i, 1)) (hq : pc + 1 = q) (hu : Int64.ofNat i = u) (k : Wk l Z a0 EL y bytes mx ret R Q L cb sb q Ls (.long u :: St)) : Wk l Z a0 EL y bytes mx ret R Q L cb sb pc Ls (St) := by
  subst hq; exact Wk.pure (fun X hx hby r => XT.lconst X hx rfl (hb hby hd) (by rw [hu]; exact r)) k
theorem Wk.aconst_null  (hd : decode bytes pc = .ok (.aconst_null, 1)) (hq : pc + 1 = q) (k : Wk l Z a0 EL y bytes mx ret R Q L cb sb q Ls (.null :: St)) : Wk l Z a0 EL y bytes mx ret R Q L cb sb pc Ls (St) := by
  subst hq; exact Wk.pure (fun X hx hby r => XS.aconstNull X hx rfl (hb hby hd)  r) k
theorem Wk.iadd {u w : Int32} (hd : decode bytes pc = .ok (.iadd, 1)) (hq : pc + 1 = q) (k : Wk l Z a0 EL y bytes mx ret R Q L cb sb q Ls (.int (u + w) :: St)) : Wk l Z a0 EL y bytes mx ret R Q L cb sb pc Ls (.int w :: .int u :: St) := by
  subst hq; exact Wk.pure (fun X hx hby r => XS.iadd X hx rfl (hb hby hd) rfl r) k
theorem Wk.isub {u w : Int32} (hd : decode bytes pc = .ok (.isub, 1)) (hq : pc + 1 = q) (k : Wk l Z a0 EL y bytes mx ret R Q L cb sb q Ls (.int (u - w) :: St)) : Wk l Z a0 EL y bytes mx ret R Q L cb sb pc Ls (.int w :: .int u :: St) := by
  subst hq; exact Wk.pure (fun X hx hby r => XS.isub X hx rfl (hb hby hd) rfl r) k
theorem Wk.imul {u w : Int32} (hd : decode bytes pc = .ok (.imul, 1)) (hq : pc + 1 = q) (k : Wk l Z a0 EL y bytes mx ret R Q L cb sb q Ls (.int (u * w) :: St)) : Wk l Z a0 EL y bytes mx ret R Q L cb sb pc Ls (.int w :: .int u :: St) := by
  subst hq; exact Wk.pure (fun X hx hby r => XS.imul X hx rfl (hb hby hd) rfl r) k
theorem Wk.iand {u w : Int32} (hd : decode bytes pc = .ok (.iand, 1)) (hq : pc + 1 = q) (k : Wk l Z a0 EL y bytes mx ret R Q L cb sb q Ls (.int (u &&& w) :: St)) : Wk l Z a0 EL y bytes mx ret R Q L cb sb pc Ls (.int w :: .int u :: St) := by
  subst hq; exact Wk.pure (fun X hx hby r => XS.iand X hx rfl (hb hby hd) rfl r) k
theorem Wk.irem {u w : Int32} (hd : decode bytes pc = .ok (.irem, 1)) (hq : pc + 1 = q) (hy : w ≠ 0) (k : Wk l Z a0 EL y bytes mx ret R Q L cb sb q Ls (.int (u % w) :: St)) : Wk l Z a0 EL y bytes mx ret R Q L cb sb pc Ls (.int w :: .int u :: St) := by
  subst hq; exact Wk.pure (fun X hx hby r => XS.irem X hx rfl (hb hby hd) rfl hy (by rw [show u - u / w * w = u % w from irem_eq_mod u w]; exact r)) k
theorem Wk.idiv {u w : Int32} (hd : decode bytes pc = .ok (.idiv, 1)) (hq : pc + 1 = q) (hy : w ≠ 0) (k : Wk l Z a0 EL y bytes mx ret R Q L cb sb q Ls (.int (u / w) :: St)) : Wk l Z a0 EL y bytes mx ret R Q L cb sb pc Ls (.int w :: .int u :: St) := by
  subst hq; exact Wk.pure (fun X hx hby r => XS.idiv X hx rfl (hb hby hd) rfl hy r) k
theorem Wk.ineg {u : Int32} (hd : decode bytes pc = .ok (.ineg, 1)) (hq : pc + 1 = q) (k : Wk l Z a0 EL y bytes mx ret R Q L cb sb q Ls (.int (-u) :: St)) : Wk l Z a0 EL y bytes mx ret R Q L cb sb pc Ls (.int u :: St) := by
  subst hq; exact Wk.pure (fun X hx hby r => XS.ineg X hx rfl (hb hby hd) rfl r) k
theorem Wk.ior {u w : Int32} (hd : decode bytes pc = .ok (.ior, 1)) (hq : pc + 1 = q) (k : Wk l Z a0 EL y bytes mx ret R Q L cb sb q Ls (.int (u ||| w) :: St)) : Wk l Z a0 EL y bytes mx ret R Q L cb sb pc Ls (.int w :: .int u :: St) := by
  subst hq; exact Wk.pure (fun X hx hby r => XT.ior X hx rfl (hb hby hd) rfl r) k
theorem Wk.ixor {u w : Int32} (hd : decode bytes pc = .ok (.ixor, 1)) (hq : pc + 1 = q) (k : Wk l Z a0 EL y bytes mx ret R Q L cb sb q Ls (.int (u ^^^ w) :: St)) : Wk l Z a0 EL y bytes mx ret R Q L cb sb pc Ls (.int w :: .int u :: St) := by
  subst hq; exact Wk.pure (fun X hx hby r => XT.ixor X hx rfl (hb hby hd) rfl r) k
theorem Wk.ishl {u w : Int32} (hd : decode bytes pc = .ok (.ishl, 1)) (hq : pc + 1 = q) (k : Wk l Z a0 EL y bytes mx ret R Q L cb sb q Ls (.int (u <<< (w &&& 31)) :: St)) : Wk l Z a0 EL y bytes mx ret R Q L cb sb pc Ls (.int w :: .int u :: St) := by
  subst hq; exact Wk.pure (fun X hx hby r => XT.ishl X hx rfl (hb hby hd) rfl r) k
theorem Wk.ishr {u w : Int32} (hd : decode bytes pc = .ok (.ishr, 1)) (hq : pc + 1 = q) (k : Wk l Z a0 EL y bytes mx ret R Q L cb sb q Ls (.int (u >>> (w &&& 31)) :: St)) : Wk l Z a0 EL y bytes mx ret R Q L cb sb pc Ls (.int w :: .int u :: St) := by
  subst hq; exact Wk.pure (fun X hx hby r => XT.ishr X hx rfl (hb hby hd) rfl r) k
theorem Wk.iushr {u w : Int32} (hd : decode bytes pc = .ok (.iushr, 1)) (hq : pc + 1 = q) (k : Wk l Z a0 EL y bytes mx ret R Q L cb sb q Ls (.int (XT.ushr u w) :: St)) : Wk l Z a0 EL y bytes mx ret R Q L cb sb pc Ls (.int w :: .int u :: St) := by
  subst hq; exact Wk.pure (fun X hx hby r => XT.iushr X hx rfl (hb hby hd) rfl r) k
theorem Wk.ladd {u w : Int64} (hd : decode bytes pc = .ok (.ladd, 1)) (hq : pc + 1 = q) (k : Wk l Z a0 EL y bytes mx ret R Q L cb sb q Ls (.long (u + w) :: St)) : Wk l Z a0 EL y bytes mx ret R Q L cb sb pc Ls (.long w :: .long u :: St) := by
  subst hq; exact Wk.pure (fun X hx hby r => XT.ladd X hx rfl (hb hby hd) rfl r) k
theorem Wk.lsub {u w : Int64} (hd : decode bytes pc = .ok (.lsub, 1)) (hq : pc + 1 = q) (k : Wk l Z a0 EL y bytes mx ret R Q L cb sb q Ls (.long (u - w) :: St)) : Wk l Z a0 EL y bytes mx ret R Q L cb sb pc Ls (.long w :: .long u :: St) := by
  subst hq; exact Wk.pure (fun X hx hby r => XT.lsub X hx rfl (hb hby hd) rfl r) k
theorem Wk.lmul {u w : Int64} (hd : decode bytes pc = .ok (.lmul, 1)) (hq : pc + 1 = q) (k : Wk l Z a0 EL y bytes mx ret R Q L cb sb q Ls (.long (u * w) :: St)) : Wk l Z a0 EL y bytes mx ret R Q L cb sb pc Ls (.long w :: .long u :: St) := by
  subst hq; exact Wk.pure (fun X hx hby r => XT.lmul X hx rfl (hb hby hd) rfl r) k
theorem Wk.land {u w : Int64} (hd : decode bytes pc = .ok (.land, 1)) (hq : pc + 1 = q) (k : Wk l Z a0 EL y bytes mx ret R Q L cb sb q Ls (.long (u &&& w) :: St)) : Wk l Z a0 EL y bytes mx ret R Q L cb sb pc Ls (.long w :: .long u :: St) := by
  subst hq; exact Wk.pure (fun X hx hby r => XT.land X hx rfl (hb hby hd) rfl r) k
theorem Wk.ldiv {u w : Int64} (hd : decode bytes pc = .ok (.ldiv, 1)) (hq : pc + 1 = q) (hy : w ≠ 0) (k : Wk l Z a0 EL y bytes mx ret R Q L cb sb q Ls (.long (u / w) :: St)) : Wk l Z a0 EL y bytes mx ret R Q L cb sb pc Ls (.long w :: .long u :: St) := by
  subst hq; exact Wk.pure (fun X hx hby r => XT.ldiv X hx rfl (hb hby hd) rfl hy r) k
theorem Wk.lrem {u w : Int64} (hd : decode bytes pc = .ok (.lrem, 1)) (hq : pc + 1 = q) (hy : w ≠ 0) (k : Wk l Z a0 EL y bytes mx ret R Q L cb sb q Ls (.long (u % w) :: St)) : Wk l Z a0 EL y bytes mx ret R Q L cb sb pc Ls (.long w :: .long u :: St) := by
  subst hq; exact Wk.pure (fun X hx hby r => XT.lrem X hx rfl (hb hby hd) rfl hy (by rw [show u - u / w * w = u % w from lrem_mod u w]; exact r)) k
theorem Wk.i2l {u : Int32} (hd : decode bytes pc = .ok (.i2l, 1)) (hq : pc + 1 = q) (k : Wk l Z a0 EL y bytes mx ret R Q L cb sb q Ls (.long u.toInt64 :: St)) : Wk l Z a0 EL y bytes mx ret R Q L cb sb pc Ls (.int u :: St) := by
  subst hq; exact Wk.pure (fun X hx hby r => XT.i2l X hx rfl (hb hby hd) rfl r) k
theorem Wk.l2i {u : Int64} (hd : decode bytes pc = .ok (.l2i, 1)) (hq : pc + 1 = q) (k : Wk l Z a0 EL y bytes mx ret R Q L cb sb q Ls (.int u.toInt32 :: St)) : Wk l Z a0 EL y bytes mx ret R Q L cb sb pc Ls (.long u :: St) := by
  subst hq; exact Wk.pure (fun X hx hby r => XT.l2i X hx rfl (hb hby hd) rfl r) k
theorem Wk.i2b {u : Int32} (hd : decode bytes pc = .ok (.i2b, 1)) (hq : pc + 1 = q) (k : Wk l Z a0 EL y bytes mx ret R Q L cb sb q Ls (.int u.toInt8.toInt32 :: St)) : Wk l Z a0 EL y bytes mx ret R Q L cb sb pc Ls (.int u :: St) := by
  subst hq; exact Wk.pure (fun X hx hby r => XT.i2b X hx rfl (hb hby hd) rfl r) k
theorem Wk.i2c {u : Int32} (hd : decode bytes pc = .ok (.i2c, 1)) (hq : pc + 1 = q) (k : Wk l Z a0 EL y bytes mx ret R Q L cb sb q Ls (.int u.toUInt32.toUInt16.toUInt32.toInt32 :: St)) : Wk l Z a0 EL y bytes mx ret R Q L cb sb pc Ls (.int u :: St) := by
  subst hq; exact Wk.pure (fun X hx hby r => XT.i2c X hx rfl (hb hby hd) rfl r) k
theorem Wk.lcmp {u w : Int64} (hd : decode bytes pc = .ok (.lcmp, 1)) (hq : pc + 1 = q) (k : Wk l Z a0 EL y bytes mx ret R Q L cb sb q Ls (.int (XT.cmpL u w) :: St)) : Wk l Z a0 EL y bytes mx ret R Q L cb sb pc Ls (.long w :: .long u :: St) := by
  subst hq; exact Wk.pure (fun X hx hby r => XT.lcmp X hx rfl (hb hby hd) rfl r) k
theorem Wk.dup {u : Value} (hd : decode bytes pc = .ok (.dup, 1)) (hq : pc + 1 = q) (hc : u.category = 1) (k : Wk l Z a0 EL y bytes mx ret R Q L cb sb q Ls (u :: u :: St)) : Wk l Z a0 EL y bytes mx ret R Q L cb sb pc Ls (u :: St) := by
  subst hq; exact Wk.pure (fun X hx hby r => XS.dup X hx rfl (hb hby hd) rfl hc r) k
theorem Wk.pop {u : Value} (hd : decode bytes pc = .ok (.pop, 1)) (hq : pc + 1 = q) (hc : u.category = 1) (k : Wk l Z a0 EL y bytes mx ret R Q L cb sb q Ls (St)) : Wk l Z a0 EL y bytes mx ret R Q L cb sb pc Ls (u :: St) := by
  subst hq; exact Wk.pure (fun X hx hby r => XT.pop X hx rfl (hb hby hd) rfl hc r) k
theorem Wk.dup_x1 {u w : Value} (hd : decode bytes pc = .ok (.dup_x1, 1)) (hq : pc + 1 = q) (hc : u.category = 1) (hc' : w.category = 1) (k : Wk l Z a0 EL y bytes mx ret R Q L cb sb q Ls (u :: w :: u :: St)) : Wk l Z a0 EL y bytes mx ret R Q L cb sb pc Ls (u :: w :: St) := by
  subst hq; exact Wk.pure (fun X hx hby r => XT.dupX1 X hx rfl (hb hby hd) rfl hc hc' r) k
theorem Wk.iinc {i : Nat} {cst : Int} {u : Int32} (w : Int32) (hd : decode bytes pc = .ok (.iinc i cst, 3)) (hq : pc + 3 = q) (hu : Int32.ofInt cst = w) (hl : Ls[i]? = some (.val (.int u))) (hl' : LS1 i (.int (u + w)) Ls Ls') (k : Wk l Z a0 EL y bytes mx ret R Q L cb sb q Ls' (St)) : Wk l Z a0 EL y bytes mx ret R Q L cb sb pc Ls (St) := by
  subst hq; exact Wk.pure (fun X hx hby r => XS.iinc X hx rfl (hb hby hd) (getL hl) (by rw [hu]; exact (hl' rfl).1) r) k
theorem Wk.goto  {o : Int} (hd : decode bytes pc = .ok (.goto o, 3)) (ho : 0 ≤ (pc : Int) + o) (hq : ((pc : Int) + o).toNat = q) (k : Wk l Z a0 EL y bytes mx ret R Q L cb sb q Ls (St)) : Wk l Z a0 EL y bytes mx ret R Q L cb sb pc Ls (St) :=
  Wk.pure (fun X hx hby r => XS.goto X hx rfl rfl (hb hby hd)  ho hq r) k
theorem Wk.if_t {cd : ClassFile.Cond} {u : Int32} {o : Int} (hd : decode bytes pc = .ok (.ifCond cd o, 3)) (ho : 0 ≤ (pc : Int) + o) (hq : ((pc : Int) + o).toNat = q) (hc : ifCond.holds cd u = true) (k : Wk l Z a0 EL y bytes mx ret R Q L cb sb q Ls (St)) : Wk l Z a0 EL y bytes mx ret R Q L cb sb pc Ls (.int u :: St) :=
  Wk.pure (fun X hx hby r => XS.ifYes X hx rfl rfl (hb hby hd) rfl hc ho hq r) k
theorem Wk.if_f {cd : ClassFile.Cond} {o : Int} {u : Int32} (hd : decode bytes pc = .ok (.ifCond cd o, 3)) (hq : pc + 3 = q) (hc : ifCond.holds cd u = false) (k : Wk l Z a0 EL y bytes mx ret R Q L cb sb q Ls (St)) : Wk l Z a0 EL y bytes mx ret R Q L cb sb pc Ls (.int u :: St) := by
  subst hq; exact Wk.pure (fun X hx hby r => XS.ifNo X hx rfl (hb hby hd) rfl hc r) k
theorem Wk.icmp_t {cd : ClassFile.Cond} {u w : Int32} {o : Int} (hd : decode bytes pc = .ok (.if_icmp cd o, 3)) (ho : 0 ≤ (pc : Int) + o) (hq : ((pc : Int) + o).toNat = q) (hc : if_icmp.holds cd u w = true) (k : Wk l Z a0 EL y bytes mx ret R Q L cb sb q Ls (St)) : Wk l Z a0 EL y bytes mx ret R Q L cb sb pc Ls (.int w :: .int u :: St) :=
  Wk.pure (fun X hx hby r => XS.icmpYes X hx rfl rfl (hb hby hd) rfl hc ho hq r) k
theorem Wk.icmp_f {cd : ClassFile.Cond} {o : Int} {u w : Int32} (hd : decode bytes pc = .ok (.if_icmp cd o, 3)) (hq : pc + 3 = q) (hc : if_icmp.holds cd u w = false) (k : Wk l Z a0 EL y bytes mx ret R Q L cb sb q Ls (St)) : Wk l Z a0 EL y bytes mx ret R Q L cb sb pc Ls (.int w :: .int u :: St) := by
  subst hq; exact Wk.pure (fun X hx hby r => XS.icmpNo X hx rfl (hb hby hd) rfl hc r) k
theorem Wk.null_t  {o : Int} (hd : decode bytes pc = .ok (.ifnull o, 3)) (ho : 0 ≤ (pc : Int) + o) (hq : ((pc : Int) + o).toNat = q) (k : Wk l Z a0 EL y bytes mx ret R Q L cb sb q Ls (St)) : Wk l Z a0 EL y bytes mx ret R Q L cb sb pc Ls (.null :: St) :=
  Wk.pure (fun X hx hby r => XS.ifnullYes X hx rfl rfl (hb hby hd) rfl ho hq r) k
theorem Wk.null_f {o : Int} {u : Addr} (hd : decode bytes pc = .ok (.ifnull o, 3)) (hq : pc + 3 = q) (k : Wk l Z a0 EL y bytes mx ret R Q L cb sb q Ls (St)) : Wk l Z a0 EL y bytes mx ret R Q L cb sb pc Ls (.ref u :: St) := by
  subst hq; exact Wk.pure (fun X hx hby r => XS.ifnullNo X hx rfl (hb hby hd) rfl r) k
theorem Wk.nonnull_t {u : Addr} {o : Int} (hd : decode bytes pc = .ok (.ifnonnull o, 3)) (ho : 0 ≤ (pc : Int) + o) (hq : ((pc : Int) + o).toNat = q) (k : Wk l Z a0 EL y bytes mx ret R Q L cb sb q Ls (St)) : Wk l Z a0 EL y bytes mx ret R Q L cb sb pc Ls (.ref u :: St) :=
  Wk.pure (fun X hx hby r => XT.ifnonnullYes X hx rfl rfl (hb hby hd) rfl ho hq r) k
theorem Wk.nonnull_f {o : Int} (hd : decode bytes pc = .ok (.ifnonnull o, 3)) (hq : pc + 3 = q) (k : Wk l Z a0 EL y bytes mx ret R Q L cb sb q Ls (St)) : Wk l Z a0 EL y bytes mx ret R Q L cb sb pc Ls (.null :: St) := by
  subst hq; exact Wk.pure (fun X hx hby r => XT.ifnonnullNo X hx rfl (hb hby hd) rfl r) k
theorem Wk.acmp_t {cd : ClassFile.ACond} {u w : Value} {o : Int} (hd : decode bytes pc = .ok (.if_acmp cd o, 3)) (ho : 0 ≤ (pc : Int) + o) (hq : ((pc : Int) + o).toNat = q) (h1 : u.isRef = true) (h2 : w.isRef = true) (hc : XT.acmp cd u w = true) (k : Wk l Z a0 EL y bytes mx ret R Q L cb sb q Ls (St)) : Wk l Z a0 EL y bytes mx ret R Q L cb sb pc Ls (w :: u :: St) :=
  Wk.pure (fun X hx hby r => XT.acmpYes X hx rfl rfl (hb hby hd) rfl h1 h2 hc ho hq r) k
theorem Wk.acmp_f {cd : ClassFile.ACond} {o : Int} {u w : Value} (hd : decode bytes pc = .ok (.if_acmp cd o, 3)) (hq : pc + 3 = q) (h1 : u.isRef = true) (h2 : w.isRef = true) (hc : XT.acmp cd u w = false) (k : Wk l Z a0 EL y bytes mx ret R Q L cb sb q Ls (St)) : Wk l Z a0 EL y bytes mx ret R Q L cb sb pc Ls (w :: u :: St) := by
  subst hq; exact Wk.pure (fun X hx hby r => XT.acmpNo X hx rfl (hb hby hd) rfl h1 h2 hc r) k

/-- a step that reads the tables or the heap and leaves the heap -/
theorem Wk.same {Ls' : List Slot} {St' : List Value} (st : ∀ {p : Program} {e : Env} {s : State} {m : MethodId} {args : Array Value} {below : List Frame} {meth : Method} {c : Code} {T : State} {vm0 : Vm} {locs : List Loc} {cells slots : Nat}, p.tables.exec = Jvm.exec → c.code = bytes → c.maxLocals = mx → vm0.findClass y.cls = some m.cls → Z.Warmed39 vm0 → Inv Z EL vm0 T.heap L →
      Stand p l e R (s.setVm vm0) m args below meth c T locs cells slots → ∃ T', Stand p l e R (s.setVm vm0) m args below meth c T' locs cells slots ∧ T'.heap = T.heap ∧ ∀ target, Steps p.tables e below (T'.setTop (mkF m q ⟨Ls'⟩ St')) target → Steps p.tables e below (T.setTop (mkF m pc ⟨Ls⟩ St)) target)
    (k : Wk l Z a0 EL y bytes mx ret R Q L cb sb q Ls' St') : Wk l Z a0 EL y bytes mx ret R Q L cb sb pc Ls St := by
  intro p e s m args below meth c T vm0 k0 locs cells slots hx hby hmx hret hlk hnm hown hkn X hS hk hZ hE hI hF hc hs
  obtain ⟨T', X', e', st'⟩ := st hx hby hmx hown hZ hI X
  obtain ⟨fin, v, Lc, L', h1, r⟩ := k p e s m args below meth c T' vm0 k0 locs cells slots hx hby hmx hret hlk hnm hown hkn X' hS (by rw [e']; exact hk) hZ hE (by rw [e']; exact hI) hF hc hs
  exact ⟨fin, v, Lc, L', st' _ h1, r⟩
theorem Wk.getfield {i : Nat} (j : Nat) {a : Addr} {fl : Bool} {C R0 O n d : String} {lay : Lay} {vs : List Value} {v : Value} (hd : decode bytes pc = .ok (.getfield i, 3)) (hq : pc + 3 = q) (w : (Jvm.Cond.fieldLink y.cls i R0 n d).before a0 Z = true) (via : Via Z R0 O n d)
    (hm : (a, fl, OB Z C lay vs) ∈ L) (hj : lay[j]? = some (O, n, d)) (hv : vs[j]? = some v) (k : Wk l Z a0 EL y bytes mx ret R Q L cb sb q Ls (v :: St)) : Wk l Z a0 EL y bytes mx ret R Q L cb sb pc Ls (.ref a :: St) := by
  subst hq
  refine Wk.same (fun {p e s m args below meth c T vm0 locs cells slots} hx hby hmx hown hZ hI X => ?_) k
  obtain ⟨cl, e1, e2⟩ := hI.at_ hm
  exact getF X hx hZ hown (host := "") (Or.inl w) via rfl (e2.fld e1 hj hv) (g := mkF m pc ⟨Ls⟩ (.ref a :: St)) rfl rfl (hb hby hd)
theorem Wk.getstatic {i : Nat} {R0 O n d : String} {v : Value} (hd : decode bytes pc = .ok (.getstatic i, 3)) (hq : pc + 3 = q) (w : (Jvm.Cond.fieldLink y.cls i R0 n d).before a0 Z = true) (via : Via Z R0 O n d) (F : Sta Z Z.heap O n d v)
    (k : Wk l Z a0 EL y bytes mx ret R Q L cb sb q Ls (v :: St)) : Wk l Z a0 EL y bytes mx ret R Q L cb sb pc Ls St := by
  subst hq
  refine Wk.same (fun {p e s m args below meth c T vm0 locs cells slots} hx hby hmx hown hZ hI X => ?_) k
  exact getS (host := "") X hx hZ hown w via rfl (F.ext hI.1) (g := mkF m pc ⟨Ls⟩ St) rfl (hb hby hd)
theorem Wk.checkcast {i : Nat} {a : Addr} {fl : Bool} {C K : String} {lay : Lay} {vs : List Value} (hd : decode bytes pc = .ok (.checkcast i, 3)) (hq : pc + 3 = q) (w : (Jvm.Cond.classLink y.cls i K).before a0 Z = true) (hm : (a, fl, OB Z C lay vs) ∈ L) (wc : (Jvm.Cond.castable C K).before a0 Z = true)
    (k : Wk l Z a0 EL y bytes mx ret R Q L cb sb q Ls (.ref a :: St)) : Wk l Z a0 EL y bytes mx ret R Q L cb sb pc Ls (.ref a :: St) := by
  subst hq
  refine Wk.same (fun {p e s m args below meth c T vm0 locs cells slots} hx hby hmx hown hZ hI X => ?_) k
  obtain ⟨cl, e1, e2⟩ := hI.at_ hm
  exact castY X hx hZ hown w rfl (Ins.of_exa (e2.exa e1) wc) (g := mkF m pc ⟨Ls⟩ (.ref a :: St)) rfl rfl (hb hby hd)
theorem Wk.instanceof_t {i : Nat} {a : Addr} {fl : Bool} {C K : String} {lay : Lay} {vs : List Value} (hd : decode bytes pc = .ok (.instanceof i, 3)) (hq : pc + 3 = q) (w : (Jvm.Cond.classLink y.cls i K).before a0 Z = true) (hm : (a, fl, OB Z C lay vs) ∈ L) (wc : (Jvm.Cond.castable C K).before a0 Z = true)
    (k : Wk l Z a0 EL y bytes mx ret R Q L cb sb q Ls (.int 1 :: St)) : Wk l Z a0 EL y bytes mx ret R Q L cb sb pc Ls (.ref a :: St) := by
  subst hq
  refine Wk.same (fun {p e s m args below meth c T vm0 locs cells slots} hx hby hmx hown hZ hI X => ?_) k
  obtain ⟨cl, e1, e2⟩ := hI.at_ hm
  exact instY X hx hZ hown w rfl (Ins.of_exa (e2.exa e1) wc) (g := mkF m pc ⟨Ls⟩ (.ref a :: St)) rfl rfl (hb hby hd)
theorem Wk.instanceof_f {i : Nat} {a : Addr} {fl : Bool} {C K : String} {lay : Lay} {vs : List Value} (hd : decode bytes pc = .ok (.instanceof i, 3)) (hq : pc + 3 = q) (w : (Jvm.Cond.classLink y.cls i K).before a0 Z = true) (hm : (a, fl, OB Z C lay vs) ∈ L) (F : ∃ c t, Z.vm.findClass C = some c ∧ Z.vm.findClass K = some t ∧ Z.vm.assignable c t = false)
    (k : Wk l Z a0 EL y bytes mx ret R Q L cb sb q Ls (.int 0 :: St)) : Wk l Z a0 EL y bytes mx ret R Q L cb sb pc Ls (.ref a :: St) := by
  subst hq
  refine Wk.same (fun {p e s m args below meth c T vm0 locs cells slots} hx hby hmx hown hZ hI X => ?_) k
  obtain ⟨cl, e1, e2⟩ := hI.at_ hm
  exact instNo X hx hZ hown w rfl (e2.exa e1) F (g := mkF m pc ⟨Ls⟩ (.ref a :: St)) rfl rfl (hb hby hd)
theorem Wk.ldc_int {i : Nat} {u : Int32} (hd : decode bytes pc = .ok (.ldc i, 2)) (hq : pc + 2 = q) (w : (Jvm.Cond.constant y.cls i u).before a0 Z = true) (k : Wk l Z a0 EL y bytes mx ret R Q L cb sb q Ls (.int u :: St)) : Wk l Z a0 EL y bytes mx ret R Q L cb sb pc Ls St := by
  subst hq
  refine Wk.same (fun {p e s m args below meth c T vm0 locs cells slots} hx hby hmx hown hZ hI X => ?_) k
  exact ⟨T, X, rfl, fun target r => ldcI X hx hown (mv (s := s.setVm vm0) hZ w) (g := mkF m pc ⟨Ls⟩ St) rfl (hb hby hd) r⟩
theorem Wk.ldc2_w {i : Nat} {u : Int64} (hd : decode bytes pc = .ok (.ldc2_w i, 3)) (hq : pc + 3 = q) (w : (Jvm.Cond.constantLong y.cls i u).before a0 Z = true) (k : Wk l Z a0 EL y bytes mx ret R Q L cb sb q Ls (.long u :: St)) : Wk l Z a0 EL y bytes mx ret R Q L cb sb pc Ls St := by
  subst hq
  refine Wk.same (fun {p e s m args below meth c T vm0 locs cells slots} hx hby hmx hown hZ hI X => ?_) k
  exact ⟨T, X, rfl, fun target r => ldc2J X hx hown (mv (s := s.setVm vm0) hZ w) (g := mkF m pc ⟨Ls⟩ St) rfl (hb hby hd) r⟩
theorem Wk.objinit {i : Nat} {a : Addr} (W : Nat) (hd : decode bytes pc = .ok (.invokespecial i, 3)) (hq : pc + 3 = q) (w1 : (Jvm.Cond.methodLink y.cls i Lib.objectInit).before a0 Z = true) (w2 : (Jvm.Cond.instanceMethod Lib.objectInit).before a0 Z = true) (w3 : (Jvm.Cond.code Lib.objectInit ⟨#[0xb1]⟩ 1 none).before a0 Z = true)
    (hz : Ls.length = mx) (hf : 1 ≤ R.frames) (hW : (St.map fun v => v.category).sum = W) (hl : W + 12 ≤ R.locals) (k : Wk l Z a0 EL y bytes mx ret R Q L cb sb q Ls St) : Wk l Z a0 EL y bytes mx ret R Q L cb sb pc Ls (.ref a :: St) := by
  subst hq
  refine Wk.same (fun {p e s m args below meth c T vm0 locs cells slots} hx hby hmx hown hZ hI X => ?_) k
  exact initO X hx hZ hown w1 w2 w3 rfl (g := mkF m pc ⟨Ls⟩ (.ref a :: St)) rfl (by rw [hmx]; simpa using hz) rfl (hb hby hd) hf (W := W) (by show 2 * 0 + _ ≤ _; rw [hW]; omega) hl
theorem Wk.arraylength {a : Addr} {fl : Bool} {ty : FieldType} {vs : List Value} {u : Int32} (hd : decode bytes pc = .ok (.arraylength, 1)) (hq : pc + 1 = q) (hm : (a, fl, AR Z ty vs) ∈ L) (hu : vs.length.toInt32 = u) (k : Wk l Z a0 EL y bytes mx ret R Q L cb sb q Ls (.int u :: St)) : Wk l Z a0 EL y bytes mx ret R Q L cb sb pc Ls (.ref a :: St) := by
  subst hq
  refine Wk.same (fun {p e s m args below meth c T vm0 locs cells slots} hx hby hmx hown hZ hI X => ?_) k
  obtain ⟨cl, e1, e2⟩ := hI.at_ hm
  exact ⟨T, X, rfl, fun target r => X.arraylength hx e1 (State.isArrayOf_alike (T := s.setVm vm0) hZ.alike e2.1) (g := mkF m pc ⟨Ls⟩ (.ref a :: St)) rfl rfl (hb hby hd) target (by rw [e2.size, hu]; exact r)⟩
theorem inside {Z : State} {ty : FieldType} {vs : List Value} {c : Cell} {j : Int32} {i : Nat} {v : Value} (F : AR Z ty vs c) (hj : ¬ j < 0) (hi : j.toNatClampNeg = i) (hv : vs[i]? = some v) : ¬ (j < 0 ∨ c.slots.size ≤ j.toNatClampNeg) := by
  have := (List.getElem?_eq_some_iff.mp hv).1
  rw [F.size, hi]
  rintro (q | q)
  · exact hj q
  · omega
theorem Wk.caload {a : Addr} {fl : Bool} {vs : List Value} {j : Int32} (i : Nat) {v : Value} (hd : decode bytes pc = .ok (.caload, 1)) (hq : pc + 1 = q) (hm : (a, fl, AR Z .char vs) ∈ L) (hj : ¬ j < 0) (hi : j.toNatClampNeg = i) (hv : vs[i]? = some v) (k : Wk l Z a0 EL y bytes mx ret R Q L cb sb q Ls (v :: St)) : Wk l Z a0 EL y bytes mx ret R Q L cb sb pc Ls (.int j :: .ref a :: St) := by
  subst hq
  refine Wk.same (fun {p e s m args below meth c T vm0 locs cells slots} hx hby hmx hown hZ hI X => ?_) k
  obtain ⟨cl, e1, e2⟩ := hI.at_ hm
  exact ⟨T, X, rfl, fun target r => X.caload hx e1 (State.isArrayOf_alike (T := s.setVm vm0) hZ.alike e2.1) e2.2.1 (inside e2 hj hi hv) (by rw [hi]; exact e2.get hv) (g := mkF m pc ⟨Ls⟩ (.int j :: .ref a :: St)) rfl rfl (hb hby hd) target r⟩
theorem Wk.baload {a : Addr} {fl : Bool} {vs : List Value} {j : Int32} (i : Nat) {v : Value} (hd : decode bytes pc = .ok (.baload, 1)) (hq : pc + 1 = q) (hm : (a, fl, AR Z .byte vs) ∈ L) (hj : ¬ j < 0) (hi : j.toNatClampNeg = i) (hv : vs[i]? = some v) (k : Wk l Z a0 EL y bytes mx ret R Q L cb sb q Ls (v :: St)) : Wk l Z a0 EL y bytes mx ret R Q L cb sb pc Ls (.int j :: .ref a :: St) := by
  subst hq
  refine Wk.same (fun {p e s m args below meth c T vm0 locs cells slots} hx hby hmx hown hZ hI X => ?_) k
  obtain ⟨cl, e1, e2⟩ := hI.at_ hm
  exact ⟨T, X, rfl, fun target r => X.baloadBytes hx e1 (State.isArrayOf_alike (T := s.setVm vm0) hZ.alike e2.1) e2.2.1 (inside e2 hj hi hv) (by rw [hi]; exact e2.get hv) (g := mkF m pc ⟨Ls⟩ (.int j :: .ref a :: St)) rfl rfl (hb hby hd) target r⟩
theorem Wk.aaload {a : Addr} {fl : Bool} {C : String} {vs : List Value} {j : Int32} (i : Nat) {v : Value} (hd : decode bytes pc = .ok (.aaload, 1)) (hq : pc + 1 = q) (hm : (a, fl, RA Z C vs) ∈ L) (hj : ¬ j < 0) (hi : j.toNatClampNeg = i) (hv : vs[i]? = some v) (k : Wk l Z a0 EL y bytes mx ret R Q L cb sb q Ls (v :: St)) : Wk l Z a0 EL y bytes mx ret R Q L cb sb pc Ls (.int j :: .ref a :: St) := by
  subst hq
  refine Wk.same (fun {p e s m args below meth c T vm0 locs cells slots} hx hby hmx hown hZ hI X => ?_) k
  obtain ⟨cl, e1, e2⟩ := hI.at_ hm
  exact ⟨T, X, rfl, fun target r => X.aaload hx e1 (State.isArrayOf_alike (T := s.setVm vm0) hZ.alike e2.1.1) rfl e2.1.2.1 (inside e2.1 hj hi hv) (by rw [hi]; exact e2.1.get hv) (g := mkF m pc ⟨Ls⟩ (.int j :: .ref a :: St)) rfl rfl (hb hby hd) target r⟩
/-- a list with one place written over -/
def VS (j : Nat) (v : Value) (vs vs' : List Value) : Prop := vs.set j v = vs' ∧ j < vs.length
theorem VS.here {v o : Value} {vs : List Value} : VS 0 v (o :: vs) (v :: vs) := ⟨rfl, Nat.succ_pos _⟩
theorem VS.there {j : Nat} {v o : Value} {vs vs' : List Value} (h : VS j v vs vs') : VS (j + 1) v (o :: vs) (o :: vs') := ⟨by rw [List.set_cons_succ, h.1], Nat.succ_lt_succ h.2⟩
theorem VS.of {j : Nat} {v : Value} {vs : List Value} (h : j < vs.length) : VS j v vs (vs.set j v) := ⟨rfl, h⟩
/-- a step that writes a place of the entry a -/
theorem Wk.write {a : Addr} {P P' : Cell → Prop} {St' : List Value} (hm : Ex L (a, true, P) L0)
    (st : ∀ {p : Program} {e : Env} {s : State} {m : MethodId} {args : Array Value} {below : List Frame} {meth : Method} {c : Code} {T : State} {vm0 : Vm} {locs : List Loc} {cells slots : Nat}, p.tables.exec = Jvm.exec → c.code = bytes → c.maxLocals = mx → meth.name = y.name → vm0.findClass y.cls = some m.cls → Z.Warmed39 vm0 → Inv Z EL vm0 T.heap ((a, true, P) :: L0) →
      Stand p l e R (s.setVm vm0) m args below meth c T locs cells slots → ∃ T' h' sl v, Stand p l e R (s.setVm vm0) m args below meth c T' (locs ++ [⟨a, sl⟩]) cells slots ∧ T'.heap = h' ∧ Wr T.heap h' a sl v ∧ (∀ cl, T.heap[a]? = some cl → P cl → P' (cl.setSlot sl v)) ∧ ∀ target, Steps p.tables e below (T'.setTop (mkF m q ⟨Ls⟩ St')) target → Steps p.tables e below (T.setTop (mkF m pc ⟨Ls⟩ St)) target)
    (k : Wk l Z a0 EL y bytes mx ret R Q ((a, true, P') :: L0) cb sb q Ls St') : Wk l Z a0 EL y bytes mx ret R Q L cb sb pc Ls St := by
  refine Wk.pull hm ?_
  intro p e s m args below meth c T vm0 k0 locs cells slots hx hby hmx hret hlk hnm hown hkn X hS hk hZ hE hI hF hc hs
  obtain ⟨T', h', sl, v, X', rfl, W, hP, st'⟩ := st hx hby hmx hnm hown hZ hI X
  obtain ⟨fin, v, Lc, L', h1, r⟩ := k p e s m args below meth c T' vm0 k0 _ cells slots hx hby hmx hret hlk hnm hown hkn X' hS (by rw [W.size]; exact hk) hZ hE (hI.wr W hP) (Fr.snoc X' hF (hI.2.2.2.1 _ (List.mem_cons_self ..) rfl).1) hc hs
  exact ⟨fin, v, Lc, L', st' _ h1, r⟩
theorem Wk.putfield {i : Nat} (j : Nat) {kk : Nat} {a : Addr} {C R0 O n d : String} {lay : Lay} {vs vs' : List Value} {v : Value} {ty : FieldType} (hd : decode bytes pc = .ok (.putfield i, 3)) (hq : pc + 3 = q) (w : (Jvm.Cond.fieldLink y.cls i R0 n d).before a0 Z = true) (via : Via Z R0 O n d)
    (K : LayOk Z a0 C lay) (wi : (Jvm.Cond.instantiable C kk).before a0 Z = true) (hl : (Jvm.Cond.lays C O n d).before a0 Z = true ∨ ((Jvm.Cond.laysFinal C O n d).before a0 Z = true ∧ y.cls = O ∧ y.name = "<init>")) (hj : lay[j]? = some (O, n, d)) (hty : parseFieldDescriptor d = some ty) (hm : Ex L (a, true, OB Z C lay vs) L0) (hvs : VS j v vs vs') (hn : narrow ty v = v) (hf : fits ty v = true)
    (k : Wk l Z a0 EL y bytes mx ret R Q ((a, true, OB Z C lay vs') :: L0) cb sb q Ls St) : Wk l Z a0 EL y bytes mx ret R Q L cb sb pc Ls (v :: .ref a :: St) := by
  subst hq
  obtain ⟨rfl, hlt⟩ := hvs
  have hv : vs[j]? = some vs[j] := List.getElem?_eq_getElem hlt
  refine Wk.write hm (fun {p e s m args below meth c T vm0 locs cells slots} hx hby hmx hnm hown hZ hI X => ?_) k
  obtain ⟨cl, e1, e2⟩ := hI.at_ (List.mem_cons_self ..)
  obtain ⟨T', h', X', eh, W, st⟩ := putF X hx hZ hown (host := "") (Or.inl w) via rfl (e2.fld e1 hj hv) (e2.exa e1) (hl.imp id fun h => ⟨h.1, h.2.1, hnm.trans h.2.2⟩) wi hty hn hf (g := mkF m pc ⟨Ls⟩ (v :: .ref a :: St)) rfl rfl (hb hby hd)
  exact ⟨T', h', _, v, X', eh, W, fun cl' e3 e4 => OB.set K e4 hj hv v, st⟩
theorem Wk.castore {a : Addr} {vs vs' : List Value} {j u u' : Int32} (i : Nat) (hd : decode bytes pc = .ok (.castore, 1)) (hq : pc + 1 = q) (hm : Ex L (a, true, AR Z .char vs) L0) (hj : ¬ j < 0) (hi : j.toNatClampNeg = i) (hu : nar .char u = u') (hvs : VS i (.int u') vs vs')
    (k : Wk l Z a0 EL y bytes mx ret R Q ((a, true, AR Z .char vs') :: L0) cb sb q Ls St) : Wk l Z a0 EL y bytes mx ret R Q L cb sb pc Ls (.int u :: .int j :: .ref a :: St) := by
  subst hq hu
  obtain ⟨rfl, hlt⟩ := hvs
  refine Wk.write hm (fun {p e s m args below meth c T vm0 locs cells slots} hx hby hmx hnm hown hZ hI X => ?_) k
  obtain ⟨cl, e1, e2⟩ := hI.at_ (List.mem_cons_self ..)
  obtain ⟨T', h', X', eh, W, st⟩ := stC X hx hZ rfl (e2.arr e1) (inside e2 hj hi (List.getElem?_eq_getElem hlt)) (g := mkF m pc ⟨Ls⟩ (.int u :: .int j :: .ref a :: St)) rfl rfl (hb hby hd)
  exact ⟨T', h', _, _, X', eh, W, fun cl' e3 e4 => by rw [hi]; exact e4.set _ _, st⟩
theorem Wk.bastore {a : Addr} {vs vs' : List Value} {j u u' : Int32} (i : Nat) (hd : decode bytes pc = .ok (.bastore, 1)) (hq : pc + 1 = q) (hm : Ex L (a, true, AR Z .byte vs) L0) (hj : ¬ j < 0) (hi : j.toNatClampNeg = i) (hu : nar .byte u = u') (hvs : VS i (.int u') vs vs')
    (k : Wk l Z a0 EL y bytes mx ret R Q ((a, true, AR Z .byte vs') :: L0) cb sb q Ls St) : Wk l Z a0 EL y bytes mx ret R Q L cb sb pc Ls (.int u :: .int j :: .ref a :: St) := by
  subst hq hu
  obtain ⟨rfl, hlt⟩ := hvs
  refine Wk.write hm (fun {p e s m args below meth c T vm0 locs cells slots} hx hby hmx hnm hown hZ hI X => ?_) k
  obtain ⟨cl, e1, e2⟩ := hI.at_ (List.mem_cons_self ..)
  obtain ⟨T', h', X', eh, W, st⟩ := stB X hx hZ rfl (e2.arr e1) (inside e2 hj hi (List.getElem?_eq_getElem hlt)) (g := mkF m pc ⟨Ls⟩ (.int u :: .int j :: .ref a :: St)) rfl rfl (hb hby hd)
  exact ⟨T', h', _, _, X', eh, W, fun cl' e3 e4 => by rw [hi]; exact e4.set _ _, st⟩
theorem Wk.aastore {a b : Addr} {fl : Bool} {C D : String} {lay : Lay} {ws : List Value} {vs vs' : List Value} {j : Int32} (i : Nat) (hd : decode bytes pc = .ok (.aastore, 1)) (hq : pc + 1 = q) (hm : Ex L (a, true, RA Z C vs) L0) (ho : (b, fl, OB Z D lay ws) ∈ L0) (wc : (Jvm.Cond.castable D C).before a0 Z = true) (hj : ¬ j < 0) (hi : j.toNatClampNeg = i) (hvs : VS i (.ref b) vs vs')
    (k : Wk l Z a0 EL y bytes mx ret R Q ((a, true, RA Z C vs') :: L0) cb sb q Ls St) : Wk l Z a0 EL y bytes mx ret R Q L cb sb pc Ls (.ref b :: .int j :: .ref a :: St) := by
  subst hq
  obtain ⟨rfl, hlt⟩ := hvs
  refine Wk.write hm (fun {p e s m args below meth c T vm0 locs cells slots} hx hby hmx hnm hown hZ hI X => ?_) k
  obtain ⟨cl, e1, e2⟩ := hI.at_ (List.mem_cons_self ..)
  obtain ⟨cb, f1, f2⟩ := hI.at_ (List.mem_cons_of_mem _ ho)
  obtain ⟨T', h', X', eh, W, st⟩ := stR X hx hZ rfl (e2.1.arr e1) (inside e2.1 hj hi (List.getElem?_eq_getElem hlt)) rfl (Sto.of (e2.1.arr e1) e2.2 (Ins.of_exa (f2.exa f1) wc)) (g := mkF m pc ⟨Ls⟩ (.ref b :: .int j :: .ref a :: St)) rfl rfl (hb hby hd)
  exact ⟨T', h', _, _, X', eh, W, fun cl' e3 e4 => by rw [hi]; exact ⟨e4.1.set _ _, e4.2⟩, st⟩
/-- the first values of a layout's fields -/
abbrev Dv (lay : Lay) (dv : List Value) : Prop := lay.map (fun f => (parseFieldDescriptor f.2.2).map defaultValue) = dv.map some
theorem Wk.new {i n : Nat} {C : String} {lay : Lay} {dv : List Value} (hd : decode bytes pc = .ok (.new i, 3)) (hq : pc + 3 = q) (w : (Jvm.Cond.classLink y.cls i C).before a0 Z = true) (wi : (Jvm.Cond.instantiable C n).before a0 Z = true) (wz : (Jvm.Cond.initialized C).before a0 Z = true) (K : LayOk Z a0 C lay) (hdv : Dv lay dv)
    (hcb : 1 ≤ cb) (hsb : n ≤ sb) (k : ∀ a : Addr, Wk l Z a0 EL y bytes mx ret R Q ((a, true, OB Z C lay dv) :: L) (cb - 1) (sb - n) q Ls (.ref a :: St)) : Wk l Z a0 EL y bytes mx ret R Q L cb sb pc Ls St := by
  subst hq
  intro p e s m args below meth c T vm0 k0 locs cells slots hx hby hmx hret hlk hnm hown hkn X hS hk hZ hE hI hF hc hs
  obtain ⟨T', h', X', rfl, E, A, D, -, st⟩ := newO X hx hZ hown w wi wz rfl (g := mkF m pc ⟨Ls⟩ St) rfl (hb hby hd) (by omega) (by omega)
  obtain ⟨cl, kc, e1, e2⟩ := A
  have hP : OB Z C lay dv cl := by
    refine ⟨⟨kc, e2⟩, fun j f v h1 h2 => of_fld e1 ?_⟩
    have q1 : (lay.map (fun f => (parseFieldDescriptor f.2.2).map defaultValue))[j]? = some ((parseFieldDescriptor f.2.2).map defaultValue) := by simp [h1]
    rw [show lay.map (fun f => (parseFieldDescriptor f.2.2).map defaultValue) = dv.map some from hdv] at q1
    simp only [List.getElem?_map, h2, Option.map_some, Option.some.injEq] at q1
    cases hp : parseFieldDescriptor f.2.2 with
    | none => rw [hp] at q1; cases q1
    | some t =>
      rw [hp] at q1
      simp only [Option.map_some, Option.some.injEq] at q1
      rw [q1]
      exact D (K.1 f (List.mem_of_getElem? h1)) hp
  obtain ⟨fin, v, Lc, L', h1, r⟩ := k T.heap.size p e s m args below meth c T' vm0 k0 locs (cells + 1) (slots + n) hx hby hmx hret hlk hnm hown hkn X' hS (Nat.le_trans hk E.1) hZ hE (hI.new E e1 hP) hF (by omega) (by omega)
  exact ⟨fin, v, Lc, L', st _ h1, r⟩
theorem Wk.newarray {aty : ArrayType} {u : Int32} (ty : FieldType) (N : Nat) (vs0 : List Value) (hd : decode bytes pc = .ok (.newarray aty, 2)) (hq : pc + 2 = q) (hty : newarray.typeOf aty = ty) (h0 : List.replicate N (defaultValue ty) = vs0) (w : (Jvm.Cond.arrayClass ty).before a0 Z = true) (hu : ¬ u < 0) (hN : u.toNatClampNeg = N) (hbig : N ≤ 67108864) (hcb : 1 ≤ cb) (hsb : N ≤ sb)
    (k : ∀ a : Addr, Wk l Z a0 EL y bytes mx ret R Q ((a, true, AR Z ty vs0) :: L) (cb - 1) (sb - N) q Ls (.ref a :: St)) : Wk l Z a0 EL y bytes mx ret R Q L cb sb pc Ls (.int u :: St) := by
  subst hq hty h0
  intro p e s m args below meth c T vm0 k0 locs cells slots hx hby hmx hret hlk hnm hown hkn X hS hk hZ hE hI hF hc hs
  obtain ⟨T', h', cA, X', rfl, E, A, st⟩ := newP X hx hZ w rfl (g := mkF m pc ⟨Ls⟩ (.int u :: St)) rfl (hb hby hd) rfl hu (cap := N) (Nat.le_of_eq hN) (by omega) (by omega) (by omega)
  have hP : AR Z (newarray.typeOf aty) (List.replicate N (defaultValue (newarray.typeOf aty))) (newA cA (newarray.typeOf aty) u) := ⟨A.2.1, A.2.2, by simp [newA, hN], by simp; omega⟩
  obtain ⟨fin, v, Lc, L', h1, r⟩ := k T.heap.size p e s m args below meth c T' vm0 k0 locs (cells + 1) (slots + N) hx hby hmx hret hlk hnm hown hkn X' hS (Nat.le_trans hk E.1) hZ hE (hI.new E A.1 hP) hF (by omega) (by omega)
  exact ⟨fin, v, Lc, L', st _ h1, r⟩
theorem Wk.anewarray {i : Nat} {C : String} {u : Int32} (N : Nat) (vs0 : List Value) (hd : decode bytes pc = .ok (.anewarray i, 3)) (hq : pc + 3 = q) (w1 : (Jvm.Cond.classLink y.cls i C).before a0 Z = true) (h0 : List.replicate N Value.null = vs0) (w2 : (Jvm.Cond.arrayOver (.object C)).before a0 Z = true) (hu : ¬ u < 0) (hN : u.toNatClampNeg = N) (hbig : N ≤ 67108864) (hcb : 1 ≤ cb) (hsb : N ≤ sb)
    (k : ∀ a : Addr, Wk l Z a0 EL y bytes mx ret R Q ((a, true, RA Z C vs0) :: L) (cb - 1) (sb - N) q Ls (.ref a :: St)) : Wk l Z a0 EL y bytes mx ret R Q L cb sb pc Ls (.int u :: St) := by
  subst hq h0
  intro p e s m args below meth c T vm0 k0 locs cells slots hx hby hmx hret hlk hnm hown hkn X hS hk hZ hE hI hF hc hs
  obtain ⟨T', h', cA, X', rfl, E, A, O, st⟩ := newR X hx hZ hown w1 w2 rfl (g := mkF m pc ⟨Ls⟩ (.int u :: St)) rfl (hb hby hd) rfl hu (cap := N) (Nat.le_of_eq hN) (by omega) (by omega) (by omega)
  have hP : RA Z C (List.replicate N .null) (newA cA (.object C) u) := ⟨⟨A.2.1, A.2.2, by simp [newA, hN, defaultValue], by simp; omega⟩, O⟩
  obtain ⟨fin, v, Lc, L', h1, r⟩ := k T.heap.size p e s m args below meth c T' vm0 k0 locs (cells + 1) (slots + N) hx hby hmx hret hlk hnm hown hkn X' hS (Nat.le_trans hk E.1) hZ hE (hI.new E A.1 hP) hF (by omega) (by omega)
  exact ⟨fin, v, Lc, L', st _ h1, r⟩
/-- a String constant, opaque -/
theorem Wk.ldcO {i : Nat} {text : String} (n : Nat) (hd : decode bytes pc = .ok (.ldc i, 2)) (hq : pc + 2 = q) (w : (Jvm.Cond.stringLink y.cls i text).before a0 Z = true) (wS : ∀ a ∈ Bundle.stringAtoms, a.before a0 Z = true) (hn : 4 * text.toList.length ≤ n) (hbig : n ≤ 536870912) (hcb : 2 ≤ cb) (hsb : n + 4 ≤ sb)
    (k : ∀ a : Addr, Wk l Z a0 EL y bytes mx ret R Q L (cb - 2) (sb - (n + 4)) q Ls (.ref a :: St)) : Wk l Z a0 EL y bytes mx ret R Q L cb sb pc Ls St := by
  subst hq
  intro p e s m args below meth c T vm0 k0 locs cells slots hx hby hmx hret hlk hnm hown hkn X hS hk hZ hE hI hF hc hs
  obtain ⟨a, T', h', k1, X', rfl, E, hS', hk', hW', hown', hC, -, st⟩ := ldcOH X hx hZ hown w wS rfl hS hk hE hI.2.1 (g := mkF m pc ⟨Ls⟩ St) rfl (hb hby hd) hn hbig (by omega) (by omega)
  obtain ⟨fin, v, Lc, L', h1, r⟩ := k a p e s m args below meth c T' T'.vm k1 locs (cells + 2) (slots + (n + 4)) hx hby hmx hret hlk hnm hown' (KN.move hkn (hZ.alike.symm.trans hW'.alike)) X' hS' hk' hW' hE (hI.later E hC) hF (by omega) (by omega)
  exact ⟨fin, v, Lc, L', st _ h1, r⟩
def layS : Lay := [("java/lang/String", "value", "[B"), ("java/lang/String", "coder", "B")]
theorem ar_of_arv {Z : State} {h : Heap} {a : Addr} {k : ClassId} {ty : FieldType} {z : Int32} {vs : List Value} {d : Value} (A : Arv Z h a k ty z vs d) (hz : z.toNatClampNeg = vs.length) : ∃ c : Cell, h[a]? = some c ∧ AR Z ty vs c := by
  obtain ⟨c, A, -, h2, h3, H, -⟩ := A
  refine ⟨c, A.1, A.2.1, A.2.2, ?_, ?_⟩
  · apply List.ext_getElem?
    intro i
    rw [hz] at h2
    by_cases q : i < c.slots.size
    · have := H i q
      rw [Array.getElem?_toList, this]
      have q' : i < vs.length := by omega
      simp [List.getD, List.getElem?_eq_getElem q']
    · rw [Array.getElem?_toList, Array.getElem?_eq_none (by omega), List.getElem?_eq_none (by omega)]
  · rw [← hz]; exact (back32 h3).2
/-- a String constant, read -/
theorem Wk.ldcS {i : Nat} {text : String} (n : Nat) (vs : List Value) (z : Int32) (hd : decode bytes pc = .ok (.ldc i, 2)) (hq : pc + 2 = q) (w : (Jvm.Cond.stringLink y.cls i text).before a0 Z = true) (wS : ∀ a ∈ Bundle.stringAtoms, a.before a0 Z = true) (hmem : (y.cls, i) ∈ EL)
    (ht : (∀ c ∈ text.toList, c.toNat < 256) ∧ text.toList.map (fun c => Value.int (Jvm.Lit.byteI c.toNat.toUInt16)) = vs) (hz : ¬ z < 0) (hz' : z.toNatClampNeg = vs.length) (hn : 4 * text.toList.length ≤ n) (hbig : n ≤ 536870912) (hcb : 2 ≤ cb) (hsb : n + 4 ≤ sb)
    (k : ∀ a b : Addr, Wk l Z a0 EL y bytes mx ret R Q ((a, false, OB Z "java/lang/String" layS [.ref b, .int 0]) :: (b, false, AR Z .byte vs) :: L) (cb - 2) (sb - (n + 4)) q Ls (.ref a :: St)) : Wk l Z a0 EL y bytes mx ret R Q L cb sb pc Ls St := by
  subst hq
  intro p e s m args below meth c T vm0 k0 locs cells slots hx hby hmx hret hlk hnm hown hkn X hS hk hZ hE hI hF hc hs
  obtain ⟨a, T', h', k1, b, kb, X', rfl, E, hS', hk', hW', hown', x1, x2, x3, x4, -, -, hC, -, hne, st⟩ := ldcCH X hx hZ hown w wS rfl hS hk hE hmem hI.2.1 ht hz hz' (g := mkF m pc ⟨Ls⟩ St) rfl (hb hby hd) hn hbig (by omega) (by omega)
  have I1 := hI.later E hC
  obtain ⟨cB, b1, b2⟩ := ar_of_arv x4 hz'
  have I2 := I1.old b1 b2 (fun x _ hs => (hne x hs).2)
  obtain ⟨cl, kc, e1, e2⟩ := x1
  have I3 := I2.old (P := OB Z "java/lang/String" layS [.ref b, .int 0]) e1 ⟨⟨kc, e2⟩, fun j f v h1 h2 => by
    match j, h1, h2 with
    | 0, h1, h2 => cases h1; cases h2; exact of_fld e1 x3
    | 1, h1, h2 => cases h1; cases h2; exact of_fld e1 x2
    | j + 2, h1, _ => cases h1⟩ (fun x _ hs => (hne x hs).1)
  obtain ⟨fin, v, Lc, L', h1, r⟩ := k a b p e s m args below meth c T' T'.vm k1 locs (cells + 2) (slots + (n + 4)) hx hby hmx hret hlk hnm hown' (KN.move hkn (hZ.alike.symm.trans hW'.alike)) X' hS' hk' hW' hE I3 hF (by omega) (by omega)
  exact ⟨fin, v, Lc, L', st _ h1, r⟩
/-- what a value that is returned says; what a body that returns nothing says -/
def RV (Q : Value → Store → Prop) : Option Value → Store → Prop := fun v L => ∃ u, v = some u ∧ Q u L
def R0 (Q : Store → Prop) : Option Value → Store → Prop := fun v L => v = none ∧ Q L
theorem Wk.leave (v : Option Value) (hv : ret = none → v = none) (hQ : Q v L)
    (st : ∀ {p : Program} {e : Env} {s : State} {m : MethodId} {args : Array Value} {below : List Frame} {meth : Method} {c : Code} {T : State} {vm0 : Vm} {locs : List Loc} {cells slots : Nat} {fs : List Frame}, p.tables.exec = Jvm.exec → c.code = bytes → meth.sig.returnType = ret → Stand p l e R (s.setVm vm0) m args below meth c T locs cells slots →
      (∀ (f : JFrame) (acts : List Action), f.method = m → f.locked = none → f.entered = [] → (doReturn e (T.setTop f) acts v).1 = T.setFrames fs) → Steps p.tables e below (T.setTop (mkF m pc ⟨Ls⟩ St)) (T.setFrames fs)) : Wk l Z a0 EL y bytes mx ret R Q L cb sb pc Ls St := by
  intro p e s m args below meth c T vm0 k0 locs cells slots hx hby hmx hret hlk hnm hown hkn X hS hk hZ hE hI hF hc hs
  obtain ⟨fs, hr, hrun, hended, hW⟩ := X.leaveW hS hk (v := v) (fun h => hv (hret ▸ h)) hlk
  have A : CHr Z EL vm0 T.heap T.vm T.heap := CHv.at X hZ hE hI.2.1
  have I' : Inv Z EL T.vm T.heap L := hI.later ⟨Nat.le_refl _, fun _ _ q => q⟩ A
  exact ⟨T.setFrames fs, v, locs, L, st hx hby hret X hr, hrun, hended, hQ, I', hF, endMono hW (by omega) (by omega)⟩
theorem Wk.return_ (hd : decode bytes pc = .ok (.return_, 1)) (hr : ret = none) (hQ : Q none L) : Wk l Z a0 EL y bytes mx ret R Q L cb sb pc Ls [] :=
  Wk.leave none (fun _ => rfl) hQ fun hx hby hret X hl => X.returnOut hx (hret.trans hr) (hb hby hd) hl
theorem Wk.ireturn {t : FieldType} {u : Int32} (hd : decode bytes pc = .ok (.ireturn, 1)) (hr : ret = some t) (ht : t = .int ∨ t = .boolean ∨ t = .byte ∨ t = .char ∨ t = .short) (hn : narrow t (.int u) = .int u) (hQ : Q (some (.int u)) L) : Wk l Z a0 EL y bytes mx ret R Q L cb sb pc Ls (.int u :: St) :=
  Wk.leave (some (.int u)) (fun h => by rw [hr] at h; cases h) hQ fun hx hby hret X hl => retOut X hx (hret.trans hr) hn (Or.inl ⟨rfl, ht, u, rfl⟩) (hb hby hd) hl
theorem Wk.lreturn {u : Int64} (hd : decode bytes pc = .ok (.lreturn, 1)) (hr : ret = some .long) (hQ : Q (some (.long u)) L) : Wk l Z a0 EL y bytes mx ret R Q L cb sb pc Ls (.long u :: St) :=
  Wk.leave (some (.long u)) (fun h => by rw [hr] at h; cases h) hQ fun hx hby hret X hl => retOut X hx (hret.trans hr) rfl (Or.inr (Or.inl ⟨rfl, rfl, u, rfl⟩)) (hb hby hd) hl
theorem Wk.areturn {t : FieldType} {u : Value} (hd : decode bytes pc = .ok (.areturn, 1)) (hr : ret = some t) (ht : t.isReference = true) (hn : narrow t u = u) (hu : u.isRef = true) (hQ : Q (some u) L) : Wk l Z a0 EL y bytes mx ret R Q L cb sb pc Ls (u :: St) :=
  Wk.leave (some u) (fun h => by rw [hr] at h; cases h) hQ fun hx hby hret X hl => retOut X hx (hret.trans hr) hn (Or.inr (Or.inr (Or.inr (Or.inr ⟨rfl, ht, hu⟩)))) (hb hby hd) hl
theorem Ct.of {as' : Array Value} (hp : plainFor y = true) (he : ∀ m, entryFrame m as' mx = mkF m 0 ⟨Ls⟩ []) (hE : EW Z a0 EL) (k : Wk l Z a0 EL y bytes mx ret R Q L R.cells R.slots 0 Ls []) : Ct l Z EL y bytes mx ret R as' L Q := by
  intro ws
  refine MetFree.of_bodySF hp hisR ?_
  intro p e s m args below meth c s₁ Bd hml0 hP hK
  obtain ⟨rfl, hZ, hI⟩ := hP
  have hheap : s₁.heap = s.heap := by rw [Bd.state]; rfl
  have X0 : Stand p l e R (s.setVm s.vm) m args below meth c s₁ [] 0 0 := Stand.of_body Bd
  obtain ⟨fin, v, Lc, L', h1, h2, h3, h4, h5, h6, h7⟩ := k p e s m args below meth c s₁ s.vm s.heap.size [] 0 0 Bd.exec Bd.bytes hml0 Bd.returns Bd.notSynchronized (name_of_methodNamed Bd.named Bd.method).1 (findClass_of_methodNamed Bd.named) ⟨KF.start hK hI.1, Bd.named⟩ X0 ((State.WarmedH.refl s).since _) (by rw [hheap]; exact Nat.le_refl _) hZ hE (by rw [hheap]; exact hI) (Fr.nil _) (by omega) (by omega)
  exact ⟨fin, .returned v, castTop (he m) h1, h2, h3, v, Lc, L', rfl, h4, h5, h6, h7⟩
theorem Ct.imp {as' : Array Value} (hq : ∀ v L, Q v L → Q' v L) (h : Ct l Z EL y bytes mx ret R as' L Q) : Ct l Z EL y bytes mx ret R as' L Q' := by
  intro ws p e ha hc hk s m args below hf happ hP hK
  obtain ⟨n, o, h1, h2, h3, v, Lc, L', h4, h5, h6⟩ := h ws p e ha hc hk s m args below hf happ hP hK
  exact ⟨n, o, h1, h2, h3, v, Lc, L', h4, hq _ _ h5, h6⟩
theorem Ct.perm {as' : Array Value} (hp : L.Perm L') (h : Ct l Z EL y bytes mx ret R as' L' Q) : Ct l Z EL y bytes mx ret R as' L Q := by
  intro ws p e ha hc hk s m args below hf happ hP hK
  exact h ws p e ha hc hk s m args below hf happ ⟨hP.1, hP.2.1, hP.2.2.perm hp⟩ hK
section Call
variable {y' : MethodName} {b' : ByteArray} {mx' : Nat} {ret' : Option FieldType} {rm : Room} {as' : Array Value} {W len : Nat} {h : Heap} {p : Program} {e : Env} {below : List Frame} {s : State} {args : Array Value} {vm0 : Vm}
theorem Ct.back (hC : Ct l Z EL y' b' mx' ret' rm as' L Q') (hZ : Z.Warmed39 vm0) (hE : EW Z a0 EL) (hkf : KF Z vm0 below s) (hI : Inv Z EL vm0 h L) (wc : (Jvm.Cond.code y' b' mx' ret').before a0 Z = true) (wz : (Jvm.Cond.initialized y'.cls).before a0 Z = true) (hf : rm.frames + 1 ≤ R.frames) (hl : W + (mx' + 11) + rm.locals ≤ R.locals) :
    BackS l R p e below (s.setVm vm0) args y' len W (fun A a => a = as' ∧ A.U.heap = h ∧ A.cells + rm.cells ≤ R.cells ∧ A.slots + rm.slots ≤ R.slots)
      (fun A _ v B => ∃ Lc L', Q' v L' ∧ Inv Z EL B.U.vm B.U.heap L' ∧ Fr Z.heap.size Lc ∧ B.locs = A.locs ++ Lc ∧ B.cells = A.cells + rm.cells ∧ B.slots = A.slots + rm.slots) :=
  BackS.of_freeWG (bytes := b') (maxL := mx') (ret := ret') (E := fun _ _ o t Lc k n => k = rm.cells ∧ n = rm.slots ∧ Fr Z.heap.size Lc ∧ ∃ v L', o = .returned v ∧ Q' v L' ∧ Inv Z EL t.vm t.heap L') (hC []) hf hl
    (fun m meth c A a Y hp => have hU : Z.Warmed39 A.U.vm := wtrans (s := s.setVm vm0) hZ Y.warmed
      ⟨by show (Jvm.Cond.and _ .tt).before a A.U = true; rw [Cond.before_and, mv hU wc]; rfl, mv hU wc, mv hU wz, hp.2.2.1, hp.2.2.2⟩)
    (fun m meth c A a g mk Y hp => ⟨hp.1, wtrans (s := s.setVm vm0) hZ Y.warmed, by
      show Inv Z EL A.U.vm A.U.heap L
      rw [hp.2.1]; exact hI.later ⟨Nat.le_refl _, fun _ _ q => q⟩ (CHv.at Y hZ hE hI.2.1)⟩) (fun _ _ _ _ _ _ _ Y _ hg => KF.call hkf Y hg)
    (fun _ _ _ _ ⟨v, Lc, L', h1, h2, h3, h4, h5⟩ => ⟨Lc, _, _, h5, rfl, rfl, h4, v, L', h1, h2, h3⟩)
    (fun m meth c A a g mk v t Lc k n Y hp _ _ ⟨e1, e2, e3, v', L', e4, e5, e6⟩ => by
      cases e4; subst e1 e2
      exact ⟨Lc, L', e5, e6, e3, rfl, rfl, rfl⟩)
/-- A CALL, whichever -/
theorem Wk.call {St' : List Value} (hC : Ct l Z EL y' b' mx' ret' rm as' L Q') (wc : (Jvm.Cond.code y' b' mx' ret').before a0 Z = true) (wz : (Jvm.Cond.initialized y'.cls).before a0 Z = true) (hf : rm.frames + 1 ≤ R.frames) (hl : W + (mx' + 11) + rm.locals ≤ R.locals) (hcb : rm.cells ≤ cb) (hsb : rm.slots ≤ sb)
    (go : ∀ {p : Program} {e : Env} {s : State} {m : MethodId} {args : Array Value} {below : List Frame} {meth : Method} {c : Code} {T : State} {vm0 : Vm} {locs : List Loc} {cells slots : Nat} {Pre : Pt → Array Value → Prop} {Post : Pt → Array Value → Option Value → Pt → Prop}, p.tables.exec = Jvm.exec → c.code = bytes → c.maxLocals = mx → vm0.findClass y.cls = some m.cls → Z.Warmed39 vm0 → Inv Z EL vm0 T.heap L →
      Stand p l e R (s.setVm vm0) m args below meth c T locs cells slots → BackS l R p e below (s.setVm vm0) args y' len W Pre Post → (∀ vm₁, (s.setVm vm0).WarmedH vm₁ → Pre ⟨T.setVm vm₁, locs, cells, slots⟩ as') →
      ∃ (v : Option Value) (vm₁ : Vm) (B : Pt), (s.setVm vm0).WarmedH vm₁ ∧ Stand p l e R ((s.setVm vm0).setVm B.U.vm) m args below meth c B.U B.locs B.cells B.slots ∧ (s.setVm vm0).Since B.U.vm B.U.heap.size ∧ T.heap.size ≤ B.U.heap.size ∧ Post ⟨T.setVm vm₁, locs, cells, slots⟩ as' v B ∧ Steps p.tables e below (T.setTop (mkF m pc ⟨Ls⟩ St)) (B.U.setTop (mkF m q ⟨Ls⟩ (v.toList ++ St'))))
    (k : ∀ v L', Q' v L' → Wk l Z a0 EL y bytes mx ret R Q L' (cb - rm.cells) (sb - rm.slots) q Ls (v.toList ++ St')) : Wk l Z a0 EL y bytes mx ret R Q L cb sb pc Ls St := by
  intro p e s m args below meth c T vm0 k0 locs cells slots hx hby hmx hret hlk hnm hown hkn X hS hk hZ hE hI hF hc hs
  obtain ⟨v, vm₁, B, -, X', hS', hgr, ⟨Lc, L', q1, q2, q3, q4, q5, q6⟩, st⟩ := go hx hby hmx hown hZ hI X (Ct.back (len := len) hC hZ hE hkn.1 hI wc wz hf hl) (fun vm₁ _ => ⟨rfl, rfl, by show cells + _ ≤ _; omega, by show slots + _ ≤ _; omega⟩)
  obtain ⟨U, Lx, cx, sx⟩ := B
  dsimp only [Pt.U, Pt.locs, Pt.cells, Pt.slots] at X' hS' hgr q2 q4 q5 q6 st
  subst q4 q5 q6
  obtain ⟨fin, v, Lc', L'', h1, r⟩ := k v L' q1 p e s m args below meth c U U.vm U.heap.size _ _ _ hx hby hmx hret hlk hnm (by rw [hS'.1.alike.findClass]; exact hown) (KN.move hkn hS'.1.alike) X' (hS.trans hS' (Nat.le_trans hk hgr)) (Nat.le_refl _) (State.Warmed39.trans (t := s.setVm vm0) hZ hS'.1) hE q2 (hF.app q3) (by omega) (by omega)
  exact ⟨fin, v, Lc', L'', st.trans h1, r⟩
end Call
section Calls
variable {y' : MethodName} {b' : ByteArray} {mx' : Nat} {ret' : Option FieldType} {rm : Room} {i : Nat}
theorem Wk.static (argsL rest : List Value) (W : Nat) {na : Nat} (hd : decode bytes pc = .ok (.invokestatic i, 3)) (hq : pc + 3 = q) (w1 : (Jvm.Cond.methodLink y.cls i y').before a0 Z = true) (w2 : (Jvm.Cond.static y').before a0 Z = true) (wz : (Jvm.Cond.initialized y'.cls).before a0 Z = true) (wc : (Jvm.Cond.code y' b' mx' ret').before a0 Z = true) (har : XT.arity y'.desc = some na) (hy : y'.cls ≠ "java/lang/invoke/MethodHandle" ∧ y'.cls ≠ "java/lang/invoke/VarHandle")
    (hst : St = argsL.reverse ++ rest) (hna : argsL.length = na) (hW : (rest.map fun v => v.category).sum = W) (hz : Ls.length = mx) (hC : Ct l Z EL y' b' mx' ret' rm argsL.toArray L Q') (hf : rm.frames + 1 ≤ R.frames) (hl : W + (mx' + 11) + rm.locals ≤ R.locals) (hcb : rm.cells ≤ cb) (hsb : rm.slots ≤ sb)
    (k : ∀ v L', Q' v L' → Wk l Z a0 EL y bytes mx ret R Q L' (cb - rm.cells) (sb - rm.slots) q Ls (v.toList ++ rest)) : Wk l Z a0 EL y bytes mx ret R Q L cb sb pc Ls St := by
  subst hq hst
  refine Wk.call (len := 3) hC wc wz hf hl hcb hsb (fun {p e s m args below meth c T vm0 locs cells slots Pre Post} hx hby hmx hown hZ hI X hK hpre => ?_) k
  exact callSS X hx hown (mv (s := s.setVm vm0) hZ w1) (mv (s := s.setVm vm0) hZ w2) (mv (s := s.setVm vm0) hZ wz) (mv (s := s.setVm vm0) hZ wc) hy hK (g := mkF m pc ⟨Ls⟩ (argsL.reverse ++ rest)) rfl (by rw [hmx]; simpa using hz) (XT.arity_len har hna) rfl (by show 2 * 0 + _ ≤ _; rw [hW]; omega) (hb hby hd) hpre
theorem Wk.special {a : Addr} (argsL rest : List Value) (W : Nat) {na : Nat} (hd : decode bytes pc = .ok (.invokespecial i, 3)) (hq : pc + 3 = q) (hy1 : y'.name = "<init>") (w1 : (Jvm.Cond.methodLink y.cls i y').before a0 Z = true) (w2 : (Jvm.Cond.instanceMethod y').before a0 Z = true) (wz : (Jvm.Cond.initialized y'.cls).before a0 Z = true) (wc : (Jvm.Cond.code y' b' mx' none).before a0 Z = true) (har : XT.arity y'.desc = some na) (hy : y'.cls ≠ "java/lang/invoke/MethodHandle" ∧ y'.cls ≠ "java/lang/invoke/VarHandle")
    (hst : St = argsL.reverse ++ .ref a :: rest) (hna : argsL.length = na) (hW : (rest.map fun v => v.category).sum = W) (hz : Ls.length = mx) (hC : Ct l Z EL y' b' mx' none rm (.ref a :: argsL).toArray L Q') (hf : rm.frames + 1 ≤ R.frames) (hl : W + (mx' + 11) + rm.locals ≤ R.locals) (hcb : rm.cells ≤ cb) (hsb : rm.slots ≤ sb)
    (k : ∀ v L', Q' v L' → Wk l Z a0 EL y bytes mx ret R Q L' (cb - rm.cells) (sb - rm.slots) q Ls (v.toList ++ rest)) : Wk l Z a0 EL y bytes mx ret R Q L cb sb pc Ls St := by
  subst hq hst
  refine Wk.call (len := 3) hC wc wz hf hl hcb hsb (fun {p e s m args below meth c T vm0 locs cells slots Pre Post} hx hby hmx hown hZ hI X hK hpre => ?_) k
  exact X.specialBackS hx hy1 hown (mv (s := s.setVm vm0) hZ w1) (mv (s := s.setVm vm0) hZ w2) (mv (s := s.setVm vm0) hZ wc) hy hK (g := mkF m pc ⟨Ls⟩ (argsL.reverse ++ .ref a :: rest)) rfl (by rw [hmx]; simpa using hz) (Steps.refl _) (XT.arity_len har hna) rfl (by show 2 * 0 + _ ≤ _; rw [hW]; omega) (hb hby hd) hpre
theorem nfSel {y0 : MethodName} {C : String} (w : (Jvm.Cond.selects C y0 y0).before a0 Z = true) : ∀ s : State, Z.Warmed39 s.vm → NotFace s y0 := fun s hZ => notFace_of_selects (args := #[]) (mv hZ w)
theorem nfSup {y0 : MethodName} {S : String} (w : (Jvm.Cond.superclass y0.cls S).before a0 Z = true) : ∀ s : State, Z.Warmed39 s.vm → NotFace s y0 := fun s hZ => nf_super (args := #[]) (mv hZ w)
theorem nfTop {y0 : MethodName} (w : (Jvm.Cond.noSuperclass y0.cls).before a0 Z = true) : ∀ s : State, Z.Warmed39 s.vm → NotFace s y0 := fun s hZ => nf_top (args := #[]) (mv hZ w)
theorem Wk.virtual {a : Addr} {fl : Bool} {C : String} {lay : Lay} {vs : List Value} {y0 : MethodName} (argsL rest : List Value) (W : Nat) {na : Nat} (hd : decode bytes pc = .ok (.invokevirtual i, 3)) (hq : pc + 3 = q) (w1 : (Jvm.Cond.methodLink y.cls i y0).before a0 Z = true) (w2 : (Jvm.Cond.declares y0).before a0 Z = true) (w3 : (Jvm.Cond.selects C y0 y').before a0 Z = true) (w4 : (Jvm.Cond.instanceMethod y').before a0 Z = true) (wz : (Jvm.Cond.initialized y'.cls).before a0 Z = true) (wc : (Jvm.Cond.code y' b' mx' ret').before a0 Z = true)
    (har : XT.arity y0.desc = some na) (hy : y0.cls ≠ "java/lang/invoke/MethodHandle" ∧ y0.cls ≠ "java/lang/invoke/VarHandle") (nf : ∀ s : State, Z.Warmed39 s.vm → NotFace s y0) (hm : (a, fl, OB Z C lay vs) ∈ L)
    (hst : St = argsL.reverse ++ .ref a :: rest) (hna : argsL.length = na) (hW : (rest.map fun v => v.category).sum = W) (hz : Ls.length = mx) (hC : Ct l Z EL y' b' mx' ret' rm (.ref a :: argsL).toArray L Q') (hf : rm.frames + 1 ≤ R.frames) (hl : W + (mx' + 11) + rm.locals ≤ R.locals) (hcb : rm.cells ≤ cb) (hsb : rm.slots ≤ sb)
    (k : ∀ v L', Q' v L' → Wk l Z a0 EL y bytes mx ret R Q L' (cb - rm.cells) (sb - rm.slots) q Ls (v.toList ++ rest)) : Wk l Z a0 EL y bytes mx ret R Q L cb sb pc Ls St := by
  subst hq hst
  refine Wk.call (len := 3) hC wc wz hf hl hcb hsb (fun {p e s m args below meth c T vm0 locs cells slots Pre Post} hx hby hmx hown hZ hI X hK hpre => ?_) k
  obtain ⟨cl, e1, e2⟩ := hI.at_ hm
  obtain ⟨cq, kq, q1, -, q3⟩ := isOf (T := T) (s := s.setVm vm0) hZ rfl (e2.exa e1)
  exact X.virtualBackS hx hown (mv (s := s.setVm vm0) hZ w1) (mv (s := s.setVm vm0) hZ w2) (nf (s.setVm vm0) hZ) (mv (s := s.setVm vm0) hZ w3) (mv (s := s.setVm vm0) hZ w4) hy hK q1 q3 (g := mkF m pc ⟨Ls⟩ (argsL.reverse ++ .ref a :: rest)) rfl (by rw [hmx]; simpa using hz) (Steps.refl _) (XT.arity_len har hna) rfl (by show 2 * 0 + _ ≤ _; rw [hW]; omega) (hb hby hd) hpre
theorem Wk.interface {a : Addr} {fl : Bool} {C : String} {lay : Lay} {vs : List Value} {y0 : MethodName} {cnt : Nat} (argsL rest : List Value) (W : Nat) {na : Nat} (hd : decode bytes pc = .ok (.invokeinterface i cnt, 5)) (hq : pc + 5 = q) (w1 : (Jvm.Cond.methodLink y.cls i y0).before a0 Z = true) (w2 : (Jvm.Cond.declares y0).before a0 Z = true) (w5 : (Jvm.Cond.interfaceMethod y0.cls y0.cls y0.name y0.desc).before a0 Z = true) (hd5 : ((Jvm.Cond.interfaceMethod y0.cls y0.cls y0.name y0.desc).onTables && (Jvm.Cond.interfaceMethod y0.cls y0.cls y0.name y0.desc).keepsFace) = true) (w3 : (Jvm.Cond.selects C y0 y').before a0 Z = true) (w4 : (Jvm.Cond.instanceMethod y').before a0 Z = true) (w6 : (Jvm.Cond.publicMethod y').before a0 Z = true) (w7 : (Jvm.Cond.unhidden C y0.name y0.desc).before a0 Z = true) (w8 : (Jvm.Cond.castable C y0.cls).before a0 Z = true) (wz : (Jvm.Cond.initialized y'.cls).before a0 Z = true) (wc : (Jvm.Cond.code y' b' mx' ret').before a0 Z = true)
    (har : XT.arity y0.desc = some na) (hy : y0.cls ≠ "java/lang/invoke/MethodHandle" ∧ y0.cls ≠ "java/lang/invoke/VarHandle") (hm : (a, fl, OB Z C lay vs) ∈ L)
    (hst : St = argsL.reverse ++ .ref a :: rest) (hna : argsL.length = na) (hW : (rest.map fun v => v.category).sum = W) (hz : Ls.length = mx) (hC : Ct l Z EL y' b' mx' ret' rm (.ref a :: argsL).toArray L Q') (hf : rm.frames + 1 ≤ R.frames) (hl : W + (mx' + 11) + rm.locals ≤ R.locals) (hcb : rm.cells ≤ cb) (hsb : rm.slots ≤ sb)
    (k : ∀ v L', Q' v L' → Wk l Z a0 EL y bytes mx ret R Q L' (cb - rm.cells) (sb - rm.slots) q Ls (v.toList ++ rest)) : Wk l Z a0 EL y bytes mx ret R Q L cb sb pc Ls St := by
  subst hq hst
  refine Wk.call (len := 5) hC wc wz hf hl hcb hsb (fun {p e s m args below meth c T vm0 locs cells slots Pre Post} hx hby hmx hown hZ hI X hK hpre => ?_) k
  obtain ⟨cl, e1, e2⟩ := hI.at_ hm
  obtain ⟨cq, kq, q1, q2, q3⟩ := isOf (T := T) (s := s.setVm vm0) hZ rfl (e2.exa e1)
  exact X.interfaceBackS hx hown (mv (s := s.setVm vm0) hZ w1) (mv (s := s.setVm vm0) hZ w2) (mv (s := s.setVm vm0) hZ w5 hd5) (mv (s := s.setVm vm0) hZ w3) (mv (s := s.setVm vm0) hZ w4) (mv (s := s.setVm vm0) hZ w6) (mv (s := s.setVm vm0) hZ w7) (mv (s := s.setVm vm0) hZ w8) hy hK q1 q2 q3 (g := mkF m pc ⟨Ls⟩ (argsL.reverse ++ .ref a :: rest)) rfl (by rw [hmx]; simpa using hz) (Steps.refl _) (XT.arity_len har hna) rfl (by show 2 * 0 + _ ≤ _; rw [hW]; omega) (hb hby hd) hpre
end Calls
theorem kv {Q0 : Value → Store → Prop} (k : ∀ u L', Q0 u L' → Wk l Z a0 EL y bytes mx ret R Q L' cb sb q Ls (u :: rest)) : ∀ v L', RV Q0 v L' → Wk l Z a0 EL y bytes mx ret R Q L' cb sb q Ls (v.toList ++ rest) := by
  rintro _ L' ⟨u, rfl, h⟩; exact k u L' h
theorem k0 {Q0 : Store → Prop} (k : ∀ L', Q0 L' → Wk l Z a0 EL y bytes mx ret R Q L' cb sb q Ls rest) : ∀ v L', R0 Q0 v L' → Wk l Z a0 EL y bytes mx ret R Q L' cb sb q Ls (v.toList ++ rest) := by
  rintro _ L' ⟨rfl, h⟩; exact k L' h
end Rules
/-- a branch both ways -/
def cP : ClassFile.Cond → Int32 → Int32 → Prop
  | .eq, u, w => u = w
  | .ne, u, w => ¬ u = w
  | .lt, u, w => u < w
  | .ge, u, w => ¬ u < w
  | .gt, u, w => w < u
  | .le, u, w => ¬ w < u
def cneg : ClassFile.Cond → ClassFile.Cond
  | .eq => .ne
  | .ne => .eq
  | .lt => .ge
  | .ge => .lt
  | .gt => .le
  | .le => .gt
theorem icmp_of {cd : ClassFile.Cond} {u w : Int32} : (cP cd u w ∧ if_icmp.holds cd u w = true) ∨ (cP (cneg cd) u w ∧ if_icmp.holds cd u w = false) := by
  cases cd
  · by_cases h : u = w
    · exact Or.inl ⟨h, XT.ii_eq_t h⟩
    · exact Or.inr ⟨h, XT.ii_eq_f h⟩
  · by_cases h : u = w
    · exact Or.inr ⟨h, XT.ii_ne_f h⟩
    · exact Or.inl ⟨h, XT.ii_ne_t h⟩
  · by_cases h : u < w
    · exact Or.inl ⟨h, XT.ii_lt_t h⟩
    · exact Or.inr ⟨h, XT.ii_lt_f h⟩
  · by_cases h : u < w
    · exact Or.inr ⟨h, XT.ii_ge_f h⟩
    · exact Or.inl ⟨h, XT.ii_ge_t h⟩
  · by_cases h : w < u
    · exact Or.inl ⟨h, XT.ii_gt_t h⟩
    · exact Or.inr ⟨h, XT.ii_gt_f h⟩
  · by_cases h : w < u
    · exact Or.inr ⟨h, XT.ii_le_f h⟩
    · exact Or.inl ⟨h, XT.ii_le_t h⟩
theorem if_of {cd : ClassFile.Cond} {u : Int32} : (cP cd u 0 ∧ ifCond.holds cd u = true) ∨ (cP (cneg cd) u 0 ∧ ifCond.holds cd u = false) := by
  cases cd
  · by_cases h : u = 0
    · exact Or.inl ⟨h, XT.i0_eq_t h⟩
    · exact Or.inr ⟨h, XT.i0_eq_f h⟩
  · by_cases h : u = 0
    · exact Or.inr ⟨h, XT.i0_ne_f h⟩
    · exact Or.inl ⟨h, XT.i0_ne_t h⟩
  · by_cases h : u < 0
    · exact Or.inl ⟨h, XT.i0_lt_t h⟩
    · exact Or.inr ⟨h, XT.i0_lt_f h⟩
  · by_cases h : u < 0
    · exact Or.inr ⟨h, XT.i0_ge_f h⟩
    · exact Or.inl ⟨h, XT.i0_ge_t h⟩
  · by_cases h : 0 < u
    · exact Or.inl ⟨h, XT.i0_gt_t h⟩
    · exact Or.inr ⟨h, XT.i0_gt_f h⟩
  · by_cases h : 0 < u
    · exact Or.inr ⟨h, XT.i0_le_f h⟩
    · exact Or.inl ⟨h, XT.i0_le_t h⟩
section Rules2
variable {l : Launch} {Z : State} {a0 : Array Value} {EL : List (String × Nat)} {y : MethodName} {bytes : ByteArray} {mx : Nat} {ret : Option FieldType} {R : Room} {Q Q' : Option Value → Store → Prop} {L L0 L' : Store} {cb sb pc q q' : Nat} {Ls Ls' : List Slot} {St rest : List Value}
theorem Wk.icmp_s {cd : ClassFile.Cond} {u w : Int32} {o : Int} (hd : decode bytes pc = .ok (.if_icmp cd o, 3)) (ho : 0 ≤ (pc : Int) + o) (hq : ((pc : Int) + o).toNat = q) (hq' : pc + 3 = q') (k1 : cP cd u w → Wk l Z a0 EL y bytes mx ret R Q L cb sb q Ls St) (k2 : cP (cneg cd) u w → Wk l Z a0 EL y bytes mx ret R Q L cb sb q' Ls St) : Wk l Z a0 EL y bytes mx ret R Q L cb sb pc Ls (.int w :: .int u :: St) := by
  rcases icmp_of (cd := cd) (u := u) (w := w) with ⟨h, h'⟩ | ⟨h, h'⟩
  · exact Wk.icmp_t hd ho hq h' (k1 h)
  · exact Wk.icmp_f hd hq' h' (k2 h)
theorem Wk.if_s {cd : ClassFile.Cond} {u : Int32} {o : Int} (hd : decode bytes pc = .ok (.ifCond cd o, 3)) (ho : 0 ≤ (pc : Int) + o) (hq : ((pc : Int) + o).toNat = q) (hq' : pc + 3 = q') (k1 : cP cd u 0 → Wk l Z a0 EL y bytes mx ret R Q L cb sb q Ls St) (k2 : cP (cneg cd) u 0 → Wk l Z a0 EL y bytes mx ret R Q L cb sb q' Ls St) : Wk l Z a0 EL y bytes mx ret R Q L cb sb pc Ls (.int u :: St) := by
  rcases if_of (cd := cd) (u := u) with ⟨h, h'⟩ | ⟨h, h'⟩
  · exact Wk.if_t hd ho hq h' (k1 h)
  · exact Wk.if_f hd hq' h' (k2 h)
end Rules2
theorem Wk.know {l : Launch} {Z : State} {a0 : Array Value} {EL : List (String × Nat)} {y : MethodName} {bytes : ByteArray} {mx : Nat} {ret : Option FieldType} {R : Room} {Q : Option Value → Store → Prop} {L : Store} {cb sb pc : Nat} {Ls : List Slot} {St : List Value} {P : Prop} (hp : ∀ vm h, Inv Z EL vm h L → P) (k : P → Wk l Z a0 EL y bytes mx ret R Q L cb sb pc Ls St) : Wk l Z a0 EL y bytes mx ret R Q L cb sb pc Ls St := by
  intro p e s m args below meth c T vm0 k0 locs cells slots hx hby hmx hret hlk hnm hown hkn X hS hk hZ hE hI hF hc hs
  exact k (hp _ _ hI) p e s m args below meth c T vm0 k0 locs cells slots hx hby hmx hret hlk hnm hown hkn X hS hk hZ hE hI hF hc hs
theorem Inv.sameObj {Z : State} {EL : List (String × Nat)} {vm : Vm} {h : Heap} {L : Store} {a : Addr} {f f' : Bool} {C C' : String} {lay : Lay} {vs vs' : List Value} {j : Nat} {g : String × String × String} {v v' : Value} (I : Inv Z EL vm h L) (h1 : (a, f, OB Z C lay vs) ∈ L) (h2 : (a, f', OB Z C' lay vs') ∈ L) (hj : lay[j]? = some g) (hv : vs[j]? = some v) (hv' : vs'[j]? = some v') : v = v' := by
  obtain ⟨c, e1, e2⟩ := I.at_ h1
  obtain ⟨c', g1, g2⟩ := I.at_ h2
  cases e1.symm.trans g1
  obtain ⟨_, _, _, fi, x1, -, -, -, -, x6⟩ := e2.2 j g v hj hv
  obtain ⟨_, _, _, fi', y1, -, -, -, -, y6⟩ := g2.2 j g v' hj hv'
  cases x1.symm.trans y1
  exact Option.some.inj (x6.symm.trans y6)
theorem Inv.sameArr {Z : State} {EL : List (String × Nat)} {vm : Vm} {h : Heap} {L : Store} {a : Addr} {f f' : Bool} {ty ty' : FieldType} {vs vs' : List Value} (I : Inv Z EL vm h L) (h1 : (a, f, AR Z ty vs) ∈ L) (h2 : (a, f', AR Z ty' vs') ∈ L) : vs = vs' := by
  obtain ⟨c, e1, e2⟩ := I.at_ h1
  obtain ⟨c', g1, g2⟩ := I.at_ h2
  cases e1.symm.trans g1
  exact e2.2.2.1.symm.trans g2.2.2.1
theorem map_int_inj {xs ys : List Int32} (h : xs.map Value.int = ys.map Value.int) : xs = ys := (List.map_inj_right (fun a b e => by injection e)).mp h
theorem efOf {m : MethodId} {args : Array Value} {n : Nat} {Ls : List Slot} (h : Jvm.Sym.laidSlots args.toList ++ List.replicate (n - (Jvm.Sym.laidSlots args.toList).length) .unset = Ls) : entryFrame m args n = mkF m 0 ⟨Ls⟩ [] := by
  have : argsToLocals args n = ⟨Ls⟩ := Array.toList_inj.mp (by rw [Jvm.Sym.argsToLocals_toList]; exact h)
  unfold entryFrame
  rw [this]
theorem fitO {c : String} {v : Value} (h : v.isRef = true) : fits (.object c) v = true := by cases v <;> first | rfl | exact Bool.noConfusion h
theorem fitA {c : FieldType} {v : Value} (h : v.isRef = true) : fits (.array c) v = true := by cases v <;> first | rfl | exact Bool.noConfusion h
theorem narO {c : String} {v : Value} : narrow (.object c) v = v := by cases v <;> rfl
theorem narA {c : FieldType} {v : Value} : narrow (.array c) v = v := by cases v <;> rfl
theorem staOf {Z : State} {args a0 : Array Value} {C n d K : String} (h : (Jvm.Cond.exactly (Term.static C n d) K).value args Z none Z [] = some true) (hi : (Jvm.Cond.initialized C).before a0 Z = true) (hl : (Jvm.Cond.laysStatic C n d).before a0 Z = true) : ∃ a : Addr, Sta Z Z.heap C n d (.ref a) ∧ Exa Z Z.heap a K := by
  obtain ⟨a, ev⟩ := exa_v h
  exact ⟨a, Sta.start (args := args) ev (Or.inr ⟨hi, hl⟩), Exa.start ev h⟩
theorem compact {Z : State} {args : Array Value} (h1 : (Jvm.Cond.initializedFor "java/lang/String" "COMPACT_STRINGS" "Z").before args Z = true) (h2 : (Jvm.Cond.isInt (Term.static "java/lang/String" "COMPACT_STRINGS" "Z")).before args Z = true) (h3 : (Jvm.Cond.not (Jvm.Cond.eq (Term.static "java/lang/String" "COMPACT_STRINGS" "Z") (.int 0))).before args Z = true) : ∃ z, z ≠ (0 : Int32) ∧ Sta Z Z.heap "java/lang/String" "COMPACT_STRINGS" "Z" (.int z) := by
  obtain ⟨z, ev⟩ := is_v (Cond.before_iff.mp h2)
  refine ⟨z, fun e => ?_, Sta.start (args := args) ev (Or.inl h1)⟩
  have h := not_v (Cond.before_iff.mp h3)
  rw [eq_i ev (Term.int_eval 0) (by rw [e])] at h
  cases h
theorem staI {Z : State} {args : Array Value} {C n d : String} {z : Int32} (h1 : (Jvm.Cond.initializedFor C n d).before args Z = true) (h2 : (Jvm.Cond.eq (Term.static C n d) (.int z)).before args Z = true) : Sta Z Z.heap C n d (.int z) := by
  have h := Cond.before_iff.mp h2
  obtain ⟨x, y, ex, ey, kx, -⟩ := cmp_v (Or.inl h)
  cases (Term.int_eval z).symm.trans ey
  have e : x = .int z := by
    have q := h
    cases x with
    | int w =>
      simp only [Jvm.Cond.value, ex, Term.int_eval, Option.some.injEq, decide_eq_true_eq] at q
      rw [q]
    | long _ => obtain ⟨_, kx⟩ := kx; cases kx
    | float _ => obtain ⟨_, kx⟩ := kx; cases kx
    | double _ => obtain ⟨_, kx⟩ := kx; cases kx
    | _ => exact Bool.noConfusion kx.2
  subst e
  exact Sta.start (args := args) ex (Or.inl h1)
theorem nar8 (x : Int32) : nar .byte x.toInt8.toInt32 = x.toInt8.toInt32 := by simp [nar]
/-! numbers -/
theorem nchar_mask (x : Int32) : nar .char (x &&& 255) = x &&& 255 := i2c_mask x
theorem mask_lat (x : Int32) : 0 ≤ (x &&& 255).toInt ∧ (x &&& 255).toInt < 256 := by
  have := c_and x 255 (by decide)
  have e : (255 : Int32).toInt = 255 := by decide
  omega
theorem remR (x : Int32) (k : Int32) (d : Int) (hx : 0 ≤ x.toInt) (hd : k.toInt = d) (hk : 0 < d) : 0 ≤ (x % k).toInt ∧ (x % k).toInt < d := by
  have := (c_iremV x k).1 hx (by omega)
  omega
theorem maskR (x : Int32) : 0 ≤ (x &&& 2147483647).toInt := (c_and x 2147483647 (by decide)).1
theorem lit32 {x : Int32} {n : Int} (h : x.toInt = n) (m : Int32) (hm : m.toInt = n) : x = m := Int32.toInt_inj.mp (h.trans hm.symm)
theorem rem4 (x : Int32) : (x &&& 2147483647) % 4 = 0 ∨ (x &&& 2147483647) % 4 = 1 ∨ (x &&& 2147483647) % 4 = 2 ∨ (x &&& 2147483647) % 4 = 3 := by
  have h := remR (x &&& 2147483647) 4 4 (maskR x) (by decide) (by decide)
  generalize (x &&& 2147483647) % 4 = r at *
  have h4 : r.toInt = 0 ∨ r.toInt = 1 ∨ r.toInt = 2 ∨ r.toInt = 3 := by omega
  rcases h4 with h | h | h | h
  · exact Or.inl (lit32 h 0 (by decide))
  · exact Or.inr (Or.inl (lit32 h 1 (by decide)))
  · exact Or.inr (Or.inr (Or.inl (lit32 h 2 (by decide))))
  · exact Or.inr (Or.inr (Or.inr (lit32 h 3 (by decide))))
theorem pw0 : ((2 ^ 0 : Nat) : Int) = 1 := rfl
theorem pw1 : ((2 ^ 1 : Nat) : Int) = 2 := rfl
theorem pw8 : ((2 ^ 8 : Nat) : Int) = 256 := rfl
theorem pw31 : ((2 ^ 31 : Nat) : Int) = 2147483648 := rfl
theorem n32 {n : Nat} (h : n < 2 ^ 31) : n.toInt32.toInt = n := len_toInt h
theorem n32_nn {n : Nat} (h : n < 2 ^ 31) : ¬ n.toInt32 < 0 := by rw [Int32.lt_iff_toInt_lt, n32 h]; show ¬ (n : Int) < 0; omega
theorem n32_nat {n : Nat} (h : n < 2 ^ 31) : n.toInt32.toNatClampNeg = n := by simp only [Int32.toNatClampNeg, n32 h]; rfl
theorem n32_lt {i n : Nat} (hi : i < 2 ^ 31) (hn : n < 2 ^ 31) : i.toInt32 < n.toInt32 ↔ i < n := by rw [Int32.lt_iff_toInt_lt, n32 hi, n32 hn]; omega
theorem n32_inj {i n : Nat} (hi : i < 2 ^ 31) (hn : n < 2 ^ 31) : i.toInt32 = n.toInt32 ↔ i = n := by rw [← Int32.toInt_inj, n32 hi, n32 hn]; omega
theorem n32_succ (i : Nat) : i.toInt32 + 1 = (i + 1).toInt32 := (Int32.ofNat_add i 1).symm
end Jvm.OwnW
namespace Jvm.OwnW
open Jvm Jvm.ClassFile Sem Op Lib Jvm.Free Jvm.Stand Jvm.LawKit Jvm.RoadKit
theorem Inv.keep {Z : State} {EL : List (String × Nat)} {vm : Vm} {h h' : Heap} {L : Store} {b : Addr} {P P' : Cell → Prop} {c : Cell} (I : Inv Z EL vm h ((b, true, P) :: L)) (K : Keep h h' [b]) (hc : h'[b]? = some c) (hP : P' c) : Inv Z EL vm h' ((b, true, P') :: L) := by
  obtain ⟨h1, h2, h3, h4, h5⟩ := I
  have hs := (h4 _ (List.mem_cons_self ..) rfl)
  have hsafe : ∀ x ∈ [b], Safe Z EL vm h x := fun x hx => by cases List.mem_singleton.mp hx; exact hs.2
  rw [List.pairwise_cons] at h5
  refine ⟨⟨Nat.le_trans h1.1 K.1, fun x c q => K.2.1 x c (h1.2 x c q) fun hx => ?_⟩, h2.keep K hsafe, fun o ho => ?_, fun o ho q => ?_, List.pairwise_cons.mpr ⟨fun o ho q => h5.1 o ho q, h5.2⟩⟩
  · cases List.mem_singleton.mp hx
    exact absurd (Array.getElem?_eq_some_iff.mp q).1 (Nat.not_lt.mpr hs.1)
  · rcases List.mem_cons.mp ho with rfl | ho
    · exact ⟨c, hc, hP⟩
    · obtain ⟨c1, q1, q2⟩ := h3 o (List.mem_cons_of_mem _ ho)
      exact ⟨c1, K.2.1 _ _ q1 fun hx => h5.1 o ho (Or.inl rfl) (List.mem_singleton.mp hx).symm, q2⟩
  · rcases List.mem_cons.mp ho with rfl | ho
    · exact ⟨hs.1, Safe.keep K hsafe h2 hs.2⟩
    · have q2 := h4 o (List.mem_cons_of_mem _ ho) q
      exact ⟨q2.1, Safe.keep K hsafe h2 q2.2⟩
theorem arv_of_ar {Z : State} {h : Heap} {a : Addr} {ty : FieldType} {vs : List Value} {c : Cell} (d : Value) (hc : h[a]? = some c) (A : AR Z ty vs c) (hf : ∀ v ∈ vs, fits ty v = true) : Arv Z h a c.cls ty vs.length.toInt32 vs d := by
  refine ⟨c, A.arr hc, rfl, by rw [A.size, n32_nat A.2.2.2], n32_nn A.2.2.2, fun k hk => ?_, fun i hi => ?_⟩
  · rw [A.size] at hk
    rw [A.get (List.getElem?_eq_getElem hk), List.getD_eq_getElem?_getD, List.getElem?_eq_getElem hk]; rfl
  · rw [A.size] at hi
    rw [List.getD_eq_getElem?_getD, List.getElem?_eq_getElem hi]
    exact hf _ (List.getElem_mem hi)
theorem range_take {vs : List Value} {s n : Nat} {d : Value} (h : s + n ≤ vs.length) : ((List.range n).map fun i => vs.getD (s + i) d) = (vs.drop s).take n := by
  apply List.ext_getElem
  · simp; omega
  · intro i h1 h2
    simp only [List.length_map, List.length_range] at h1
    have : s + i < vs.length := by omega
    simp [List.getD_eq_getElem?_getD, List.getElem?_eq_getElem this]
section Rules4
variable {l : Launch} {Z : State} {a0 : Array Value} {EL : List (String × Nat)} {y : MethodName} {bytes : ByteArray} {mx : Nat} {ret : Option FieldType} {R : Room} {Q Q' : Option Value → Store → Prop} {L L0 L' : Store} {cb sb pc q q' : Nat} {Ls Ls' : List Slot} {St rest : List Value}
/-- System.arraycopy between two byte arrays -/
theorem Wk.arraycopyB {i : Nat} (W sN dN nN : Nat) (vs' : List Value) {sp dp nn : Int32} {a b : Addr} {fa : Bool} {va vd : List Value} (hd : decode bytes pc = .ok (.invokestatic i, 3)) (hq : pc + 3 = q) (w1 : (Jvm.Cond.methodLink y.cls i Jvm.Stand.acN).before a0 Z = true) (w2 : (Jvm.Cond.native Jvm.Stand.acN).before a0 Z = true) (w3 : (Jvm.Cond.static Jvm.Stand.acN).before a0 Z = true) (w4 : (Jvm.Cond.initialized "java/lang/System").before a0 Z = true)
    (hm : Ex L (b, true, AR Z .byte vd) L0) (ha : (a, fa, AR Z .byte va) ∈ L0) (hfa : ∀ v ∈ va, fits .byte v = true) (hfd : ∀ v ∈ vd, fits .byte v = true) (h1 : ¬ sp < 0 ∧ sp.toNatClampNeg = sN) (h2 : ¬ dp < 0 ∧ dp.toNatClampNeg = dN) (h3 : ¬ nn < 0 ∧ nn.toNatClampNeg = nN) (h4 : sN + nN ≤ va.length) (h5 : dN + nN ≤ vd.length) (hv : vd.take dN ++ (va.drop sN).take nN ++ vd.drop (dN + nN) = vs')
    (hz : Ls.length = mx) (hf : 1 ≤ R.frames) (hW : (St.map fun v => v.category).sum = W) (hlo : W + (nativeFrameWords "java/lang/System" "arraycopy" 5 + 11) ≤ R.locals) (k : Wk l Z a0 EL y bytes mx ret R Q ((b, true, AR Z .byte vs') :: L0) cb sb q Ls St) : Wk l Z a0 EL y bytes mx ret R Q L cb sb pc Ls (.int nn :: .int dp :: .ref b :: .int sp :: .ref a :: St) := by
  subst hq hv
  obtain ⟨h1, rfl⟩ := h1
  obtain ⟨h2, rfl⟩ := h2
  obtain ⟨h3, rfl⟩ := h3
  refine Wk.pull hm ?_
  intro p e s m args below meth c T vm0 k0 locs cells slots hx hby hmx hret hlk hnm hown hkn X hS hk hZ hE hI hF hc hs
  obtain ⟨cd, d1, d2⟩ := hI.at_ (List.mem_cons_self ..)
  obtain ⟨cs, s1, s2⟩ := hI.at_ (List.mem_cons_of_mem _ ha)
  have A := arv_of_ar (.int 0) s1 s2 hfa
  have B := arv_of_ar (.int 0) d1 d2 hfd
  have la := n32_nat s2.2.2.2
  have ld := n32_nat d2.2.2.2
  obtain ⟨T', h', L2, X', rfl, N, K, B', st⟩ := cpA X hx hZ hown w1 w2 w3 w4 rfl A B (Or.inl ⟨rfl, rfl⟩) h1 h2 h3 (by rw [la]; exact h4) (by rw [ld]; exact h5) (range_take h4).symm h5 hF (hI.2.2.2.1 _ (List.mem_cons_self ..) rfl).1 (g := mkF m pc ⟨Ls⟩ (.int nn :: .int dp :: .ref b :: .int sp :: .ref a :: St)) rfl (by rw [hmx]; simpa using hz) rfl (hb hby hd) hf (W := W) (by show 2 * 0 + _ ≤ _; rw [hW]; omega) hlo
  obtain ⟨c', e1, e2⟩ := ar_of_arv B' (by rw [ld]; simp; omega)
  obtain ⟨fin, v, Lc, L', q1, r⟩ := k p e s m args below meth c T' vm0 k0 L2 cells slots hx hby hmx hret hlk hnm hown hkn X' hS (Nat.le_trans hk K.1) hZ hE (hI.keep K e1 e2) N hc hs
  exact ⟨fin, v, Lc, L', st _ q1, r⟩
end Rules4
end Jvm.OwnW
namespace Jvm.OwnW
open Jvm Jvm.ClassFile Sem Op Lib Jvm.Free Jvm.Stand Jvm.LawKit Jvm.RoadKit
theorem selOwn {Z : State} {a0 : Array Value} {y0 : MethodName} {C : String} (hy : y0.cls ≠ "java/lang/invoke/MethodHandle" ∧ y0.cls ≠ "java/lang/invoke/VarHandle") (w : (Jvm.Cond.selects C y0 y0).before a0 Z = true) (wp : (Jvm.Cond.privateMethod y0).before a0 Z = true) : (Jvm.Cond.selects y0.cls y0 y0).before a0 Z = true := by
  obtain ⟨c, r, m, -, q2, q3, -, k, q5, q6⟩ := Cond.selects_spec w
  have hf := State.methodFound?_of_named q3 hy
  have hc := findClass_of_methodNamed q3
  have hp := Cond.privateMethod_at wp
  cases hm : Z.vm.method? m with
  | none => simp [Cond.before, Cond.holds, Cond.value, q3, hm] at wp
  | some meth =>
    have hs : selectMethod {} Z.vm m.cls m = .method m := selectMethod_private hm (hp m meth q3 hm)
    simp [Cond.before, Cond.holds, Cond.value, hc, hf, q3, hs, q5, q6]
theorem nfCls {Z : State} {a0 : Array Value} {y0 y1 : MethodName} {C : String} (he : y1.cls = y0.cls) (w : (Jvm.Cond.selects C y1 y1).before a0 Z = true) : ∀ s : State, Z.Warmed39 s.vm → NotFace s y0 := fun s hZ r0 h0 => by
  obtain ⟨c, r, m, -, -, q3, -, k, q5, q6⟩ := Cond.selects_spec (mv (args := #[]) (s := s) hZ w)
  have h1 := findClass_of_methodNamed q3
  have h2 := findClass_of_methodNamed h0
  rw [he] at h1
  exact ⟨k, by rw [← Option.some.inj (h1.symm.trans h2)]; exact q5, q6⟩
theorem sameOwn {Z : State} {a0 : Array Value} {y0 : MethodName} (hy : y0.cls ≠ "java/lang/invoke/MethodHandle" ∧ y0.cls ≠ "java/lang/invoke/VarHandle") (wi : (Jvm.Cond.instanceMethod y0).before a0 Z = true) (nf : ∀ s : State, Z.Warmed39 s.vm → NotFace s y0) : (Jvm.Cond.sameMethod y0.cls y0.cls y0.name y0.desc).before a0 Z = true := by
  obtain ⟨mk, meth, hn, -, -, -⟩ := Cond.instanceMethod_spec wi
  have hf := State.methodFound?_of_named hn hy
  have hc := findClass_of_methodNamed hn
  obtain ⟨k, h1, h2⟩ := nf Z (State.Warmed39.refl Z) mk hn
  have hn' : Z.methodNamed? ⟨y0.cls, y0.name, y0.desc⟩ = some mk := hn
  simp [Cond.before, Cond.holds, Cond.value, hc, hf, hn', h1, h2]
section Rules5
variable {l : Launch} {Z : State} {a0 : Array Value} {EL : List (String × Nat)} {y : MethodName} {bytes : ByteArray} {mx : Nat} {ret : Option FieldType} {R : Room} {Q Q' : Option Value → Store → Prop} {L L0 L' : Store} {cb sb pc q q' : Nat} {Ls Ls' : List Slot} {St rest : List Value} {y' : MethodName} {b' : ByteArray} {mx' : Nat} {ret' : Option FieldType} {rm : Room} {i : Nat}
/-- a private method of the receiver's class or of one above -/
theorem Wk.priv {a : Addr} {fl : Bool} {C C' : String} {lay : Lay} {vs : List Value} (argsL rest : List Value) (W : Nat) {na : Nat} (hd : decode bytes pc = .ok (.invokevirtual i, 3)) (hq : pc + 3 = q) (w1 : (Jvm.Cond.methodLink y.cls i y').before a0 Z = true) (w4 : (Jvm.Cond.instanceMethod y').before a0 Z = true) (w3 : (Jvm.Cond.selects C' y' y').before a0 Z = true) (w5 : (Jvm.Cond.privateMethod y').before a0 Z = true) (wz : (Jvm.Cond.initialized y'.cls).before a0 Z = true) (wc : (Jvm.Cond.code y' b' mx' ret').before a0 Z = true)
    (har : XT.arity y'.desc = some na) (hy : y'.cls ≠ "java/lang/invoke/MethodHandle" ∧ y'.cls ≠ "java/lang/invoke/VarHandle") (hm : (a, fl, OB Z C lay vs) ∈ L)
    (hst : St = argsL.reverse ++ .ref a :: rest) (hna : argsL.length = na) (hW : (rest.map fun v => v.category).sum = W) (hz : Ls.length = mx) (hC : Ct l Z EL y' b' mx' ret' rm (.ref a :: argsL).toArray L Q') (hf : rm.frames + 1 ≤ R.frames) (hl : W + (mx' + 11) + rm.locals ≤ R.locals) (hcb : rm.cells ≤ cb) (hsb : rm.slots ≤ sb)
    (k : ∀ v L', Q' v L' → Wk l Z a0 EL y bytes mx ret R Q L' (cb - rm.cells) (sb - rm.slots) q Ls (v.toList ++ rest)) : Wk l Z a0 EL y bytes mx ret R Q L cb sb pc Ls St := by
  subst hq hst
  refine Wk.call (len := 3) hC wc wz hf hl hcb hsb (fun {p e s m args below meth c T vm0 locs cells slots Pre Post} hx hby hmx hown hZ hI X hK hpre => ?_) k
  obtain ⟨cl, e1, e2⟩ := hI.at_ hm
  have hob : ∀ q, cl.vm ≠ .statics q := fun q e => by
    obtain ⟨_, _, _, x3, _⟩ := e2.1
    rw [e] at x3; cases x3
  exact X.privateBackS hx hown (mv (s := s.setVm vm0) hZ w1) (mv (s := s.setVm vm0) hZ w4) (mv (s := s.setVm vm0) hZ (selOwn hy w3 w5)) (Cond.privateMethod_at (args := args) (mv (s := s.setVm vm0) hZ w5)) (mv (s := s.setVm vm0) hZ wc) hy hK (g := mkF m pc ⟨Ls⟩ (argsL.reverse ++ .ref a :: rest)) rfl (by rw [hmx]; simpa using hz) (Steps.refl _) e1 hob (XT.arity_len har hna) rfl (by show 2 * 0 + _ ≤ _; rw [hW]; omega) (hb hby hd) hpre
/-- a method of the class above -/
theorem Wk.up {a : Addr} {fl : Bool} {C K : String} {lay : Lay} {vs : List Value} (argsL rest : List Value) (W : Nat) {na : Nat} (hd : decode bytes pc = .ok (.invokespecial i, 3)) (hq : pc + 3 = q) (w1 : (Jvm.Cond.methodLink y.cls i y').before a0 Z = true) (w2 : (Jvm.Cond.instanceMethod y').before a0 Z = true) (w3 : (Jvm.Cond.superclass y.cls y'.cls).before a0 Z = true) (hn : y'.name ≠ "<init>") (wk : (Jvm.Cond.castable C K).before a0 Z = true) (wz : (Jvm.Cond.initialized y'.cls).before a0 Z = true) (wc : (Jvm.Cond.code y' b' mx' ret').before a0 Z = true)
    (har : XT.arity y'.desc = some na) (hy : y'.cls ≠ "java/lang/invoke/MethodHandle" ∧ y'.cls ≠ "java/lang/invoke/VarHandle") (nf : ∀ s : State, Z.Warmed39 s.vm → NotFace s y') (hm : (a, fl, OB Z C lay vs) ∈ L)
    (hst : St = argsL.reverse ++ .ref a :: rest) (hna : argsL.length = na) (hW : (rest.map fun v => v.category).sum = W) (hz : Ls.length = mx) (hC : Ct l Z EL y' b' mx' ret' rm (.ref a :: argsL).toArray L Q') (hf : rm.frames + 1 ≤ R.frames) (hl : W + (mx' + 11) + rm.locals ≤ R.locals) (hcb : rm.cells ≤ cb) (hsb : rm.slots ≤ sb)
    (k : ∀ v L', Q' v L' → Wk l Z a0 EL y bytes mx ret R Q L' (cb - rm.cells) (sb - rm.slots) q Ls (v.toList ++ rest)) : Wk l Z a0 EL y bytes mx ret R Q L cb sb pc Ls St := by
  subst hq hst
  refine Wk.call (len := 3) hC wc wz hf hl hcb hsb (fun {p e s m args below meth c T vm0 locs cells slots Pre Post} hx hby hmx hown hZ hI X hK hpre => ?_) k
  obtain ⟨cl, e1, e2⟩ := hI.at_ hm
  exact superBackS X hx hZ hown w1 (sameOwn hy w2 nf) w2 w3 hn hK rfl (Ins.of_exa (e2.exa e1) wk) (g := mkF m pc ⟨Ls⟩ (argsL.reverse ++ .ref a :: rest)) rfl (by rw [hmx]; simpa using hz) wc (XT.arity_len har hna) rfl (by show 2 * 0 + _ ≤ _; rw [hW]; omega) (hb hby hd) hpre
/-- a cell of the start, read only -/
theorem Wk.oldC {a : Addr} {c0 : Cell} {P : Cell → Prop} (hc : Z.heap[a]? = some c0) (hP : P c0) (k : Wk l Z a0 EL y bytes mx ret R Q ((a, false, P) :: L) cb sb pc Ls St) : Wk l Z a0 EL y bytes mx ret R Q L cb sb pc Ls St := by
  intro p e s m args below meth c T vm0 k0 locs cells slots hx hby hmx hret hlk hnm hown hkn X hS hk hZ hE hI hF hcc hs
  have hlt : a < Z.heap.size := (Array.getElem?_eq_some_iff.mp hc).1
  exact k p e s m args below meth c T vm0 k0 locs cells slots hx hby hmx hret hlk hnm hown hkn X hS hk hZ hE (hI.old (hI.1.2 _ _ hc) hP (fun x hx' _ e => by subst e; exact absurd hlt (Nat.not_lt.mpr hx'))) hF hcc hs
theorem Wk.instanceof_null {i : Nat} (hd : decode bytes pc = .ok (.instanceof i, 3)) (hq : pc + 3 = q) (k : Wk l Z a0 EL y bytes mx ret R Q L cb sb q Ls (.int 0 :: St)) : Wk l Z a0 EL y bytes mx ret R Q L cb sb pc Ls (.null :: St) := by
  subst hq
  refine Wk.same (fun {p e s m args below meth c T vm0 locs cells slots} hx hby hmx hown hZ hI X => ?_) k
  exact ⟨T, X, rfl, X.instanceofNull hx (g := mkF m pc ⟨Ls⟩ (.null :: St)) rfl rfl (hb hby hd)⟩
end Rules5
/-- no object of the class C, right below the root S, is one of K -/
theorem noSub {Z : State} {a0 : Array Value} {C S K : String} {n : Nat} (w : (Jvm.Cond.superclass C S).before a0 Z = true) (wr : (Jvm.Cond.noSuperclass S).before a0 Z = true) (wi : (Jvm.Cond.instantiable K n).before a0 Z = true) (hCK : C ≠ K) (hSK : S ≠ K) : ∃ c t, Z.vm.findClass C = some c ∧ Z.vm.findClass K = some t ∧ Z.vm.assignable c t = false := by
  obtain ⟨t, kt, g0, g2, g5, g7, -, -⟩ := Cond.instantiable_spec wi
  obtain ⟨o, ko, r1, r2, r3, -, -⟩ := Cond.noSuperclass_spec wr
  have ne0 := ids_ne r1 g0 hSK
  have ns0 : NS Z S K := ⟨o, t, r1, g0, fun fuel => by
    cases fuel with
    | zero => rfl
    | succ f => simp [Vm.isSubclassAux, ne0, r2, r3]⟩
  obtain ⟨c, t', h0, g0', n3⟩ := NS.step w ns0 hCK
  cases g0.symm.trans g0'
  obtain ⟨p, k, kp, h1, h2, h3, h4, h5, -, h7⟩ := Cond.superclass_spec h0 w
  have ne := ids_ne h0 g0 hCK
  have g7' := (Bool.or_eq_false_iff.mp g7).1
  refine ⟨c, t, h0, g0, ?_⟩
  show Z.vm.assignableAux (255 + 1) c t = false
  simp [Vm.assignableAux, ne, h2, g2, h5, g5, g7', Vm.isSubclass, n3]
end Jvm.OwnW
namespace Jvm.OwnW
open Jvm Jvm.ClassFile Sem Op Lib Jvm.Free Jvm.Stand Jvm.LawKit Jvm.RoadKit
theorem eqI {Z : State} {args : Array Value} {t : Term} {z : Int32} (h2 : (Jvm.Cond.eq t (.int z)).before args Z = true) : t.eval args Z none [] Z = some (.int z) := by
  have h := Cond.before_iff.mp h2
  obtain ⟨x, y, ex, ey, kx, -⟩ := cmp_v (Or.inl h)
  cases (Term.int_eval z).symm.trans ey
  have e : x = .int z := by
    have q := h
    cases x with
    | int w =>
      simp only [Jvm.Cond.value, ex, Term.int_eval, Option.some.injEq, decide_eq_true_eq] at q
      rw [q]
    | long _ => obtain ⟨_, kx⟩ := kx; cases kx
    | float _ => obtain ⟨_, kx⟩ := kx; cases kx
    | double _ => obtain ⟨_, kx⟩ := kx; cases kx
    | _ => exact Bool.noConfusion kx.2
  rw [ex, e]
theorem arr0 {Z : State} {args : Array Value} {t : Term} {ty : FieldType} (h1 : (Jvm.Cond.arrayOf t ty).before args Z = true) (h2 : (Jvm.Cond.eq (Term.length t) (.int 0)).before args Z = true) : ∃ (a : Addr) (c : Cell), t.eval args Z none [] Z = some (.ref a) ∧ Z.heap[a]? = some c ∧ AR Z ty [] c := by
  have hl := eqI h2
  obtain ⟨a, cell, ev, hat, -⟩ := Term.length_spec hl
  obtain ⟨c, A⟩ := Arr.start ev (Cond.before_iff.mp h1)
  have hc : Z.heap[a]? = some cell := by
    simp only [State.arrayAt?, Option.bind_eq_bind, Option.bind_eq_some_iff] at hat
    obtain ⟨c1, e1, k1, -, e2⟩ := hat
    split at e2
    · cases e2
    · split at e2
      · cases e2; exact e1
      · cases e2
  cases A.1.symm.trans hc
  have hz : cell.slots.size = 0 := by
    simp only [Term.eval, ev, Option.bind_eq_bind, Option.bind_some, hat] at hl
    split at hl
    · rename_i hlt
      have q : cell.slots.size.toInt32 = (0 : Nat).toInt32 := by injection hl with q; injection q
      exact (n32_inj (by omega) (by decide)).mp q
    · cases hl
  exact ⟨a, cell, ev, hc, A.2.1, A.2.2, List.eq_nil_of_length_eq_zero (by simpa using hz), by decide⟩
section Rules6
variable {l : Launch} {Z : State} {a0 : Array Value} {EL : List (String × Nat)} {y : MethodName} {bytes : ByteArray} {mx : Nat} {ret : Option FieldType} {R : Room} {Q Q' : Option Value → Store → Prop} {L L0 L' : Store} {cb sb pc q q' : Nat} {Ls Ls' : List Slot} {St rest : List Value} {y' : MethodName} {b' : ByteArray} {mx' : Nat} {ret' : Option FieldType} {rm : Room} {i : Nat}
theorem Wk.tsw_in {dflt low high : Int} {offs : Array Int} {len : Nat} {o : Int} {u : Int32} (hd : decode bytes pc = .ok (.tableswitch dflt low high offs, len)) (hin : ¬ (u.toInt < low ∨ u.toInt > high)) (hoff : offs[(u.toInt - low).toNat]? = some o) (ho : 0 ≤ (pc : Int) + o) (hp : ((pc : Int) + o).toNat = q) (k : Wk l Z a0 EL y bytes mx ret R Q L cb sb q Ls St) : Wk l Z a0 EL y bytes mx ret R Q L cb sb pc Ls (.int u :: St) :=
  Wk.pure (fun X hx hby r => XS.tswIn X hx rfl rfl (hb hby hd) rfl hin hoff ho hp r) k
theorem Wk.tsw_out {dflt low high : Int} {offs : Array Int} {len : Nat} {u : Int32} (hd : decode bytes pc = .ok (.tableswitch dflt low high offs, len)) (hout : u.toInt < low ∨ u.toInt > high) (ho : 0 ≤ (pc : Int) + dflt) (hp : ((pc : Int) + dflt).toNat = q) (k : Wk l Z a0 EL y bytes mx ret R Q L cb sb q Ls St) : Wk l Z a0 EL y bytes mx ret R Q L cb sb pc Ls (.int u :: St) :=
  Wk.pure (fun X hx hby r => XS.tswOut X hx rfl rfl (hb hby hd) rfl hout ho hp r) k
theorem Wk.getstaticN {i : Nat} {R0 O n d host : String} {v : Value} (hd : decode bytes pc = .ok (.getstatic i, 3)) (hq : pc + 3 = q) (w : (Jvm.Cond.fieldLinkNest y.cls i R0 n d host).before a0 Z = true) (via : Via Z R0 O n d) (F : Sta Z Z.heap O n d v)
    (k : Wk l Z a0 EL y bytes mx ret R Q L cb sb q Ls (v :: St)) : Wk l Z a0 EL y bytes mx ret R Q L cb sb pc Ls St := by
  subst hq
  refine Wk.same (fun {p e s m args below meth c T vm0 locs cells slots} hx hby hmx hown hZ hI X => ?_) k
  exact getS2 (host := host) X hx hZ hown (Or.inr w) via rfl (F.ext hI.1) (g := mkF m pc ⟨Ls⟩ St) rfl (hb hby hd)
theorem Wk.arraylengthR {a : Addr} {fl : Bool} {C : String} {vs : List Value} {u : Int32} (hd : decode bytes pc = .ok (.arraylength, 1)) (hq : pc + 1 = q) (hm : (a, fl, RA Z C vs) ∈ L) (hu : vs.length.toInt32 = u) (k : Wk l Z a0 EL y bytes mx ret R Q L cb sb q Ls (.int u :: St)) : Wk l Z a0 EL y bytes mx ret R Q L cb sb pc Ls (.ref a :: St) := by
  subst hq
  refine Wk.same (fun {p e s m args below meth c T vm0 locs cells slots} hx hby hmx hown hZ hI X => ?_) k
  obtain ⟨cl, e1, e2⟩ := hI.at_ hm
  exact ⟨T, X, rfl, fun target r => X.arraylength hx e1 (State.isArrayOf_alike (T := s.setVm vm0) hZ.alike e2.1.1) (g := mkF m pc ⟨Ls⟩ (.ref a :: St)) rfl rfl (hb hby hd) target (by rw [e2.1.size, hu]; exact r)⟩
theorem mvNM {Z s : State} {a0 args : Array Value} {own host : String} {x : MethodName} {index : Nat} (hZ : Z.Warmed39 s.vm) (w : (Jvm.Cond.methodLinkNest own index x host).before a0 Z = true) : (Jvm.Cond.methodLinkNest own index x host).before args s = true := (Cond.methodLinkNest_wide hZ w :)
theorem Wk.specialN {a : Addr} {host : String} (argsL rest : List Value) (W : Nat) {na : Nat} (hd : decode bytes pc = .ok (.invokespecial i, 3)) (hq : pc + 3 = q) (hy1 : y'.name = "<init>") (w1 : (Jvm.Cond.methodLinkNest y.cls i y' host).before a0 Z = true) (w2 : (Jvm.Cond.instanceMethod y').before a0 Z = true) (wz : (Jvm.Cond.initialized y'.cls).before a0 Z = true) (wc : (Jvm.Cond.code y' b' mx' none).before a0 Z = true) (har : XT.arity y'.desc = some na) (hy : y'.cls ≠ "java/lang/invoke/MethodHandle" ∧ y'.cls ≠ "java/lang/invoke/VarHandle")
    (hst : St = argsL.reverse ++ .ref a :: rest) (hna : argsL.length = na) (hW : (rest.map fun v => v.category).sum = W) (hz : Ls.length = mx) (hC : Ct l Z EL y' b' mx' none rm (.ref a :: argsL).toArray L Q') (hf : rm.frames + 1 ≤ R.frames) (hl : W + (mx' + 11) + rm.locals ≤ R.locals) (hcb : rm.cells ≤ cb) (hsb : rm.slots ≤ sb)
    (k : ∀ v L', Q' v L' → Wk l Z a0 EL y bytes mx ret R Q L' (cb - rm.cells) (sb - rm.slots) q Ls (v.toList ++ rest)) : Wk l Z a0 EL y bytes mx ret R Q L cb sb pc Ls St := by
  subst hq hst
  refine Wk.call (len := 3) hC wc wz hf hl hcb hsb (fun {p e s m args below meth c T vm0 locs cells slots Pre Post} hx hby hmx hown hZ hI X hK hpre => ?_) k
  exact X.specialBackNestS hx hy1 hown (mvNM (s := s.setVm vm0) hZ w1) (mv (s := s.setVm vm0) hZ w2) (mv (s := s.setVm vm0) hZ wc) hy hK (g := mkF m pc ⟨Ls⟩ (argsL.reverse ++ .ref a :: rest)) rfl (by rw [hmx]; simpa using hz) (Steps.refl _) (XT.arity_len har hna) rfl (by show 2 * 0 + _ ≤ _; rw [hW]; omega) (hb hby hd) hpre
/-- a made cell is none of the start -/
theorem Wk.apart {a b : Addr} {P : Cell → Prop} (hm : (a, true, P) ∈ L) (hlt : b < Z.heap.size) (k : a ≠ b → Wk l Z a0 EL y bytes mx ret R Q L cb sb pc Ls St) : Wk l Z a0 EL y bytes mx ret R Q L cb sb pc Ls St :=
  Wk.know (fun vm h I e => by have := (I.2.2.2.1 _ hm rfl).1; subst e; exact absurd hlt (Nat.not_lt.mpr this)) k
end Rules6
end Jvm.OwnW
namespace Jvm.Pilot.@@N@@
open Jvm Jvm.ClassFile Sem Op Lib Jvm.Free Jvm.Stand Jvm.LawKit Jvm.RoadKit Jvm.OwnW Bundle Jvm.Pilot.@@N@@.Jvm.D
abbrev EL0 : List (String × Nat) := consts_1
theorem wS {Z : State} {a0 : Array Value} (hw : ∀ d ∈ tables_1, d.before a0 Z = true) : ∀ a ∈ Bundle.stringAtoms, a.before a0 Z = true := by
  intro a ha
  simp only [Bundle.stringAtoms, Bundle.sN, List.mem_cons, List.not_mem_nil, or_false] at ha
  rcases ha with rfl | rfl | rfl | rfl | rfl | rfl | rfl
  · exact (hw _ (List.mem_of_getElem? (i := 11) rfl))
  · exact (hw _ (List.mem_of_getElem? (i := 12) rfl))
  · exact (hw _ (List.mem_of_getElem? (i := 13) rfl))
  · exact (hw _ (List.mem_of_getElem? (i := 14) rfl))
  · exact (hw _ (List.mem_of_getElem? (i := 15) rfl))
  · exact (hw _ (List.mem_of_getElem? (i := 16) rfl))
  · exact (hw _ (List.mem_of_getElem? (i := 17) rfl))
theorem d0_3 : decode jdk_52_method_21_code 3 = .ok (.iload 5, 2) := by decide +kernel
theorem d0_5 : decode jdk_52_method_21_code 5 = .ok (.iload 4, 2) := by decide +kernel
theorem d0_7 : decode jdk_52_method_21_code 7 = .ok (.if_icmp .ge 37, 3) := by decide +kernel
theorem d0_44 : decode jdk_52_method_21_code 44 = .ok (.iload 4, 2) := by decide +kernel
theorem d0_46 : decode jdk_52_method_21_code 46 = .ok (.ireturn, 1) := by decide +kernel
theorem d0_10 : decode jdk_52_method_21_code 10 = .ok (.aload_n 0, 1) := by decide +kernel
theorem d0_11 : decode jdk_52_method_21_code 11 = .ok (.iload_n 1, 1) := by decide +kernel
theorem d0_12 : decode jdk_52_method_21_code 12 = .ok (.caload, 1) := by decide +kernel
theorem d0_13 : decode jdk_52_method_21_code 13 = .ok (.istore 6, 2) := by decide +kernel
theorem d0_15 : decode jdk_52_method_21_code 15 = .ok (.iload 6, 2) := by decide +kernel
theorem d0_17 : decode jdk_52_method_21_code 17 = .ok (.sipush 255, 3) := by decide +kernel
theorem d0_20 : decode jdk_52_method_21_code 20 = .ok (.if_icmp .le 6, 3) := by decide +kernel
theorem d0_26 : decode jdk_52_method_21_code 26 = .ok (.aload_n 2, 1) := by decide +kernel
theorem d0_27 : decode jdk_52_method_21_code 27 = .ok (.iload_n 3, 1) := by decide +kernel
theorem d0_28 : decode jdk_52_method_21_code 28 = .ok (.iload 6, 2) := by decide +kernel
theorem d0_30 : decode jdk_52_method_21_code 30 = .ok (.i2b, 1) := by decide +kernel
theorem d0_31 : decode jdk_52_method_21_code 31 = .ok (.bastore, 1) := by decide +kernel
theorem d0_32 : decode jdk_52_method_21_code 32 = .ok (.iinc 1 1, 3) := by decide +kernel
theorem d0_35 : decode jdk_52_method_21_code 35 = .ok (.iinc 3 1, 3) := by decide +kernel
theorem d0_38 : decode jdk_52_method_21_code 38 = .ok (.iinc 5 1, 3) := by decide +kernel
theorem d0_41 : decode jdk_52_method_21_code 41 = .ok (.goto (-38), 3) := by decide +kernel
theorem ef_ririi_7 (m : MethodId) (x0 : Addr) (x1 : Int32) (x2 : Addr) (x3 : Int32) (x4 : Int32) : entryFrame m #[(.ref x0), (.int x1), (.ref x2), (.int x3), (.int x4)] 7 = mkF m 0 ⟨[.val (.ref x0), .val (.int x1), .val (.ref x2), .val (.int x3), .val (.int x4), .unset, .unset]⟩ [] := by exact efOf rfl
theorem pn_0 : plainName "java/lang/StringUTF16" = true := by first | (simp [plainName, overriddenIn]; done) | decide +kernel
theorem d0_0 : decode jdk_52_method_21_code 0 = .ok (.iconst 0, 1) := by decide +kernel
theorem d0_1 : decode jdk_52_method_21_code 1 = .ok (.istore 5, 2) := by decide +kernel
theorem ef_ri_2 (m : MethodId) (x0 : Addr) (x1 : Int32) : entryFrame m #[(.ref x0), (.int x1)] 2 = mkF m 0 ⟨[.val (.ref x0), .val (.int x1)]⟩ [] := by exact efOf rfl
theorem d1_0 : decode jdk_52_method_15_code 0 = .ok (.iload_n 1, 1) := by decide +kernel
theorem d1_1 : decode jdk_52_method_15_code 1 = .ok (.aload_n 0, 1) := by decide +kernel
theorem d1_2 : decode jdk_52_method_15_code 2 = .ok (.arraylength, 1) := by decide +kernel
theorem d1_3 : decode jdk_52_method_15_code 3 = .ok (.isub, 1) := by decide +kernel
theorem d1_4 : decode jdk_52_method_15_code 4 = .ok (.bipush 31, 2) := by decide +kernel
theorem d1_6 : decode jdk_52_method_15_code 6 = .ok (.iushr, 1) := by decide +kernel
theorem d1_7 : decode jdk_52_method_15_code 7 = .ok (.i2b, 1) := by decide +kernel
theorem d1_8 : decode jdk_52_method_15_code 8 = .ok (.ireturn, 1) := by decide +kernel
theorem ef_rii_6 (m : MethodId) (x0 : Addr) (x1 : Int32) (x2 : Int32) : entryFrame m #[(.ref x0), (.int x1), (.int x2)] 6 = mkF m 0 ⟨[.val (.ref x0), .val (.int x1), .val (.int x2), .unset, .unset, .unset]⟩ [] := by exact efOf rfl
theorem d2_0 : decode jdk_52_method_16_code 0 = .ok (.iload_n 2, 1) := by decide +kernel
theorem d2_1 : decode jdk_52_method_16_code 1 = .ok (.newarray .byte, 2) := by decide +kernel
theorem d2_3 : decode jdk_52_method_16_code 3 = .ok (.astore_n 3, 1) := by decide +kernel
theorem d2_4 : decode jdk_52_method_16_code 4 = .ok (.aload_n 0, 1) := by decide +kernel
theorem d2_5 : decode jdk_52_method_16_code 5 = .ok (.iload_n 1, 1) := by decide +kernel
theorem d2_6 : decode jdk_52_method_16_code 6 = .ok (.aload_n 3, 1) := by decide +kernel
theorem d2_7 : decode jdk_52_method_16_code 7 = .ok (.iconst 0, 1) := by decide +kernel
theorem d2_8 : decode jdk_52_method_16_code 8 = .ok (.iload_n 2, 1) := by decide +kernel
theorem d2_9 : decode jdk_52_method_16_code 9 = .ok (.invokestatic 115, 3) := by decide +kernel
theorem ar_0 : XT.arity "([CI[BII)I" = some 5 := by decide +kernel
theorem d2_12 : decode jdk_52_method_16_code 12 = .ok (.istore 4, 2) := by decide +kernel
theorem d2_14 : decode jdk_52_method_16_code 14 = .ok (.iload 4, 2) := by decide +kernel
theorem d2_16 : decode jdk_52_method_16_code 16 = .ok (.iload_n 2, 1) := by decide +kernel
theorem d2_17 : decode jdk_52_method_16_code 17 = .ok (.if_icmp .eq 40, 3) := by decide +kernel
theorem d2_57 : decode jdk_52_method_16_code 57 = .ok (.aload_n 3, 1) := by decide +kernel
theorem d2_58 : decode jdk_52_method_16_code 58 = .ok (.areturn, 1) := by decide +kernel
theorem ef_rriin_6 (m : MethodId) (x0 : Addr) (x1 : Addr) (x2 : Int32) (x3 : Int32) : entryFrame m #[(.ref x0), (.ref x1), (.int x2), (.int x3), .null] 6 = mkF m 0 ⟨[.val (.ref x0), .val (.ref x1), .val (.int x2), .val (.int x3), .val .null, .unset]⟩ [] := by exact efOf rfl
theorem pn_1 : plainName "java/lang/String" = true := by first | (simp [plainName, overriddenIn]; done) | decide +kernel
theorem d3_0 : decode jdk_42_method_149_code 0 = .ok (.aload_n 0, 1) := by decide +kernel
theorem d3_1 : decode jdk_42_method_149_code 1 = .ok (.invokespecial 1, 3) := by decide +kernel
theorem d3_4 : decode jdk_42_method_149_code 4 = .ok (.iload_n 3, 1) := by decide +kernel
theorem d3_5 : decode jdk_42_method_149_code 5 = .ok (.ifCond .ne 22, 3) := by decide +kernel
theorem d3_27 : decode jdk_42_method_149_code 27 = .ok (.getstatic 38, 3) := by decide +kernel
theorem d3_30 : decode jdk_42_method_149_code 30 = .ok (.ifCond .eq 28, 3) := by decide +kernel
theorem d3_33 : decode jdk_42_method_149_code 33 = .ok (.aload_n 1, 1) := by decide +kernel
theorem d3_34 : decode jdk_42_method_149_code 34 = .ok (.iload_n 2, 1) := by decide +kernel
theorem d3_35 : decode jdk_42_method_149_code 35 = .ok (.iload_n 3, 1) := by decide +kernel
theorem d3_36 : decode jdk_42_method_149_code 36 = .ok (.invokestatic 177, 3) := by decide +kernel
theorem ar_1 : XT.arity "([CII)[B" = some 3 := by decide +kernel
theorem d3_39 : decode jdk_42_method_149_code 39 = .ok (.astore 5, 2) := by decide +kernel
theorem d3_41 : decode jdk_42_method_149_code 41 = .ok (.aload_n 0, 1) := by decide +kernel
theorem d3_42 : decode jdk_42_method_149_code 42 = .ok (.aload 5, 2) := by decide +kernel
theorem d3_44 : decode jdk_42_method_149_code 44 = .ok (.iload_n 3, 1) := by decide +kernel
theorem d3_45 : decode jdk_42_method_149_code 45 = .ok (.invokestatic 47, 3) := by decide +kernel
theorem ar_2 : XT.arity "([BI)B" = some 2 := by decide +kernel
theorem d3_48 : decode jdk_42_method_149_code 48 = .ok (.putfield 15, 3) := by decide +kernel
theorem d3_51 : decode jdk_42_method_149_code 51 = .ok (.aload_n 0, 1) := by decide +kernel
theorem d3_52 : decode jdk_42_method_149_code 52 = .ok (.aload 5, 2) := by decide +kernel
theorem d3_54 : decode jdk_42_method_149_code 54 = .ok (.putfield 9, 3) := by decide +kernel
theorem d3_57 : decode jdk_42_method_149_code 57 = .ok (.return_, 1) := by decide +kernel
theorem ef_rr_2 (m : MethodId) (x0 : Addr) (x1 : Addr) : entryFrame m #[(.ref x0), (.ref x1)] 2 = mkF m 0 ⟨[.val (.ref x0), .val (.ref x1)]⟩ [] := by exact efOf rfl
theorem d4_0 : decode jdk_42_method_3_code 0 = .ok (.aload_n 0, 1) := by decide +kernel
theorem d4_1 : decode jdk_42_method_3_code 1 = .ok (.aload_n 1, 1) := by decide +kernel
theorem d4_2 : decode jdk_42_method_3_code 2 = .ok (.iconst 0, 1) := by decide +kernel
theorem d4_3 : decode jdk_42_method_3_code 3 = .ok (.aload_n 1, 1) := by decide +kernel
theorem d4_4 : decode jdk_42_method_3_code 4 = .ok (.arraylength, 1) := by decide +kernel
theorem d4_5 : decode jdk_42_method_3_code 5 = .ok (.aconst_null, 1) := by decide +kernel
theorem d4_6 : decode jdk_42_method_3_code 6 = .ok (.invokespecial 27, 3) := by decide +kernel
theorem ar_3 : XT.arity "([CIILjava/lang/Void;)V" = some 4 := by decide +kernel
theorem d4_9 : decode jdk_42_method_3_code 9 = .ok (.return_, 1) := by decide +kernel
theorem d5_9 : decode jdk_43_method_13_code 9 = .ok (.iload_n 2, 1) := by decide +kernel
theorem d5_10 : decode jdk_43_method_13_code 10 = .ok (.aload_n 0, 1) := by decide +kernel
theorem d5_11 : decode jdk_43_method_13_code 11 = .ok (.arraylength, 1) := by decide +kernel
theorem d5_12 : decode jdk_43_method_13_code 12 = .ok (.if_icmp .ge 20, 3) := by decide +kernel
theorem d5_32 : decode jdk_43_method_13_code 32 = .ok (.iconst 1, 1) := by decide +kernel
theorem d5_33 : decode jdk_43_method_13_code 33 = .ok (.ireturn, 1) := by decide +kernel
theorem d5_15 : decode jdk_43_method_13_code 15 = .ok (.aload_n 0, 1) := by decide +kernel
theorem d5_16 : decode jdk_43_method_13_code 16 = .ok (.iload_n 2, 1) := by decide +kernel
theorem d5_17 : decode jdk_43_method_13_code 17 = .ok (.baload, 1) := by decide +kernel
theorem d5_18 : decode jdk_43_method_13_code 18 = .ok (.aload_n 1, 1) := by decide +kernel
theorem d5_19 : decode jdk_43_method_13_code 19 = .ok (.iload_n 2, 1) := by decide +kernel
theorem d5_20 : decode jdk_43_method_13_code 20 = .ok (.baload, 1) := by decide +kernel
theorem d5_21 : decode jdk_43_method_13_code 21 = .ok (.if_icmp .eq 5, 3) := by decide +kernel
theorem d5_26 : decode jdk_43_method_13_code 26 = .ok (.iinc 2 1, 3) := by decide +kernel
theorem d5_29 : decode jdk_43_method_13_code 29 = .ok (.goto (-20), 3) := by decide +kernel
theorem d5_24 : decode jdk_43_method_13_code 24 = .ok (.iconst 0, 1) := by decide +kernel
theorem d5_25 : decode jdk_43_method_13_code 25 = .ok (.ireturn, 1) := by decide +kernel
theorem ef_rr_3 (m : MethodId) (x0 : Addr) (x1 : Addr) : entryFrame m #[(.ref x0), (.ref x1)] 3 = mkF m 0 ⟨[.val (.ref x0), .val (.ref x1), .unset]⟩ [] := by exact efOf rfl
theorem pn_2 : plainName "java/lang/StringLatin1" = true := by first | (simp [plainName, overriddenIn]; done) | decide +kernel
theorem d5_0 : decode jdk_43_method_13_code 0 = .ok (.aload_n 0, 1) := by decide +kernel
theorem d5_1 : decode jdk_43_method_13_code 1 = .ok (.arraylength, 1) := by decide +kernel
theorem d5_2 : decode jdk_43_method_13_code 2 = .ok (.aload_n 1, 1) := by decide +kernel
theorem d5_3 : decode jdk_43_method_13_code 3 = .ok (.arraylength, 1) := by decide +kernel
theorem d5_4 : decode jdk_43_method_13_code 4 = .ok (.if_icmp .ne 30, 3) := by decide +kernel
theorem d5_34 : decode jdk_43_method_13_code 34 = .ok (.iconst 0, 1) := by decide +kernel
theorem d5_35 : decode jdk_43_method_13_code 35 = .ok (.ireturn, 1) := by decide +kernel
theorem d5_7 : decode jdk_43_method_13_code 7 = .ok (.iconst 0, 1) := by decide +kernel
theorem d5_8 : decode jdk_43_method_13_code 8 = .ok (.istore_n 2, 1) := by decide +kernel
theorem d6_0 : decode jdk_42_method_66_code 0 = .ok (.aload_n 0, 1) := by decide +kernel
theorem d6_1 : decode jdk_42_method_66_code 1 = .ok (.aload_n 1, 1) := by decide +kernel
theorem d6_2 : decode jdk_42_method_66_code 2 = .ok (.if_acmp .ne 5, 3) := by decide +kernel
theorem d6_5 : decode jdk_42_method_66_code 5 = .ok (.iconst 1, 1) := by decide +kernel
theorem d6_6 : decode jdk_42_method_66_code 6 = .ok (.ireturn, 1) := by decide +kernel
theorem d6_7 : decode jdk_42_method_66_code 7 = .ok (.aload_n 1, 1) := by decide +kernel
theorem d6_8 : decode jdk_42_method_66_code 8 = .ok (.instanceof 10, 3) := by decide +kernel
theorem d6_11 : decode jdk_42_method_66_code 11 = .ok (.ifCond .eq 43, 3) := by decide +kernel
theorem d6_14 : decode jdk_42_method_66_code 14 = .ok (.aload_n 1, 1) := by decide +kernel
theorem d6_15 : decode jdk_42_method_66_code 15 = .ok (.checkcast 10, 3) := by decide +kernel
theorem d6_18 : decode jdk_42_method_66_code 18 = .ok (.astore_n 2, 1) := by decide +kernel
theorem d6_19 : decode jdk_42_method_66_code 19 = .ok (.getstatic 38, 3) := by decide +kernel
theorem d6_22 : decode jdk_42_method_66_code 22 = .ok (.ifCond .eq 14, 3) := by decide +kernel
theorem d6_25 : decode jdk_42_method_66_code 25 = .ok (.aload_n 0, 1) := by decide +kernel
theorem d6_26 : decode jdk_42_method_66_code 26 = .ok (.getfield 15, 3) := by decide +kernel
theorem d6_29 : decode jdk_42_method_66_code 29 = .ok (.aload_n 2, 1) := by decide +kernel
theorem d6_30 : decode jdk_42_method_66_code 30 = .ok (.getfield 15, 3) := by decide +kernel
theorem d6_33 : decode jdk_42_method_66_code 33 = .ok (.if_icmp .ne 21, 3) := by decide +kernel
theorem d6_36 : decode jdk_42_method_66_code 36 = .ok (.aload_n 0, 1) := by decide +kernel
theorem d6_37 : decode jdk_42_method_66_code 37 = .ok (.getfield 9, 3) := by decide +kernel
theorem d6_40 : decode jdk_42_method_66_code 40 = .ok (.aload_n 2, 1) := by decide +kernel
theorem d6_41 : decode jdk_42_method_66_code 41 = .ok (.getfield 9, 3) := by decide +kernel
theorem d6_44 : decode jdk_42_method_66_code 44 = .ok (.invokestatic 541, 3) := by decide +kernel
theorem ar_4 : XT.arity "([B[B)Z" = some 2 := by decide +kernel
theorem d6_47 : decode jdk_42_method_66_code 47 = .ok (.ifCond .eq 7, 3) := by decide +kernel
theorem d6_50 : decode jdk_42_method_66_code 50 = .ok (.iconst 1, 1) := by decide +kernel
theorem d6_51 : decode jdk_42_method_66_code 51 = .ok (.goto 4, 3) := by decide +kernel
theorem d6_55 : decode jdk_42_method_66_code 55 = .ok (.ireturn, 1) := by decide +kernel
theorem d6_54 : decode jdk_42_method_66_code 54 = .ok (.iconst 0, 1) := by decide +kernel
theorem ef_r_1 (m : MethodId) (x0 : Addr) : entryFrame m #[(.ref x0)] 1 = mkF m 0 ⟨[.val (.ref x0)]⟩ [] := by exact efOf rfl
theorem d7_0 : decode jdk_42_method_152_code 0 = .ok (.getstatic 38, 3) := by decide +kernel
theorem d7_3 : decode jdk_42_method_152_code 3 = .ok (.ifCond .eq 10, 3) := by decide +kernel
theorem d7_6 : decode jdk_42_method_152_code 6 = .ok (.aload_n 0, 1) := by decide +kernel
theorem d7_7 : decode jdk_42_method_152_code 7 = .ok (.getfield 15, 3) := by decide +kernel
theorem d7_10 : decode jdk_42_method_152_code 10 = .ok (.goto 4, 3) := by decide +kernel
theorem d7_14 : decode jdk_42_method_152_code 14 = .ok (.ireturn, 1) := by decide +kernel
theorem d8_0 : decode jdk_42_method_54_code 0 = .ok (.aload_n 0, 1) := by decide +kernel
theorem d8_1 : decode jdk_42_method_54_code 1 = .ok (.getfield 9, 3) := by decide +kernel
theorem d8_4 : decode jdk_42_method_54_code 4 = .ok (.arraylength, 1) := by decide +kernel
theorem d8_5 : decode jdk_42_method_54_code 5 = .ok (.aload_n 0, 1) := by decide +kernel
theorem d8_6 : decode jdk_42_method_54_code 6 = .ok (.invokevirtual 335, 3) := by decide +kernel
theorem ar_5 : XT.arity "()B" = some 0 := by decide +kernel
theorem d8_9 : decode jdk_42_method_54_code 9 = .ok (.ishr, 1) := by decide +kernel
theorem d8_10 : decode jdk_42_method_54_code 10 = .ok (.ireturn, 1) := by decide +kernel
theorem d9_0 : decode jdk_42_method_154_code 0 = .ok (.getstatic 38, 3) := by decide +kernel
theorem d9_3 : decode jdk_42_method_154_code 3 = .ok (.ifCond .eq 14, 3) := by decide +kernel
theorem d9_6 : decode jdk_42_method_154_code 6 = .ok (.aload_n 0, 1) := by decide +kernel
theorem d9_7 : decode jdk_42_method_154_code 7 = .ok (.getfield 15, 3) := by decide +kernel
theorem d9_10 : decode jdk_42_method_154_code 10 = .ok (.ifCond .ne 7, 3) := by decide +kernel
theorem d9_13 : decode jdk_42_method_154_code 13 = .ok (.iconst 1, 1) := by decide +kernel
theorem d9_14 : decode jdk_42_method_154_code 14 = .ok (.goto 4, 3) := by decide +kernel
theorem d9_18 : decode jdk_42_method_154_code 18 = .ok (.ireturn, 1) := by decide +kernel
theorem d9_17 : decode jdk_42_method_154_code 17 = .ok (.iconst 0, 1) := by decide +kernel
theorem ef_iiv_3 (m : MethodId) (x0 : Int32) (x1 : Int32) (x2 : Value) (h2 : x2.isRef = true) : entryFrame m #[(.int x0), (.int x1), x2] 3 = mkF m 0 ⟨[.val (.int x0), .val (.int x1), .val x2]⟩ [] := by rcases XT.refc h2 with rfl | ⟨_, rfl⟩ <;> exact efOf rfl
theorem pn_3 : plainName "jdk/internal/util/Preconditions" = true := by first | (simp [plainName, overriddenIn]; done) | decide +kernel
theorem d10_0 : decode jdk_41_method_11_code 0 = .ok (.iload_n 0, 1) := by decide +kernel
theorem d10_1 : decode jdk_41_method_11_code 1 = .ok (.ifCond .lt 8, 3) := by decide +kernel
theorem d10_4 : decode jdk_41_method_11_code 4 = .ok (.iload_n 0, 1) := by decide +kernel
theorem d10_5 : decode jdk_41_method_11_code 5 = .ok (.iload_n 1, 1) := by decide +kernel
theorem d10_6 : decode jdk_41_method_11_code 6 = .ok (.if_icmp .lt 10, 3) := by decide +kernel
theorem d10_16 : decode jdk_41_method_11_code 16 = .ok (.iload_n 0, 1) := by decide +kernel
theorem d10_17 : decode jdk_41_method_11_code 17 = .ok (.ireturn, 1) := by decide +kernel
theorem ef_ii_2 (m : MethodId) (x0 : Int32) (x1 : Int32) : entryFrame m #[(.int x0), (.int x1)] 2 = mkF m 0 ⟨[.val (.int x0), .val (.int x1)]⟩ [] := by exact efOf rfl
theorem d11_0 : decode jdk_42_method_155_code 0 = .ok (.iload_n 0, 1) := by decide +kernel
theorem d11_1 : decode jdk_42_method_155_code 1 = .ok (.iload_n 1, 1) := by decide +kernel
theorem d11_2 : decode jdk_42_method_155_code 2 = .ok (.getstatic 1053, 3) := by decide +kernel
theorem d11_5 : decode jdk_42_method_155_code 5 = .ok (.invokestatic 1059, 3) := by decide +kernel
theorem ar_6 : XT.arity "(IILjava/util/function/BiFunction;)I" = some 3 := by decide +kernel
theorem d11_8 : decode jdk_42_method_155_code 8 = .ok (.pop, 1) := by decide +kernel
theorem d11_9 : decode jdk_42_method_155_code 9 = .ok (.return_, 1) := by decide +kernel
theorem d12_0 : decode jdk_43_method_2_code 0 = .ok (.iload_n 1, 1) := by decide +kernel
theorem d12_1 : decode jdk_43_method_2_code 1 = .ok (.aload_n 0, 1) := by decide +kernel
theorem d12_2 : decode jdk_43_method_2_code 2 = .ok (.arraylength, 1) := by decide +kernel
theorem d12_3 : decode jdk_43_method_2_code 3 = .ok (.invokestatic 9, 3) := by decide +kernel
theorem ar_7 : XT.arity "(II)V" = some 2 := by decide +kernel
theorem d12_6 : decode jdk_43_method_2_code 6 = .ok (.aload_n 0, 1) := by decide +kernel
theorem d12_7 : decode jdk_43_method_2_code 7 = .ok (.iload_n 1, 1) := by decide +kernel
theorem d12_8 : decode jdk_43_method_2_code 8 = .ok (.baload, 1) := by decide +kernel
theorem d12_9 : decode jdk_43_method_2_code 9 = .ok (.sipush 255, 3) := by decide +kernel
theorem d12_12 : decode jdk_43_method_2_code 12 = .ok (.iand, 1) := by decide +kernel
theorem d12_13 : decode jdk_43_method_2_code 13 = .ok (.i2c, 1) := by decide +kernel
theorem d12_14 : decode jdk_43_method_2_code 14 = .ok (.ireturn, 1) := by decide +kernel
theorem d13_0 : decode jdk_42_method_56_code 0 = .ok (.aload_n 0, 1) := by decide +kernel
theorem d13_1 : decode jdk_42_method_56_code 1 = .ok (.invokevirtual 492, 3) := by decide +kernel
theorem ar_8 : XT.arity "()Z" = some 0 := by decide +kernel
theorem d13_4 : decode jdk_42_method_56_code 4 = .ok (.ifCond .eq 12, 3) := by decide +kernel
theorem d13_7 : decode jdk_42_method_56_code 7 = .ok (.aload_n 0, 1) := by decide +kernel
theorem d13_8 : decode jdk_42_method_56_code 8 = .ok (.getfield 9, 3) := by decide +kernel
theorem d13_11 : decode jdk_42_method_56_code 11 = .ok (.iload_n 1, 1) := by decide +kernel
theorem d13_12 : decode jdk_42_method_56_code 12 = .ok (.invokestatic 495, 3) := by decide +kernel
theorem ar_9 : XT.arity "([BI)C" = some 2 := by decide +kernel
theorem d13_15 : decode jdk_42_method_56_code 15 = .ok (.ireturn, 1) := by decide +kernel
theorem pn_4 : plainFor (⟨"java/lang/Math", "min", "(II)I"⟩ : MethodName) = true := by exact Jvm.Free.JP.mathPlain rfl (by decide +kernel)
theorem d14_0 : decode jdk_29_method_69_code 0 = .ok (.iload_n 0, 1) := by decide +kernel
theorem d14_1 : decode jdk_29_method_69_code 1 = .ok (.iload_n 1, 1) := by decide +kernel
theorem d14_2 : decode jdk_29_method_69_code 2 = .ok (.if_icmp .gt 7, 3) := by decide +kernel
theorem d14_9 : decode jdk_29_method_69_code 9 = .ok (.iload_n 1, 1) := by decide +kernel
theorem d14_10 : decode jdk_29_method_69_code 10 = .ok (.ireturn, 1) := by decide +kernel
theorem d14_5 : decode jdk_29_method_69_code 5 = .ok (.iload_n 0, 1) := by decide +kernel
theorem d14_6 : decode jdk_29_method_69_code 6 = .ok (.goto 4, 3) := by decide +kernel
theorem pn_5 : plainName "java/util/Arrays" = true := by first | (simp [plainName, overriddenIn]; done) | decide +kernel
theorem d15_0 : decode jdk_65_method_131_code 0 = .ok (.iload_n 1, 1) := by decide +kernel
theorem d15_1 : decode jdk_65_method_131_code 1 = .ok (.iload_n 0, 1) := by decide +kernel
theorem d15_2 : decode jdk_65_method_131_code 2 = .ok (.if_icmp .ge 35, 3) := by decide +kernel
theorem d15_37 : decode jdk_65_method_131_code 37 = .ok (.return_, 1) := by decide +kernel
theorem ef_rii_5 (m : MethodId) (x0 : Addr) (x1 : Int32) (x2 : Int32) : entryFrame m #[(.ref x0), (.int x1), (.int x2)] 5 = mkF m 0 ⟨[.val (.ref x0), .val (.int x1), .val (.int x2), .unset, .unset]⟩ [] := by exact efOf rfl
theorem d16_0 : decode jdk_65_method_133_code 0 = .ok (.iload_n 1, 1) := by decide +kernel
theorem d16_1 : decode jdk_65_method_133_code 1 = .ok (.iload_n 2, 1) := by decide +kernel
theorem d16_2 : decode jdk_65_method_133_code 2 = .ok (.invokestatic 343, 3) := by decide +kernel
theorem d16_5 : decode jdk_65_method_133_code 5 = .ok (.iload_n 2, 1) := by decide +kernel
theorem d16_6 : decode jdk_65_method_133_code 6 = .ok (.iload_n 1, 1) := by decide +kernel
theorem d16_7 : decode jdk_65_method_133_code 7 = .ok (.isub, 1) := by decide +kernel
theorem d16_8 : decode jdk_65_method_133_code 8 = .ok (.istore_n 3, 1) := by decide +kernel
theorem d16_9 : decode jdk_65_method_133_code 9 = .ok (.iload_n 3, 1) := by decide +kernel
theorem d16_10 : decode jdk_65_method_133_code 10 = .ok (.newarray .byte, 2) := by decide +kernel
theorem d16_12 : decode jdk_65_method_133_code 12 = .ok (.astore 4, 2) := by decide +kernel
theorem d16_14 : decode jdk_65_method_133_code 14 = .ok (.aload_n 0, 1) := by decide +kernel
theorem d16_15 : decode jdk_65_method_133_code 15 = .ok (.iload_n 1, 1) := by decide +kernel
theorem d16_16 : decode jdk_65_method_133_code 16 = .ok (.aload 4, 2) := by decide +kernel
theorem d16_18 : decode jdk_65_method_133_code 18 = .ok (.iconst 0, 1) := by decide +kernel
theorem d16_19 : decode jdk_65_method_133_code 19 = .ok (.aload_n 0, 1) := by decide +kernel
theorem d16_20 : decode jdk_65_method_133_code 20 = .ok (.arraylength, 1) := by decide +kernel
theorem d16_21 : decode jdk_65_method_133_code 21 = .ok (.iload_n 1, 1) := by decide +kernel
theorem d16_22 : decode jdk_65_method_133_code 22 = .ok (.isub, 1) := by decide +kernel
theorem d16_23 : decode jdk_65_method_133_code 23 = .ok (.iload_n 3, 1) := by decide +kernel
theorem d16_24 : decode jdk_65_method_133_code 24 = .ok (.invokestatic 304, 3) := by decide +kernel
theorem ar_10 : XT.arity "(II)I" = some 2 := by decide +kernel
theorem d16_27 : decode jdk_65_method_133_code 27 = .ok (.invokestatic 150, 3) := by decide +kernel
theorem d16_30 : decode jdk_65_method_133_code 30 = .ok (.aload 4, 2) := by decide +kernel
theorem d16_32 : decode jdk_65_method_133_code 32 = .ok (.areturn, 1) := by decide +kernel
theorem ef_rii_3 (m : MethodId) (x0 : Addr) (x1 : Int32) (x2 : Int32) : entryFrame m #[(.ref x0), (.int x1), (.int x2)] 3 = mkF m 0 ⟨[.val (.ref x0), .val (.int x1), .val (.int x2)]⟩ [] := by exact efOf rfl
theorem d17_0 : decode jdk_65_method_132_code 0 = .ok (.iload_n 1, 1) := by decide +kernel
theorem d17_1 : decode jdk_65_method_132_code 1 = .ok (.ifCond .ne 9, 3) := by decide +kernel
theorem d17_10 : decode jdk_65_method_132_code 10 = .ok (.aload_n 0, 1) := by decide +kernel
theorem d17_11 : decode jdk_65_method_132_code 11 = .ok (.iload_n 1, 1) := by decide +kernel
theorem d17_12 : decode jdk_65_method_132_code 12 = .ok (.iload_n 2, 1) := by decide +kernel
theorem d17_13 : decode jdk_65_method_132_code 13 = .ok (.invokestatic 339, 3) := by decide +kernel
theorem ar_11 : XT.arity "([BII)[B" = some 3 := by decide +kernel
theorem d17_16 : decode jdk_65_method_132_code 16 = .ok (.areturn, 1) := by decide +kernel
theorem ef_rri_3 (m : MethodId) (x0 : Addr) (x1 : Addr) (x2 : Int32) : entryFrame m #[(.ref x0), (.ref x1), (.int x2)] 3 = mkF m 0 ⟨[.val (.ref x0), .val (.ref x1), .val (.int x2)]⟩ [] := by exact efOf rfl
theorem d18_0 : decode jdk_42_method_151_code 0 = .ok (.aload_n 0, 1) := by decide +kernel
theorem d18_1 : decode jdk_42_method_151_code 1 = .ok (.invokespecial 1, 3) := by decide +kernel
theorem d18_4 : decode jdk_42_method_151_code 4 = .ok (.aload_n 0, 1) := by decide +kernel
theorem d18_5 : decode jdk_42_method_151_code 5 = .ok (.aload_n 1, 1) := by decide +kernel
theorem d18_6 : decode jdk_42_method_151_code 6 = .ok (.putfield 9, 3) := by decide +kernel
theorem d18_9 : decode jdk_42_method_151_code 9 = .ok (.aload_n 0, 1) := by decide +kernel
theorem d18_10 : decode jdk_42_method_151_code 10 = .ok (.iload_n 2, 1) := by decide +kernel
theorem d18_11 : decode jdk_42_method_151_code 11 = .ok (.putfield 15, 3) := by decide +kernel
theorem d18_14 : decode jdk_42_method_151_code 14 = .ok (.return_, 1) := by decide +kernel
theorem ef_i_1 (m : MethodId) (x0 : Int32) : entryFrame m #[(.int x0)] 1 = mkF m 0 ⟨[.val (.int x0)]⟩ [] := by exact efOf rfl
theorem d19_0 : decode jdk_43_method_3_code 0 = .ok (.iload_n 0, 1) := by decide +kernel
theorem d19_1 : decode jdk_43_method_3_code 1 = .ok (.sipush 255, 3) := by decide +kernel
theorem d19_4 : decode jdk_43_method_3_code 4 = .ok (.if_icmp .gt 7, 3) := by decide +kernel
theorem d19_7 : decode jdk_43_method_3_code 7 = .ok (.iconst 1, 1) := by decide +kernel
theorem d19_8 : decode jdk_43_method_3_code 8 = .ok (.goto 4, 3) := by decide +kernel
theorem d19_12 : decode jdk_43_method_3_code 12 = .ok (.ireturn, 1) := by decide +kernel
theorem d20_0 : decode jdk_43_method_46_code 0 = .ok (.iconst 1, 1) := by decide +kernel
theorem d20_1 : decode jdk_43_method_46_code 1 = .ok (.newarray .byte, 2) := by decide +kernel
theorem d20_3 : decode jdk_43_method_46_code 3 = .ok (.dup, 1) := by decide +kernel
theorem d20_4 : decode jdk_43_method_46_code 4 = .ok (.iconst 0, 1) := by decide +kernel
theorem d20_5 : decode jdk_43_method_46_code 5 = .ok (.iload_n 0, 1) := by decide +kernel
theorem d20_6 : decode jdk_43_method_46_code 6 = .ok (.i2b, 1) := by decide +kernel
theorem d20_7 : decode jdk_43_method_46_code 7 = .ok (.bastore, 1) := by decide +kernel
theorem d20_8 : decode jdk_43_method_46_code 8 = .ok (.areturn, 1) := by decide +kernel
theorem d21_0 : decode jdk_42_method_139_code 0 = .ok (.getstatic 38, 3) := by decide +kernel
theorem d21_3 : decode jdk_42_method_139_code 3 = .ok (.ifCond .eq 23, 3) := by decide +kernel
theorem d21_6 : decode jdk_42_method_139_code 6 = .ok (.iload_n 0, 1) := by decide +kernel
theorem d21_7 : decode jdk_42_method_139_code 7 = .ok (.invokestatic 1015, 3) := by decide +kernel
theorem ar_12 : XT.arity "(C)Z" = some 1 := by decide +kernel
theorem d21_10 : decode jdk_42_method_139_code 10 = .ok (.ifCond .eq 16, 3) := by decide +kernel
theorem d21_13 : decode jdk_42_method_139_code 13 = .ok (.new 10, 3) := by decide +kernel
theorem d21_16 : decode jdk_42_method_139_code 16 = .ok (.dup, 1) := by decide +kernel
theorem d21_17 : decode jdk_42_method_139_code 17 = .ok (.iload_n 0, 1) := by decide +kernel
theorem d21_18 : decode jdk_42_method_139_code 18 = .ok (.invokestatic 1018, 3) := by decide +kernel
theorem ar_13 : XT.arity "(C)[B" = some 1 := by decide +kernel
theorem d21_21 : decode jdk_42_method_139_code 21 = .ok (.iconst 0, 1) := by decide +kernel
theorem d21_22 : decode jdk_42_method_139_code 22 = .ok (.invokespecial 209, 3) := by decide +kernel
theorem ar_14 : XT.arity "([BB)V" = some 2 := by decide +kernel
theorem d21_25 : decode jdk_42_method_139_code 25 = .ok (.areturn, 1) := by decide +kernel
theorem pn_6 : plainName "java/lang/AbstractStringBuilder" = true := by first | (simp [plainName, overriddenIn]; done) | decide +kernel
theorem d22_0 : decode jdk_68_method_2_code 0 = .ok (.aload_n 0, 1) := by decide +kernel
theorem d22_1 : decode jdk_68_method_2_code 1 = .ok (.invokespecial 3, 3) := by decide +kernel
theorem d22_4 : decode jdk_68_method_2_code 4 = .ok (.getstatic 18, 3) := by decide +kernel
theorem d22_7 : decode jdk_68_method_2_code 7 = .ok (.ifCond .eq 18, 3) := by decide +kernel
theorem d22_10 : decode jdk_68_method_2_code 10 = .ok (.aload_n 0, 1) := by decide +kernel
theorem d22_11 : decode jdk_68_method_2_code 11 = .ok (.iload_n 1, 1) := by decide +kernel
theorem d22_12 : decode jdk_68_method_2_code 12 = .ok (.newarray .byte, 2) := by decide +kernel
theorem d22_14 : decode jdk_68_method_2_code 14 = .ok (.putfield 15, 3) := by decide +kernel
theorem d22_17 : decode jdk_68_method_2_code 17 = .ok (.aload_n 0, 1) := by decide +kernel
theorem d22_18 : decode jdk_68_method_2_code 18 = .ok (.iconst 0, 1) := by decide +kernel
theorem d22_19 : decode jdk_68_method_2_code 19 = .ok (.putfield 22, 3) := by decide +kernel
theorem d22_22 : decode jdk_68_method_2_code 22 = .ok (.goto 16, 3) := by decide +kernel
theorem d22_38 : decode jdk_68_method_2_code 38 = .ok (.return_, 1) := by decide +kernel
theorem pn_7 : plainName "java/lang/StringBuilder" = true := by first | (simp [plainName, overriddenIn]; done) | decide +kernel
theorem d23_0 : decode jdk_67_method_1_code 0 = .ok (.aload_n 0, 1) := by decide +kernel
theorem d23_1 : decode jdk_67_method_1_code 1 = .ok (.bipush 16, 2) := by decide +kernel
theorem d23_3 : decode jdk_67_method_1_code 3 = .ok (.invokespecial 1, 3) := by decide +kernel
theorem ar_15 : XT.arity "(I)V" = some 1 := by decide +kernel
theorem d23_6 : decode jdk_67_method_1_code 6 = .ok (.return_, 1) := by decide +kernel
theorem ef_ri_3 (m : MethodId) (x0 : Addr) (x1 : Int32) : entryFrame m #[(.ref x0), (.int x1)] 3 = mkF m 0 ⟨[.val (.ref x0), .val (.int x1), .unset]⟩ [] := by exact efOf rfl
theorem d24_0 : decode jdk_68_method_9_code 0 = .ok (.aload_n 0, 1) := by decide +kernel
theorem d24_1 : decode jdk_68_method_9_code 1 = .ok (.getfield 15, 3) := by decide +kernel
theorem d24_4 : decode jdk_68_method_9_code 4 = .ok (.arraylength, 1) := by decide +kernel
theorem d24_5 : decode jdk_68_method_9_code 5 = .ok (.aload_n 0, 1) := by decide +kernel
theorem d24_6 : decode jdk_68_method_9_code 6 = .ok (.getfield 22, 3) := by decide +kernel
theorem d24_9 : decode jdk_68_method_9_code 9 = .ok (.ishr, 1) := by decide +kernel
theorem d24_10 : decode jdk_68_method_9_code 10 = .ok (.istore_n 2, 1) := by decide +kernel
theorem d24_11 : decode jdk_68_method_9_code 11 = .ok (.iload_n 1, 1) := by decide +kernel
theorem d24_12 : decode jdk_68_method_9_code 12 = .ok (.iload_n 2, 1) := by decide +kernel
theorem d24_13 : decode jdk_68_method_9_code 13 = .ok (.isub, 1) := by decide +kernel
theorem d24_14 : decode jdk_68_method_9_code 14 = .ok (.ifCond .le 24, 3) := by decide +kernel
theorem d24_38 : decode jdk_68_method_9_code 38 = .ok (.return_, 1) := by decide +kernel
theorem d25_0 : decode jdk_68_method_71_code 0 = .ok (.getstatic 18, 3) := by decide +kernel
theorem d25_3 : decode jdk_68_method_71_code 3 = .ok (.ifCond .eq 18, 3) := by decide +kernel
theorem d25_6 : decode jdk_68_method_71_code 6 = .ok (.aload_n 0, 1) := by decide +kernel
theorem d25_7 : decode jdk_68_method_71_code 7 = .ok (.getfield 22, 3) := by decide +kernel
theorem d25_10 : decode jdk_68_method_71_code 10 = .ok (.aload_n 1, 1) := by decide +kernel
theorem d25_11 : decode jdk_68_method_71_code 11 = .ok (.invokevirtual 40, 3) := by decide +kernel
theorem d25_14 : decode jdk_68_method_71_code 14 = .ok (.if_icmp .eq 7, 3) := by decide +kernel
theorem d25_21 : decode jdk_68_method_71_code 21 = .ok (.return_, 1) := by decide +kernel
theorem ef_rrii_4 (m : MethodId) (x0 : Addr) (x1 : Addr) (x2 : Int32) (x3 : Int32) : entryFrame m #[(.ref x0), (.ref x1), (.int x2), (.int x3)] 4 = mkF m 0 ⟨[.val (.ref x0), .val (.ref x1), .val (.int x2), .val (.int x3)]⟩ [] := by exact efOf rfl
theorem d26_0 : decode jdk_42_method_147_code 0 = .ok (.aload_n 0, 1) := by decide +kernel
theorem d26_1 : decode jdk_42_method_147_code 1 = .ok (.invokevirtual 335, 3) := by decide +kernel
theorem d26_4 : decode jdk_42_method_147_code 4 = .ok (.iload_n 3, 1) := by decide +kernel
theorem d26_5 : decode jdk_42_method_147_code 5 = .ok (.if_icmp .ne 23, 3) := by decide +kernel
theorem d26_8 : decode jdk_42_method_147_code 8 = .ok (.aload_n 0, 1) := by decide +kernel
theorem d26_9 : decode jdk_42_method_147_code 9 = .ok (.getfield 9, 3) := by decide +kernel
theorem d26_12 : decode jdk_42_method_147_code 12 = .ok (.iconst 0, 1) := by decide +kernel
theorem d26_13 : decode jdk_42_method_147_code 13 = .ok (.aload_n 1, 1) := by decide +kernel
theorem d26_14 : decode jdk_42_method_147_code 14 = .ok (.iload_n 2, 1) := by decide +kernel
theorem d26_15 : decode jdk_42_method_147_code 15 = .ok (.iload_n 3, 1) := by decide +kernel
theorem d26_16 : decode jdk_42_method_147_code 16 = .ok (.ishl, 1) := by decide +kernel
theorem d26_17 : decode jdk_42_method_147_code 17 = .ok (.aload_n 0, 1) := by decide +kernel
theorem d26_18 : decode jdk_42_method_147_code 18 = .ok (.getfield 9, 3) := by decide +kernel
theorem d26_21 : decode jdk_42_method_147_code 21 = .ok (.arraylength, 1) := by decide +kernel
theorem d26_22 : decode jdk_42_method_147_code 22 = .ok (.invokestatic 212, 3) := by decide +kernel
theorem d26_25 : decode jdk_42_method_147_code 25 = .ok (.goto 18, 3) := by decide +kernel
theorem d26_43 : decode jdk_42_method_147_code 43 = .ok (.return_, 1) := by decide +kernel
theorem ef_rir_3 (m : MethodId) (x0 : Addr) (x1 : Int32) (x2 : Addr) : entryFrame m #[(.ref x0), (.int x1), (.ref x2)] 3 = mkF m 0 ⟨[.val (.ref x0), .val (.int x1), .val (.ref x2)]⟩ [] := by exact efOf rfl
theorem d27_0 : decode jdk_68_method_73_code 0 = .ok (.aload_n 0, 1) := by decide +kernel
theorem d27_1 : decode jdk_68_method_73_code 1 = .ok (.aload_n 2, 1) := by decide +kernel
theorem d27_2 : decode jdk_68_method_73_code 2 = .ok (.invokevirtual 397, 3) := by decide +kernel
theorem ar_16 : XT.arity "(Ljava/lang/String;)V" = some 1 := by decide +kernel
theorem d27_5 : decode jdk_68_method_73_code 5 = .ok (.aload_n 2, 1) := by decide +kernel
theorem d27_6 : decode jdk_68_method_73_code 6 = .ok (.aload_n 0, 1) := by decide +kernel
theorem d27_7 : decode jdk_68_method_73_code 7 = .ok (.getfield 15, 3) := by decide +kernel
theorem d27_10 : decode jdk_68_method_73_code 10 = .ok (.iload_n 1, 1) := by decide +kernel
theorem d27_11 : decode jdk_68_method_73_code 11 = .ok (.aload_n 0, 1) := by decide +kernel
theorem d27_12 : decode jdk_68_method_73_code 12 = .ok (.getfield 22, 3) := by decide +kernel
theorem d27_15 : decode jdk_68_method_73_code 15 = .ok (.invokevirtual 399, 3) := by decide +kernel
theorem ar_17 : XT.arity "([BIB)V" = some 3 := by decide +kernel
theorem d27_18 : decode jdk_68_method_73_code 18 = .ok (.return_, 1) := by decide +kernel
theorem d28_0 : decode jdk_68_method_22_code 0 = .ok (.aload_n 1, 1) := by decide +kernel
theorem d28_1 : decode jdk_68_method_22_code 1 = .ok (.ifnonnull 8, 3) := by decide +kernel
theorem d28_9 : decode jdk_68_method_22_code 9 = .ok (.aload_n 1, 1) := by decide +kernel
theorem d28_10 : decode jdk_68_method_22_code 10 = .ok (.invokevirtual 32, 3) := by decide +kernel
theorem ar_18 : XT.arity "()I" = some 0 := by decide +kernel
theorem d28_13 : decode jdk_68_method_22_code 13 = .ok (.istore_n 2, 1) := by decide +kernel
theorem d28_14 : decode jdk_68_method_22_code 14 = .ok (.aload_n 0, 1) := by decide +kernel
theorem d28_15 : decode jdk_68_method_22_code 15 = .ok (.aload_n 0, 1) := by decide +kernel
theorem d28_16 : decode jdk_68_method_22_code 16 = .ok (.getfield 79, 3) := by decide +kernel
theorem d28_19 : decode jdk_68_method_22_code 19 = .ok (.iload_n 2, 1) := by decide +kernel
theorem d28_20 : decode jdk_68_method_22_code 20 = .ok (.iadd, 1) := by decide +kernel
theorem d28_21 : decode jdk_68_method_22_code 21 = .ok (.invokevirtual 100, 3) := by decide +kernel
theorem d28_24 : decode jdk_68_method_22_code 24 = .ok (.aload_n 0, 1) := by decide +kernel
theorem d28_25 : decode jdk_68_method_22_code 25 = .ok (.aload_n 0, 1) := by decide +kernel
theorem d28_26 : decode jdk_68_method_22_code 26 = .ok (.getfield 79, 3) := by decide +kernel
theorem d28_29 : decode jdk_68_method_22_code 29 = .ok (.aload_n 1, 1) := by decide +kernel
theorem d28_30 : decode jdk_68_method_22_code 30 = .ok (.invokevirtual 208, 3) := by decide +kernel
theorem ar_19 : XT.arity "(ILjava/lang/String;)V" = some 2 := by decide +kernel
theorem d28_33 : decode jdk_68_method_22_code 33 = .ok (.aload_n 0, 1) := by decide +kernel
theorem d28_34 : decode jdk_68_method_22_code 34 = .ok (.dup, 1) := by decide +kernel
theorem d28_35 : decode jdk_68_method_22_code 35 = .ok (.getfield 79, 3) := by decide +kernel
theorem d28_38 : decode jdk_68_method_22_code 38 = .ok (.iload_n 2, 1) := by decide +kernel
theorem d28_39 : decode jdk_68_method_22_code 39 = .ok (.iadd, 1) := by decide +kernel
theorem d28_40 : decode jdk_68_method_22_code 40 = .ok (.putfield 79, 3) := by decide +kernel
theorem d28_43 : decode jdk_68_method_22_code 43 = .ok (.aload_n 0, 1) := by decide +kernel
theorem d28_44 : decode jdk_68_method_22_code 44 = .ok (.areturn, 1) := by decide +kernel
theorem d29_0 : decode jdk_67_method_7_code 0 = .ok (.aload_n 0, 1) := by decide +kernel
theorem d29_1 : decode jdk_67_method_7_code 1 = .ok (.aload_n 1, 1) := by decide +kernel
theorem d29_2 : decode jdk_67_method_7_code 2 = .ok (.invokespecial 29, 3) := by decide +kernel
theorem ar_20 : XT.arity "(Ljava/lang/String;)Ljava/lang/AbstractStringBuilder;" = some 1 := by decide +kernel
theorem d29_5 : decode jdk_67_method_7_code 5 = .ok (.pop, 1) := by decide +kernel
theorem d29_6 : decode jdk_67_method_7_code 6 = .ok (.aload_n 0, 1) := by decide +kernel
theorem d29_7 : decode jdk_67_method_7_code 7 = .ok (.areturn, 1) := by decide +kernel
theorem d30_0 : decode jdk_68_method_64_code 0 = .ok (.aload_n 0, 1) := by decide +kernel
theorem d30_1 : decode jdk_68_method_64_code 1 = .ok (.getfield 15, 3) := by decide +kernel
theorem d30_4 : decode jdk_68_method_64_code 4 = .ok (.areturn, 1) := by decide +kernel
theorem d31_0 : decode jdk_68_method_6_code 0 = .ok (.aload_n 0, 1) := by decide +kernel
theorem d31_1 : decode jdk_68_method_6_code 1 = .ok (.getfield 79, 3) := by decide +kernel
theorem d31_4 : decode jdk_68_method_6_code 4 = .ok (.ireturn, 1) := by decide +kernel
theorem d32_0 : decode jdk_67_method_93_code 0 = .ok (.aload_n 0, 1) := by decide +kernel
theorem d32_1 : decode jdk_67_method_93_code 1 = .ok (.invokespecial 343, 3) := by decide +kernel
theorem d32_4 : decode jdk_67_method_93_code 4 = .ok (.ireturn, 1) := by decide +kernel
theorem d33_0 : decode jdk_68_method_68_code 0 = .ok (.getstatic 18, 3) := by decide +kernel
theorem d33_3 : decode jdk_68_method_68_code 3 = .ok (.ifCond .eq 14, 3) := by decide +kernel
theorem d33_6 : decode jdk_68_method_68_code 6 = .ok (.aload_n 0, 1) := by decide +kernel
theorem d33_7 : decode jdk_68_method_68_code 7 = .ok (.getfield 22, 3) := by decide +kernel
theorem d33_10 : decode jdk_68_method_68_code 10 = .ok (.ifCond .ne 7, 3) := by decide +kernel
theorem d33_13 : decode jdk_68_method_68_code 13 = .ok (.iconst 1, 1) := by decide +kernel
theorem d33_14 : decode jdk_68_method_68_code 14 = .ok (.goto 4, 3) := by decide +kernel
theorem d33_18 : decode jdk_68_method_68_code 18 = .ok (.ireturn, 1) := by decide +kernel
theorem d17_4 : decode jdk_65_method_132_code 4 = .ok (.iload_n 2, 1) := by decide +kernel
theorem d17_5 : decode jdk_65_method_132_code 5 = .ok (.aload_n 0, 1) := by decide +kernel
theorem d17_6 : decode jdk_65_method_132_code 6 = .ok (.arraylength, 1) := by decide +kernel
theorem d17_7 : decode jdk_65_method_132_code 7 = .ok (.if_icmp .eq 10, 3) := by decide +kernel
theorem ef_rrn_5 (m : MethodId) (x0 : Addr) (x1 : Addr) : entryFrame m #[(.ref x0), (.ref x1), .null] 5 = mkF m 0 ⟨[.val (.ref x0), .val (.ref x1), .val .null, .unset, .unset]⟩ [] := by exact efOf rfl
theorem d34_0 : decode jdk_42_method_150_code 0 = .ok (.aload_n 0, 1) := by decide +kernel
theorem d34_1 : decode jdk_42_method_150_code 1 = .ok (.invokespecial 1, 3) := by decide +kernel
theorem d34_4 : decode jdk_42_method_150_code 4 = .ok (.aload_n 1, 1) := by decide +kernel
theorem d34_5 : decode jdk_42_method_150_code 5 = .ok (.invokevirtual 552, 3) := by decide +kernel
theorem ar_21 : XT.arity "()[B" = some 0 := by decide +kernel
theorem d34_8 : decode jdk_42_method_150_code 8 = .ok (.astore_n 3, 1) := by decide +kernel
theorem d34_9 : decode jdk_42_method_150_code 9 = .ok (.aload_n 1, 1) := by decide +kernel
theorem d34_10 : decode jdk_42_method_150_code 10 = .ok (.invokevirtual 549, 3) := by decide +kernel
theorem d34_13 : decode jdk_42_method_150_code 13 = .ok (.istore 4, 2) := by decide +kernel
theorem d34_15 : decode jdk_42_method_150_code 15 = .ok (.aload_n 1, 1) := by decide +kernel
theorem d34_16 : decode jdk_42_method_150_code 16 = .ok (.invokevirtual 1047, 3) := by decide +kernel
theorem d34_19 : decode jdk_42_method_150_code 19 = .ok (.ifCond .eq 22, 3) := by decide +kernel
theorem d34_22 : decode jdk_42_method_150_code 22 = .ok (.aload_n 0, 1) := by decide +kernel
theorem d34_23 : decode jdk_42_method_150_code 23 = .ok (.iconst 0, 1) := by decide +kernel
theorem d34_24 : decode jdk_42_method_150_code 24 = .ok (.putfield 15, 3) := by decide +kernel
theorem d34_27 : decode jdk_42_method_150_code 27 = .ok (.aload_n 0, 1) := by decide +kernel
theorem d34_28 : decode jdk_42_method_150_code 28 = .ok (.aload_n 3, 1) := by decide +kernel
theorem d34_29 : decode jdk_42_method_150_code 29 = .ok (.iconst 0, 1) := by decide +kernel
theorem d34_30 : decode jdk_42_method_150_code 30 = .ok (.iload 4, 2) := by decide +kernel
theorem d34_32 : decode jdk_42_method_150_code 32 = .ok (.invokestatic 54, 3) := by decide +kernel
theorem d34_35 : decode jdk_42_method_150_code 35 = .ok (.putfield 9, 3) := by decide +kernel
theorem d34_38 : decode jdk_42_method_150_code 38 = .ok (.goto 59, 3) := by decide +kernel
theorem d34_97 : decode jdk_42_method_150_code 97 = .ok (.return_, 1) := by decide +kernel
theorem d35_0 : decode jdk_42_method_53_code 0 = .ok (.aload_n 0, 1) := by decide +kernel
theorem d35_1 : decode jdk_42_method_53_code 1 = .ok (.aload_n 1, 1) := by decide +kernel
theorem d35_2 : decode jdk_42_method_53_code 2 = .ok (.aconst_null, 1) := by decide +kernel
theorem d35_3 : decode jdk_42_method_53_code 3 = .ok (.invokespecial 489, 3) := by decide +kernel
theorem ar_22 : XT.arity "(Ljava/lang/AbstractStringBuilder;Ljava/lang/Void;)V" = some 2 := by decide +kernel
theorem d35_6 : decode jdk_42_method_53_code 6 = .ok (.return_, 1) := by decide +kernel
theorem d36_0 : decode jdk_67_method_42_code 0 = .ok (.new 18, 3) := by decide +kernel
theorem d36_3 : decode jdk_67_method_42_code 3 = .ok (.dup, 1) := by decide +kernel
theorem d36_4 : decode jdk_67_method_42_code 4 = .ok (.aload_n 0, 1) := by decide +kernel
theorem d36_5 : decode jdk_67_method_42_code 5 = .ok (.invokespecial 137, 3) := by decide +kernel
theorem ar_23 : XT.arity "(Ljava/lang/StringBuilder;)V" = some 1 := by decide +kernel
theorem d36_8 : decode jdk_67_method_42_code 8 = .ok (.areturn, 1) := by decide +kernel
theorem d37_0 : decode jdk_42_method_55_code 0 = .ok (.aload_n 0, 1) := by decide +kernel
theorem d37_1 : decode jdk_42_method_55_code 1 = .ok (.getfield 9, 3) := by decide +kernel
theorem d37_4 : decode jdk_42_method_55_code 4 = .ok (.arraylength, 1) := by decide +kernel
theorem d37_5 : decode jdk_42_method_55_code 5 = .ok (.ifCond .ne 7, 3) := by decide +kernel
theorem d37_12 : decode jdk_42_method_55_code 12 = .ok (.iconst 0, 1) := by decide +kernel
theorem d37_13 : decode jdk_42_method_55_code 13 = .ok (.ireturn, 1) := by decide +kernel
theorem pn_8 : plainName "java/util/Objects" = true := by first | (simp [plainName, overriddenIn]; done) | decide +kernel
theorem d38_0 : decode jdk_31_method_11_code 0 = .ok (.aload_n 0, 1) := by decide +kernel
theorem d38_1 : decode jdk_31_method_11_code 1 = .ok (.ifnonnull 12, 3) := by decide +kernel
theorem d38_13 : decode jdk_31_method_11_code 13 = .ok (.aload_n 0, 1) := by decide +kernel
theorem d38_14 : decode jdk_31_method_11_code 14 = .ok (.areturn, 1) := by decide +kernel
theorem pn_9 : plainName "com/example/dekree/dekree/QualifiedName" = true := by first | (simp [plainName, overriddenIn]; done) | decide +kernel
theorem d39_54 : decode prog_7_method_10_code 54 = .ok (.iconst 1, 1) := by decide +kernel
theorem d39_55 : decode prog_7_method_10_code 55 = .ok (.goto 4, 3) := by decide +kernel
theorem d39_59 : decode prog_7_method_10_code 59 = .ok (.ireturn, 1) := by decide +kernel
theorem d39_0 : decode prog_7_method_10_code 0 = .ok (.iload_n 0, 1) := by decide +kernel
theorem d39_1 : decode prog_7_method_10_code 1 = .ok (.bipush 97, 2) := by decide +kernel
theorem d39_3 : decode prog_7_method_10_code 3 = .ok (.if_icmp .lt 9, 3) := by decide +kernel
theorem d39_6 : decode prog_7_method_10_code 6 = .ok (.iload_n 0, 1) := by decide +kernel
theorem d39_7 : decode prog_7_method_10_code 7 = .ok (.bipush 122, 2) := by decide +kernel
theorem d39_9 : decode prog_7_method_10_code 9 = .ok (.if_icmp .le 45, 3) := by decide +kernel
theorem d39_12 : decode prog_7_method_10_code 12 = .ok (.iload_n 0, 1) := by decide +kernel
theorem d39_13 : decode prog_7_method_10_code 13 = .ok (.bipush 65, 2) := by decide +kernel
theorem d39_15 : decode prog_7_method_10_code 15 = .ok (.if_icmp .lt 9, 3) := by decide +kernel
theorem d39_18 : decode prog_7_method_10_code 18 = .ok (.iload_n 0, 1) := by decide +kernel
theorem d39_19 : decode prog_7_method_10_code 19 = .ok (.bipush 90, 2) := by decide +kernel
theorem d39_21 : decode prog_7_method_10_code 21 = .ok (.if_icmp .le 33, 3) := by decide +kernel
theorem d39_24 : decode prog_7_method_10_code 24 = .ok (.iload_n 0, 1) := by decide +kernel
theorem d39_25 : decode prog_7_method_10_code 25 = .ok (.bipush 48, 2) := by decide +kernel
theorem d39_27 : decode prog_7_method_10_code 27 = .ok (.if_icmp .lt 9, 3) := by decide +kernel
theorem d39_30 : decode prog_7_method_10_code 30 = .ok (.iload_n 0, 1) := by decide +kernel
theorem d39_31 : decode prog_7_method_10_code 31 = .ok (.bipush 57, 2) := by decide +kernel
theorem d39_33 : decode prog_7_method_10_code 33 = .ok (.if_icmp .le 21, 3) := by decide +kernel
theorem d39_36 : decode prog_7_method_10_code 36 = .ok (.iload_n 0, 1) := by decide +kernel
theorem d39_37 : decode prog_7_method_10_code 37 = .ok (.bipush 95, 2) := by decide +kernel
theorem d39_39 : decode prog_7_method_10_code 39 = .ok (.if_icmp .eq 15, 3) := by decide +kernel
theorem d39_42 : decode prog_7_method_10_code 42 = .ok (.iload_n 0, 1) := by decide +kernel
theorem d39_43 : decode prog_7_method_10_code 43 = .ok (.bipush 46, 2) := by decide +kernel
theorem d39_45 : decode prog_7_method_10_code 45 = .ok (.if_icmp .eq 9, 3) := by decide +kernel
theorem d39_48 : decode prog_7_method_10_code 48 = .ok (.iload_n 0, 1) := by decide +kernel
theorem d39_49 : decode prog_7_method_10_code 49 = .ok (.bipush 45, 2) := by decide +kernel
theorem d39_51 : decode prog_7_method_10_code 51 = .ok (.if_icmp .ne 7, 3) := by decide +kernel
theorem ef_r_2 (m : MethodId) (x0 : Addr) : entryFrame m #[(.ref x0)] 2 = mkF m 0 ⟨[.val (.ref x0), .unset]⟩ [] := by exact efOf rfl
theorem d40_11 : decode prog_7_method_9_code 11 = .ok (.iload_n 1, 1) := by decide +kernel
theorem d40_12 : decode prog_7_method_9_code 12 = .ok (.aload_n 0, 1) := by decide +kernel
theorem d40_13 : decode prog_7_method_9_code 13 = .ok (.invokevirtual 107, 3) := by decide +kernel
theorem d40_16 : decode prog_7_method_9_code 16 = .ok (.if_icmp .ge 22, 3) := by decide +kernel
theorem d40_38 : decode prog_7_method_9_code 38 = .ok (.iconst 1, 1) := by decide +kernel
theorem d40_39 : decode prog_7_method_9_code 39 = .ok (.ireturn, 1) := by decide +kernel
theorem d40_19 : decode prog_7_method_9_code 19 = .ok (.aload_n 0, 1) := by decide +kernel
theorem d40_20 : decode prog_7_method_9_code 20 = .ok (.iload_n 1, 1) := by decide +kernel
theorem d40_21 : decode prog_7_method_9_code 21 = .ok (.invokevirtual 110, 3) := by decide +kernel
theorem ar_24 : XT.arity "(I)C" = some 1 := by decide +kernel
theorem d40_24 : decode prog_7_method_9_code 24 = .ok (.invokestatic 114, 3) := by decide +kernel
theorem d40_27 : decode prog_7_method_9_code 27 = .ok (.ifCond .ne 5, 3) := by decide +kernel
theorem d40_32 : decode prog_7_method_9_code 32 = .ok (.iinc 1 1, 3) := by decide +kernel
theorem d40_35 : decode prog_7_method_9_code 35 = .ok (.goto (-24), 3) := by decide +kernel
theorem d40_0 : decode prog_7_method_9_code 0 = .ok (.aload_n 0, 1) := by decide +kernel
theorem d40_1 : decode prog_7_method_9_code 1 = .ok (.invokevirtual 103, 3) := by decide +kernel
theorem d40_4 : decode prog_7_method_9_code 4 = .ok (.ifCond .eq 5, 3) := by decide +kernel
theorem d40_9 : decode prog_7_method_9_code 9 = .ok (.iconst 0, 1) := by decide +kernel
theorem d40_10 : decode prog_7_method_9_code 10 = .ok (.istore_n 1, 1) := by decide +kernel
theorem ef_rrr_3 (m : MethodId) (x0 : Addr) (x1 : Addr) (x2 : Addr) : entryFrame m #[(.ref x0), (.ref x1), (.ref x2)] 3 = mkF m 0 ⟨[.val (.ref x0), .val (.ref x1), .val (.ref x2)]⟩ [] := by exact efOf rfl
theorem d41_0 : decode prog_7_method_1_code 0 = .ok (.aload_n 0, 1) := by decide +kernel
theorem d41_1 : decode prog_7_method_1_code 1 = .ok (.invokespecial 1, 3) := by decide +kernel
theorem d41_4 : decode prog_7_method_1_code 4 = .ok (.aload_n 1, 1) := by decide +kernel
theorem d41_5 : decode prog_7_method_1_code 5 = .ok (.ldc 7, 2) := by decide +kernel
theorem d41_7 : decode prog_7_method_1_code 7 = .ok (.invokestatic 9, 3) := by decide +kernel
theorem ar_25 : XT.arity "(Ljava/lang/Object;Ljava/lang/String;)Ljava/lang/Object;" = some 2 := by decide +kernel
theorem d41_10 : decode prog_7_method_1_code 10 = .ok (.pop, 1) := by decide +kernel
theorem d41_11 : decode prog_7_method_1_code 11 = .ok (.aload_n 2, 1) := by decide +kernel
theorem d41_12 : decode prog_7_method_1_code 12 = .ok (.ldc 15, 2) := by decide +kernel
theorem d41_14 : decode prog_7_method_1_code 14 = .ok (.invokestatic 9, 3) := by decide +kernel
theorem d41_17 : decode prog_7_method_1_code 17 = .ok (.pop, 1) := by decide +kernel
theorem d41_18 : decode prog_7_method_1_code 18 = .ok (.aload_n 1, 1) := by decide +kernel
theorem d41_19 : decode prog_7_method_1_code 19 = .ok (.invokestatic 17, 3) := by decide +kernel
theorem ar_26 : XT.arity "(Ljava/lang/String;)Z" = some 1 := by decide +kernel
theorem d41_22 : decode prog_7_method_1_code 22 = .ok (.ifCond .ne 35, 3) := by decide +kernel
theorem d41_57 : decode prog_7_method_1_code 57 = .ok (.aload_n 2, 1) := by decide +kernel
theorem d41_58 : decode prog_7_method_1_code 58 = .ok (.invokestatic 17, 3) := by decide +kernel
theorem d41_61 : decode prog_7_method_1_code 61 = .ok (.ifCond .ne 35, 3) := by decide +kernel
theorem d41_96 : decode prog_7_method_1_code 96 = .ok (.aload_n 0, 1) := by decide +kernel
theorem d41_97 : decode prog_7_method_1_code 97 = .ok (.aload_n 1, 1) := by decide +kernel
theorem d41_98 : decode prog_7_method_1_code 98 = .ok (.putfield 45, 3) := by decide +kernel
theorem d41_101 : decode prog_7_method_1_code 101 = .ok (.aload_n 0, 1) := by decide +kernel
theorem d41_102 : decode prog_7_method_1_code 102 = .ok (.aload_n 2, 1) := by decide +kernel
theorem d41_103 : decode prog_7_method_1_code 103 = .ok (.putfield 48, 3) := by decide +kernel
theorem d41_106 : decode prog_7_method_1_code 106 = .ok (.aload_n 0, 1) := by decide +kernel
theorem d41_107 : decode prog_7_method_1_code 107 = .ok (.new 25, 3) := by decide +kernel
theorem d41_110 : decode prog_7_method_1_code 110 = .ok (.dup, 1) := by decide +kernel
theorem d41_111 : decode prog_7_method_1_code 111 = .ok (.invokespecial 27, 3) := by decide +kernel
theorem ar_27 : XT.arity "()V" = some 0 := by decide +kernel
theorem d41_114 : decode prog_7_method_1_code 114 = .ok (.aload_n 1, 1) := by decide +kernel
theorem d41_115 : decode prog_7_method_1_code 115 = .ok (.invokevirtual 30, 3) := by decide +kernel
theorem ar_28 : XT.arity "(Ljava/lang/String;)Ljava/lang/StringBuilder;" = some 1 := by decide +kernel
theorem d41_118 : decode prog_7_method_1_code 118 = .ok (.ldc 50, 2) := by decide +kernel
theorem d41_120 : decode prog_7_method_1_code 120 = .ok (.invokevirtual 30, 3) := by decide +kernel
theorem d41_123 : decode prog_7_method_1_code 123 = .ok (.aload_n 2, 1) := by decide +kernel
theorem d41_124 : decode prog_7_method_1_code 124 = .ok (.invokevirtual 30, 3) := by decide +kernel
theorem d41_127 : decode prog_7_method_1_code 127 = .ok (.invokevirtual 36, 3) := by decide +kernel
theorem ar_29 : XT.arity "()Ljava/lang/String;" = some 0 := by decide +kernel
theorem d41_130 : decode prog_7_method_1_code 130 = .ok (.putfield 52, 3) := by decide +kernel
theorem d41_133 : decode prog_7_method_1_code 133 = .ok (.return_, 1) := by decide +kernel
theorem d42_0 : decode prog_7_method_6_code 0 = .ok (.aload_n 1, 1) := by decide +kernel
theorem d42_1 : decode prog_7_method_6_code 1 = .ok (.instanceof 18, 3) := by decide +kernel
theorem d42_4 : decode prog_7_method_6_code 4 = .ok (.ifCond .eq 11, 3) := by decide +kernel
theorem d42_7 : decode prog_7_method_6_code 7 = .ok (.aload_n 1, 1) := by decide +kernel
theorem d42_8 : decode prog_7_method_6_code 8 = .ok (.checkcast 18, 3) := by decide +kernel
theorem d42_11 : decode prog_7_method_6_code 11 = .ok (.astore_n 2, 1) := by decide +kernel
theorem d42_12 : decode prog_7_method_6_code 12 = .ok (.goto 5, 3) := by decide +kernel
theorem d42_17 : decode prog_7_method_6_code 17 = .ok (.aload_n 0, 1) := by decide +kernel
theorem d42_18 : decode prog_7_method_6_code 18 = .ok (.getfield 52, 3) := by decide +kernel
theorem d42_21 : decode prog_7_method_6_code 21 = .ok (.aload_n 2, 1) := by decide +kernel
theorem d42_22 : decode prog_7_method_6_code 22 = .ok (.getfield 52, 3) := by decide +kernel
theorem d42_25 : decode prog_7_method_6_code 25 = .ok (.invokevirtual 95, 3) := by decide +kernel
theorem ar_30 : XT.arity "(Ljava/lang/Object;)Z" = some 1 := by decide +kernel
theorem d42_28 : decode prog_7_method_6_code 28 = .ok (.ireturn, 1) := by decide +kernel
theorem pn_10 : plainName "com/example/dekree/dekree/PermissionEqualsPinLaw" = true := by first | (simp [plainName, overriddenIn]; done) | decide +kernel
theorem d43_0 : decode method_2_code 0 = .ok (.ldc 7, 2) := by decide +kernel
theorem d43_2 : decode method_2_code 2 = .ok (.iload_n 0, 1) := by decide +kernel
theorem d43_3 : decode method_2_code 3 = .ok (.bipush 65, 2) := by decide +kernel
theorem d43_5 : decode method_2_code 5 = .ok (.irem, 1) := by decide +kernel
theorem d43_6 : decode method_2_code 6 = .ok (.invokevirtual 9, 3) := by decide +kernel
theorem d43_9 : decode method_2_code 9 = .ok (.ireturn, 1) := by decide +kernel
theorem ef_i_3 (m : MethodId) (x0 : Int32) : entryFrame m #[(.int x0)] 3 = mkF m 0 ⟨[.val (.int x0), .unset, .unset]⟩ [] := by exact efOf rfl
theorem d44_0 : decode method_3_code 0 = .ok (.iload_n 0, 1) := by decide +kernel
theorem d44_1 : decode method_3_code 1 = .ok (.bipush 127, 2) := by decide +kernel
theorem d44_3 : decode method_3_code 3 = .ok (.iand, 1) := by decide +kernel
theorem d44_4 : decode method_3_code 4 = .ok (.invokestatic 15, 3) := by decide +kernel
theorem d44_7 : decode method_3_code 7 = .ok (.istore_n 1, 1) := by decide +kernel
theorem d44_8 : decode method_3_code 8 = .ok (.iload_n 0, 1) := by decide +kernel
theorem d44_9 : decode method_3_code 9 = .ok (.bipush 7, 2) := by decide +kernel
theorem d44_11 : decode method_3_code 11 = .ok (.iushr, 1) := by decide +kernel
theorem d44_12 : decode method_3_code 12 = .ok (.bipush 127, 2) := by decide +kernel
theorem d44_14 : decode method_3_code 14 = .ok (.iand, 1) := by decide +kernel
theorem d44_15 : decode method_3_code 15 = .ok (.invokestatic 15, 3) := by decide +kernel
theorem d44_18 : decode method_3_code 18 = .ok (.istore_n 2, 1) := by decide +kernel
theorem d44_19 : decode method_3_code 19 = .ok (.iload_n 0, 1) := by decide +kernel
theorem d44_20 : decode method_3_code 20 = .ok (.bipush 14, 2) := by decide +kernel
theorem d44_22 : decode method_3_code 22 = .ok (.iushr, 1) := by decide +kernel
theorem d44_23 : decode method_3_code 23 = .ok (.iconst 1, 1) := by decide +kernel
theorem d44_24 : decode method_3_code 24 = .ok (.iand, 1) := by decide +kernel
theorem d44_25 : decode method_3_code 25 = .ok (.ifCond .ne 8, 3) := by decide +kernel
theorem d44_28 : decode method_3_code 28 = .ok (.iload_n 1, 1) := by decide +kernel
theorem d44_29 : decode method_3_code 29 = .ok (.invokestatic 20, 3) := by decide +kernel
theorem ar_31 : XT.arity "(C)Ljava/lang/String;" = some 1 := by decide +kernel
theorem d44_32 : decode method_3_code 32 = .ok (.areturn, 1) := by decide +kernel
theorem d44_33 : decode method_3_code 33 = .ok (.new 10, 3) := by decide +kernel
theorem d44_36 : decode method_3_code 36 = .ok (.dup, 1) := by decide +kernel
theorem d44_37 : decode method_3_code 37 = .ok (.iconst 2, 1) := by decide +kernel
theorem d44_38 : decode method_3_code 38 = .ok (.newarray .char, 2) := by decide +kernel
theorem d44_40 : decode method_3_code 40 = .ok (.dup, 1) := by decide +kernel
theorem d44_41 : decode method_3_code 41 = .ok (.iconst 0, 1) := by decide +kernel
theorem d44_42 : decode method_3_code 42 = .ok (.iload_n 1, 1) := by decide +kernel
theorem d44_43 : decode method_3_code 43 = .ok (.castore, 1) := by decide +kernel
theorem d44_44 : decode method_3_code 44 = .ok (.dup, 1) := by decide +kernel
theorem d44_45 : decode method_3_code 45 = .ok (.iconst 1, 1) := by decide +kernel
theorem d44_46 : decode method_3_code 46 = .ok (.iload_n 2, 1) := by decide +kernel
theorem d44_47 : decode method_3_code 47 = .ok (.castore, 1) := by decide +kernel
theorem d44_48 : decode method_3_code 48 = .ok (.invokespecial 24, 3) := by decide +kernel
theorem ar_32 : XT.arity "([C)V" = some 1 := by decide +kernel
theorem d44_51 : decode method_3_code 51 = .ok (.areturn, 1) := by decide +kernel
theorem ef_i_4 (m : MethodId) (x0 : Int32) : entryFrame m #[(.int x0)] 4 = mkF m 0 ⟨[.val (.int x0), .unset, .unset, .unset]⟩ [] := by exact efOf rfl
theorem d45_0 : decode method_5_code 0 = .ok (.iload_n 0, 1) := by decide +kernel
theorem d45_1 : decode method_5_code 1 = .ok (.bipush 16, 2) := by decide +kernel
theorem d45_3 : decode method_5_code 3 = .ok (.iushr, 1) := by decide +kernel
theorem d45_4 : decode method_5_code 4 = .ok (.iconst 3, 1) := by decide +kernel
theorem d45_5 : decode method_5_code 5 = .ok (.iand, 1) := by decide +kernel
theorem d45_6 : decode method_5_code 6 = .ok (.iconst 2, 1) := by decide +kernel
theorem d45_7 : decode method_5_code 7 = .ok (.invokestatic 27, 3) := by decide +kernel
theorem d45_10 : decode method_5_code 10 = .ok (.istore_n 1, 1) := by decide +kernel
theorem d45_11 : decode method_5_code 11 = .ok (.iload_n 0, 1) := by decide +kernel
theorem d45_12 : decode method_5_code 12 = .ok (.sipush 255, 3) := by decide +kernel
theorem d45_15 : decode method_5_code 15 = .ok (.iand, 1) := by decide +kernel
theorem d45_16 : decode method_5_code 16 = .ok (.i2c, 1) := by decide +kernel
theorem d45_17 : decode method_5_code 17 = .ok (.istore_n 2, 1) := by decide +kernel
theorem d45_18 : decode method_5_code 18 = .ok (.iload_n 0, 1) := by decide +kernel
theorem d45_19 : decode method_5_code 19 = .ok (.bipush 8, 2) := by decide +kernel
theorem d45_21 : decode method_5_code 21 = .ok (.iushr, 1) := by decide +kernel
theorem d45_22 : decode method_5_code 22 = .ok (.sipush 255, 3) := by decide +kernel
theorem d45_25 : decode method_5_code 25 = .ok (.iand, 1) := by decide +kernel
theorem d45_26 : decode method_5_code 26 = .ok (.i2c, 1) := by decide +kernel
theorem d45_27 : decode method_5_code 27 = .ok (.istore_n 3, 1) := by decide +kernel
theorem d45_28 : decode method_5_code 28 = .ok (.iload_n 1, 1) := by decide +kernel
theorem d45_29 : decode method_5_code 29 = .ok (.ifCond .ne 6, 3) := by decide +kernel
theorem d45_32 : decode method_5_code 32 = .ok (.ldc 33, 2) := by decide +kernel
theorem d45_34 : decode method_5_code 34 = .ok (.areturn, 1) := by decide +kernel
theorem d45_35 : decode method_5_code 35 = .ok (.iload_n 1, 1) := by decide +kernel
theorem d45_36 : decode method_5_code 36 = .ok (.iconst 1, 1) := by decide +kernel
theorem d45_37 : decode method_5_code 37 = .ok (.if_icmp .ne 8, 3) := by decide +kernel
theorem d45_40 : decode method_5_code 40 = .ok (.iload_n 2, 1) := by decide +kernel
theorem d45_41 : decode method_5_code 41 = .ok (.invokestatic 20, 3) := by decide +kernel
theorem d45_44 : decode method_5_code 44 = .ok (.areturn, 1) := by decide +kernel
theorem d45_45 : decode method_5_code 45 = .ok (.new 10, 3) := by decide +kernel
theorem d45_48 : decode method_5_code 48 = .ok (.dup, 1) := by decide +kernel
theorem d45_49 : decode method_5_code 49 = .ok (.iconst 2, 1) := by decide +kernel
theorem d45_50 : decode method_5_code 50 = .ok (.newarray .char, 2) := by decide +kernel
theorem d45_52 : decode method_5_code 52 = .ok (.dup, 1) := by decide +kernel
theorem d45_53 : decode method_5_code 53 = .ok (.iconst 0, 1) := by decide +kernel
theorem d45_54 : decode method_5_code 54 = .ok (.iload_n 2, 1) := by decide +kernel
theorem d45_55 : decode method_5_code 55 = .ok (.castore, 1) := by decide +kernel
theorem d45_56 : decode method_5_code 56 = .ok (.dup, 1) := by decide +kernel
theorem d45_57 : decode method_5_code 57 = .ok (.iconst 1, 1) := by decide +kernel
theorem d45_58 : decode method_5_code 58 = .ok (.iload_n 3, 1) := by decide +kernel
theorem d45_59 : decode method_5_code 59 = .ok (.castore, 1) := by decide +kernel
theorem d45_60 : decode method_5_code 60 = .ok (.invokespecial 24, 3) := by decide +kernel
theorem d45_63 : decode method_5_code 63 = .ok (.areturn, 1) := by decide +kernel
theorem ef_ii_4 (m : MethodId) (x0 : Int32) (x1 : Int32) : entryFrame m #[(.int x0), (.int x1)] 4 = mkF m 0 ⟨[.val (.int x0), .val (.int x1), .unset, .unset]⟩ [] := by exact efOf rfl
theorem d46_0 : decode method_6_code 0 = .ok (.iload_n 0, 1) := by decide +kernel
theorem d46_1 : decode method_6_code 1 = .ok (.bipush 16, 2) := by decide +kernel
theorem d46_3 : decode method_6_code 3 = .ok (.iushr, 1) := by decide +kernel
theorem d46_4 : decode method_6_code 4 = .ok (.iconst 3, 1) := by decide +kernel
theorem d46_5 : decode method_6_code 5 = .ok (.iand, 1) := by decide +kernel
theorem d46_6 : decode method_6_code 6 = .ok (.iconst 2, 1) := by decide +kernel
theorem d46_7 : decode method_6_code 7 = .ok (.invokestatic 27, 3) := by decide +kernel
theorem d46_10 : decode method_6_code 10 = .ok (.istore_n 2, 1) := by decide +kernel
theorem d46_11 : decode method_6_code 11 = .ok (.iload_n 1, 1) := by decide +kernel
theorem d46_12 : decode method_6_code 12 = .ok (.bipush 16, 2) := by decide +kernel
theorem d46_14 : decode method_6_code 14 = .ok (.iushr, 1) := by decide +kernel
theorem d46_15 : decode method_6_code 15 = .ok (.iconst 3, 1) := by decide +kernel
theorem d46_16 : decode method_6_code 16 = .ok (.iand, 1) := by decide +kernel
theorem d46_17 : decode method_6_code 17 = .ok (.iconst 2, 1) := by decide +kernel
theorem d46_18 : decode method_6_code 18 = .ok (.invokestatic 27, 3) := by decide +kernel
theorem d46_21 : decode method_6_code 21 = .ok (.istore_n 3, 1) := by decide +kernel
theorem d46_22 : decode method_6_code 22 = .ok (.iload_n 2, 1) := by decide +kernel
theorem d46_23 : decode method_6_code 23 = .ok (.iload_n 3, 1) := by decide +kernel
theorem d46_24 : decode method_6_code 24 = .ok (.if_icmp .eq 5, 3) := by decide +kernel
theorem d46_27 : decode method_6_code 27 = .ok (.iconst 0, 1) := by decide +kernel
theorem d46_28 : decode method_6_code 28 = .ok (.ireturn, 1) := by decide +kernel
theorem d46_29 : decode method_6_code 29 = .ok (.iload_n 2, 1) := by decide +kernel
theorem d46_30 : decode method_6_code 30 = .ok (.iconst 1, 1) := by decide +kernel
theorem d46_31 : decode method_6_code 31 = .ok (.if_icmp .lt 18, 3) := by decide +kernel
theorem d46_49 : decode method_6_code 49 = .ok (.iload_n 2, 1) := by decide +kernel
theorem d46_50 : decode method_6_code 50 = .ok (.iconst 2, 1) := by decide +kernel
theorem d46_51 : decode method_6_code 51 = .ok (.if_icmp .ne 24, 3) := by decide +kernel
theorem d46_75 : decode method_6_code 75 = .ok (.iconst 1, 1) := by decide +kernel
theorem d46_76 : decode method_6_code 76 = .ok (.ireturn, 1) := by decide +kernel
theorem d46_34 : decode method_6_code 34 = .ok (.iload_n 0, 1) := by decide +kernel
theorem d46_35 : decode method_6_code 35 = .ok (.sipush 255, 3) := by decide +kernel
theorem d46_38 : decode method_6_code 38 = .ok (.iand, 1) := by decide +kernel
theorem d46_39 : decode method_6_code 39 = .ok (.iload_n 1, 1) := by decide +kernel
theorem d46_40 : decode method_6_code 40 = .ok (.sipush 255, 3) := by decide +kernel
theorem d46_43 : decode method_6_code 43 = .ok (.iand, 1) := by decide +kernel
theorem d46_44 : decode method_6_code 44 = .ok (.if_icmp .eq 5, 3) := by decide +kernel
theorem d46_47 : decode method_6_code 47 = .ok (.iconst 0, 1) := by decide +kernel
theorem d46_48 : decode method_6_code 48 = .ok (.ireturn, 1) := by decide +kernel
theorem d46_54 : decode method_6_code 54 = .ok (.iload_n 0, 1) := by decide +kernel
theorem d46_55 : decode method_6_code 55 = .ok (.bipush 8, 2) := by decide +kernel
theorem d46_57 : decode method_6_code 57 = .ok (.iushr, 1) := by decide +kernel
theorem d46_58 : decode method_6_code 58 = .ok (.sipush 255, 3) := by decide +kernel
theorem d46_61 : decode method_6_code 61 = .ok (.iand, 1) := by decide +kernel
theorem d46_62 : decode method_6_code 62 = .ok (.iload_n 1, 1) := by decide +kernel
theorem d46_63 : decode method_6_code 63 = .ok (.bipush 8, 2) := by decide +kernel
theorem d46_65 : decode method_6_code 65 = .ok (.iushr, 1) := by decide +kernel
theorem d46_66 : decode method_6_code 66 = .ok (.sipush 255, 3) := by decide +kernel
theorem d46_69 : decode method_6_code 69 = .ok (.iand, 1) := by decide +kernel
theorem d46_70 : decode method_6_code 70 = .ok (.if_icmp .eq 5, 3) := by decide +kernel
theorem d46_73 : decode method_6_code 73 = .ok (.iconst 0, 1) := by decide +kernel
theorem d46_74 : decode method_6_code 74 = .ok (.ireturn, 1) := by decide +kernel
theorem d47_0 : decode method_4_code 0 = .ok (.iload_n 0, 1) := by decide +kernel
theorem d47_1 : decode method_4_code 1 = .ok (.bipush 14, 2) := by decide +kernel
theorem d47_3 : decode method_4_code 3 = .ok (.iushr, 1) := by decide +kernel
theorem d47_4 : decode method_4_code 4 = .ok (.iconst 1, 1) := by decide +kernel
theorem d47_5 : decode method_4_code 5 = .ok (.iand, 1) := by decide +kernel
theorem d47_6 : decode method_4_code 6 = .ok (.istore_n 2, 1) := by decide +kernel
theorem d47_7 : decode method_4_code 7 = .ok (.iload_n 1, 1) := by decide +kernel
theorem d47_8 : decode method_4_code 8 = .ok (.bipush 14, 2) := by decide +kernel
theorem d47_10 : decode method_4_code 10 = .ok (.iushr, 1) := by decide +kernel
theorem d47_11 : decode method_4_code 11 = .ok (.iconst 1, 1) := by decide +kernel
theorem d47_12 : decode method_4_code 12 = .ok (.iand, 1) := by decide +kernel
theorem d47_13 : decode method_4_code 13 = .ok (.istore_n 3, 1) := by decide +kernel
theorem d47_14 : decode method_4_code 14 = .ok (.iload_n 2, 1) := by decide +kernel
theorem d47_15 : decode method_4_code 15 = .ok (.iload_n 3, 1) := by decide +kernel
theorem d47_16 : decode method_4_code 16 = .ok (.if_icmp .eq 5, 3) := by decide +kernel
theorem d47_19 : decode method_4_code 19 = .ok (.iconst 0, 1) := by decide +kernel
theorem d47_20 : decode method_4_code 20 = .ok (.ireturn, 1) := by decide +kernel
theorem d47_21 : decode method_4_code 21 = .ok (.iload_n 0, 1) := by decide +kernel
theorem d47_22 : decode method_4_code 22 = .ok (.bipush 127, 2) := by decide +kernel
theorem d47_24 : decode method_4_code 24 = .ok (.iand, 1) := by decide +kernel
theorem d47_25 : decode method_4_code 25 = .ok (.bipush 65, 2) := by decide +kernel
theorem d47_27 : decode method_4_code 27 = .ok (.irem, 1) := by decide +kernel
theorem d47_28 : decode method_4_code 28 = .ok (.iload_n 1, 1) := by decide +kernel
theorem d47_29 : decode method_4_code 29 = .ok (.bipush 127, 2) := by decide +kernel
theorem d47_31 : decode method_4_code 31 = .ok (.iand, 1) := by decide +kernel
theorem d47_32 : decode method_4_code 32 = .ok (.bipush 65, 2) := by decide +kernel
theorem d47_34 : decode method_4_code 34 = .ok (.irem, 1) := by decide +kernel
theorem d47_35 : decode method_4_code 35 = .ok (.if_icmp .eq 5, 3) := by decide +kernel
theorem d47_38 : decode method_4_code 38 = .ok (.iconst 0, 1) := by decide +kernel
theorem d47_39 : decode method_4_code 39 = .ok (.ireturn, 1) := by decide +kernel
theorem d47_40 : decode method_4_code 40 = .ok (.iload_n 2, 1) := by decide +kernel
theorem d47_41 : decode method_4_code 41 = .ok (.ifCond .ne 5, 3) := by decide +kernel
theorem d47_46 : decode method_4_code 46 = .ok (.iload_n 0, 1) := by decide +kernel
theorem d47_47 : decode method_4_code 47 = .ok (.bipush 7, 2) := by decide +kernel
theorem d47_49 : decode method_4_code 49 = .ok (.iushr, 1) := by decide +kernel
theorem d47_50 : decode method_4_code 50 = .ok (.bipush 127, 2) := by decide +kernel
theorem d47_52 : decode method_4_code 52 = .ok (.iand, 1) := by decide +kernel
theorem d47_53 : decode method_4_code 53 = .ok (.bipush 65, 2) := by decide +kernel
theorem d47_55 : decode method_4_code 55 = .ok (.irem, 1) := by decide +kernel
theorem d47_56 : decode method_4_code 56 = .ok (.iload_n 1, 1) := by decide +kernel
theorem d47_57 : decode method_4_code 57 = .ok (.bipush 7, 2) := by decide +kernel
theorem d47_59 : decode method_4_code 59 = .ok (.iushr, 1) := by decide +kernel
theorem d47_60 : decode method_4_code 60 = .ok (.bipush 127, 2) := by decide +kernel
theorem d47_62 : decode method_4_code 62 = .ok (.iand, 1) := by decide +kernel
theorem d47_63 : decode method_4_code 63 = .ok (.bipush 65, 2) := by decide +kernel
theorem d47_65 : decode method_4_code 65 = .ok (.irem, 1) := by decide +kernel
theorem d47_66 : decode method_4_code 66 = .ok (.if_icmp .ne 7, 3) := by decide +kernel
theorem d47_69 : decode method_4_code 69 = .ok (.iconst 1, 1) := by decide +kernel
theorem d47_70 : decode method_4_code 70 = .ok (.goto 4, 3) := by decide +kernel
theorem d47_74 : decode method_4_code 74 = .ok (.ireturn, 1) := by decide +kernel
theorem d47_73 : decode method_4_code 73 = .ok (.iconst 0, 1) := by decide +kernel
theorem d47_44 : decode method_4_code 44 = .ok (.iconst 1, 1) := by decide +kernel
theorem d47_45 : decode method_4_code 45 = .ok (.ireturn, 1) := by decide +kernel
theorem pn_11 : plainName "com/example/dekree/dekree/Permission" = true := by first | (simp [plainName, overriddenIn]; done) | decide +kernel
theorem d48_0 : decode prog_4_method_1_code 0 = .ok (.aload_n 0, 1) := by decide +kernel
theorem d48_1 : decode prog_4_method_1_code 1 = .ok (.invokespecial 1, 3) := by decide +kernel
theorem d48_4 : decode prog_4_method_1_code 4 = .ok (.aload_n 0, 1) := by decide +kernel
theorem d48_5 : decode prog_4_method_1_code 5 = .ok (.aload_n 1, 1) := by decide +kernel
theorem d48_6 : decode prog_4_method_1_code 6 = .ok (.ldc 7, 2) := by decide +kernel
theorem d48_8 : decode prog_4_method_1_code 8 = .ok (.invokestatic 9, 3) := by decide +kernel
theorem d48_11 : decode prog_4_method_1_code 11 = .ok (.checkcast 15, 3) := by decide +kernel
theorem d48_14 : decode prog_4_method_1_code 14 = .ok (.putfield 17, 3) := by decide +kernel
theorem d48_17 : decode prog_4_method_1_code 17 = .ok (.aload_n 0, 1) := by decide +kernel
theorem d48_18 : decode prog_4_method_1_code 18 = .ok (.aload_n 2, 1) := by decide +kernel
theorem d48_19 : decode prog_4_method_1_code 19 = .ok (.ldc 22, 2) := by decide +kernel
theorem d48_21 : decode prog_4_method_1_code 21 = .ok (.invokestatic 9, 3) := by decide +kernel
theorem d48_24 : decode prog_4_method_1_code 24 = .ok (.checkcast 24, 3) := by decide +kernel
theorem d48_27 : decode prog_4_method_1_code 27 = .ok (.putfield 26, 3) := by decide +kernel
theorem d48_30 : decode prog_4_method_1_code 30 = .ok (.return_, 1) := by decide +kernel
theorem d49_0 : decode prog_4_method_4_code 0 = .ok (.aload_n 1, 1) := by decide +kernel
theorem d49_1 : decode prog_4_method_4_code 1 = .ok (.instanceof 18, 3) := by decide +kernel
theorem d49_4 : decode prog_4_method_4_code 4 = .ok (.ifCond .eq 11, 3) := by decide +kernel
theorem d49_7 : decode prog_4_method_4_code 7 = .ok (.aload_n 1, 1) := by decide +kernel
theorem d49_8 : decode prog_4_method_4_code 8 = .ok (.checkcast 18, 3) := by decide +kernel
theorem d49_11 : decode prog_4_method_4_code 11 = .ok (.astore_n 2, 1) := by decide +kernel
theorem d49_12 : decode prog_4_method_4_code 12 = .ok (.goto 5, 3) := by decide +kernel
theorem d49_17 : decode prog_4_method_4_code 17 = .ok (.aload_n 0, 1) := by decide +kernel
theorem d49_18 : decode prog_4_method_4_code 18 = .ok (.getfield 17, 3) := by decide +kernel
theorem d49_21 : decode prog_4_method_4_code 21 = .ok (.aload_n 2, 1) := by decide +kernel
theorem d49_22 : decode prog_4_method_4_code 22 = .ok (.getfield 17, 3) := by decide +kernel
theorem d49_25 : decode prog_4_method_4_code 25 = .ok (.invokevirtual 29, 3) := by decide +kernel
theorem d49_28 : decode prog_4_method_4_code 28 = .ok (.ifCond .eq 21, 3) := by decide +kernel
theorem d49_31 : decode prog_4_method_4_code 31 = .ok (.aload_n 0, 1) := by decide +kernel
theorem d49_32 : decode prog_4_method_4_code 32 = .ok (.getfield 26, 3) := by decide +kernel
theorem d49_35 : decode prog_4_method_4_code 35 = .ok (.aload_n 2, 1) := by decide +kernel
theorem d49_36 : decode prog_4_method_4_code 36 = .ok (.getfield 26, 3) := by decide +kernel
theorem d49_39 : decode prog_4_method_4_code 39 = .ok (.invokevirtual 33, 3) := by decide +kernel
theorem d49_42 : decode prog_4_method_4_code 42 = .ok (.ifCond .eq 7, 3) := by decide +kernel
theorem d49_45 : decode prog_4_method_4_code 45 = .ok (.iconst 1, 1) := by decide +kernel
theorem d49_46 : decode prog_4_method_4_code 46 = .ok (.goto 4, 3) := by decide +kernel
theorem d49_50 : decode prog_4_method_4_code 50 = .ok (.ireturn, 1) := by decide +kernel
theorem d49_49 : decode prog_4_method_4_code 49 = .ok (.iconst 0, 1) := by decide +kernel
theorem ef_rn_3 (m : MethodId) (x0 : Addr) : entryFrame m #[(.ref x0), .null] 3 = mkF m 0 ⟨[.val (.ref x0), .val .null, .unset]⟩ [] := by exact efOf rfl
theorem d49_15 : decode prog_4_method_4_code 15 = .ok (.iconst 0, 1) := by decide +kernel
theorem d49_16 : decode prog_4_method_4_code 16 = .ok (.ireturn, 1) := by decide +kernel
theorem ef_iiii_10 (m : MethodId) (x0 : Int32) (x1 : Int32) (x2 : Int32) (x3 : Int32) : entryFrame m #[(.int x0), (.int x1), (.int x2), (.int x3)] 10 = mkF m 0 ⟨[.val (.int x0), .val (.int x1), .val (.int x2), .val (.int x3), .unset, .unset, .unset, .unset, .unset, .unset]⟩ [] := by exact efOf rfl
theorem ar_33 : XT.arity "(I)Ljava/lang/String;" = some 1 := by decide +kernel
theorem ar_34 : XT.arity "(Ljava/lang/String;Ljava/lang/String;)V" = some 2 := by decide +kernel
theorem ar_35 : XT.arity "(Ljava/lang/String;Lcom/example/dekree/dekree/QualifiedName;)V" = some 2 := by decide +kernel
theorem ar_36 : XT.arity "(II)Z" = some 2 := by decide +kernel
theorem layS_ok {Z : State} {a0 : Array Value} (hw : ∀ d ∈ tables_1, d.before a0 Z = true) : LayOk Z a0 "java/lang/String" layS := by
  refine ⟨fun f hf => ?_, by decide +kernel, fun f hf => ?_⟩
  all_goals simp only [layS, List.mem_cons, List.not_mem_nil, or_false] at hf
  all_goals rcases hf with rfl | rfl
  · exact Or.inr (hw _ (List.mem_of_getElem? (i := 14) rfl))
  · exact Or.inr (hw _ (List.mem_of_getElem? (i := 15) rfl))
  · exact ⟨(.array .byte), by decide +kernel⟩
  · exact ⟨.byte, by decide +kernel⟩
theorem layS_dv : Dv layS [.null, (.int 0)] := by decide +kernel
/-- the byte of a sign -/
def b8 (c : Int32) : Int32 := c.toInt8.toInt32
def toB (c : Int32) : Value := .int (b8 c)
theorem toB_eq (cs : List Int32) : cs.map toB = (cs.map b8).map .int := by rw [List.map_map]; rfl
def Lat (cs : List Int32) : Prop := ∀ c ∈ cs, 0 ≤ c.toInt ∧ c.toInt < 256
theorem lat_nil : Lat [] := fun _ h => nomatch h
theorem lat_cons {c : Int32} {cs : List Int32} (h : 0 ≤ c.toInt ∧ c.toInt < 256) (t : Lat cs) : Lat (c :: cs) := fun x hx => (List.mem_cons.mp hx).elim (fun e => e ▸ h) (t x)
theorem lat_le {c : Int32} (h : 0 ≤ c.toInt ∧ c.toInt < 256) : ¬ (255 : Int32) < c := by rw [Int32.lt_iff_toInt_lt]; show ¬ (255 : Int) < _; omega
theorem toB_nar (c : Int32) : nar .byte c.toInt8.toInt32 = c.toInt8.toInt32 := by simp [nar]
theorem set_mid (cs : List Int32) (i : Nat) (h : i < cs.length) : ((cs.take i).map toB ++ List.replicate (cs.length - i) (Value.int 0)).set i (toB cs[i]) = (cs.take (i + 1)).map toB ++ List.replicate (cs.length - (i + 1)) (Value.int 0) := by
  have h1 : ((cs.take i).map toB).length = i := by simp; omega
  rw [List.set_append_right _ _ (by omega), h1, Nat.sub_self, show cs.length - i = (cs.length - (i + 1)) + 1 by omega, List.replicate_succ, List.set_cons_zero, List.take_succ_eq_append_getElem h, List.map_append, List.append_assoc]
  rfl
theorem nchar_lat {c : Int32} (h : 0 ≤ c.toInt ∧ c.toInt < 256) : nar .char c = c := by
  apply Int32.toInt_inj.mp
  have q := c_i2c c
  show c.toUInt32.toUInt16.toUInt32.toInt32.toInt = c.toInt
  omega
theorem b8_toInt {c : Int32} (h : 0 ≤ c.toInt ∧ c.toInt < 256) : (b8 c).toInt = if c.toInt < 128 then c.toInt else c.toInt - 256 := by
  have q := c_i2b c
  show c.toInt8.toInt32.toInt = _
  split <;> omega
theorem b8_iff {c d e : Int32} (h : 0 ≤ c.toInt ∧ c.toInt < 256) (h' : 0 ≤ d.toInt ∧ d.toInt < 256) (he : b8 d = e) : b8 c = e ↔ c = d := by
  subst he
  refine ⟨fun q => Int32.toInt_inj.mp ?_, fun q => by rw [q]⟩
  have := congrArg Int32.toInt q
  rw [b8_toInt h, b8_toInt h'] at this
  split at this <;> split at this <;> omega
set_option maxHeartbeats 4000000 in
theorem wk_compressL {l : Launch} {Z : State} {a0 : Array Value} (hw : ∀ d ∈ tables_1, d.before a0 Z = true) (hE : EW Z a0 EL0) {L : Store} {ca b : Addr} {fa : Bool} {cs : List Int32} (hc : Lat cs) (hl : cs.length < 2 ^ 31) (hm : (ca, fa, AR Z .char (cs.map .int)) ∈ L) {cb sb : Nat} : ∀ (k i : Nat) (o : Slot), i + k = cs.length → One o →
    Wk l Z a0 EL0 (⟨"java/lang/StringUTF16", "compress", "([CI[BII)I"⟩ : MethodName) jdk_52_method_21_code 7 (some .int) ({ frames := 0, cells := 0, slots := 0, locals := 0 } : Room) (RV fun u M => u = .int cs.length.toInt32 ∧ M = (b, true, AR Z .byte ((cs.map b8).map .int)) :: L) ((b, true, AR Z .byte ((cs.take i).map toB ++ List.replicate (cs.length - i) (.int 0))) :: L) cb sb 3 [.val (.ref ca), .val (.int i.toInt32), .val (.ref b), .val (.int i.toInt32), .val (.int cs.length.toInt32), .val (.int i.toInt32), o] [] := by
  intro k
  induction k with
  | zero =>
    intro i o hi ho
    have hi' : i = cs.length := by omega
    subst hi'
    refine Wk.iload (q := 5) d0_3 rfl rfl ?_
    refine Wk.iload (q := 7) d0_5 rfl rfl ?_
    refine Wk.icmp_t (q := 44) d0_7 (by decide) (by decide) (XT.ii_ge_t (fun h => by rw [n32_lt hl hl] at h; omega)) ?_
    refine Wk.iload (q := 46) d0_44 rfl rfl ?_
    refine Wk.ireturn (t := .int) d0_46 rfl (by simp) (by rfl) ?_
    refine ⟨_, rfl, rfl, ?_⟩
    rw [← toB_eq]
    simp
  | succ k ih =>
    intro i o hi ho
    have hil : i < cs.length := by omega
    have hi3 : i < 2 ^ 31 := by omega
    have hv : (cs.map Value.int)[i]? = some (.int cs[i]) := by simp [hil]
    have hci := hc cs[i] (List.getElem_mem hil)
    refine Wk.iload (q := 5) d0_3 rfl rfl ?_
    refine Wk.iload (q := 7) d0_5 rfl rfl ?_
    refine Wk.icmp_f (q := 10) d0_7 rfl (XT.ii_ge_f ((n32_lt hi3 hl).mpr hil)) ?_
    refine Wk.aload_n (q := 11) d0_10 rfl rfl (by first | rfl | assumption) ?_
    refine Wk.iload_n (q := 12) d0_11 rfl rfl ?_
    refine Wk.caload (q := 13) (i) d0_12 rfl (by repeat (first | exact List.mem_cons_self | assumption | refine List.mem_cons_of_mem _ ?_)) (n32_nn hi3) (n32_nat hi3) hv ?_
    refine Wk.istore (q := 15) d0_13 rfl (LS1.there (LS1.there (LS1.there (LS1.there (LS1.there (LS1.there (LS1.here (by first | exact One.u | exact One.val rfl | assumption)))))))) ?_
    refine Wk.iload (q := 17) d0_15 rfl rfl ?_
    refine Wk.sipush (q := 20) (255) d0_17 rfl (by decide) ?_
    refine Wk.icmp_t (q := 26) d0_20 (by decide) (by decide) (XT.ii_le_t (lat_le hci)) ?_
    refine Wk.aload_n (q := 27) d0_26 rfl rfl (by first | rfl | assumption) ?_
    refine Wk.iload_n (q := 28) d0_27 rfl rfl ?_
    refine Wk.iload (q := 30) d0_28 rfl rfl ?_
    refine Wk.i2b (q := 31) d0_30 rfl ?_
    refine Wk.bastore (q := 32) (i) d0_31 rfl (by repeat (first | exact Ex.here | assumption | apply Ex.there)) (n32_nn hi3) (n32_nat hi3) (toB_nar _) ⟨set_mid cs i hil, by simp; omega⟩ ?_
    refine Wk.iinc (q := 35) (1) d0_32 rfl (by decide) rfl (LS1.there (LS1.here (by first | exact One.u | exact One.val rfl | assumption))) ?_
    refine Wk.iinc (q := 38) (1) d0_35 rfl (by decide) rfl (LS1.there (LS1.there (LS1.there (LS1.here (by first | exact One.u | exact One.val rfl | assumption))))) ?_
    refine Wk.iinc (q := 41) (1) d0_38 rfl (by decide) rfl (LS1.there (LS1.there (LS1.there (LS1.there (LS1.there (LS1.here (by first | exact One.u | exact One.val rfl | assumption))))))) ?_
    refine Wk.goto (q := 3) d0_41 (by decide) (by decide) ?_
    rw [n32_succ]
    exact ih (i + 1) _ (by omega) (One.val rfl)
set_option maxHeartbeats 4000000 in
theorem ct_compressL {l : Launch} {Z : State} {a0 : Array Value} (hw : ∀ d ∈ tables_1, d.before a0 Z = true) (hE : EW Z a0 EL0) {L : Store} {ca b : Addr} {fa : Bool} {cs : List Int32} (hc : Lat cs) (hl : cs.length < 2 ^ 31) (hm : (ca, fa, AR Z .char (cs.map .int)) ∈ L) :
    Ct l Z EL0 (⟨"java/lang/StringUTF16", "compress", "([CI[BII)I"⟩ : MethodName) jdk_52_method_21_code 7 (some .int) ({ frames := 0, cells := 0, slots := 0, locals := 0 } : Room) #[.ref ca, .int 0, .ref b, .int 0, .int cs.length.toInt32] ((b, true, AR Z .byte (List.replicate cs.length (.int 0))) :: L) (RV fun u M => u = .int cs.length.toInt32 ∧ M = (b, true, AR Z .byte ((cs.map b8).map .int)) :: L) := by
  refine Ct.of (a0 := a0) (Ls := [.val (.ref _), .val (.int _), .val (.ref _), .val (.int _), .val (.int _), .unset, .unset]) (plainFor_of_name pn_0) (fun m => ef_ririi_7 m _ _ _ _ _) hE ?_
  refine Wk.iconst (q := 1) (0) d0_0 rfl (by decide) ?_
  refine Wk.istore (q := 3) d0_1 rfl (LS1.there (LS1.there (LS1.there (LS1.there (LS1.there (LS1.here (by first | exact One.u | exact One.val rfl | assumption))))))) ?_
  have h := wk_compressL hw hE (l := l) (b := b) (cb := 0) (sb := 0) hc hl hm cs.length 0 .unset (by omega) One.u
  simp only [List.take_zero, List.map_nil, List.nil_append, Nat.sub_zero] at h
  exact h
theorem ct_coderLat {l : Launch} {Z : State} {a0 : Array Value} (hw : ∀ d ∈ tables_1, d.before a0 Z = true) (hE : EW Z a0 EL0) {L : Store} {b : Addr} {fb : Bool} {vs : List Value} (hm : (b, fb, AR Z .byte vs) ∈ L) :
    Ct l Z EL0 (⟨"java/lang/StringUTF16", "coderFromArrayLen", "([BI)B"⟩ : MethodName) jdk_52_method_15_code 2 (some .byte) ({ frames := 0, cells := 0, slots := 0, locals := 0 } : Room) #[.ref b, .int vs.length.toInt32] L (RV fun u M => u = .int 0 ∧ M = L) := by
  refine Ct.of (a0 := a0) (Ls := [.val (.ref _), .val (.int _)]) (plainFor_of_name pn_0) (fun m => ef_ri_2 m _ _) hE ?_
  refine Wk.iload_n (q := 1) d1_0 rfl rfl ?_
  refine Wk.aload_n (q := 2) d1_1 rfl rfl (by first | rfl | assumption) ?_
  refine Wk.arraylength (q := 3) d1_2 rfl (by repeat (first | exact List.mem_cons_self | assumption | refine List.mem_cons_of_mem _ ?_)) (by rfl) ?_
  refine Wk.isub (q := 4) d1_3 rfl ?_
  rw [Int32.sub_self]
  refine Wk.bipush (q := 6) (31) d1_4 rfl (by decide) ?_
  refine Wk.iushr (q := 7) d1_6 rfl ?_
  refine Wk.i2b (q := 8) d1_7 rfl ?_
  refine Wk.ireturn (t := .byte) d1_8 rfl (by simp) (by decide) ?_
  exact ⟨_, rfl, by decide, rfl⟩
set_option maxHeartbeats 4000000 in
theorem ct_compressA {l : Launch} {Z : State} {a0 : Array Value} (hw : ∀ d ∈ tables_1, d.before a0 Z = true) (hE : EW Z a0 EL0) {L : Store} {ca : Addr} {fa : Bool} {cs : List Int32} (hc : Lat cs) (N : Nat) (hN : cs.length ≤ N) (hl : cs.length ≤ 4000) (hm : (ca, fa, AR Z .char (cs.map .int)) ∈ L) :
    Ct l Z EL0 (⟨"java/lang/StringUTF16", "compress", "([CII)[B"⟩ : MethodName) jdk_52_method_16_code 6 (some (.array .byte)) ({ frames := 1, cells := 1, slots := N, locals := 18 } : Room) #[.ref ca, .int 0, .int cs.length.toInt32] L (RV fun u M => ∃ b, u = .ref b ∧ M = (b, true, AR Z .byte ((cs.map b8).map .int)) :: L) := by
  have h31 : cs.length < 2 ^ 31 := by omega
  refine Ct.of (a0 := a0) (Ls := [.val (.ref _), .val (.int _), .val (.int _), .unset, .unset, .unset]) (plainFor_of_name pn_0) (fun m => ef_rii_6 m _ _ _) hE ?_
  refine Wk.iload_n (q := 1) d2_0 rfl rfl ?_
  refine Wk.newarray (q := 3) .byte ((cs.length)) (List.replicate (cs.length) (.int 0)) d2_1 rfl rfl rfl (hw _ (List.mem_of_getElem? (i := 13) rfl)) (n32_nn h31) (n32_nat h31) (by omega) (by first | decide | (dsimp only; omega) | omega) (by first | decide | (dsimp only; omega) | omega) ?_
  intro b
  refine Wk.astore_n (q := 4) d2_3 rfl (by first | rfl | assumption) (LS1.there (LS1.there (LS1.there (LS1.here (by first | exact One.u | exact One.val rfl | assumption))))) ?_
  refine Wk.aload_n (q := 5) d2_4 rfl rfl (by first | rfl | assumption) ?_
  refine Wk.iload_n (q := 6) d2_5 rfl rfl ?_
  refine Wk.aload_n (q := 7) d2_6 rfl rfl (by first | rfl | assumption) ?_
  refine Wk.iconst (q := 8) (0) d2_7 rfl (by decide) ?_
  refine Wk.iload_n (q := 9) d2_8 rfl rfl ?_
  refine Wk.static (q := 12) [_, _, _, _, _] _ 0 d2_9 rfl (hw _ (List.mem_of_getElem? (i := 265) rfl)) (hw _ (List.mem_of_getElem? (i := 266) rfl)) (hw _ (List.mem_of_getElem? (i := 263) rfl)) (hw _ (List.mem_of_getElem? (i := 267) rfl)) ar_0 (by decide) rfl rfl rfl rfl (ct_compressL hw hE hc h31 hm) (by first | decide | (dsimp only; omega) | omega) (by first | decide | (dsimp only; omega) | omega) (by first | decide | (dsimp only; omega) | omega) (by first | decide | (dsimp only; omega) | omega) (kv ?_)
  rintro _ _ ⟨rfl, rfl⟩
  refine Wk.istore (q := 14) d2_12 rfl (LS1.there (LS1.there (LS1.there (LS1.there (LS1.here (by first | exact One.u | exact One.val rfl | assumption)))))) ?_
  refine Wk.iload (q := 16) d2_14 rfl rfl ?_
  refine Wk.iload_n (q := 17) d2_16 rfl rfl ?_
  refine Wk.icmp_t (q := 57) d2_17 (by decide) (by decide) (XT.ii_eq_t rfl) ?_
  refine Wk.aload_n (q := 58) d2_57 rfl rfl (by first | rfl | assumption) ?_
  refine Wk.areturn (t := (.array .byte)) d2_58 rfl rfl (by first | rfl | exact narO | exact narA) (by first | rfl | assumption) ?_
  exact ⟨_, rfl, b, rfl, rfl⟩
set_option maxHeartbeats 4000000 in
theorem ct_strInit4 {l : Launch} {Z : State} {a0 : Array Value} (hw : ∀ d ∈ tables_1, d.before a0 Z = true) (hE : EW Z a0 EL0) (F : ∃ z, z ≠ (0 : Int32) ∧ Sta Z Z.heap "java/lang/String" "COMPACT_STRINGS" "Z" (.int z)) {L : Store} {sa ca : Addr} {fa : Bool} {cs : List Int32} (hc : Lat cs) (h0 : cs ≠ []) (N : Nat) (hN : cs.length ≤ N) (hl : cs.length ≤ 4000) (hm : (ca, fa, AR Z .char (cs.map .int)) ∈ L) :
    Ct l Z EL0 (⟨"java/lang/String", "<init>", "([CIILjava/lang/Void;)V"⟩ : MethodName) jdk_42_method_149_code 6 none ({ frames := 2, cells := 1, slots := N, locals := 35 } : Room) #[.ref sa, .ref ca, .int 0, .int cs.length.toInt32, .null] ((sa, true, OB Z "java/lang/String" layS [.null, .int 0]) :: L) (R0 fun M => ∃ b, M = (sa, true, OB Z "java/lang/String" layS [.ref b, .int 0]) :: (b, true, AR Z .byte ((cs.map b8).map .int)) :: L) := by
  have h31 : cs.length < 2 ^ 31 := by omega
  have hp : 0 < cs.length := List.length_pos_iff.mpr h0
  obtain ⟨z, hz, FS⟩ := F
  refine Ct.of (a0 := a0) (Ls := [.val (.ref _), .val (.ref _), .val (.int _), .val (.int _), .val .null, .unset]) (plainFor_of_name pn_1) (fun m => ef_rriin_6 m _ _ _ _) hE ?_
  refine Wk.aload_n (q := 1) d3_0 rfl rfl (by first | rfl | assumption) ?_
  refine Wk.objinit (q := 4) 0 d3_1 rfl (hw _ (List.mem_of_getElem? (i := 57) rfl)) (hw _ (List.mem_of_getElem? (i := 58) rfl)) (hw _ (List.mem_of_getElem? (i := 59) rfl)) rfl (by first | decide | (dsimp only; omega) | omega) rfl (by first | decide | (dsimp only; omega) | omega) ?_
  refine Wk.iload_n (q := 5) d3_4 rfl rfl ?_
  refine Wk.if_t (q := 27) d3_5 (by decide) (by decide) (XT.i0_ne_t (fun h => by have := (n32_inj h31 (by omega : 0 < 2 ^ 31)).mp h; omega)) ?_
  refine Wk.getstatic (q := 30) d3_27 rfl (hw _ (List.mem_of_getElem? (i := 28) rfl)) Via.refl FS ?_
  refine Wk.if_f (q := 33) d3_30 rfl (XT.i0_eq_f hz) ?_
  refine Wk.aload_n (q := 34) d3_33 rfl rfl (by first | rfl | assumption) ?_
  refine Wk.iload_n (q := 35) d3_34 rfl rfl ?_
  refine Wk.iload_n (q := 36) d3_35 rfl rfl ?_
  refine Wk.static (q := 39) [_, _, _] _ 0 d3_36 rfl (hw _ (List.mem_of_getElem? (i := 261) rfl)) (hw _ (List.mem_of_getElem? (i := 262) rfl)) (hw _ (List.mem_of_getElem? (i := 263) rfl)) (hw _ (List.mem_of_getElem? (i := 264) rfl)) ar_1 (by decide) rfl rfl rfl rfl (ct_compressA hw hE hc N hN hl (List.mem_cons_of_mem _ hm)) (by first | decide | (dsimp only; omega) | omega) (by first | decide | (dsimp only; omega) | omega) (by first | decide | (dsimp only; omega) | omega) (by first | decide | (dsimp only; omega) | omega) (kv ?_)
  rintro _ _ ⟨b, rfl, rfl⟩
  refine Wk.astore (q := 41) d3_39 rfl (by first | rfl | assumption) (LS1.there (LS1.there (LS1.there (LS1.there (LS1.there (LS1.here (by first | exact One.u | exact One.val rfl | assumption))))))) ?_
  refine Wk.aload_n (q := 42) d3_41 rfl rfl (by first | rfl | assumption) ?_
  refine Wk.aload (q := 44) d3_42 rfl rfl (by first | rfl | assumption) ?_
  refine Wk.iload_n (q := 45) d3_44 rfl rfl ?_
  rw [show cs.length = ((cs.map b8).map Value.int).length by simp]
  refine Wk.static (q := 48) [_, _] _ 1 d3_45 rfl (hw _ (List.mem_of_getElem? (i := 268) rfl)) (hw _ (List.mem_of_getElem? (i := 269) rfl)) (hw _ (List.mem_of_getElem? (i := 263) rfl)) (hw _ (List.mem_of_getElem? (i := 270) rfl)) ar_2 (by decide) rfl rfl rfl rfl (ct_coderLat hw hE List.mem_cons_self) (by first | decide | (dsimp only; omega) | omega) (by first | decide | (dsimp only; omega) | omega) (by first | decide | (dsimp only; omega) | omega) (by first | decide | (dsimp only; omega) | omega) (kv ?_)
  rintro _ _ ⟨rfl, rfl⟩
  refine Wk.putfield (q := 51) (C := "java/lang/String") (lay := layS) 1 d3_48 rfl (hw _ (List.mem_of_getElem? (i := 29) rfl)) Via.refl (layS_ok hw) (hw _ (List.mem_of_getElem? (i := 12) rfl)) (Or.inr ⟨(hw _ (List.mem_of_getElem? (i := 15) rfl)), rfl, rfl⟩) rfl (by decide +kernel : parseFieldDescriptor "B" = some .byte) (by repeat (first | exact Ex.here | assumption | apply Ex.there)) (VS.there (VS.here)) (by first | rfl | exact narO) (by first | rfl | exact fitO (by assumption) | exact fitA (by assumption)) ?_
  refine Wk.aload_n (q := 52) d3_51 rfl rfl (by first | rfl | assumption) ?_
  refine Wk.aload (q := 54) d3_52 rfl rfl (by first | rfl | assumption) ?_
  refine Wk.putfield (q := 57) (C := "java/lang/String") (lay := layS) 0 d3_54 rfl (hw _ (List.mem_of_getElem? (i := 30) rfl)) Via.refl (layS_ok hw) (hw _ (List.mem_of_getElem? (i := 12) rfl)) (Or.inr ⟨(hw _ (List.mem_of_getElem? (i := 14) rfl)), rfl, rfl⟩) rfl (by decide +kernel : parseFieldDescriptor "[B" = some (.array .byte)) (by repeat (first | exact Ex.here | assumption | apply Ex.there)) (VS.here) (by first | rfl | exact narO) (by first | rfl | exact fitO (by assumption) | exact fitA (by assumption)) ?_
  refine Wk.return_ d3_57 rfl ?_
  exact ⟨rfl, b, rfl⟩
set_option maxHeartbeats 4000000 in
theorem ct_strInit {l : Launch} {Z : State} {a0 : Array Value} (hw : ∀ d ∈ tables_1, d.before a0 Z = true) (hE : EW Z a0 EL0) (F : ∃ z, z ≠ (0 : Int32) ∧ Sta Z Z.heap "java/lang/String" "COMPACT_STRINGS" "Z" (.int z)) {L : Store} {sa ca : Addr} {fa : Bool} {cs : List Int32} (hc : Lat cs) (h0 : cs ≠ []) (N : Nat) (hN : cs.length ≤ N) (hl : cs.length ≤ 4000) (hm : (ca, fa, AR Z .char (cs.map .int)) ∈ L) :
    Ct l Z EL0 (⟨"java/lang/String", "<init>", "([C)V"⟩ : MethodName) jdk_42_method_3_code 2 none ({ frames := 3, cells := 1, slots := N, locals := 52 } : Room) #[.ref sa, .ref ca] ((sa, true, OB Z "java/lang/String" layS [.null, .int 0]) :: L) (R0 fun M => ∃ b, M = (sa, true, OB Z "java/lang/String" layS [.ref b, .int 0]) :: (b, true, AR Z .byte ((cs.map b8).map .int)) :: L) := by
  refine Ct.of (a0 := a0) (Ls := [.val (.ref _), .val (.ref _)]) (plainFor_of_name pn_1) (fun m => ef_rr_2 m _ _) hE ?_
  refine Wk.aload_n (q := 1) d4_0 rfl rfl (by first | rfl | assumption) ?_
  refine Wk.aload_n (q := 2) d4_1 rfl rfl (by first | rfl | assumption) ?_
  refine Wk.iconst (q := 3) (0) d4_2 rfl (by decide) ?_
  refine Wk.aload_n (q := 4) d4_3 rfl rfl (by first | rfl | assumption) ?_
  refine Wk.arraylength (q := 5) d4_4 rfl (by repeat (first | exact List.mem_cons_self | assumption | refine List.mem_cons_of_mem _ ?_)) (show (cs.map Value.int).length.toInt32 = cs.length.toInt32 by simp) ?_
  refine Wk.aconst_null (q := 6) d4_5 rfl ?_
  refine Wk.special (q := 9) [_, _, _, _] _ 0 d4_6 rfl rfl (hw _ (List.mem_of_getElem? (i := 258) rfl)) (hw _ (List.mem_of_getElem? (i := 259) rfl)) (hw _ (List.mem_of_getElem? (i := 11) rfl)) (hw _ (List.mem_of_getElem? (i := 260) rfl)) ar_3 (by decide) rfl rfl rfl rfl (ct_strInit4 hw hE F hc h0 N hN hl hm) (by first | decide | (dsimp only; omega) | omega) (by first | decide | (dsimp only; omega) | omega) (by first | decide | (dsimp only; omega) | omega) (by first | decide | (dsimp only; omega) | omega) (k0 ?_)
  rintro _ ⟨b, rfl⟩
  refine Wk.return_ d4_9 rfl ?_
  exact ⟨rfl, b, rfl⟩

set_option maxHeartbeats 4000000 in
theorem wk_latEq {l : Launch} {Z : State} {a0 : Array Value} (hw : ∀ d ∈ tables_1, d.before a0 Z = true) (hE : EW Z a0 EL0) {L : Store} {a b : Addr} {fa fb : Bool} {xs ys : List Int32} (hl : xs.length < 2 ^ 31) (he : xs.length = ys.length) (ha : (a, fa, AR Z .byte (xs.map .int)) ∈ L) (hb : (b, fb, AR Z .byte (ys.map .int)) ∈ L) {cb sb : Nat} : ∀ (k i : Nat), i + k = xs.length → xs.take i = ys.take i →
    Wk l Z a0 EL0 (⟨"java/lang/StringLatin1", "equals", "([B[B)Z"⟩ : MethodName) jdk_43_method_13_code 3 (some .boolean) ({ frames := 0, cells := 0, slots := 0, locals := 0 } : Room) (RV fun u M => u = .int (if xs = ys then 1 else 0) ∧ M = L) L cb sb 9 [.val (.ref a), .val (.ref b), .val (.int i.toInt32)] [] := by
  intro k
  induction k with
  | zero =>
    intro i hi ht
    have hi' : i = xs.length := by omega
    subst hi'
    have e : xs = ys := by
      have h1 := List.take_length (l := xs)
      rw [ht, he, List.take_length] at h1
      exact h1.symm
    refine Wk.iload_n (q := 10) d5_9 rfl rfl ?_
    refine Wk.aload_n (q := 11) d5_10 rfl rfl (by first | rfl | assumption) ?_
    refine Wk.arraylength (q := 12) d5_11 rfl (by repeat (first | exact List.mem_cons_self | assumption | refine List.mem_cons_of_mem _ ?_)) (show (xs.map Value.int).length.toInt32 = xs.length.toInt32 by simp) ?_
    refine Wk.icmp_t (q := 32) d5_12 (by decide) (by decide) (XT.ii_ge_t (fun h => by rw [n32_lt hl hl] at h; omega)) ?_
    refine Wk.iconst (q := 33) (1) d5_32 rfl (by decide) ?_
    refine Wk.ireturn (t := .boolean) d5_33 rfl (by simp) (by rfl) ?_
    exact ⟨_, rfl, by rw [if_pos e], rfl⟩
  | succ k ih =>
    intro i hi ht
    have h1 : i < xs.length := by omega
    have h2 : i < ys.length := by omega
    have h3 : i < 2 ^ 31 := by omega
    refine Wk.iload_n (q := 10) d5_9 rfl rfl ?_
    refine Wk.aload_n (q := 11) d5_10 rfl rfl (by first | rfl | assumption) ?_
    refine Wk.arraylength (q := 12) d5_11 rfl (by repeat (first | exact List.mem_cons_self | assumption | refine List.mem_cons_of_mem _ ?_)) (show (xs.map Value.int).length.toInt32 = xs.length.toInt32 by simp) ?_
    refine Wk.icmp_f (q := 15) d5_12 rfl (XT.ii_ge_f ((n32_lt h3 hl).mpr h1)) ?_
    refine Wk.aload_n (q := 16) d5_15 rfl rfl (by first | rfl | assumption) ?_
    refine Wk.iload_n (q := 17) d5_16 rfl rfl ?_
    refine Wk.baload (q := 18) (i) d5_17 rfl (by repeat (first | exact List.mem_cons_self | assumption | refine List.mem_cons_of_mem _ ?_)) (n32_nn h3) (n32_nat h3) (show (xs.map Value.int)[i]? = some (.int xs[i]) by simp [h1]) ?_
    refine Wk.aload_n (q := 19) d5_18 rfl rfl (by first | rfl | assumption) ?_
    refine Wk.iload_n (q := 20) d5_19 rfl rfl ?_
    refine Wk.baload (q := 21) (i) d5_20 rfl (by repeat (first | exact List.mem_cons_self | assumption | refine List.mem_cons_of_mem _ ?_)) (n32_nn h3) (n32_nat h3) (show (ys.map Value.int)[i]? = some (.int ys[i]) by simp [h2]) ?_
    refine Wk.icmp_s (q := 26) (q' := 24) d5_21 (by decide) (by decide) rfl ?_ ?_
    · intro (h : xs[i] = ys[i])
      refine Wk.iinc (q := 29) (1) d5_26 rfl (by decide) rfl (LS1.there (LS1.there (LS1.here (by first | exact One.u | exact One.val rfl | assumption)))) ?_
      refine Wk.goto (q := 9) d5_29 (by decide) (by decide) ?_
      rw [n32_succ]
      exact ih (i + 1) (by omega) (by rw [List.take_succ_eq_append_getElem h1, List.take_succ_eq_append_getElem h2, ht, h])
    · intro (h : ¬ xs[i] = ys[i])
      refine Wk.iconst (q := 25) (0) d5_24 rfl (by decide) ?_
      refine Wk.ireturn (t := .boolean) d5_25 rfl (by simp) (by rfl) ?_
      refine ⟨_, rfl, ?_, rfl⟩
      rw [if_neg]
      rintro rfl
      exact h rfl
theorem ct_latEq {l : Launch} {Z : State} {a0 : Array Value} (hw : ∀ d ∈ tables_1, d.before a0 Z = true) (hE : EW Z a0 EL0) {L : Store} {a b : Addr} {fa fb : Bool} {xs ys : List Int32} (hl : xs.length < 2 ^ 31) (hl' : ys.length < 2 ^ 31) (ha : (a, fa, AR Z .byte (xs.map .int)) ∈ L) (hb : (b, fb, AR Z .byte (ys.map .int)) ∈ L) :
    Ct l Z EL0 (⟨"java/lang/StringLatin1", "equals", "([B[B)Z"⟩ : MethodName) jdk_43_method_13_code 3 (some .boolean) ({ frames := 0, cells := 0, slots := 0, locals := 0 } : Room) #[.ref a, .ref b] L (RV fun u M => u = .int (if xs = ys then 1 else 0) ∧ M = L) := by
  refine Ct.of (a0 := a0) (Ls := [.val (.ref _), .val (.ref _), .unset]) (plainFor_of_name pn_2) (fun m => ef_rr_3 m _ _) hE ?_
  refine Wk.aload_n (q := 1) d5_0 rfl rfl (by first | rfl | assumption) ?_
  refine Wk.arraylength (q := 2) d5_1 rfl (by repeat (first | exact List.mem_cons_self | assumption | refine List.mem_cons_of_mem _ ?_)) (show (xs.map Value.int).length.toInt32 = xs.length.toInt32 by simp) ?_
  refine Wk.aload_n (q := 3) d5_2 rfl rfl (by first | rfl | assumption) ?_
  refine Wk.arraylength (q := 4) d5_3 rfl (by repeat (first | exact List.mem_cons_self | assumption | refine List.mem_cons_of_mem _ ?_)) (show (ys.map Value.int).length.toInt32 = ys.length.toInt32 by simp) ?_
  refine Wk.icmp_s (q := 34) (q' := 7) d5_4 (by decide) (by decide) rfl ?_ ?_
  · intro (h : ¬ xs.length.toInt32 = ys.length.toInt32)
    refine Wk.iconst (q := 35) (0) d5_34 rfl (by decide) ?_
    refine Wk.ireturn (t := .boolean) d5_35 rfl (by simp) (by rfl) ?_
    refine ⟨_, rfl, ?_, rfl⟩
    rw [if_neg]
    rintro rfl
    exact h rfl
  · intro (h : xs.length.toInt32 = ys.length.toInt32)
    refine Wk.iconst (q := 8) (0) d5_7 rfl (by decide) ?_
    refine Wk.istore_n (q := 9) d5_8 rfl (LS1.there (LS1.there (LS1.here (by first | exact One.u | exact One.val rfl | assumption)))) ?_
    exact wk_latEq hw hE hl ((n32_inj hl hl').mp h) ha hb xs.length 0 (by omega) rfl
set_option maxHeartbeats 4000000 in
theorem ct_strEq {l : Launch} {Z : State} {a0 : Array Value} (hw : ∀ d ∈ tables_1, d.before a0 Z = true) (hE : EW Z a0 EL0) (F : ∃ z, z ≠ (0 : Int32) ∧ Sta Z Z.heap "java/lang/String" "COMPACT_STRINGS" "Z" (.int z)) {L : Store} {s t a b : Addr} {fs ft fa fb : Bool} {xs ys : List Int32} (hl : xs.length < 2 ^ 31) (hl' : ys.length < 2 ^ 31)
    (hs : (s, fs, OB Z "java/lang/String" layS [.ref a, .int 0]) ∈ L) (ht : (t, ft, OB Z "java/lang/String" layS [.ref b, .int 0]) ∈ L) (ha : (a, fa, AR Z .byte (xs.map .int)) ∈ L) (hb : (b, fb, AR Z .byte (ys.map .int)) ∈ L) :
    Ct l Z EL0 (⟨"java/lang/String", "equals", "(Ljava/lang/Object;)Z"⟩ : MethodName) jdk_42_method_66_code 3 (some .boolean) ({ frames := 1, cells := 0, slots := 0, locals := 14 } : Room) #[.ref s, .ref t] L (RV fun u M => u = .int (if xs = ys then 1 else 0) ∧ M = L) := by
  obtain ⟨z, hz, FS⟩ := F
  refine Ct.of (a0 := a0) (Ls := [.val (.ref _), .val (.ref _), .unset]) (plainFor_of_name pn_1) (fun m => ef_rr_3 m _ _) hE ?_
  refine Wk.aload_n (q := 1) d6_0 rfl rfl (by first | rfl | assumption) ?_
  refine Wk.aload_n (q := 2) d6_1 rfl rfl (by first | rfl | assumption) ?_
  by_cases he : s = t
  · subst he
    refine Wk.know (fun vm h I => (show xs = ys by
      have e1 := I.sameObj hs ht (j := 0) rfl rfl rfl
      cases e1
      exact map_int_inj (I.sameArr ha hb))) ?_
    intro e
    refine Wk.acmp_f (q := 5) d6_2 rfl rfl rfl (by simp [XT.acmp]) ?_
    refine Wk.iconst (q := 6) (1) d6_5 rfl (by decide) ?_
    refine Wk.ireturn (t := .boolean) d6_6 rfl (by simp) (by rfl) ?_
    exact ⟨_, rfl, by rw [if_pos e], rfl⟩
  · refine Wk.acmp_t (q := 7) d6_2 (by decide) (by decide) rfl rfl (by simp [XT.acmp, he]) ?_
    refine Wk.aload_n (q := 8) d6_7 rfl rfl (by first | rfl | assumption) ?_
    refine Wk.instanceof_t (q := 11) (C := "java/lang/String") d6_8 rfl (hw _ (List.mem_of_getElem? (i := 49) rfl)) (by repeat (first | exact List.mem_cons_self | assumption | refine List.mem_cons_of_mem _ ?_)) (hw _ (List.mem_of_getElem? (i := 55) rfl)) ?_
    refine Wk.if_f (q := 14) d6_11 rfl (by decide) ?_
    refine Wk.aload_n (q := 15) d6_14 rfl rfl (by first | rfl | assumption) ?_
    refine Wk.checkcast (q := 18) (C := "java/lang/String") d6_15 rfl (hw _ (List.mem_of_getElem? (i := 49) rfl)) (by repeat (first | exact List.mem_cons_self | assumption | refine List.mem_cons_of_mem _ ?_)) (hw _ (List.mem_of_getElem? (i := 55) rfl)) ?_
    refine Wk.astore_n (q := 19) d6_18 rfl (by first | rfl | assumption) (LS1.there (LS1.there (LS1.here (by first | exact One.u | exact One.val rfl | assumption)))) ?_
    refine Wk.getstatic (q := 22) d6_19 rfl (hw _ (List.mem_of_getElem? (i := 28) rfl)) Via.refl FS ?_
    refine Wk.if_f (q := 25) d6_22 rfl (XT.i0_eq_f hz) ?_
    refine Wk.aload_n (q := 26) d6_25 rfl rfl (by first | rfl | assumption) ?_
    refine Wk.getfield (q := 29) (C := "java/lang/String") (lay := layS) 1 d6_26 rfl (hw _ (List.mem_of_getElem? (i := 29) rfl)) Via.refl (by repeat (first | exact List.mem_cons_self | assumption | refine List.mem_cons_of_mem _ ?_)) rfl (by rfl) ?_
    refine Wk.aload_n (q := 30) d6_29 rfl rfl (by first | rfl | assumption) ?_
    refine Wk.getfield (q := 33) (C := "java/lang/String") (lay := layS) 1 d6_30 rfl (hw _ (List.mem_of_getElem? (i := 29) rfl)) Via.refl (by repeat (first | exact List.mem_cons_self | assumption | refine List.mem_cons_of_mem _ ?_)) rfl (by rfl) ?_
    refine Wk.icmp_f (q := 36) d6_33 rfl (by decide) ?_
    refine Wk.aload_n (q := 37) d6_36 rfl rfl (by first | rfl | assumption) ?_
    refine Wk.getfield (q := 40) (C := "java/lang/String") (lay := layS) 0 d6_37 rfl (hw _ (List.mem_of_getElem? (i := 30) rfl)) Via.refl (by repeat (first | exact List.mem_cons_self | assumption | refine List.mem_cons_of_mem _ ?_)) rfl (by rfl) ?_
    refine Wk.aload_n (q := 41) d6_40 rfl rfl (by first | rfl | assumption) ?_
    refine Wk.getfield (q := 44) (C := "java/lang/String") (lay := layS) 0 d6_41 rfl (hw _ (List.mem_of_getElem? (i := 30) rfl)) Via.refl (by repeat (first | exact List.mem_cons_self | assumption | refine List.mem_cons_of_mem _ ?_)) rfl (by rfl) ?_
    refine Wk.static (q := 47) [_, _] _ 0 d6_44 rfl (hw _ (List.mem_of_getElem? (i := 247) rfl)) (hw _ (List.mem_of_getElem? (i := 248) rfl)) (hw _ (List.mem_of_getElem? (i := 33) rfl)) (hw _ (List.mem_of_getElem? (i := 249) rfl)) ar_4 (by decide) rfl rfl rfl rfl (ct_latEq hw hE hl hl' ha hb) (by first | decide | (dsimp only; omega) | omega) (by first | decide | (dsimp only; omega) | omega) (by first | decide | (dsimp only; omega) | omega) (by first | decide | (dsimp only; omega) | omega) (kv ?_)
    rintro _ _ ⟨rfl, rfl⟩
    by_cases e : xs = ys
    · rw [if_pos e]
      refine Wk.if_f (q := 50) d6_47 rfl (by decide) ?_
      refine Wk.iconst (q := 51) (1) d6_50 rfl (by decide) ?_
      refine Wk.goto (q := 55) d6_51 (by decide) (by decide) ?_
      refine Wk.ireturn (t := .boolean) d6_55 rfl (by simp) (by rfl) ?_
      exact ⟨_, rfl, rfl, rfl⟩
    · rw [if_neg e]
      refine Wk.if_t (q := 54) d6_47 (by decide) (by decide) (by decide) ?_
      refine Wk.iconst (q := 55) (0) d6_54 rfl (by decide) ?_
      refine Wk.ireturn (t := .boolean) d6_55 rfl (by simp) (by rfl) ?_
      exact ⟨_, rfl, rfl, rfl⟩

theorem b8_back {c : Int32} (h : 0 ≤ c.toInt ∧ c.toInt < 256) : b8 c &&& 255 = c := by
  apply Int32.toInt_inj.mp
  have a := c_mask (b8 c) 255 8 (by decide) (by decide)
  have b := b8_toInt h
  simp only [pw0, pw1, pw8, pw31] at a
  rw [a, b]
  split <;> omega
theorem shr0 (x : Int32) : x >>> ((0 : Int32) &&& 31) = x := by
  apply Int32.toInt_inj.mp
  have a := c_ishr x 0 0 (by decide)
  simp only [pw0, pw1, pw8, pw31] at a
  omega
theorem shr1 {n : Nat} (h : n < 1000000) : (2 * n).toInt32 >>> ((1 : Int32) &&& 31) = n.toInt32 := by
  apply Int32.toInt_inj.mp
  have a := c_ishr (2 * n).toInt32 1 1 (by decide)
  rw [n32 (show 2 * n < 2 ^ 31 by omega)] at a
  rw [n32 (show n < 2 ^ 31 by omega)]
  simp only [pw0, pw1, pw8, pw31] at a
  omega
theorem ct_coder {l : Launch} {Z : State} {a0 : Array Value} (hw : ∀ d ∈ tables_1, d.before a0 Z = true) (hE : EW Z a0 EL0) (F : ∃ z, z ≠ (0 : Int32) ∧ Sta Z Z.heap "java/lang/String" "COMPACT_STRINGS" "Z" (.int z)) {L : Store} {s b : Addr} {f : Bool} {k : Int32} (hk : k = 0 ∨ k = 1) (hs : (s, f, OB Z "java/lang/String" layS [.ref b, .int k]) ∈ L) :
    Ct l Z EL0 (⟨"java/lang/String", "coder", "()B"⟩ : MethodName) jdk_42_method_152_code 1 (some .byte) ({ frames := 0, cells := 0, slots := 0, locals := 0 } : Room) #[.ref s] L (RV fun u M => u = .int k ∧ M = L) := by
  obtain ⟨z, hz, FS⟩ := F
  refine Ct.of (a0 := a0) (Ls := [.val (.ref _)]) (plainFor_of_name pn_1) (fun m => ef_r_1 m _) hE ?_
  refine Wk.getstatic (q := 3) d7_0 rfl (hw _ (List.mem_of_getElem? (i := 28) rfl)) Via.refl FS ?_
  refine Wk.if_f (q := 6) d7_3 rfl (XT.i0_eq_f hz) ?_
  refine Wk.aload_n (q := 7) d7_6 rfl rfl (by first | rfl | assumption) ?_
  refine Wk.getfield (q := 10) (C := "java/lang/String") (lay := layS) 1 d7_7 rfl (hw _ (List.mem_of_getElem? (i := 29) rfl)) Via.refl (by repeat (first | exact List.mem_cons_self | assumption | refine List.mem_cons_of_mem _ ?_)) rfl (by rfl) ?_
  refine Wk.goto (q := 14) d7_10 (by decide) (by decide) ?_
  refine Wk.ireturn (t := .byte) d7_14 rfl (by simp) (by rcases hk with rfl | rfl <;> decide) ?_
  exact ⟨_, rfl, rfl, rfl⟩
theorem ct_len {l : Launch} {Z : State} {a0 : Array Value} (hw : ∀ d ∈ tables_1, d.before a0 Z = true) (hE : EW Z a0 EL0) (F : ∃ z, z ≠ (0 : Int32) ∧ Sta Z Z.heap "java/lang/String" "COMPACT_STRINGS" "Z" (.int z)) {L : Store} {s b : Addr} {f fb : Bool} {k : Int32} {vs : List Value} (hk : k = 0 ∨ k = 1) (hs : (s, f, OB Z "java/lang/String" layS [.ref b, .int k]) ∈ L) (hb : (b, fb, AR Z .byte vs) ∈ L) :
    Ct l Z EL0 (⟨"java/lang/String", "length", "()I"⟩ : MethodName) jdk_42_method_54_code 1 (some .int) ({ frames := 1, cells := 0, slots := 0, locals := 13 } : Room) #[.ref s] L (RV fun u M => u = .int (vs.length.toInt32 >>> (k &&& 31)) ∧ M = L) := by
  refine Ct.of (a0 := a0) (Ls := [.val (.ref _)]) (plainFor_of_name pn_1) (fun m => ef_r_1 m _) hE ?_
  refine Wk.aload_n (q := 1) d8_0 rfl rfl (by first | rfl | assumption) ?_
  refine Wk.getfield (q := 4) (C := "java/lang/String") (lay := layS) 0 d8_1 rfl (hw _ (List.mem_of_getElem? (i := 30) rfl)) Via.refl (by repeat (first | exact List.mem_cons_self | assumption | refine List.mem_cons_of_mem _ ?_)) rfl (by rfl) ?_
  refine Wk.arraylength (q := 5) d8_4 rfl (by repeat (first | exact List.mem_cons_self | assumption | refine List.mem_cons_of_mem _ ?_)) (by rfl) ?_
  refine Wk.aload_n (q := 6) d8_5 rfl rfl (by first | rfl | assumption) ?_
  refine Wk.virtual (q := 9) (C := "java/lang/String") [] _ 1 d8_6 rfl (hw _ (List.mem_of_getElem? (i := 83) rfl)) (hw _ (List.mem_of_getElem? (i := 84) rfl)) (hw _ (List.mem_of_getElem? (i := 86) rfl)) (hw _ (List.mem_of_getElem? (i := 85) rfl)) (hw _ (List.mem_of_getElem? (i := 11) rfl)) (hw _ (List.mem_of_getElem? (i := 87) rfl)) ar_5 (by decide) (nfSel (hw _ (List.mem_of_getElem? (i := 86) rfl))) (by repeat (first | exact List.mem_cons_self | assumption | refine List.mem_cons_of_mem _ ?_)) rfl rfl rfl rfl (ct_coder hw hE F hk hs) (by first | decide | (dsimp only; omega) | omega) (by first | decide | (dsimp only; omega) | omega) (by first | decide | (dsimp only; omega) | omega) (by first | decide | (dsimp only; omega) | omega) (kv ?_)
  rintro _ _ ⟨rfl, rfl⟩
  refine Wk.ishr (q := 10) d8_9 rfl ?_
  refine Wk.ireturn (t := .int) d8_10 rfl (by simp) (by rfl) ?_
  exact ⟨_, rfl, rfl, rfl⟩
theorem ct_lenL {l : Launch} {Z : State} {a0 : Array Value} (hw : ∀ d ∈ tables_1, d.before a0 Z = true) (hE : EW Z a0 EL0) (F : ∃ z, z ≠ (0 : Int32) ∧ Sta Z Z.heap "java/lang/String" "COMPACT_STRINGS" "Z" (.int z)) {L : Store} {s b : Addr} {f fb : Bool} {xs : List Int32} (hs : (s, f, OB Z "java/lang/String" layS [.ref b, .int 0]) ∈ L) (hb : (b, fb, AR Z .byte (xs.map .int)) ∈ L) :
    Ct l Z EL0 (⟨"java/lang/String", "length", "()I"⟩ : MethodName) jdk_42_method_54_code 1 (some .int) ({ frames := 1, cells := 0, slots := 0, locals := 13 } : Room) #[.ref s] L (RV fun u M => u = .int xs.length.toInt32 ∧ M = L) :=
  Ct.imp (fun v M ⟨u, h1, h2, h3⟩ => ⟨u, h1, by rw [h2, shr0]; simp, h3⟩) (ct_len hw hE F (Or.inl rfl) hs hb)

/-- the formatter of the bounds' faults -/
def FO (Z : State) : Prop := ∃ w : Value, w.isRef = true ∧ Sta Z Z.heap "jdk/internal/util/Preconditions" "SIOOBE_FORMATTER" "Ljava/util/function/BiFunction;" w
theorem FO_of {Z : State} {args : Array Value} (h1 : (Jvm.Cond.initializedFor "jdk/internal/util/Preconditions" "SIOOBE_FORMATTER" "Ljava/util/function/BiFunction;").before args Z = true) (h2 : (Jvm.Cond.isRef (Term.static "jdk/internal/util/Preconditions" "SIOOBE_FORMATTER" "Ljava/util/function/BiFunction;")).before args Z = true) : FO Z := by
  obtain ⟨w, ev, hr⟩ := isR_v (Cond.before_iff.mp h2)
  exact ⟨w, hr, Sta.start (args := args) ev (Or.inl h1)⟩
theorem ct_isLat {l : Launch} {Z : State} {a0 : Array Value} (hw : ∀ d ∈ tables_1, d.before a0 Z = true) (hE : EW Z a0 EL0) (F : ∃ z, z ≠ (0 : Int32) ∧ Sta Z Z.heap "java/lang/String" "COMPACT_STRINGS" "Z" (.int z)) {L : Store} {s b : Addr} {f : Bool} {k : Int32} (hk : k = 0 ∨ k = 1) (hs : (s, f, OB Z "java/lang/String" layS [.ref b, .int k]) ∈ L) :
    Ct l Z EL0 (⟨"java/lang/String", "isLatin1", "()Z"⟩ : MethodName) jdk_42_method_154_code 1 (some .boolean) ({ frames := 0, cells := 0, slots := 0, locals := 0 } : Room) #[.ref s] L (RV fun u M => u = .int (1 - k) ∧ M = L) := by
  obtain ⟨z, hz, FS⟩ := F
  refine Ct.of (a0 := a0) (Ls := [.val (.ref _)]) (plainFor_of_name pn_1) (fun m => ef_r_1 m _) hE ?_
  refine Wk.getstatic (q := 3) d9_0 rfl (hw _ (List.mem_of_getElem? (i := 28) rfl)) Via.refl FS ?_
  refine Wk.if_f (q := 6) d9_3 rfl (XT.i0_eq_f hz) ?_
  refine Wk.aload_n (q := 7) d9_6 rfl rfl (by first | rfl | assumption) ?_
  refine Wk.getfield (q := 10) (C := "java/lang/String") (lay := layS) 1 d9_7 rfl (hw _ (List.mem_of_getElem? (i := 29) rfl)) Via.refl (by repeat (first | exact List.mem_cons_self | assumption | refine List.mem_cons_of_mem _ ?_)) rfl (by rfl) ?_
  rcases hk with rfl | rfl
  · refine Wk.if_f (q := 13) d9_10 rfl (by decide) ?_
    refine Wk.iconst (q := 14) (1) d9_13 rfl (by decide) ?_
    refine Wk.goto (q := 18) d9_14 (by decide) (by decide) ?_
    refine Wk.ireturn (t := .boolean) d9_18 rfl (by simp) (by rfl) ?_
    exact ⟨_, rfl, by decide, rfl⟩
  · refine Wk.if_t (q := 17) d9_10 (by decide) (by decide) (by decide) ?_
    refine Wk.iconst (q := 18) (0) d9_17 rfl (by decide) ?_
    refine Wk.ireturn (t := .boolean) d9_18 rfl (by simp) (by rfl) ?_
    exact ⟨_, rfl, by decide, rfl⟩

theorem ct_preIdx {l : Launch} {Z : State} {a0 : Array Value} (hw : ∀ d ∈ tables_1, d.before a0 Z = true) (hE : EW Z a0 EL0) {L : Store} {i n : Int32} {w : Value} (hr : w.isRef = true) (h0 : ¬ i < 0) (h1 : i < n) : Ct l Z EL0 (⟨"jdk/internal/util/Preconditions", "checkIndex", "(IILjava/util/function/BiFunction;)I"⟩ : MethodName) jdk_41_method_11_code 3 (some .int) ({ frames := 0, cells := 0, slots := 0, locals := 0 } : Room) #[.int i, .int n, w] L (RV fun u M => u = .int i ∧ M = L) := by
  refine Ct.of (a0 := a0) (Ls := [.val (.int _), .val (.int _), .val _]) (plainFor_of_name pn_3) (fun m => ef_iiv_3 m _ _ _ (by assumption)) hE ?_
  refine Wk.iload_n (q := 1) d10_0 rfl rfl ?_
  refine Wk.if_f (q := 4) d10_1 rfl (XT.i0_lt_f h0) ?_
  refine Wk.iload_n (q := 5) d10_4 rfl rfl ?_
  refine Wk.iload_n (q := 6) d10_5 rfl rfl ?_
  refine Wk.icmp_t (q := 16) d10_6 (by decide) (by decide) (XT.ii_lt_t h1) ?_
  refine Wk.iload_n (q := 17) d10_16 rfl rfl ?_
  refine Wk.ireturn (t := .int) d10_17 rfl (by simp) (by rfl) ?_
  exact ⟨_, rfl, rfl, rfl⟩
theorem ct_strIdx {l : Launch} {Z : State} {a0 : Array Value} (hw : ∀ d ∈ tables_1, d.before a0 Z = true) (hE : EW Z a0 EL0) (hO : FO Z) {L : Store} {i n : Int32} (h0 : ¬ i < 0) (h1 : i < n) : Ct l Z EL0 (⟨"java/lang/String", "checkIndex", "(II)V"⟩ : MethodName) jdk_42_method_155_code 2 none ({ frames := 1, cells := 0, slots := 0, locals := 14 } : Room) #[.int i, .int n] L (R0 fun M => M = L) := by
  obtain ⟨w, hr, sta_SIOOBE_FORMATTER⟩ := hO
  refine Ct.of (a0 := a0) (Ls := [.val (.int _), .val (.int _)]) (plainFor_of_name pn_1) (fun m => ef_ii_2 m _ _) hE ?_
  refine Wk.iload_n (q := 1) d11_0 rfl rfl ?_
  refine Wk.iload_n (q := 2) d11_1 rfl rfl ?_
  refine Wk.getstatic (q := 5) d11_2 rfl (hw _ (List.mem_of_getElem? (i := 38) rfl)) Via.refl sta_SIOOBE_FORMATTER ?_
  refine Wk.static (q := 8) [_, _, _] _ 0 d11_5 rfl (hw _ (List.mem_of_getElem? (i := 40) rfl)) (hw _ (List.mem_of_getElem? (i := 41) rfl)) (hw _ (List.mem_of_getElem? (i := 39) rfl)) (hw _ (List.mem_of_getElem? (i := 42) rfl)) ar_6 (by decide) rfl rfl rfl rfl (ct_preIdx hw hE hr h0 h1) (by first | decide | (dsimp only; omega) | omega) (by first | decide | (dsimp only; omega) | omega) (by first | decide | (dsimp only; omega) | omega) (by first | decide | (dsimp only; omega) | omega) (kv ?_)
  rintro _ _ ⟨rfl, rfl⟩
  refine Wk.pop (q := 9) d11_8 rfl rfl ?_
  refine Wk.return_ d11_9 rfl ?_
  exact ⟨rfl, rfl⟩
theorem ct_latAt {l : Launch} {Z : State} {a0 : Array Value} (hw : ∀ d ∈ tables_1, d.before a0 Z = true) (hE : EW Z a0 EL0) (hO : FO Z) {L : Store} {b : Addr} {fb : Bool} {cs : List Int32} (hc : Lat cs) (hl : cs.length < 2 ^ 31) {i : Nat} (hi : i < cs.length) (hb : (b, fb, AR Z .byte ((cs.map b8).map .int)) ∈ L) : Ct l Z EL0 (⟨"java/lang/StringLatin1", "charAt", "([BI)C"⟩ : MethodName) jdk_43_method_2_code 2 (some .char) ({ frames := 2, cells := 0, slots := 0, locals := 27 } : Room) #[.ref b, .int i.toInt32] L (RV fun u M => u = .int cs[i] ∧ M = L) := by
  have h3 : i < 2 ^ 31 := by omega
  have hci := hc cs[i] (List.getElem_mem hi)
  refine Ct.of (a0 := a0) (Ls := [.val (.ref _), .val (.int _)]) (plainFor_of_name pn_2) (fun m => ef_ri_2 m _ _) hE ?_
  refine Wk.iload_n (q := 1) d12_0 rfl rfl ?_
  refine Wk.aload_n (q := 2) d12_1 rfl rfl (by first | rfl | assumption) ?_
  refine Wk.arraylength (q := 3) d12_2 rfl (by repeat (first | exact List.mem_cons_self | assumption | refine List.mem_cons_of_mem _ ?_)) (show ((cs.map b8).map Value.int).length.toInt32 = cs.length.toInt32 by simp) ?_
  refine Wk.static (q := 6) [_, _] _ 0 d12_3 rfl (hw _ (List.mem_of_getElem? (i := 35) rfl)) (hw _ (List.mem_of_getElem? (i := 36) rfl)) (hw _ (List.mem_of_getElem? (i := 11) rfl)) (hw _ (List.mem_of_getElem? (i := 37) rfl)) ar_7 (by decide) rfl rfl rfl rfl (ct_strIdx hw hE hO (n32_nn h3) ((n32_lt h3 hl).mpr hi)) (by first | decide | (dsimp only; omega) | omega) (by first | decide | (dsimp only; omega) | omega) (by first | decide | (dsimp only; omega) | omega) (by first | decide | (dsimp only; omega) | omega) (k0 ?_)
  rintro _ rfl
  refine Wk.aload_n (q := 7) d12_6 rfl rfl (by first | rfl | assumption) ?_
  refine Wk.iload_n (q := 8) d12_7 rfl rfl ?_
  refine Wk.baload (q := 9) (i) d12_8 rfl (by repeat (first | exact List.mem_cons_self | assumption | refine List.mem_cons_of_mem _ ?_)) (n32_nn h3) (n32_nat h3) (show ((cs.map b8).map Value.int)[i]? = some (.int (b8 cs[i])) by simp [hi]) ?_
  refine Wk.sipush (q := 12) (255) d12_9 rfl (by decide) ?_
  refine Wk.iand (q := 13) d12_12 rfl ?_
  refine Wk.i2c (q := 14) d12_13 rfl ?_
  rw [i2c_mask, b8_back hci]
  refine Wk.ireturn (t := .char) d12_14 rfl (by simp) (congrArg Value.int (nchar_lat hci)) ?_
  exact ⟨_, rfl, rfl, rfl⟩
theorem ct_atL {l : Launch} {Z : State} {a0 : Array Value} (hw : ∀ d ∈ tables_1, d.before a0 Z = true) (hE : EW Z a0 EL0) (F : ∃ z, z ≠ (0 : Int32) ∧ Sta Z Z.heap "java/lang/String" "COMPACT_STRINGS" "Z" (.int z)) (hO : FO Z) {L : Store} {s b : Addr} {f fb : Bool} {cs : List Int32} (hc : Lat cs) (hl : cs.length < 2 ^ 31) {i : Nat} (hi : i < cs.length) (hs : (s, f, OB Z "java/lang/String" layS [.ref b, .int 0]) ∈ L) (hb : (b, fb, AR Z .byte ((cs.map b8).map .int)) ∈ L) : Ct l Z EL0 (⟨"java/lang/String", "charAt", "(I)C"⟩ : MethodName) jdk_42_method_56_code 2 (some .char) ({ frames := 3, cells := 0, slots := 0, locals := 40 } : Room) #[.ref s, .int i.toInt32] L (RV fun u M => u = .int cs[i] ∧ M = L) := by
  have hci := hc cs[i] (List.getElem_mem hi)
  refine Ct.of (a0 := a0) (Ls := [.val (.ref _), .val (.int _)]) (plainFor_of_name pn_1) (fun m => ef_ri_2 m _ _) hE ?_
  refine Wk.aload_n (q := 1) d13_0 rfl rfl (by first | rfl | assumption) ?_
  refine Wk.virtual (q := 4) (C := "java/lang/String") [] _ 0 d13_1 rfl (hw _ (List.mem_of_getElem? (i := 23) rfl)) (hw _ (List.mem_of_getElem? (i := 24) rfl)) (hw _ (List.mem_of_getElem? (i := 26) rfl)) (hw _ (List.mem_of_getElem? (i := 25) rfl)) (hw _ (List.mem_of_getElem? (i := 11) rfl)) (hw _ (List.mem_of_getElem? (i := 27) rfl)) ar_8 (by decide) (nfSel (hw _ (List.mem_of_getElem? (i := 26) rfl))) (by repeat (first | exact List.mem_cons_self | assumption | refine List.mem_cons_of_mem _ ?_)) rfl rfl rfl rfl (ct_isLat hw hE F (Or.inl rfl) hs) (by first | decide | (dsimp only; omega) | omega) (by first | decide | (dsimp only; omega) | omega) (by first | decide | (dsimp only; omega) | omega) (by first | decide | (dsimp only; omega) | omega) (kv ?_)
  rintro _ _ ⟨rfl, rfl⟩
  refine Wk.if_f (q := 7) d13_4 rfl (by decide) ?_
  refine Wk.aload_n (q := 8) d13_7 rfl rfl (by first | rfl | assumption) ?_
  refine Wk.getfield (q := 11) (C := "java/lang/String") (lay := layS) 0 d13_8 rfl (hw _ (List.mem_of_getElem? (i := 30) rfl)) Via.refl (by repeat (first | exact List.mem_cons_self | assumption | refine List.mem_cons_of_mem _ ?_)) rfl (by rfl) ?_
  refine Wk.iload_n (q := 12) d13_11 rfl rfl ?_
  refine Wk.static (q := 15) [_, _] _ 0 d13_12 rfl (hw _ (List.mem_of_getElem? (i := 31) rfl)) (hw _ (List.mem_of_getElem? (i := 32) rfl)) (hw _ (List.mem_of_getElem? (i := 33) rfl)) (hw _ (List.mem_of_getElem? (i := 34) rfl)) ar_9 (by decide) rfl rfl rfl rfl (ct_latAt hw hE hO hc hl hi hb) (by first | decide | (dsimp only; omega) | omega) (by first | decide | (dsimp only; omega) | omega) (by first | decide | (dsimp only; omega) | omega) (by first | decide | (dsimp only; omega) | omega) (kv ?_)
  rintro _ _ ⟨rfl, rfl⟩
  refine Wk.ireturn (t := .char) d13_15 rfl (by simp) (congrArg Value.int (nchar_lat hci)) ?_
  exact ⟨_, rfl, rfl, rfl⟩

theorem n32_sub {i j : Nat} (h : i ≤ j) : j.toInt32 - i.toInt32 = (j - i).toInt32 := by
  have e : (j - i + i).toInt32 = (j - i).toInt32 + i.toInt32 := Int32.ofNat_add (j - i) i
  rw [show j - i + i = j by omega] at e
  rw [e, Int32.add_sub_cancel]
theorem fit_b8 (cs : List Int32) : ∀ v ∈ (cs.map b8).map Value.int, fits .byte v = true := by
  intro v hv
  rw [List.map_map] at hv
  obtain ⟨c, -, rfl⟩ := List.mem_map.mp hv
  show fits .byte (.int (b8 c)) = true
  have h1 := Int8.le_toInt c.toInt8
  have h2 := Int8.toInt_lt c.toInt8
  have q1 : (-128 : Int32) ≤ b8 c := by
    rw [Int32.le_iff_toInt_le, b8, Int8.toInt_toInt32]; exact h1
  have q2 : b8 c ≤ (127 : Int32) := by
    rw [Int32.le_iff_toInt_le, b8, Int8.toInt_toInt32]; show _ ≤ (127 : Int); omega
  simp only [fits, Bool.and_eq_true]
  exact ⟨decide_eq_true q1, decide_eq_true q2⟩
theorem fit_rep (n : Nat) : ∀ v ∈ List.replicate n (Value.int 0), fits .byte v = true := by
  intro v hv
  rw [(List.mem_replicate.mp hv).2]
  decide
theorem ct_mmin {l : Launch} {Z : State} {a0 : Array Value} (hw : ∀ d ∈ tables_1, d.before a0 Z = true) (hE : EW Z a0 EL0) {L : Store} {i j : Int32} : Ct l Z EL0 (⟨"java/lang/Math", "min", "(II)I"⟩ : MethodName) jdk_29_method_69_code 2 (some .int) ({ frames := 0, cells := 0, slots := 0, locals := 0 } : Room) #[.int i, .int j] L (RV fun u M => u = .int (if j < i then j else i) ∧ M = L) := by
  refine Ct.of (a0 := a0) (Ls := [.val (.int _), .val (.int _)]) pn_4 (fun m => ef_ii_2 m _ _) hE ?_
  refine Wk.iload_n (q := 1) d14_0 rfl rfl ?_
  refine Wk.iload_n (q := 2) d14_1 rfl rfl ?_
  refine Wk.icmp_s (q := 9) (q' := 5) d14_2 (by decide) (by decide) rfl ?_ ?_
  · intro (h : j < i)
    refine Wk.iload_n (q := 10) d14_9 rfl rfl ?_
    refine Wk.ireturn (t := .int) d14_10 rfl (by simp) (by rfl) ?_
    exact ⟨_, rfl, by rw [if_pos h], rfl⟩
  · intro (h : ¬ j < i)
    refine Wk.iload_n (q := 6) d14_5 rfl rfl ?_
    refine Wk.goto (q := 10) d14_6 (by decide) (by decide) ?_
    refine Wk.ireturn (t := .int) d14_10 rfl (by simp) (by rfl) ?_
    exact ⟨_, rfl, by rw [if_neg h], rfl⟩
theorem ct_ckLen {l : Launch} {Z : State} {a0 : Array Value} (hw : ∀ d ∈ tables_1, d.before a0 Z = true) (hE : EW Z a0 EL0) {L : Store} {i j : Int32} (h : ¬ j < i) : Ct l Z EL0 (⟨"java/util/Arrays", "checkLength", "(II)V"⟩ : MethodName) jdk_65_method_131_code 2 none ({ frames := 0, cells := 0, slots := 0, locals := 0 } : Room) #[.int i, .int j] L (R0 fun M => M = L) := by
  refine Ct.of (a0 := a0) (Ls := [.val (.int _), .val (.int _)]) (plainFor_of_name pn_5) (fun m => ef_ii_2 m _ _) hE ?_
  refine Wk.iload_n (q := 1) d15_0 rfl rfl ?_
  refine Wk.iload_n (q := 2) d15_1 rfl rfl ?_
  refine Wk.icmp_t (q := 37) d15_2 (by decide) (by decide) (XT.ii_ge_t h) ?_
  refine Wk.return_ d15_37 rfl ?_
  exact ⟨rfl, rfl⟩
set_option maxHeartbeats 4000000 in
theorem ct_copyRB {l : Launch} {Z : State} {a0 : Array Value} (hw : ∀ d ∈ tables_1, d.before a0 Z = true) (hE : EW Z a0 EL0) {L : Store} {a : Addr} {fa : Bool} {cs : List Int32} {i j : Nat} (hij : i ≤ j) (hj : j ≤ cs.length) (hl : cs.length < 1000000) (N : Nat) (hN : cs.length ≤ N) (ha : (a, fa, AR Z .byte ((cs.map b8).map .int)) ∈ L) :
    Ct l Z EL0 (⟨"java/util/Arrays", "copyOfRangeByte", "([BII)[B"⟩ : MethodName) jdk_65_method_133_code 5 (some (.array .byte)) ({ frames := 1, cells := 1, slots := N, locals := 18 } : Room) #[.ref a, .int i.toInt32, .int j.toInt32] L (RV fun u M => ∃ r, u = .ref r ∧ M = (r, true, AR Z .byte (((((cs.drop i).take (j - i)).map b8)).map .int)) :: L) := by
  have hle : ((cs.map b8).map Value.int).length = cs.length := by simp
  have hms : ¬ (j - i).toInt32 < (cs.length - i).toInt32 → (cs.length - i = j - i) := fun h => by
    have h' : ¬ (j - i < cs.length - i) := fun q => h ((n32_lt (by omega) (by omega)).mpr q)
    omega
  refine Ct.of (a0 := a0) (Ls := [.val (.ref _), .val (.int _), .val (.int _), .unset, .unset]) (plainFor_of_name pn_5) (fun m => ef_rii_5 m _ _ _) hE ?_
  refine Wk.iload_n (q := 1) d16_0 rfl rfl ?_
  refine Wk.iload_n (q := 2) d16_1 rfl rfl ?_
  refine Wk.static (q := 5) [_, _] _ 0 d16_2 rfl (hw _ (List.mem_of_getElem? (i := 190) rfl)) (hw _ (List.mem_of_getElem? (i := 191) rfl)) (hw _ (List.mem_of_getElem? (i := 185) rfl)) (hw _ (List.mem_of_getElem? (i := 192) rfl)) ar_7 (by decide) rfl rfl rfl rfl (ct_ckLen hw hE (fun q => by have := (n32_lt (by omega) (by omega)).mp q; omega)) (by first | decide | (dsimp only; omega) | omega) (by first | decide | (dsimp only; omega) | omega) (by first | decide | (dsimp only; omega) | omega) (by first | decide | (dsimp only; omega) | omega) (k0 ?_)
  rintro _ rfl
  refine Wk.iload_n (q := 6) d16_5 rfl rfl ?_
  refine Wk.iload_n (q := 7) d16_6 rfl rfl ?_
  refine Wk.isub (q := 8) d16_7 rfl ?_
  rw [n32_sub hij]
  refine Wk.istore_n (q := 9) d16_8 rfl (LS1.there (LS1.there (LS1.there (LS1.here (by first | exact One.u | exact One.val rfl | assumption))))) ?_
  refine Wk.iload_n (q := 10) d16_9 rfl rfl ?_
  refine Wk.newarray (q := 12) .byte ((j - i)) (List.replicate (j - i) (.int 0)) d16_10 rfl rfl rfl (hw _ (List.mem_of_getElem? (i := 13) rfl)) (n32_nn (by omega)) (n32_nat (by omega)) (by omega) (by first | decide | (dsimp only; omega) | omega) (by first | decide | (dsimp only; omega) | omega) ?_
  intro r
  refine Wk.astore (q := 14) d16_12 rfl (by first | rfl | assumption) (LS1.there (LS1.there (LS1.there (LS1.there (LS1.here (by first | exact One.u | exact One.val rfl | assumption)))))) ?_
  refine Wk.aload_n (q := 15) d16_14 rfl rfl (by first | rfl | assumption) ?_
  refine Wk.iload_n (q := 16) d16_15 rfl rfl ?_
  refine Wk.aload (q := 18) d16_16 rfl rfl (by first | rfl | assumption) ?_
  refine Wk.iconst (q := 19) (0) d16_18 rfl (by decide) ?_
  refine Wk.aload_n (q := 20) d16_19 rfl rfl (by first | rfl | assumption) ?_
  refine Wk.arraylength (q := 21) d16_20 rfl (by repeat (first | exact List.mem_cons_self | assumption | refine List.mem_cons_of_mem _ ?_)) (show ((cs.map b8).map Value.int).length.toInt32 = cs.length.toInt32 by simp) ?_
  refine Wk.iload_n (q := 22) d16_21 rfl rfl ?_
  refine Wk.isub (q := 23) d16_22 rfl ?_
  rw [n32_sub (show i ≤ cs.length by omega)]
  refine Wk.iload_n (q := 24) d16_23 rfl rfl ?_
  refine Wk.static (q := 27) [_, _] _ 4 d16_24 rfl (hw _ (List.mem_of_getElem? (i := 193) rfl)) (hw _ (List.mem_of_getElem? (i := 194) rfl)) (hw _ (List.mem_of_getElem? (i := 195) rfl)) (hw _ (List.mem_of_getElem? (i := 196) rfl)) ar_10 (by decide) rfl rfl rfl rfl (ct_mmin hw hE) (by first | decide | (dsimp only; omega) | omega) (by first | decide | (dsimp only; omega) | omega) (by first | decide | (dsimp only; omega) | omega) (by first | decide | (dsimp only; omega) | omega) (kv ?_)
  rintro _ _ ⟨rfl, rfl⟩
  rw [show (if (j - i).toInt32 < (cs.length - i).toInt32 then (j - i).toInt32 else (cs.length - i).toInt32) = (j - i).toInt32 from by split; rfl; rename_i h; rw [hms h]]
  refine Wk.arraycopyB (q := 30) 0 i 0 (j - i) ((((cs.drop i).take (j - i)).map b8).map .int) d16_27 rfl (hw _ (List.mem_of_getElem? (i := 197) rfl)) (hw _ (List.mem_of_getElem? (i := 151) rfl)) (hw _ (List.mem_of_getElem? (i := 149) rfl)) (hw _ (List.mem_of_getElem? (i := 150) rfl)) (by repeat (first | exact Ex.here | assumption | apply Ex.there)) (by repeat (first | exact List.mem_cons_self | assumption | refine List.mem_cons_of_mem _ ?_)) (fit_b8 cs) (fit_rep _) ⟨n32_nn (by omega), n32_nat (by omega)⟩ (by decide) ⟨n32_nn (by omega), n32_nat (by omega)⟩ (by rw [hle]; omega) (by simp) (by simp [List.map_drop, List.map_take]) rfl (by first | decide | (dsimp only; omega) | omega) rfl (by first | decide | (dsimp only; decide)) ?_
  refine Wk.aload (q := 32) d16_30 rfl rfl (by first | rfl | assumption) ?_
  refine Wk.areturn (t := (.array .byte)) d16_32 rfl rfl (by first | rfl | exact narO | exact narA) (by first | rfl | assumption) ?_
  exact ⟨_, rfl, r, rfl, rfl⟩
theorem ct_copyR {l : Launch} {Z : State} {a0 : Array Value} (hw : ∀ d ∈ tables_1, d.before a0 Z = true) (hE : EW Z a0 EL0) {L : Store} {a : Addr} {fa : Bool} {cs : List Int32} {i j : Nat} (h0 : 0 < i) (hij : i ≤ j) (hj : j ≤ cs.length) (hl : cs.length < 1000000) (N : Nat) (hN : cs.length ≤ N) (ha : (a, fa, AR Z .byte ((cs.map b8).map .int)) ∈ L) :
    Ct l Z EL0 (⟨"java/util/Arrays", "copyOfRange", "([BII)[B"⟩ : MethodName) jdk_65_method_132_code 3 (some (.array .byte)) ({ frames := 2, cells := 1, slots := N, locals := 34 } : Room) #[.ref a, .int i.toInt32, .int j.toInt32] L (RV fun u M => ∃ r, u = .ref r ∧ M = (r, true, AR Z .byte (((((cs.drop i).take (j - i)).map b8)).map .int)) :: L) := by
  refine Ct.of (a0 := a0) (Ls := [.val (.ref _), .val (.int _), .val (.int _)]) (plainFor_of_name pn_5) (fun m => ef_rii_3 m _ _ _) hE ?_
  refine Wk.iload_n (q := 1) d17_0 rfl rfl ?_
  refine Wk.if_t (q := 10) d17_1 (by decide) (by decide) (XT.i0_ne_t (fun q => absurd ((n32_inj (by omega) (by decide : 0 < 2 ^ 31)).mp q) (by omega))) ?_
  refine Wk.aload_n (q := 11) d17_10 rfl rfl (by first | rfl | assumption) ?_
  refine Wk.iload_n (q := 12) d17_11 rfl rfl ?_
  refine Wk.iload_n (q := 13) d17_12 rfl rfl ?_
  refine Wk.static (q := 16) [_, _, _] _ 0 d17_13 rfl (hw _ (List.mem_of_getElem? (i := 187) rfl)) (hw _ (List.mem_of_getElem? (i := 188) rfl)) (hw _ (List.mem_of_getElem? (i := 185) rfl)) (hw _ (List.mem_of_getElem? (i := 189) rfl)) ar_11 (by decide) rfl rfl rfl rfl (ct_copyRB hw hE hij hj hl N hN ha) (by first | decide | (dsimp only; omega) | omega) (by first | decide | (dsimp only; omega) | omega) (by first | decide | (dsimp only; omega) | omega) (by first | decide | (dsimp only; omega) | omega) (kv ?_)
  rintro _ _ ⟨r, rfl, rfl⟩
  refine Wk.areturn (t := (.array .byte)) d17_16 rfl rfl (by first | rfl | exact narO | exact narA) (by first | rfl | assumption) ?_
  exact ⟨_, rfl, r, rfl, rfl⟩

theorem ct_strBB {l : Launch} {Z : State} {a0 : Array Value} (hw : ∀ d ∈ tables_1, d.before a0 Z = true) (hE : EW Z a0 EL0) {L : Store} {s b : Addr} : Ct l Z EL0 (⟨"java/lang/String", "<init>", "([BB)V"⟩ : MethodName) jdk_42_method_151_code 3 none ({ frames := 1, cells := 0, slots := 0, locals := 12 } : Room) #[.ref s, .ref b, .int 0] ((s, true, OB Z "java/lang/String" layS [.null, .int 0]) :: L) (R0 fun M => M = (s, true, OB Z "java/lang/String" layS [.ref b, .int 0]) :: L) := by
  refine Ct.of (a0 := a0) (Ls := [.val (.ref _), .val (.ref _), .val (.int _)]) (plainFor_of_name pn_1) (fun m => ef_rri_3 m _ _ _) hE ?_
  refine Wk.aload_n (q := 1) d18_0 rfl rfl (by first | rfl | assumption) ?_
  refine Wk.objinit (q := 4) 0 d18_1 rfl (hw _ (List.mem_of_getElem? (i := 57) rfl)) (hw _ (List.mem_of_getElem? (i := 58) rfl)) (hw _ (List.mem_of_getElem? (i := 59) rfl)) rfl (by first | decide | (dsimp only; omega) | omega) rfl (by first | decide | (dsimp only; omega) | omega) ?_
  refine Wk.aload_n (q := 5) d18_4 rfl rfl (by first | rfl | assumption) ?_
  refine Wk.aload_n (q := 6) d18_5 rfl rfl (by first | rfl | assumption) ?_
  refine Wk.putfield (q := 9) (C := "java/lang/String") (lay := layS) 0 d18_6 rfl (hw _ (List.mem_of_getElem? (i := 30) rfl)) Via.refl (layS_ok hw) (hw _ (List.mem_of_getElem? (i := 12) rfl)) (Or.inr ⟨(hw _ (List.mem_of_getElem? (i := 14) rfl)), rfl, rfl⟩) rfl (by decide +kernel : parseFieldDescriptor "[B" = some (.array .byte)) (by repeat (first | exact Ex.here | assumption | apply Ex.there)) (VS.here) (by first | rfl | exact narO) (by first | rfl | exact fitO (by assumption) | exact fitA (by assumption)) ?_
  refine Wk.aload_n (q := 10) d18_9 rfl rfl (by first | rfl | assumption) ?_
  refine Wk.iload_n (q := 11) d18_10 rfl rfl ?_
  refine Wk.putfield (q := 14) (C := "java/lang/String") (lay := layS) 1 d18_11 rfl (hw _ (List.mem_of_getElem? (i := 29) rfl)) Via.refl (layS_ok hw) (hw _ (List.mem_of_getElem? (i := 12) rfl)) (Or.inr ⟨(hw _ (List.mem_of_getElem? (i := 15) rfl)), rfl, rfl⟩) rfl (by decide +kernel : parseFieldDescriptor "B" = some .byte) (by repeat (first | exact Ex.here | assumption | apply Ex.there)) (VS.there (VS.here)) (by first | rfl | exact narO) (by first | rfl | exact fitO (by assumption) | exact fitA (by assumption)) ?_
  refine Wk.return_ d18_14 rfl ?_
  exact ⟨rfl, rfl⟩

abbrev Lat1 (c : Int32) : Prop := 0 ≤ c.toInt ∧ c.toInt < 256

theorem ct_canE {l : Launch} {Z : State} {a0 : Array Value} (hw : ∀ d ∈ tables_1, d.before a0 Z = true) (hE : EW Z a0 EL0) {L : Store} {c : Int32} (hc : Lat1 c) : Ct l Z EL0 (⟨"java/lang/StringLatin1", "canEncode", "(C)Z"⟩ : MethodName) jdk_43_method_3_code 1 (some .boolean) ({ frames := 0, cells := 0, slots := 0, locals := 0 } : Room) #[.int c] L (RV fun u M => u = .int 1 ∧ M = L) := by
  refine Ct.of (a0 := a0) (Ls := [.val (.int _)]) (plainFor_of_name pn_2) (fun m => ef_i_1 m _) hE ?_
  refine Wk.iload_n (q := 1) d19_0 rfl rfl ?_
  refine Wk.sipush (q := 4) (255) d19_1 rfl (by decide) ?_
  refine Wk.icmp_f (q := 7) d19_4 rfl (XT.ii_gt_f (lat_le hc)) ?_
  refine Wk.iconst (q := 8) (1) d19_7 rfl (by decide) ?_
  refine Wk.goto (q := 12) d19_8 (by decide) (by decide) ?_
  refine Wk.ireturn (t := .boolean) d19_12 rfl (by simp) (by rfl) ?_
  exact ⟨_, rfl, rfl, rfl⟩
theorem ct_toB1 {l : Launch} {Z : State} {a0 : Array Value} (hw : ∀ d ∈ tables_1, d.before a0 Z = true) (hE : EW Z a0 EL0) {L : Store} {c : Int32} : Ct l Z EL0 (⟨"java/lang/StringLatin1", "toBytes", "(C)[B"⟩ : MethodName) jdk_43_method_46_code 1 (some (.array .byte)) ({ frames := 0, cells := 1, slots := 1, locals := 0 } : Room) #[.int c] L (RV fun u M => ∃ r, u = .ref r ∧ M = (r, true, AR Z .byte [.int (b8 c)]) :: L) := by
  refine Ct.of (a0 := a0) (Ls := [.val (.int _)]) (plainFor_of_name pn_2) (fun m => ef_i_1 m _) hE ?_
  refine Wk.iconst (q := 1) (1) d20_0 rfl (by decide) ?_
  refine Wk.newarray (q := 3) .byte (1) [(.int 0)] d20_1 rfl rfl rfl (hw _ (List.mem_of_getElem? (i := 13) rfl)) (by decide) (by decide) (by decide) (by first | decide | (dsimp only; omega) | omega) (by first | decide | (dsimp only; omega) | omega) ?_
  intro r
  refine Wk.dup (q := 4) d20_3 rfl rfl ?_
  refine Wk.iconst (q := 5) (0) d20_4 rfl (by decide) ?_
  refine Wk.iload_n (q := 6) d20_5 rfl rfl ?_
  refine Wk.i2b (q := 7) d20_6 rfl ?_
  refine Wk.bastore (q := 8) (0) d20_7 rfl (by repeat (first | exact Ex.here | assumption | apply Ex.there)) (by decide) (by decide) (toB_nar _) (VS.here) ?_
  refine Wk.areturn (t := (.array .byte)) d20_8 rfl rfl (by first | rfl | exact narO | exact narA) (by first | rfl | assumption) ?_
  exact ⟨_, rfl, r, rfl, rfl⟩
theorem ct_valC {l : Launch} {Z : State} {a0 : Array Value} (hw : ∀ d ∈ tables_1, d.before a0 Z = true) (hE : EW Z a0 EL0) (F : ∃ z, z ≠ (0 : Int32) ∧ Sta Z Z.heap "java/lang/String" "COMPACT_STRINGS" "Z" (.int z)) {L : Store} {c : Int32} (hc : Lat1 c) : Ct l Z EL0 (⟨"java/lang/String", "valueOf", "(C)Ljava/lang/String;"⟩ : MethodName) jdk_42_method_139_code 1 (some (.object "java/lang/String")) ({ frames := 2, cells := 2, slots := 5, locals := 27 } : Room) #[.int c] L (RV fun u M => ∃ s r, u = .ref s ∧ M = (s, true, OB Z "java/lang/String" layS [.ref r, .int 0]) :: (r, true, AR Z .byte [.int (b8 c)]) :: L) := by
  obtain ⟨z, hz, FS⟩ := F
  refine Ct.of (a0 := a0) (Ls := [.val (.int _)]) (plainFor_of_name pn_1) (fun m => ef_i_1 m _) hE ?_
  refine Wk.getstatic (q := 3) d21_0 rfl (hw _ (List.mem_of_getElem? (i := 28) rfl)) Via.refl FS ?_
  refine Wk.if_f (q := 6) d21_3 rfl (XT.i0_eq_f hz) ?_
  refine Wk.iload_n (q := 7) d21_6 rfl rfl ?_
  refine Wk.static (q := 10) [_] _ 0 d21_7 rfl (hw _ (List.mem_of_getElem? (i := 46) rfl)) (hw _ (List.mem_of_getElem? (i := 47) rfl)) (hw _ (List.mem_of_getElem? (i := 33) rfl)) (hw _ (List.mem_of_getElem? (i := 48) rfl)) ar_12 (by decide) rfl rfl rfl rfl (ct_canE hw hE hc) (by first | decide | (dsimp only; omega) | omega) (by first | decide | (dsimp only; omega) | omega) (by first | decide | (dsimp only; omega) | omega) (by first | decide | (dsimp only; omega) | omega) (kv ?_)
  rintro _ _ ⟨rfl, rfl⟩
  refine Wk.if_f (q := 13) d21_10 rfl (by decide) ?_
  refine Wk.new (q := 16) d21_13 rfl (hw _ (List.mem_of_getElem? (i := 49) rfl)) (hw _ (List.mem_of_getElem? (i := 12) rfl)) (hw _ (List.mem_of_getElem? (i := 11) rfl)) (layS_ok hw) layS_dv (by first | decide | (dsimp only; omega) | omega) (by first | decide | (dsimp only; omega) | omega) ?_
  intro s
  refine Wk.dup (q := 17) d21_16 rfl rfl ?_
  refine Wk.iload_n (q := 18) d21_17 rfl rfl ?_
  refine Wk.static (q := 21) [_] _ 2 d21_18 rfl (hw _ (List.mem_of_getElem? (i := 50) rfl)) (hw _ (List.mem_of_getElem? (i := 51) rfl)) (hw _ (List.mem_of_getElem? (i := 33) rfl)) (hw _ (List.mem_of_getElem? (i := 52) rfl)) ar_13 (by decide) rfl rfl rfl rfl (ct_toB1 hw hE) (by first | decide | (dsimp only; omega) | omega) (by first | decide | (dsimp only; omega) | omega) (by first | decide | (dsimp only; omega) | omega) (by first | decide | (dsimp only; omega) | omega) (kv ?_)
  rintro _ _ ⟨r, rfl, rfl⟩
  refine Wk.iconst (q := 22) (0) d21_21 rfl (by decide) ?_
  refine Wk.pull (o := (s, true, OB Z "java/lang/String" layS [.null, .int 0])) (by repeat (first | exact Ex.here | assumption | apply Ex.there)) ?_
  refine Wk.special (q := 25) [_, _] _ 1 d21_22 rfl rfl (hw _ (List.mem_of_getElem? (i := 53) rfl)) (hw _ (List.mem_of_getElem? (i := 54) rfl)) (hw _ (List.mem_of_getElem? (i := 11) rfl)) (hw _ (List.mem_of_getElem? (i := 56) rfl)) ar_14 (by decide) rfl rfl rfl rfl (ct_strBB hw hE) (by first | decide | (dsimp only; omega) | omega) (by first | decide | (dsimp only; omega) | omega) (by first | decide | (dsimp only; omega) | omega) (by first | decide | (dsimp only; omega) | omega) (k0 ?_)
  rintro _ rfl
  refine Wk.areturn (t := (.object "java/lang/String")) d21_25 rfl rfl (by first | rfl | exact narO | exact narA) (by first | rfl | assumption) ?_
  exact ⟨_, rfl, s, r, rfl, rfl⟩

def layB : Jvm.OwnW.Lay := [("java/lang/AbstractStringBuilder", "value", "[B"), ("java/lang/AbstractStringBuilder", "coder", "B"), ("java/lang/AbstractStringBuilder", "count", "I")]
theorem layB_ok {Z : State} {a0 : Array Value} (hw : ∀ d ∈ tables_1, d.before a0 Z = true) : LayOk Z a0 "java/lang/StringBuilder" layB := by
  refine ⟨fun f hf => ?_, by decide +kernel, fun f hf => ?_⟩
  all_goals simp only [layB, List.mem_cons, List.not_mem_nil, or_false] at hf
  all_goals rcases hf with rfl | rfl | rfl
  · exact Or.inl (hw _ (List.mem_of_getElem? (i := 111) rfl))
  · exact Or.inl (hw _ (List.mem_of_getElem? (i := 113) rfl))
  · exact Or.inl (hw _ (List.mem_of_getElem? (i := 126) rfl))
  · exact ⟨(.array .byte), by decide +kernel⟩
  · exact ⟨.byte, by decide +kernel⟩
  · exact ⟨.int, by decide +kernel⟩
theorem layB_dv : Dv layB [.null, (.int 0), (.int 0)] := by decide +kernel
theorem shl0 (x : Int32) : x <<< ((0 : Int32) &&& 31) = x := by
  apply Int32.toInt_inj.mp
  have a := c_ishl x 0 0 (by decide)
  have r1 := rng32 x
  have r2 := rng32 (x <<< ((0 : Int32) &&& 31))
  simp only [pw0, pw1, pw8, pw31] at a
  omega
theorem n32_add (i j : Nat) : i.toInt32 + j.toInt32 = (i + j).toInt32 := (Int32.ofNat_add i j).symm
theorem rep_bld (k : Nat) : ((List.replicate k (0 : Int32)).map b8).map Value.int = List.replicate k (.int 0) := by
  rw [List.map_replicate, List.map_replicate]; rfl
theorem ct_asbInit {l : Launch} {Z : State} {a0 : Array Value} (hw : ∀ d ∈ tables_1, d.before a0 Z = true) (hE : EW Z a0 EL0) (F : ∃ z, z ≠ (0 : Int32) ∧ Sta Z Z.heap "java/lang/String" "COMPACT_STRINGS" "Z" (.int z)) {L : Store} {s : Addr} :
    Ct l Z EL0 (⟨"java/lang/AbstractStringBuilder", "<init>", "(I)V"⟩ : MethodName) jdk_68_method_2_code 2 none ({ frames := 1, cells := 1, slots := 16, locals := 12 } : Room) #[.ref s, .int 16] ((s, true, OB Z "java/lang/StringBuilder" layB [.null, .int 0, .int 0]) :: L) (R0 fun M => ∃ v, M = (s, true, OB Z "java/lang/StringBuilder" layB [.ref v, .int 0, .int 0]) :: (v, true, AR Z .byte (((List.replicate 16 (0 : Int32)).map b8).map .int)) :: L) := by
  obtain ⟨z, hz, FS⟩ := F
  refine Ct.of (a0 := a0) (Ls := [.val (.ref _), .val (.int _)]) (plainFor_of_name pn_6) (fun m => ef_ri_2 m _ _) hE ?_
  refine Wk.aload_n (q := 1) d22_0 rfl rfl (by first | rfl | assumption) ?_
  refine Wk.objinit (q := 4) 0 d22_1 rfl (hw _ (List.mem_of_getElem? (i := 108) rfl)) (hw _ (List.mem_of_getElem? (i := 58) rfl)) (hw _ (List.mem_of_getElem? (i := 59) rfl)) rfl (by first | decide | (dsimp only; omega) | omega) rfl (by first | decide | (dsimp only; omega) | omega) ?_
  refine Wk.getstatic (q := 7) d22_4 rfl (hw _ (List.mem_of_getElem? (i := 109) rfl)) Via.refl FS ?_
  refine Wk.if_f (q := 10) d22_7 rfl (XT.i0_eq_f hz) ?_
  refine Wk.aload_n (q := 11) d22_10 rfl rfl (by first | rfl | assumption) ?_
  refine Wk.iload_n (q := 12) d22_11 rfl rfl ?_
  refine Wk.newarray (q := 14) .byte ((16)) (List.replicate (16) (.int 0)) d22_12 rfl rfl rfl (hw _ (List.mem_of_getElem? (i := 13) rfl)) (by decide) (by decide) (by decide) (by first | decide | (dsimp only; omega) | omega) (by first | decide | (dsimp only; omega) | omega) ?_
  intro v
  refine Wk.putfield (q := 17) (C := "java/lang/StringBuilder") (lay := layB) 0 d22_14 rfl (hw _ (List.mem_of_getElem? (i := 110) rfl)) Via.refl (layB_ok hw) (hw _ (List.mem_of_getElem? (i := 97) rfl)) (Or.inl (hw _ (List.mem_of_getElem? (i := 111) rfl))) rfl (by decide +kernel : parseFieldDescriptor "[B" = some (.array .byte)) (by repeat (first | exact Ex.here | assumption | apply Ex.there)) (VS.here) (by first | rfl | exact narO) (by first | rfl | exact fitO (by assumption) | exact fitA (by assumption)) ?_
  refine Wk.aload_n (q := 18) d22_17 rfl rfl (by first | rfl | assumption) ?_
  refine Wk.iconst (q := 19) (0) d22_18 rfl (by decide) ?_
  refine Wk.putfield (q := 22) (C := "java/lang/StringBuilder") (lay := layB) 1 d22_19 rfl (hw _ (List.mem_of_getElem? (i := 112) rfl)) Via.refl (layB_ok hw) (hw _ (List.mem_of_getElem? (i := 97) rfl)) (Or.inl (hw _ (List.mem_of_getElem? (i := 113) rfl))) rfl (by decide +kernel : parseFieldDescriptor "B" = some .byte) (by repeat (first | exact Ex.here | assumption | apply Ex.there)) (VS.there (VS.here)) (by first | rfl | exact narO) (by first | rfl | exact fitO (by assumption) | exact fitA (by assumption)) ?_
  refine Wk.goto (q := 38) d22_22 (by decide) (by decide) ?_
  refine Wk.return_ d22_38 rfl ?_
  exact ⟨rfl, v, by rw [rep_bld]⟩
theorem ct_sbInit {l : Launch} {Z : State} {a0 : Array Value} (hw : ∀ d ∈ tables_1, d.before a0 Z = true) (hE : EW Z a0 EL0) (F : ∃ z, z ≠ (0 : Int32) ∧ Sta Z Z.heap "java/lang/String" "COMPACT_STRINGS" "Z" (.int z)) {L : Store} {s : Addr} :
    Ct l Z EL0 (⟨"java/lang/StringBuilder", "<init>", "()V"⟩ : MethodName) jdk_67_method_1_code 1 none ({ frames := 2, cells := 1, slots := 16, locals := 25 } : Room) #[.ref s] ((s, true, OB Z "java/lang/StringBuilder" layB [.null, .int 0, .int 0]) :: L) (R0 fun M => ∃ v, M = (s, true, OB Z "java/lang/StringBuilder" layB [.ref v, .int 0, .int ([] : List Int32).length.toInt32]) :: (v, true, AR Z .byte ((([] ++ List.replicate 16 (0 : Int32)).map b8).map .int)) :: L) := by
  refine Ct.of (a0 := a0) (Ls := [.val (.ref _)]) (plainFor_of_name pn_7) (fun m => ef_r_1 m _) hE ?_
  refine Wk.aload_n (q := 1) d23_0 rfl rfl (by first | rfl | assumption) ?_
  refine Wk.bipush (q := 3) (16) d23_1 rfl (by decide) ?_
  refine Wk.special (q := 6) [_] _ 0 d23_3 rfl rfl (hw _ (List.mem_of_getElem? (i := 102) rfl)) (hw _ (List.mem_of_getElem? (i := 103) rfl)) (hw _ (List.mem_of_getElem? (i := 106) rfl)) (hw _ (List.mem_of_getElem? (i := 107) rfl)) ar_15 (by decide) rfl rfl rfl rfl (ct_asbInit hw hE F) (by first | decide | (dsimp only; omega) | omega) (by first | decide | (dsimp only; omega) | omega) (by first | decide | (dsimp only; omega) | omega) (by first | decide | (dsimp only; omega) | omega) (k0 ?_)
  rintro _ ⟨v, rfl⟩
  refine Wk.return_ d23_6 rfl ?_
  exact ⟨rfl, v, rfl⟩
theorem ct_ensCap {l : Launch} {Z : State} {a0 : Array Value} (hw : ∀ d ∈ tables_1, d.before a0 Z = true) (hE : EW Z a0 EL0) {L : Store} {s v : Addr} {f fv : Bool} {n m : Int32} {vs : List Value} (hs : (s, f, OB Z "java/lang/StringBuilder" layB [.ref v, .int 0, .int n]) ∈ L) (hv : (v, fv, AR Z .byte vs) ∈ L) (h : ¬ (0 : Int32) < m - vs.length.toInt32) :
    Ct l Z EL0 (⟨"java/lang/AbstractStringBuilder", "ensureCapacityInternal", "(I)V"⟩ : MethodName) jdk_68_method_9_code 3 none ({ frames := 0, cells := 0, slots := 0, locals := 0 } : Room) #[.ref s, .int m] L (R0 fun M => M = L) := by
  refine Ct.of (a0 := a0) (Ls := [.val (.ref _), .val (.int _), .unset]) (plainFor_of_name pn_6) (fun m => ef_ri_3 m _ _) hE ?_
  refine Wk.aload_n (q := 1) d24_0 rfl rfl (by first | rfl | assumption) ?_
  refine Wk.getfield (q := 4) (C := "java/lang/StringBuilder") (lay := layB) 0 d24_1 rfl (hw _ (List.mem_of_getElem? (i := 110) rfl)) Via.refl (by repeat (first | exact List.mem_cons_self | assumption | refine List.mem_cons_of_mem _ ?_)) rfl (by rfl) ?_
  refine Wk.arraylength (q := 5) d24_4 rfl (by repeat (first | exact List.mem_cons_self | assumption | refine List.mem_cons_of_mem _ ?_)) (by rfl) ?_
  refine Wk.aload_n (q := 6) d24_5 rfl rfl (by first | rfl | assumption) ?_
  refine Wk.getfield (q := 9) (C := "java/lang/StringBuilder") (lay := layB) 1 d24_6 rfl (hw _ (List.mem_of_getElem? (i := 112) rfl)) Via.refl (by repeat (first | exact List.mem_cons_self | assumption | refine List.mem_cons_of_mem _ ?_)) rfl (by rfl) ?_
  refine Wk.ishr (q := 10) d24_9 rfl ?_
  rw [shr0]
  refine Wk.istore_n (q := 11) d24_10 rfl (LS1.there (LS1.there (LS1.here (by first | exact One.u | exact One.val rfl | assumption)))) ?_
  refine Wk.iload_n (q := 12) d24_11 rfl rfl ?_
  refine Wk.iload_n (q := 13) d24_12 rfl rfl ?_
  refine Wk.isub (q := 14) d24_13 rfl ?_
  refine Wk.if_t (q := 38) d24_14 (by decide) (by decide) (XT.i0_le_t h) ?_
  refine Wk.return_ d24_38 rfl ?_
  exact ⟨rfl, rfl⟩
theorem ct_inflate {l : Launch} {Z : State} {a0 : Array Value} (hw : ∀ d ∈ tables_1, d.before a0 Z = true) (hE : EW Z a0 EL0) (F : ∃ z, z ≠ (0 : Int32) ∧ Sta Z Z.heap "java/lang/String" "COMPACT_STRINGS" "Z" (.int z)) {L : Store} {s v t d : Addr} {f ft : Bool} {n : Int32} (hs : (s, f, OB Z "java/lang/StringBuilder" layB [.ref v, .int 0, .int n]) ∈ L) (ht : (t, ft, OB Z "java/lang/String" layS [.ref d, .int 0]) ∈ L) :
    Ct l Z EL0 (⟨"java/lang/AbstractStringBuilder", "inflateIfNeededFor", "(Ljava/lang/String;)V"⟩ : MethodName) jdk_68_method_71_code 2 none ({ frames := 1, cells := 0, slots := 0, locals := 13 } : Room) #[.ref s, .ref t] L (R0 fun M => M = L) := by
  have F0 := F
  obtain ⟨z, hz, FS⟩ := F
  refine Ct.of (a0 := a0) (Ls := [.val (.ref _), .val (.ref _)]) (plainFor_of_name pn_6) (fun m => ef_rr_2 m _ _) hE ?_
  refine Wk.getstatic (q := 3) d25_0 rfl (hw _ (List.mem_of_getElem? (i := 109) rfl)) Via.refl FS ?_
  refine Wk.if_f (q := 6) d25_3 rfl (XT.i0_eq_f hz) ?_
  refine Wk.aload_n (q := 7) d25_6 rfl rfl (by first | rfl | assumption) ?_
  refine Wk.getfield (q := 10) (C := "java/lang/StringBuilder") (lay := layB) 1 d25_7 rfl (hw _ (List.mem_of_getElem? (i := 112) rfl)) Via.refl (by repeat (first | exact List.mem_cons_self | assumption | refine List.mem_cons_of_mem _ ?_)) rfl (by rfl) ?_
  refine Wk.aload_n (q := 11) d25_10 rfl rfl (by first | rfl | assumption) ?_
  refine Wk.virtual (q := 14) (C := "java/lang/String") [] _ 1 d25_11 rfl (hw _ (List.mem_of_getElem? (i := 142) rfl)) (hw _ (List.mem_of_getElem? (i := 84) rfl)) (hw _ (List.mem_of_getElem? (i := 86) rfl)) (hw _ (List.mem_of_getElem? (i := 85) rfl)) (hw _ (List.mem_of_getElem? (i := 11) rfl)) (hw _ (List.mem_of_getElem? (i := 87) rfl)) ar_5 (by decide) (nfSel (hw _ (List.mem_of_getElem? (i := 86) rfl))) (by repeat (first | exact List.mem_cons_self | assumption | refine List.mem_cons_of_mem _ ?_)) rfl rfl rfl rfl (ct_coder hw hE F0 (Or.inl rfl) ht) (by first | decide | (dsimp only; omega) | omega) (by first | decide | (dsimp only; omega) | omega) (by first | decide | (dsimp only; omega) | omega) (by first | decide | (dsimp only; omega) | omega) (kv ?_)
  rintro _ _ ⟨rfl, rfl⟩
  refine Wk.icmp_t (q := 21) d25_14 (by decide) (by decide) (by decide) ?_
  refine Wk.return_ d25_21 rfl ?_
  exact ⟨rfl, rfl⟩
set_option maxHeartbeats 4000000 in
theorem ct_strGB {l : Launch} {Z : State} {a0 : Array Value} (hw : ∀ d ∈ tables_1, d.before a0 Z = true) (hE : EW Z a0 EL0) (F : ∃ z, z ≠ (0 : Int32) ∧ Sta Z Z.heap "java/lang/String" "COMPACT_STRINGS" "Z" (.int z)) {L : Store} {v t d : Addr} {ft fd : Bool} {n : Nat} {zs cs : List Int32} (hl : zs.length < 1000000) (h : n + cs.length ≤ zs.length) (ht : (t, ft, OB Z "java/lang/String" layS [.ref d, .int 0]) ∈ L) (hd : (d, fd, AR Z .byte ((cs.map b8).map .int)) ∈ L) :
    Ct l Z EL0 (⟨"java/lang/String", "getBytes", "([BIB)V"⟩ : MethodName) jdk_42_method_147_code 4 none ({ frames := 1, cells := 0, slots := 0, locals := 18 } : Room) #[.ref t, .ref v, .int n.toInt32, .int 0] ((v, true, AR Z .byte ((zs.map b8).map .int)) :: L) (R0 fun M => M = (v, true, AR Z .byte (((zs.take n ++ cs ++ zs.drop (n + cs.length)).map b8).map .int)) :: L) := by
  have hle : ((cs.map b8).map Value.int).length = cs.length := by simp
  have hlz : ((zs.map b8).map Value.int).length = zs.length := by simp
  refine Ct.of (a0 := a0) (Ls := [.val (.ref _), .val (.ref _), .val (.int _), .val (.int _)]) (plainFor_of_name pn_1) (fun m => ef_rrii_4 m _ _ _ _) hE ?_
  refine Wk.aload_n (q := 1) d26_0 rfl rfl (by first | rfl | assumption) ?_
  refine Wk.virtual (q := 4) (C := "java/lang/String") [] _ 0 d26_1 rfl (hw _ (List.mem_of_getElem? (i := 83) rfl)) (hw _ (List.mem_of_getElem? (i := 84) rfl)) (hw _ (List.mem_of_getElem? (i := 86) rfl)) (hw _ (List.mem_of_getElem? (i := 85) rfl)) (hw _ (List.mem_of_getElem? (i := 11) rfl)) (hw _ (List.mem_of_getElem? (i := 87) rfl)) ar_5 (by decide) (nfSel (hw _ (List.mem_of_getElem? (i := 86) rfl))) (by repeat (first | exact List.mem_cons_self | assumption | refine List.mem_cons_of_mem _ ?_)) rfl rfl rfl rfl (ct_coder hw hE F (Or.inl rfl) (List.mem_cons_of_mem _ ht)) (by first | decide | (dsimp only; omega) | omega) (by first | decide | (dsimp only; omega) | omega) (by first | decide | (dsimp only; omega) | omega) (by first | decide | (dsimp only; omega) | omega) (kv ?_)
  rintro _ _ ⟨rfl, rfl⟩
  refine Wk.iload_n (q := 5) d26_4 rfl rfl ?_
  refine Wk.icmp_f (q := 8) d26_5 rfl (by decide) ?_
  refine Wk.aload_n (q := 9) d26_8 rfl rfl (by first | rfl | assumption) ?_
  refine Wk.getfield (q := 12) (C := "java/lang/String") (lay := layS) 0 d26_9 rfl (hw _ (List.mem_of_getElem? (i := 30) rfl)) Via.refl (by repeat (first | exact List.mem_cons_self | assumption | refine List.mem_cons_of_mem _ ?_)) rfl (by rfl) ?_
  refine Wk.iconst (q := 13) (0) d26_12 rfl (by decide) ?_
  refine Wk.aload_n (q := 14) d26_13 rfl rfl (by first | rfl | assumption) ?_
  refine Wk.iload_n (q := 15) d26_14 rfl rfl ?_
  refine Wk.iload_n (q := 16) d26_15 rfl rfl ?_
  refine Wk.ishl (q := 17) d26_16 rfl ?_
  rw [shl0]
  refine Wk.aload_n (q := 18) d26_17 rfl rfl (by first | rfl | assumption) ?_
  refine Wk.getfield (q := 21) (C := "java/lang/String") (lay := layS) 0 d26_18 rfl (hw _ (List.mem_of_getElem? (i := 30) rfl)) Via.refl (by repeat (first | exact List.mem_cons_self | assumption | refine List.mem_cons_of_mem _ ?_)) rfl (by rfl) ?_
  refine Wk.arraylength (q := 22) d26_21 rfl (by repeat (first | exact List.mem_cons_self | assumption | refine List.mem_cons_of_mem _ ?_)) (show ((cs.map b8).map Value.int).length.toInt32 = cs.length.toInt32 by rw [hle]) ?_
  refine Wk.arraycopyB (q := 25) 0 0 n cs.length (((zs.take n ++ cs ++ zs.drop (n + cs.length)).map b8).map .int) d26_22 rfl (hw _ (List.mem_of_getElem? (i := 148) rfl)) (hw _ (List.mem_of_getElem? (i := 151) rfl)) (hw _ (List.mem_of_getElem? (i := 149) rfl)) (hw _ (List.mem_of_getElem? (i := 150) rfl)) (by repeat (first | exact Ex.here | assumption | apply Ex.there)) (by repeat (first | exact List.mem_cons_self | assumption | refine List.mem_cons_of_mem _ ?_)) (fit_b8 cs) (fit_b8 zs) (by decide) ⟨n32_nn (by omega), n32_nat (by omega)⟩ ⟨n32_nn (by omega), n32_nat (by omega)⟩ (by rw [hle]; omega) (by rw [hlz]; omega) (by rw [List.drop_zero, ← hle, List.take_length, hle]; simp [List.map_take, List.map_drop]) rfl (by first | decide | (dsimp only; omega) | omega) rfl (by first | decide | (dsimp only; decide)) ?_
  refine Wk.goto (q := 43) d26_25 (by decide) (by decide) ?_
  refine Wk.return_ d26_43 rfl ?_
  exact ⟨rfl, rfl⟩
set_option maxHeartbeats 4000000 in
theorem ct_putStr {l : Launch} {Z : State} {a0 : Array Value} (hw : ∀ d ∈ tables_1, d.before a0 Z = true) (hE : EW Z a0 EL0) (F : ∃ z, z ≠ (0 : Int32) ∧ Sta Z Z.heap "java/lang/String" "COMPACT_STRINGS" "Z" (.int z)) {L : Store} {s v t d : Addr} {f ft fd : Bool} {k : Int32} {n : Nat} {zs cs : List Int32} (hl : zs.length < 1000000) (h : n + cs.length ≤ zs.length) (hs : (s, f, OB Z "java/lang/StringBuilder" layB [.ref v, .int 0, .int k]) ∈ L) (ht : (t, ft, OB Z "java/lang/String" layS [.ref d, .int 0]) ∈ L) (hd : (d, fd, AR Z .byte ((cs.map b8).map .int)) ∈ L) :
    Ct l Z EL0 (⟨"java/lang/AbstractStringBuilder", "putStringAt", "(ILjava/lang/String;)V"⟩ : MethodName) jdk_68_method_73_code 3 none ({ frames := 2, cells := 0, slots := 0, locals := 33 } : Room) #[.ref s, .int n.toInt32, .ref t] ((v, true, AR Z .byte ((zs.map b8).map .int)) :: L) (R0 fun M => M = (v, true, AR Z .byte (((zs.take n ++ cs ++ zs.drop (n + cs.length)).map b8).map .int)) :: L) := by
  refine Ct.of (a0 := a0) (Ls := [.val (.ref _), .val (.int _), .val (.ref _)]) (plainFor_of_name pn_6) (fun m => ef_rir_3 m _ _ _) hE ?_
  refine Wk.aload_n (q := 1) d27_0 rfl rfl (by first | rfl | assumption) ?_
  refine Wk.aload_n (q := 2) d27_1 rfl rfl (by first | rfl | assumption) ?_
  refine Wk.priv (q := 5) (C := "java/lang/StringBuilder") [_] _ 0 d27_2 rfl (hw _ (List.mem_of_getElem? (i := 137) rfl)) (hw _ (List.mem_of_getElem? (i := 138) rfl)) (hw _ (List.mem_of_getElem? (i := 140) rfl)) (hw _ (List.mem_of_getElem? (i := 139) rfl)) (hw _ (List.mem_of_getElem? (i := 106) rfl)) (hw _ (List.mem_of_getElem? (i := 141) rfl)) ar_16 (by decide) (by repeat (first | exact List.mem_cons_self | assumption | refine List.mem_cons_of_mem _ ?_)) rfl rfl rfl rfl (ct_inflate hw hE F (List.mem_cons_of_mem _ hs) (List.mem_cons_of_mem _ ht)) (by first | decide | (dsimp only; omega) | omega) (by first | decide | (dsimp only; omega) | omega) (by first | decide | (dsimp only; omega) | omega) (by first | decide | (dsimp only; omega) | omega) (k0 ?_)
  rintro _ rfl
  refine Wk.aload_n (q := 6) d27_5 rfl rfl (by first | rfl | assumption) ?_
  refine Wk.aload_n (q := 7) d27_6 rfl rfl (by first | rfl | assumption) ?_
  refine Wk.getfield (q := 10) (C := "java/lang/StringBuilder") (lay := layB) 0 d27_7 rfl (hw _ (List.mem_of_getElem? (i := 110) rfl)) Via.refl (by repeat (first | exact List.mem_cons_self | assumption | refine List.mem_cons_of_mem _ ?_)) rfl (by rfl) ?_
  refine Wk.iload_n (q := 11) d27_10 rfl rfl ?_
  refine Wk.aload_n (q := 12) d27_11 rfl rfl (by first | rfl | assumption) ?_
  refine Wk.getfield (q := 15) (C := "java/lang/StringBuilder") (lay := layB) 1 d27_12 rfl (hw _ (List.mem_of_getElem? (i := 112) rfl)) Via.refl (by repeat (first | exact List.mem_cons_self | assumption | refine List.mem_cons_of_mem _ ?_)) rfl (by rfl) ?_
  refine Wk.virtual (q := 18) (C := "java/lang/String") [_, _, _] _ 0 d27_15 rfl (hw _ (List.mem_of_getElem? (i := 143) rfl)) (hw _ (List.mem_of_getElem? (i := 144) rfl)) (hw _ (List.mem_of_getElem? (i := 146) rfl)) (hw _ (List.mem_of_getElem? (i := 145) rfl)) (hw _ (List.mem_of_getElem? (i := 11) rfl)) (hw _ (List.mem_of_getElem? (i := 147) rfl)) ar_17 (by decide) (nfSel (hw _ (List.mem_of_getElem? (i := 146) rfl))) (by repeat (first | exact List.mem_cons_self | assumption | refine List.mem_cons_of_mem _ ?_)) rfl rfl rfl rfl (ct_strGB hw hE F hl h ht hd) (by first | decide | (dsimp only; omega) | omega) (by first | decide | (dsimp only; omega) | omega) (by first | decide | (dsimp only; omega) | omega) (by first | decide | (dsimp only; omega) | omega) (k0 ?_)
  rintro _ rfl
  refine Wk.return_ d27_18 rfl ?_
  exact ⟨rfl, rfl⟩
set_option maxHeartbeats 4000000 in
theorem ct_asbApp {l : Launch} {Z : State} {a0 : Array Value} (hw : ∀ d ∈ tables_1, d.before a0 Z = true) (hE : EW Z a0 EL0) (F : ∃ z, z ≠ (0 : Int32) ∧ Sta Z Z.heap "java/lang/String" "COMPACT_STRINGS" "Z" (.int z)) {L : Store} {s v t d : Addr} {ft fd : Bool} {n : Nat} {zs cs : List Int32} (hl : zs.length < 1000000) (h : n + cs.length ≤ zs.length) (ht : (t, ft, OB Z "java/lang/String" layS [.ref d, .int 0]) ∈ L) (hd : (d, fd, AR Z .byte ((cs.map b8).map .int)) ∈ L) :
    Ct l Z EL0 (⟨"java/lang/AbstractStringBuilder", "append", "(Ljava/lang/String;)Ljava/lang/AbstractStringBuilder;"⟩ : MethodName) jdk_68_method_22_code 3 (some (.object "java/lang/AbstractStringBuilder")) ({ frames := 3, cells := 0, slots := 0, locals := 47 } : Room) #[.ref s, .ref t] ((s, true, OB Z "java/lang/StringBuilder" layB [.ref v, .int 0, .int n.toInt32]) :: (v, true, AR Z .byte ((zs.map b8).map .int)) :: L) (RV fun u M => u = .ref s ∧ M = (s, true, OB Z "java/lang/StringBuilder" layB [.ref v, .int 0, .int (n + cs.length).toInt32]) :: (v, true, AR Z .byte (((zs.take n ++ cs ++ zs.drop (n + cs.length)).map b8).map .int)) :: L) := by
  have hlz : ((zs.map b8).map Value.int).length = zs.length := by simp
  refine Ct.of (a0 := a0) (Ls := [.val (.ref _), .val (.ref _), .unset]) (plainFor_of_name pn_6) (fun m => ef_rr_3 m _ _) hE ?_
  refine Wk.aload_n (q := 1) d28_0 rfl rfl (by first | rfl | assumption) ?_
  refine Wk.nonnull_t (q := 9) d28_1 (by decide) (by decide)  ?_
  refine Wk.aload_n (q := 10) d28_9 rfl rfl (by first | rfl | assumption) ?_
  refine Wk.virtual (q := 13) (C := "java/lang/String") [] _ 0 d28_10 rfl (hw _ (List.mem_of_getElem? (i := 124) rfl)) (hw _ (List.mem_of_getElem? (i := 79) rfl)) (hw _ (List.mem_of_getElem? (i := 81) rfl)) (hw _ (List.mem_of_getElem? (i := 80) rfl)) (hw _ (List.mem_of_getElem? (i := 11) rfl)) (hw _ (List.mem_of_getElem? (i := 82) rfl)) ar_18 (by decide) (nfSel (hw _ (List.mem_of_getElem? (i := 81) rfl))) (by repeat (first | exact List.mem_cons_self | assumption | refine List.mem_cons_of_mem _ ?_)) rfl rfl rfl rfl (ct_lenL hw hE F (List.mem_cons_of_mem _ (List.mem_cons_of_mem _ ht)) (List.mem_cons_of_mem _ (List.mem_cons_of_mem _ hd))) (by first | decide | (dsimp only; omega) | omega) (by first | decide | (dsimp only; omega) | omega) (by first | decide | (dsimp only; omega) | omega) (by first | decide | (dsimp only; omega) | omega) (kv ?_)
  rintro _ _ ⟨rfl, rfl⟩
  rw [List.length_map]
  refine Wk.istore_n (q := 14) d28_13 rfl (LS1.there (LS1.there (LS1.here (by first | exact One.u | exact One.val rfl | assumption)))) ?_
  refine Wk.aload_n (q := 15) d28_14 rfl rfl (by first | rfl | assumption) ?_
  refine Wk.aload_n (q := 16) d28_15 rfl rfl (by first | rfl | assumption) ?_
  refine Wk.getfield (q := 19) (C := "java/lang/StringBuilder") (lay := layB) 2 d28_16 rfl (hw _ (List.mem_of_getElem? (i := 125) rfl)) Via.refl (by repeat (first | exact List.mem_cons_self | assumption | refine List.mem_cons_of_mem _ ?_)) rfl (by rfl) ?_
  refine Wk.iload_n (q := 20) d28_19 rfl rfl ?_
  refine Wk.iadd (q := 21) d28_20 rfl ?_
  rw [n32_add]
  refine Wk.priv (q := 24) (C := "java/lang/StringBuilder") [_] _ 0 d28_21 rfl (hw _ (List.mem_of_getElem? (i := 127) rfl)) (hw _ (List.mem_of_getElem? (i := 128) rfl)) (hw _ (List.mem_of_getElem? (i := 130) rfl)) (hw _ (List.mem_of_getElem? (i := 129) rfl)) (hw _ (List.mem_of_getElem? (i := 106) rfl)) (hw _ (List.mem_of_getElem? (i := 131) rfl)) ar_15 (by decide) (by repeat (first | exact List.mem_cons_self | assumption | refine List.mem_cons_of_mem _ ?_)) rfl rfl rfl rfl (ct_ensCap hw hE List.mem_cons_self (List.mem_cons_of_mem _ List.mem_cons_self) (by rw [hlz, Int32.lt_iff_toInt_lt]; show ¬ (0 : Int) < _; have a := c_isub (n + cs.length).toInt32 zs.length.toInt32; rw [n32 (show n + cs.length < 2 ^ 31 by omega), n32 (show zs.length < 2 ^ 31 by omega)] at a; have r := rng32 ((n + cs.length).toInt32 - zs.length.toInt32); omega)) (by first | decide | (dsimp only; omega) | omega) (by first | decide | (dsimp only; omega) | omega) (by first | decide | (dsimp only; omega) | omega) (by first | decide | (dsimp only; omega) | omega) (k0 ?_)
  rintro _ rfl
  refine Wk.aload_n (q := 25) d28_24 rfl rfl (by first | rfl | assumption) ?_
  refine Wk.aload_n (q := 26) d28_25 rfl rfl (by first | rfl | assumption) ?_
  refine Wk.getfield (q := 29) (C := "java/lang/StringBuilder") (lay := layB) 2 d28_26 rfl (hw _ (List.mem_of_getElem? (i := 125) rfl)) Via.refl (by repeat (first | exact List.mem_cons_self | assumption | refine List.mem_cons_of_mem _ ?_)) rfl (by rfl) ?_
  refine Wk.aload_n (q := 30) d28_29 rfl rfl (by first | rfl | assumption) ?_
  refine Wk.pull (o := (v, true, AR Z .byte ((zs.map b8).map .int))) (by repeat (first | exact Ex.here | assumption | apply Ex.there)) ?_
  refine Wk.priv (q := 33) (C := "java/lang/StringBuilder") [_, _] _ 0 d28_30 rfl (hw _ (List.mem_of_getElem? (i := 132) rfl)) (hw _ (List.mem_of_getElem? (i := 133) rfl)) (hw _ (List.mem_of_getElem? (i := 135) rfl)) (hw _ (List.mem_of_getElem? (i := 134) rfl)) (hw _ (List.mem_of_getElem? (i := 106) rfl)) (hw _ (List.mem_of_getElem? (i := 136) rfl)) ar_19 (by decide) (by repeat (first | exact List.mem_cons_self | assumption | refine List.mem_cons_of_mem _ ?_)) rfl rfl rfl rfl (ct_putStr hw hE F hl h List.mem_cons_self (List.mem_cons_of_mem _ ht) (List.mem_cons_of_mem _ hd)) (by first | decide | (dsimp only; omega) | omega) (by first | decide | (dsimp only; omega) | omega) (by first | decide | (dsimp only; omega) | omega) (by first | decide | (dsimp only; omega) | omega) (k0 ?_)
  rintro _ rfl
  refine Wk.aload_n (q := 34) d28_33 rfl rfl (by first | rfl | assumption) ?_
  refine Wk.dup (q := 35) d28_34 rfl rfl ?_
  refine Wk.getfield (q := 38) (C := "java/lang/StringBuilder") (lay := layB) 2 d28_35 rfl (hw _ (List.mem_of_getElem? (i := 125) rfl)) Via.refl (by repeat (first | exact List.mem_cons_self | assumption | refine List.mem_cons_of_mem _ ?_)) rfl (by rfl) ?_
  refine Wk.iload_n (q := 39) d28_38 rfl rfl ?_
  refine Wk.iadd (q := 40) d28_39 rfl ?_
  rw [n32_add]
  refine Wk.putfield (q := 43) (C := "java/lang/StringBuilder") (lay := layB) 2 d28_40 rfl (hw _ (List.mem_of_getElem? (i := 125) rfl)) Via.refl (layB_ok hw) (hw _ (List.mem_of_getElem? (i := 97) rfl)) (Or.inl (hw _ (List.mem_of_getElem? (i := 126) rfl))) rfl (by decide +kernel : parseFieldDescriptor "I" = some .int) (by repeat (first | exact Ex.here | assumption | apply Ex.there)) (VS.there (VS.there (VS.here))) (by first | rfl | exact narO) (by first | rfl | exact fitO (by assumption) | exact fitA (by assumption)) ?_
  refine Wk.aload_n (q := 44) d28_43 rfl rfl (by first | rfl | assumption) ?_
  refine Wk.areturn (t := (.object "java/lang/AbstractStringBuilder")) d28_44 rfl rfl (by first | rfl | exact narO | exact narA) (by first | rfl | assumption) ?_
  exact ⟨_, rfl, rfl, rfl⟩
theorem ct_sbApp {l : Launch} {Z : State} {a0 : Array Value} (hw : ∀ d ∈ tables_1, d.before a0 Z = true) (hE : EW Z a0 EL0) (F : ∃ z, z ≠ (0 : Int32) ∧ Sta Z Z.heap "java/lang/String" "COMPACT_STRINGS" "Z" (.int z)) {L : Store} {s v t d : Addr} {ft fd : Bool} {n : Nat} {zs cs : List Int32} (hl : zs.length < 1000000) (h : n + cs.length ≤ zs.length) (ht : (t, ft, OB Z "java/lang/String" layS [.ref d, .int 0]) ∈ L) (hd : (d, fd, AR Z .byte ((cs.map b8).map .int)) ∈ L) :
    Ct l Z EL0 (⟨"java/lang/StringBuilder", "append", "(Ljava/lang/String;)Ljava/lang/StringBuilder;"⟩ : MethodName) jdk_67_method_7_code 2 (some (.object "java/lang/StringBuilder")) ({ frames := 4, cells := 0, slots := 0, locals := 61 } : Room) #[.ref s, .ref t] ((s, true, OB Z "java/lang/StringBuilder" layB [.ref v, .int 0, .int n.toInt32]) :: (v, true, AR Z .byte ((zs.map b8).map .int)) :: L) (RV fun u M => u = .ref s ∧ M = (s, true, OB Z "java/lang/StringBuilder" layB [.ref v, .int 0, .int (n + cs.length).toInt32]) :: (v, true, AR Z .byte (((zs.take n ++ cs ++ zs.drop (n + cs.length)).map b8).map .int)) :: L) := by
  refine Ct.of (a0 := a0) (Ls := [.val (.ref _), .val (.ref _)]) (plainFor_of_name pn_7) (fun m => ef_rr_2 m _ _) hE ?_
  refine Wk.aload_n (q := 1) d29_0 rfl rfl (by first | rfl | assumption) ?_
  refine Wk.aload_n (q := 2) d29_1 rfl rfl (by first | rfl | assumption) ?_
  refine Wk.up (q := 5) (C := "java/lang/StringBuilder") [_] _ 0 d29_2 rfl (hw _ (List.mem_of_getElem? (i := 119) rfl)) (hw _ (List.mem_of_getElem? (i := 120) rfl)) (hw _ (List.mem_of_getElem? (i := 121) rfl)) (by decide) (hw _ (List.mem_of_getElem? (i := 105) rfl)) (hw _ (List.mem_of_getElem? (i := 106) rfl)) (hw _ (List.mem_of_getElem? (i := 123) rfl)) ar_20 (by decide) (nfCls (y1 := ({ cls := "java/lang/AbstractStringBuilder", name := "ensureCapacityInternal", desc := "(I)V" } : Jvm.MethodName)) rfl (hw _ (List.mem_of_getElem? (i := 130) rfl))) (by repeat (first | exact List.mem_cons_self | assumption | refine List.mem_cons_of_mem _ ?_)) rfl rfl rfl rfl (ct_asbApp hw hE F hl h ht hd) (by first | decide | (dsimp only; omega) | omega) (by first | decide | (dsimp only; omega) | omega) (by first | decide | (dsimp only; omega) | omega) (by first | decide | (dsimp only; omega) | omega) (kv ?_)
  rintro _ _ ⟨rfl, rfl⟩
  refine Wk.pop (q := 6) d29_5 rfl rfl ?_
  refine Wk.aload_n (q := 7) d29_6 rfl rfl (by first | rfl | assumption) ?_
  refine Wk.areturn (t := (.object "java/lang/StringBuilder")) d29_7 rfl rfl (by first | rfl | exact narO | exact narA) (by first | rfl | assumption) ?_
  exact ⟨_, rfl, rfl, rfl⟩
/-- the same, the builder's array as what is in it and the room behind -/
theorem bld_app {ys cs : List Int32} {k : Nat} (h : cs.length ≤ k) : (ys ++ List.replicate k (0 : Int32)).take ys.length ++ cs ++ (ys ++ List.replicate k (0 : Int32)).drop (ys.length + cs.length) = (ys ++ cs) ++ List.replicate (k - cs.length) 0 := by
  rw [List.take_left, List.drop_append, List.drop_of_length_le (by omega), List.nil_append, Nat.add_sub_cancel_left, List.drop_replicate]
theorem ct_app {l : Launch} {Z : State} {a0 : Array Value} (hw : ∀ d ∈ tables_1, d.before a0 Z = true) (hE : EW Z a0 EL0) (F : ∃ z, z ≠ (0 : Int32) ∧ Sta Z Z.heap "java/lang/String" "COMPACT_STRINGS" "Z" (.int z)) {L : Store} {s v t d : Addr} {ft fd : Bool} {k : Nat} {ys cs : List Int32} (hl : ys.length + k < 1000000) (h : cs.length ≤ k) (ht : (t, ft, OB Z "java/lang/String" layS [.ref d, .int 0]) ∈ L) (hd : (d, fd, AR Z .byte ((cs.map b8).map .int)) ∈ L) :
    Ct l Z EL0 (⟨"java/lang/StringBuilder", "append", "(Ljava/lang/String;)Ljava/lang/StringBuilder;"⟩ : MethodName) jdk_67_method_7_code 2 (some (.object "java/lang/StringBuilder")) ({ frames := 4, cells := 0, slots := 0, locals := 61 } : Room) #[.ref s, .ref t] ((s, true, OB Z "java/lang/StringBuilder" layB [.ref v, .int 0, .int ys.length.toInt32]) :: (v, true, AR Z .byte (((ys ++ List.replicate k (0 : Int32)).map b8).map .int)) :: L) (RV fun u M => u = .ref s ∧ M = (s, true, OB Z "java/lang/StringBuilder" layB [.ref v, .int 0, .int (ys ++ cs).length.toInt32]) :: (v, true, AR Z .byte ((((ys ++ cs) ++ List.replicate (k - cs.length) (0 : Int32)).map b8).map .int)) :: L) := by
  have q := ct_sbApp (l := l) hw hE F (s := s) (v := v) (zs := ys ++ List.replicate k (0 : Int32)) (n := ys.length) (by rw [List.length_append, List.length_replicate]; exact hl) (by rw [List.length_append, List.length_replicate]; omega) ht hd
  rw [bld_app h, ← List.length_append] at q
  exact q
theorem ct_getVal {l : Launch} {Z : State} {a0 : Array Value} (hw : ∀ d ∈ tables_1, d.before a0 Z = true) (hE : EW Z a0 EL0) {L : Store} {s v : Addr} {f : Bool} {n : Int32} (hs : (s, f, OB Z "java/lang/StringBuilder" layB [.ref v, .int 0, .int n]) ∈ L) : Ct l Z EL0 (⟨"java/lang/AbstractStringBuilder", "getValue", "()[B"⟩ : MethodName) jdk_68_method_64_code 1 (some (.array .byte)) ({ frames := 0, cells := 0, slots := 0, locals := 0 } : Room) #[.ref s] L (RV fun u M => u = .ref v ∧ M = L) := by
  refine Ct.of (a0 := a0) (Ls := [.val (.ref _)]) (plainFor_of_name pn_6) (fun m => ef_r_1 m _) hE ?_
  refine Wk.aload_n (q := 1) d30_0 rfl rfl (by first | rfl | assumption) ?_
  refine Wk.getfield (q := 4) (C := "java/lang/StringBuilder") (lay := layB) 0 d30_1 rfl (hw _ (List.mem_of_getElem? (i := 110) rfl)) Via.refl (by repeat (first | exact List.mem_cons_self | assumption | refine List.mem_cons_of_mem _ ?_)) rfl (by rfl) ?_
  refine Wk.areturn (t := (.array .byte)) d30_4 rfl rfl (by first | rfl | exact narO | exact narA) (by first | rfl | assumption) ?_
  exact ⟨_, rfl, rfl, rfl⟩
theorem ct_asbLen {l : Launch} {Z : State} {a0 : Array Value} (hw : ∀ d ∈ tables_1, d.before a0 Z = true) (hE : EW Z a0 EL0) {L : Store} {s v : Addr} {f : Bool} {n : Int32} (hs : (s, f, OB Z "java/lang/StringBuilder" layB [.ref v, .int 0, .int n]) ∈ L) : Ct l Z EL0 (⟨"java/lang/AbstractStringBuilder", "length", "()I"⟩ : MethodName) jdk_68_method_6_code 1 (some .int) ({ frames := 0, cells := 0, slots := 0, locals := 0 } : Room) #[.ref s] L (RV fun u M => u = .int n ∧ M = L) := by
  refine Ct.of (a0 := a0) (Ls := [.val (.ref _)]) (plainFor_of_name pn_6) (fun m => ef_r_1 m _) hE ?_
  refine Wk.aload_n (q := 1) d31_0 rfl rfl (by first | rfl | assumption) ?_
  refine Wk.getfield (q := 4) (C := "java/lang/StringBuilder") (lay := layB) 2 d31_1 rfl (hw _ (List.mem_of_getElem? (i := 125) rfl)) Via.refl (by repeat (first | exact List.mem_cons_self | assumption | refine List.mem_cons_of_mem _ ?_)) rfl (by rfl) ?_
  refine Wk.ireturn (t := .int) d31_4 rfl (by simp) (by rfl) ?_
  exact ⟨_, rfl, rfl, rfl⟩
theorem ct_sbLen {l : Launch} {Z : State} {a0 : Array Value} (hw : ∀ d ∈ tables_1, d.before a0 Z = true) (hE : EW Z a0 EL0) {L : Store} {s v : Addr} {f : Bool} {n : Int32} (hs : (s, f, OB Z "java/lang/StringBuilder" layB [.ref v, .int 0, .int n]) ∈ L) : Ct l Z EL0 (⟨"java/lang/StringBuilder", "length", "()I"⟩ : MethodName) jdk_67_method_93_code 1 (some .int) ({ frames := 1, cells := 0, slots := 0, locals := 12 } : Room) #[.ref s] L (RV fun u M => u = .int n ∧ M = L) := by
  refine Ct.of (a0 := a0) (Ls := [.val (.ref _)]) (plainFor_of_name pn_7) (fun m => ef_r_1 m _) hE ?_
  refine Wk.aload_n (q := 1) d32_0 rfl rfl (by first | rfl | assumption) ?_
  refine Wk.up (q := 4) (C := "java/lang/StringBuilder") [] _ 0 d32_1 rfl (hw _ (List.mem_of_getElem? (i := 176) rfl)) (hw _ (List.mem_of_getElem? (i := 172) rfl)) (hw _ (List.mem_of_getElem? (i := 121) rfl)) (by decide) (hw _ (List.mem_of_getElem? (i := 105) rfl)) (hw _ (List.mem_of_getElem? (i := 106) rfl)) (hw _ (List.mem_of_getElem? (i := 177) rfl)) ar_18 (by decide) (nfCls (y1 := ({ cls := "java/lang/AbstractStringBuilder", name := "ensureCapacityInternal", desc := "(I)V" } : Jvm.MethodName)) rfl (hw _ (List.mem_of_getElem? (i := 130) rfl))) (by repeat (first | exact List.mem_cons_self | assumption | refine List.mem_cons_of_mem _ ?_)) rfl rfl rfl rfl (ct_asbLen hw hE hs) (by first | decide | (dsimp only; omega) | omega) (by first | decide | (dsimp only; omega) | omega) (by first | decide | (dsimp only; omega) | omega) (by first | decide | (dsimp only; omega) | omega) (kv ?_)
  rintro _ _ ⟨rfl, rfl⟩
  refine Wk.ireturn (t := .int) d32_4 rfl (by simp) (by rfl) ?_
  exact ⟨_, rfl, rfl, rfl⟩
theorem ct_asbLat {l : Launch} {Z : State} {a0 : Array Value} (hw : ∀ d ∈ tables_1, d.before a0 Z = true) (hE : EW Z a0 EL0) (F : ∃ z, z ≠ (0 : Int32) ∧ Sta Z Z.heap "java/lang/String" "COMPACT_STRINGS" "Z" (.int z)) {L : Store} {s v : Addr} {f : Bool} {n : Int32} (hs : (s, f, OB Z "java/lang/StringBuilder" layB [.ref v, .int 0, .int n]) ∈ L) : Ct l Z EL0 (⟨"java/lang/AbstractStringBuilder", "isLatin1", "()Z"⟩ : MethodName) jdk_68_method_68_code 1 (some .boolean) ({ frames := 0, cells := 0, slots := 0, locals := 0 } : Room) #[.ref s] L (RV fun u M => u = .int 1 ∧ M = L) := by
  obtain ⟨z, hz, FS⟩ := F
  refine Ct.of (a0 := a0) (Ls := [.val (.ref _)]) (plainFor_of_name pn_6) (fun m => ef_r_1 m _) hE ?_
  refine Wk.getstatic (q := 3) d33_0 rfl (hw _ (List.mem_of_getElem? (i := 109) rfl)) Via.refl FS ?_
  refine Wk.if_f (q := 6) d33_3 rfl (XT.i0_eq_f hz) ?_
  refine Wk.aload_n (q := 7) d33_6 rfl rfl (by first | rfl | assumption) ?_
  refine Wk.getfield (q := 10) (C := "java/lang/StringBuilder") (lay := layB) 1 d33_7 rfl (hw _ (List.mem_of_getElem? (i := 112) rfl)) Via.refl (by repeat (first | exact List.mem_cons_self | assumption | refine List.mem_cons_of_mem _ ?_)) rfl (by rfl) ?_
  refine Wk.if_f (q := 13) d33_10 rfl (by decide) ?_
  refine Wk.iconst (q := 14) (1) d33_13 rfl (by decide) ?_
  refine Wk.goto (q := 18) d33_14 (by decide) (by decide) ?_
  refine Wk.ireturn (t := .boolean) d33_18 rfl (by simp) (by rfl) ?_
  exact ⟨_, rfl, rfl, rfl⟩
theorem ct_copyR0 {l : Launch} {Z : State} {a0 : Array Value} (hw : ∀ d ∈ tables_1, d.before a0 Z = true) (hE : EW Z a0 EL0) {L : Store} {a : Addr} {fa : Bool} {cs : List Int32} {j : Nat} (hj : j < cs.length) (hl : cs.length < 1000000) (N : Nat) (hN : cs.length ≤ N) (ha : (a, fa, AR Z .byte ((cs.map b8).map .int)) ∈ L) :
    Ct l Z EL0 (⟨"java/util/Arrays", "copyOfRange", "([BII)[B"⟩ : MethodName) jdk_65_method_132_code 3 (some (.array .byte)) ({ frames := 2, cells := 1, slots := N, locals := 34 } : Room) #[.ref a, .int 0, .int j.toInt32] L (RV fun u M => ∃ r, u = .ref r ∧ M = (r, true, AR Z .byte ((((cs.take j).map b8)).map .int)) :: L) := by
  refine Ct.of (a0 := a0) (Ls := [.val (.ref _), .val (.int _), .val (.int _)]) (plainFor_of_name pn_5) (fun m => ef_rii_3 m _ _ _) hE ?_
  refine Wk.iload_n (q := 1) d17_0 rfl rfl ?_
  refine Wk.if_f (q := 4) d17_1 rfl (by decide) ?_
  refine Wk.iload_n (q := 5) d17_4 rfl rfl ?_
  refine Wk.aload_n (q := 6) d17_5 rfl rfl (by first | rfl | assumption) ?_
  refine Wk.arraylength (q := 7) d17_6 rfl (by repeat (first | exact List.mem_cons_self | assumption | refine List.mem_cons_of_mem _ ?_)) (show ((cs.map b8).map Value.int).length.toInt32 = cs.length.toInt32 by simp) ?_
  refine Wk.icmp_f (q := 10) d17_7 rfl (XT.ii_eq_f (fun q => absurd ((n32_inj (by omega) (by omega)).mp q) (by omega))) ?_
  refine Wk.aload_n (q := 11) d17_10 rfl rfl (by first | rfl | assumption) ?_
  refine Wk.iload_n (q := 12) d17_11 rfl rfl ?_
  refine Wk.iload_n (q := 13) d17_12 rfl rfl ?_
  refine Wk.static (q := 16) [_, _, _] _ 0 d17_13 rfl (hw _ (List.mem_of_getElem? (i := 187) rfl)) (hw _ (List.mem_of_getElem? (i := 188) rfl)) (hw _ (List.mem_of_getElem? (i := 185) rfl)) (hw _ (List.mem_of_getElem? (i := 189) rfl)) ar_11 (by decide) rfl rfl rfl rfl (ct_copyRB hw hE (i := 0) (Nat.zero_le j) (Nat.le_of_lt hj) hl N hN ha) (by first | decide | (dsimp only; omega) | omega) (by first | decide | (dsimp only; omega) | omega) (by first | decide | (dsimp only; omega) | omega) (by first | decide | (dsimp only; omega) | omega) (kv ?_)
  rintro _ _ ⟨r, rfl, rfl⟩
  refine Wk.areturn (t := (.array .byte)) d17_16 rfl rfl (by first | rfl | exact narO | exact narA) (by first | rfl | assumption) ?_
  exact ⟨_, rfl, r, rfl, rfl⟩
set_option maxHeartbeats 4000000 in
theorem ct_strASB {l : Launch} {Z : State} {a0 : Array Value} (hw : ∀ d ∈ tables_1, d.before a0 Z = true) (hE : EW Z a0 EL0) (F : ∃ z, z ≠ (0 : Int32) ∧ Sta Z Z.heap "java/lang/String" "COMPACT_STRINGS" "Z" (.int z)) {L : Store} {q s v : Addr} {f fv : Bool} {n : Nat} {zs : List Int32} (hn : n < zs.length) (hl : zs.length < 1000000) (N : Nat) (hN : zs.length ≤ N) (hs : (s, f, OB Z "java/lang/StringBuilder" layB [.ref v, .int 0, .int n.toInt32]) ∈ L) (hv : (v, fv, AR Z .byte ((zs.map b8).map .int)) ∈ L) :
    Ct l Z EL0 (⟨"java/lang/String", "<init>", "(Ljava/lang/AbstractStringBuilder;Ljava/lang/Void;)V"⟩ : MethodName) jdk_42_method_150_code 5 none ({ frames := 3, cells := 1, slots := N, locals := 49 } : Room) #[.ref q, .ref s, .null] ((q, true, OB Z "java/lang/String" layS [.null, .int 0]) :: L) (R0 fun M => ∃ r, M = (q, true, OB Z "java/lang/String" layS [.ref r, .int 0]) :: (r, true, AR Z .byte ((((zs.take n).map b8)).map .int)) :: L) := by
  refine Ct.of (a0 := a0) (Ls := [.val (.ref _), .val (.ref _), .val .null, .unset, .unset]) (plainFor_of_name pn_1) (fun m => ef_rrn_5 m _ _) hE ?_
  refine Wk.aload_n (q := 1) d34_0 rfl rfl (by first | rfl | assumption) ?_
  refine Wk.objinit (q := 4) 0 d34_1 rfl (hw _ (List.mem_of_getElem? (i := 57) rfl)) (hw _ (List.mem_of_getElem? (i := 58) rfl)) (hw _ (List.mem_of_getElem? (i := 59) rfl)) rfl (by first | decide | (dsimp only; omega) | omega) rfl (by first | decide | (dsimp only; omega) | omega) ?_
  refine Wk.aload_n (q := 5) d34_4 rfl rfl (by first | rfl | assumption) ?_
  refine Wk.virtual (q := 8) (C := "java/lang/StringBuilder") [] _ 0 d34_5 rfl (hw _ (List.mem_of_getElem? (i := 165) rfl)) (hw _ (List.mem_of_getElem? (i := 166) rfl)) (hw _ (List.mem_of_getElem? (i := 168) rfl)) (hw _ (List.mem_of_getElem? (i := 167) rfl)) (hw _ (List.mem_of_getElem? (i := 106) rfl)) (hw _ (List.mem_of_getElem? (i := 169) rfl)) ar_21 (by decide) (nfSel (hw _ (List.mem_of_getElem? (i := 168) rfl))) (by repeat (first | exact List.mem_cons_self | assumption | refine List.mem_cons_of_mem _ ?_)) rfl rfl rfl rfl (ct_getVal hw hE (List.mem_cons_of_mem _ hs)) (by first | decide | (dsimp only; omega) | omega) (by first | decide | (dsimp only; omega) | omega) (by first | decide | (dsimp only; omega) | omega) (by first | decide | (dsimp only; omega) | omega) (kv ?_)
  rintro _ _ ⟨rfl, rfl⟩
  refine Wk.astore_n (q := 9) d34_8 rfl (by first | rfl | assumption) (LS1.there (LS1.there (LS1.there (LS1.here (by first | exact One.u | exact One.val rfl | assumption))))) ?_
  refine Wk.aload_n (q := 10) d34_9 rfl rfl (by first | rfl | assumption) ?_
  refine Wk.virtual (q := 13) (C := "java/lang/StringBuilder") [] _ 0 d34_10 rfl (hw _ (List.mem_of_getElem? (i := 170) rfl)) (hw _ (List.mem_of_getElem? (i := 171) rfl)) (hw _ (List.mem_of_getElem? (i := 173) rfl)) (hw _ (List.mem_of_getElem? (i := 174) rfl)) (hw _ (List.mem_of_getElem? (i := 98) rfl)) (hw _ (List.mem_of_getElem? (i := 175) rfl)) ar_18 (by decide) (nfCls (y1 := ({ cls := "java/lang/AbstractStringBuilder", name := "ensureCapacityInternal", desc := "(I)V" } : Jvm.MethodName)) rfl (hw _ (List.mem_of_getElem? (i := 130) rfl))) (by repeat (first | exact List.mem_cons_self | assumption | refine List.mem_cons_of_mem _ ?_)) rfl rfl rfl rfl (ct_sbLen hw hE (List.mem_cons_of_mem _ hs)) (by first | decide | (dsimp only; omega) | omega) (by first | decide | (dsimp only; omega) | omega) (by first | decide | (dsimp only; omega) | omega) (by first | decide | (dsimp only; omega) | omega) (kv ?_)
  rintro _ _ ⟨rfl, rfl⟩
  refine Wk.istore (q := 15) d34_13 rfl (LS1.there (LS1.there (LS1.there (LS1.there (LS1.here (by first | exact One.u | exact One.val rfl | assumption)))))) ?_
  refine Wk.aload_n (q := 16) d34_15 rfl rfl (by first | rfl | assumption) ?_
  refine Wk.virtual (q := 19) (C := "java/lang/StringBuilder") [] _ 0 d34_16 rfl (hw _ (List.mem_of_getElem? (i := 178) rfl)) (hw _ (List.mem_of_getElem? (i := 179) rfl)) (hw _ (List.mem_of_getElem? (i := 181) rfl)) (hw _ (List.mem_of_getElem? (i := 180) rfl)) (hw _ (List.mem_of_getElem? (i := 106) rfl)) (hw _ (List.mem_of_getElem? (i := 182) rfl)) ar_8 (by decide) (nfSel (hw _ (List.mem_of_getElem? (i := 181) rfl))) (by repeat (first | exact List.mem_cons_self | assumption | refine List.mem_cons_of_mem _ ?_)) rfl rfl rfl rfl (ct_asbLat hw hE F (List.mem_cons_of_mem _ hs)) (by first | decide | (dsimp only; omega) | omega) (by first | decide | (dsimp only; omega) | omega) (by first | decide | (dsimp only; omega) | omega) (by first | decide | (dsimp only; omega) | omega) (kv ?_)
  rintro _ _ ⟨rfl, rfl⟩
  refine Wk.if_f (q := 22) d34_19 rfl (by decide) ?_
  refine Wk.aload_n (q := 23) d34_22 rfl rfl (by first | rfl | assumption) ?_
  refine Wk.iconst (q := 24) (0) d34_23 rfl (by decide) ?_
  refine Wk.putfield (q := 27) (C := "java/lang/String") (lay := layS) 1 d34_24 rfl (hw _ (List.mem_of_getElem? (i := 29) rfl)) Via.refl (layS_ok hw) (hw _ (List.mem_of_getElem? (i := 12) rfl)) (Or.inr ⟨(hw _ (List.mem_of_getElem? (i := 15) rfl)), rfl, rfl⟩) rfl (by decide +kernel : parseFieldDescriptor "B" = some .byte) (by repeat (first | exact Ex.here | assumption | apply Ex.there)) (VS.there (VS.here)) (by first | rfl | exact narO) (by first | rfl | exact fitO (by assumption) | exact fitA (by assumption)) ?_
  refine Wk.aload_n (q := 28) d34_27 rfl rfl (by first | rfl | assumption) ?_
  refine Wk.aload_n (q := 29) d34_28 rfl rfl (by first | rfl | assumption) ?_
  refine Wk.iconst (q := 30) (0) d34_29 rfl (by decide) ?_
  refine Wk.iload (q := 32) d34_30 rfl rfl ?_
  refine Wk.static (q := 35) [_, _, _] _ 1 d34_32 rfl (hw _ (List.mem_of_getElem? (i := 183) rfl)) (hw _ (List.mem_of_getElem? (i := 184) rfl)) (hw _ (List.mem_of_getElem? (i := 185) rfl)) (hw _ (List.mem_of_getElem? (i := 186) rfl)) ar_11 (by decide) rfl rfl rfl rfl (ct_copyR0 hw hE hn hl N hN (List.mem_cons_of_mem _ hv)) (by first | decide | (dsimp only; omega) | omega) (by first | decide | (dsimp only; omega) | omega) (by first | decide | (dsimp only; omega) | omega) (by first | decide | (dsimp only; omega) | omega) (kv ?_)
  rintro _ _ ⟨r, rfl, rfl⟩
  refine Wk.putfield (q := 38) (C := "java/lang/String") (lay := layS) 0 d34_35 rfl (hw _ (List.mem_of_getElem? (i := 30) rfl)) Via.refl (layS_ok hw) (hw _ (List.mem_of_getElem? (i := 12) rfl)) (Or.inr ⟨(hw _ (List.mem_of_getElem? (i := 14) rfl)), rfl, rfl⟩) rfl (by decide +kernel : parseFieldDescriptor "[B" = some (.array .byte)) (by repeat (first | exact Ex.here | assumption | apply Ex.there)) (VS.here) (by first | rfl | exact narO) (by first | rfl | exact fitO (by assumption) | exact fitA (by assumption)) ?_
  refine Wk.goto (q := 97) d34_38 (by decide) (by decide) ?_
  refine Wk.return_ d34_97 rfl ?_
  exact ⟨rfl, r, rfl⟩
theorem ct_strSB {l : Launch} {Z : State} {a0 : Array Value} (hw : ∀ d ∈ tables_1, d.before a0 Z = true) (hE : EW Z a0 EL0) (F : ∃ z, z ≠ (0 : Int32) ∧ Sta Z Z.heap "java/lang/String" "COMPACT_STRINGS" "Z" (.int z)) {L : Store} {q s v : Addr} {f fv : Bool} {n : Nat} {zs : List Int32} (hn : n < zs.length) (hl : zs.length < 1000000) (N : Nat) (hN : zs.length ≤ N) (hs : (s, f, OB Z "java/lang/StringBuilder" layB [.ref v, .int 0, .int n.toInt32]) ∈ L) (hv : (v, fv, AR Z .byte ((zs.map b8).map .int)) ∈ L) :
    Ct l Z EL0 (⟨"java/lang/String", "<init>", "(Ljava/lang/StringBuilder;)V"⟩ : MethodName) jdk_42_method_53_code 2 none ({ frames := 4, cells := 1, slots := N, locals := 65 } : Room) #[.ref q, .ref s] ((q, true, OB Z "java/lang/String" layS [.null, .int 0]) :: L) (R0 fun M => ∃ r, M = (q, true, OB Z "java/lang/String" layS [.ref r, .int 0]) :: (r, true, AR Z .byte ((((zs.take n).map b8)).map .int)) :: L) := by
  refine Ct.of (a0 := a0) (Ls := [.val (.ref _), .val (.ref _)]) (plainFor_of_name pn_1) (fun m => ef_rr_2 m _ _) hE ?_
  refine Wk.aload_n (q := 1) d35_0 rfl rfl (by first | rfl | assumption) ?_
  refine Wk.aload_n (q := 2) d35_1 rfl rfl (by first | rfl | assumption) ?_
  refine Wk.aconst_null (q := 3) d35_2 rfl ?_
  refine Wk.special (q := 6) [_, _] _ 0 d35_3 rfl rfl (hw _ (List.mem_of_getElem? (i := 162) rfl)) (hw _ (List.mem_of_getElem? (i := 163) rfl)) (hw _ (List.mem_of_getElem? (i := 11) rfl)) (hw _ (List.mem_of_getElem? (i := 164) rfl)) ar_22 (by decide) rfl rfl rfl rfl (ct_strASB hw hE F hn hl N hN hs hv) (by first | decide | (dsimp only; omega) | omega) (by first | decide | (dsimp only; omega) | omega) (by first | decide | (dsimp only; omega) | omega) (by first | decide | (dsimp only; omega) | omega) (k0 ?_)
  rintro _ ⟨r, rfl⟩
  refine Wk.return_ d35_6 rfl ?_
  exact ⟨rfl, r, rfl⟩
theorem ct_sbStr {l : Launch} {Z : State} {a0 : Array Value} (hw : ∀ d ∈ tables_1, d.before a0 Z = true) (hE : EW Z a0 EL0) (F : ∃ z, z ≠ (0 : Int32) ∧ Sta Z Z.heap "java/lang/String" "COMPACT_STRINGS" "Z" (.int z)) {L : Store} {s v : Addr} {f fv : Bool} {k : Nat} {ys : List Int32} (hs : (s, f, OB Z "java/lang/StringBuilder" layB [.ref v, .int 0, .int ys.length.toInt32]) ∈ L) (hv : (v, fv, AR Z .byte (((ys ++ List.replicate k (0 : Int32)).map b8).map .int)) ∈ L) (hk : 0 < k) (hl : ys.length + k < 1000000) (N : Nat) (hN : ys.length + k ≤ N) :
    Ct l Z EL0 (⟨"java/lang/StringBuilder", "toString", "()Ljava/lang/String;"⟩ : MethodName) jdk_67_method_42_code 1 (some (.object "java/lang/String")) ({ frames := 5, cells := 2, slots := N + 4, locals := 79 } : Room) #[.ref s] L (RV fun u M => ∃ q r, u = .ref q ∧ M = (q, true, OB Z "java/lang/String" layS [.ref r, .int 0]) :: (r, true, AR Z .byte ((ys.map b8).map .int)) :: L) := by
  have e : (ys ++ List.replicate k (0 : Int32)).length = ys.length + k := by simp
  refine Ct.of (a0 := a0) (Ls := [.val (.ref _)]) (plainFor_of_name pn_7) (fun m => ef_r_1 m _) hE ?_
  refine Wk.new (q := 3) d36_0 rfl (hw _ (List.mem_of_getElem? (i := 158) rfl)) (hw _ (List.mem_of_getElem? (i := 12) rfl)) (hw _ (List.mem_of_getElem? (i := 11) rfl)) (layS_ok hw) layS_dv (by first | decide | (dsimp only; omega) | omega) (by first | decide | (dsimp only; omega) | omega) ?_
  intro q
  refine Wk.dup (q := 4) d36_3 rfl rfl ?_
  refine Wk.aload_n (q := 5) d36_4 rfl rfl (by first | rfl | assumption) ?_
  refine Wk.special (q := 8) [_] _ 1 d36_5 rfl rfl (hw _ (List.mem_of_getElem? (i := 159) rfl)) (hw _ (List.mem_of_getElem? (i := 160) rfl)) (hw _ (List.mem_of_getElem? (i := 11) rfl)) (hw _ (List.mem_of_getElem? (i := 161) rfl)) ar_23 (by decide) rfl rfl rfl rfl (ct_strSB hw hE F (zs := ys ++ List.replicate k (0 : Int32)) (n := ys.length) (by rw [e]; omega) (by rw [e]; exact hl) N (by rw [e]; exact hN) hs hv) (by first | decide | (dsimp only; omega) | omega) (by first | decide | (dsimp only; omega) | omega) (by first | decide | (dsimp only; omega) | omega) (by first | decide | (dsimp only; omega) | omega) (k0 ?_)
  rintro _ ⟨r, rfl⟩
  refine Wk.areturn (t := (.object "java/lang/String")) d36_8 rfl rfl (by first | rfl | exact narO | exact narA) (by first | rfl | assumption) ?_
  exact ⟨_, rfl, q, r, rfl, by rw [List.take_left]⟩

def layQ : Jvm.OwnW.Lay := [("com/example/dekree/dekree/QualifiedName", "domain", "Ljava/lang/String;"), ("com/example/dekree/dekree/QualifiedName", "name", "Ljava/lang/String;"), ("com/example/dekree/dekree/QualifiedName", "written", "Ljava/lang/String;")]
theorem layQ_ok {Z : State} {a0 : Array Value} (hw : ∀ d ∈ tables_1, d.before a0 Z = true) : LayOk Z a0 "com/example/dekree/dekree/QualifiedName" layQ := by
  refine ⟨fun f hf => ?_, by decide +kernel, fun f hf => ?_⟩
  all_goals simp only [layQ, List.mem_cons, List.not_mem_nil, or_false] at hf
  all_goals rcases hf with rfl | rfl | rfl
  · exact Or.inr (hw _ (List.mem_of_getElem? (i := 93) rfl))
  · exact Or.inr (hw _ (List.mem_of_getElem? (i := 95) rfl))
  · exact Or.inr (hw _ (List.mem_of_getElem? (i := 199) rfl))
  · exact ⟨(.object "java/lang/String"), by decide +kernel⟩
  · exact ⟨(.object "java/lang/String"), by decide +kernel⟩
  · exact ⟨(.object "java/lang/String"), by decide +kernel⟩
theorem layQ_dv : Dv layQ [.null, .null, .null] := by decide +kernel
abbrev nQ : String := "com/example/dekree/dekree/QualifiedName"
theorem lt_of {a b : Int32} (h : a.toInt < b.toInt) : a < b := Int32.lt_iff_toInt_lt.mpr h
theorem nlt_of {a b : Int32} (h : b.toInt ≤ a.toInt) : ¬ a < b := fun q => by have := Int32.lt_iff_toInt_lt.mp q; omega
/-- a sign of names -/
def NC (c : Int32) : Prop := (97 ≤ c.toInt ∧ c.toInt ≤ 122) ∨ (65 ≤ c.toInt ∧ c.toInt ≤ 90) ∨ (48 ≤ c.toInt ∧ c.toInt ≤ 57) ∨ c = 95 ∨ c = 46 ∨ c = 45
theorem NC.rng {c : Int32} (h : NC c) : 45 ≤ c.toInt ∧ c.toInt ≤ 122 ∧ c.toInt ≠ 47 := by
  rcases h with h | h | h | rfl | rfl | rfl
  · omega
  · omega
  · omega
  all_goals decide
theorem NC.lat {c : Int32} (h : NC c) : Lat1 c := by have := h.rng; exact ⟨by omega, by omega⟩
def NCs (cs : List Int32) : Prop := ∀ c ∈ cs, NC c
theorem NCs.lat {cs : List Int32} (h : NCs cs) : Lat cs := fun c hc => (h c hc).lat
theorem NCs.no47 {cs : List Int32} (h : NCs cs) : (47 : Int32) ∉ cs := fun q => (h _ q).rng.2.2 (by decide)
theorem b8_low {c : Int32} (h : 0 ≤ c.toInt) (h' : c.toInt < 128) : b8 c = c := by
  apply Int32.toInt_inj.mp
  rw [b8_toInt ⟨h, by omega⟩, if_pos h']
theorem NCs.b8 {cs : List Int32} (h : NCs cs) : cs.map b8 = cs := by
  induction cs with
  | nil => rfl
  | cons c cs ih =>
    have hc := (h c List.mem_cons_self).rng
    rw [List.map_cons, ih (fun x hx => h x (List.mem_cons_of_mem _ hx)), b8_low (by omega) (by omega)]
theorem sep47 : ∀ {xs xs' ys ys' : List Int32}, (47 : Int32) ∉ xs → (47 : Int32) ∉ xs' → xs ++ [47] ++ ys = xs' ++ [47] ++ ys' → xs = xs' ∧ ys = ys'
  | [], [], _, _, _, _, h => ⟨rfl, by simpa using h⟩
  | [], x :: xs', _, _, _, h2, h => by
    simp only [List.nil_append, List.cons_append, List.cons.injEq] at h
    exact absurd (by rw [h.1]; exact List.mem_cons_self) h2
  | x :: xs, [], _, _, h1, _, h => by
    simp only [List.nil_append, List.cons_append, List.cons.injEq] at h
    exact absurd (by rw [← h.1]; exact List.mem_cons_self) h1
  | x :: xs, x' :: xs', _, _, h1, h2, h => by
    simp only [List.cons_append, List.cons.injEq] at h
    have q := sep47 (fun m => h1 (List.mem_cons_of_mem _ m)) (fun m => h2 (List.mem_cons_of_mem _ m)) h.2
    exact ⟨by rw [h.1, q.1], q.2⟩
theorem ct_strIsE {l : Launch} {Z : State} {a0 : Array Value} (hw : ∀ d ∈ tables_1, d.before a0 Z = true) (hE : EW Z a0 EL0) {L : Store} {s b : Addr} {f fb : Bool} {k : Int32} {xs : List Int32} (hx : xs ≠ []) (hl : xs.length < 1000000) (hs : (s, f, OB Z "java/lang/String" layS [.ref b, .int k]) ∈ L) (hb : (b, fb, AR Z .byte (xs.map .int)) ∈ L) :
    Ct l Z EL0 (⟨"java/lang/String", "isEmpty", "()Z"⟩ : MethodName) jdk_42_method_55_code 1 (some .boolean) ({ frames := 0, cells := 0, slots := 0, locals := 0 } : Room) #[.ref s] L (RV fun u M => u = .int 0 ∧ M = L) := by
  refine Ct.of (a0 := a0) (Ls := [.val (.ref _)]) (plainFor_of_name pn_1) (fun m => ef_r_1 m _) hE ?_
  refine Wk.aload_n (q := 1) d37_0 rfl rfl (by first | rfl | assumption) ?_
  refine Wk.getfield (q := 4) (C := "java/lang/String") (lay := layS) 0 d37_1 rfl (hw _ (List.mem_of_getElem? (i := 30) rfl)) Via.refl (by repeat (first | exact List.mem_cons_self | assumption | refine List.mem_cons_of_mem _ ?_)) rfl (by rfl) ?_
  refine Wk.arraylength (q := 5) d37_4 rfl (by repeat (first | exact List.mem_cons_self | assumption | refine List.mem_cons_of_mem _ ?_)) (show (xs.map Value.int).length.toInt32 = xs.length.toInt32 by simp) ?_
  refine Wk.if_t (q := 12) d37_5 (by decide) (by decide) (XT.i0_ne_t (fun q => hx (List.eq_nil_of_length_eq_zero ((n32_inj (n := 0) (by omega) (by decide)).mp q)))) ?_
  refine Wk.iconst (q := 13) (0) d37_12 rfl (by decide) ?_
  refine Wk.ireturn (t := .boolean) d37_13 rfl (by simp) (by rfl) ?_
  exact ⟨_, rfl, rfl, rfl⟩
theorem ct_rnn2 {l : Launch} {Z : State} {a0 : Array Value} (hw : ∀ d ∈ tables_1, d.before a0 Z = true) (hE : EW Z a0 EL0) {L : Store} {a b : Addr} : Ct l Z EL0 (⟨"java/util/Objects", "requireNonNull", "(Ljava/lang/Object;Ljava/lang/String;)Ljava/lang/Object;"⟩ : MethodName) jdk_31_method_11_code 2 (some (.object "java/lang/Object")) ({ frames := 0, cells := 0, slots := 0, locals := 0 } : Room) #[.ref a, .ref b] L (RV fun u M => u = .ref a ∧ M = L) := by
  refine Ct.of (a0 := a0) (Ls := [.val (.ref _), .val (.ref _)]) (plainFor_of_name pn_8) (fun m => ef_rr_2 m _ _) hE ?_
  refine Wk.aload_n (q := 1) d38_0 rfl rfl (by first | rfl | assumption) ?_
  refine Wk.nonnull_t (q := 13) d38_1 (by decide) (by decide)  ?_
  refine Wk.aload_n (q := 14) d38_13 rfl rfl (by first | rfl | assumption) ?_
  refine Wk.areturn (t := (.object "java/lang/Object")) d38_14 rfl rfl (by first | rfl | exact narO | exact narA) (by first | rfl | assumption) ?_
  exact ⟨_, rfl, rfl, rfl⟩
set_option maxHeartbeats 4000000 in
theorem ct_isNC {l : Launch} {Z : State} {a0 : Array Value} (hw : ∀ d ∈ tables_1, d.before a0 Z = true) (hE : EW Z a0 EL0) {L : Store} {c : Int32} (hc : NC c) : Ct l Z EL0 (⟨"com/example/dekree/dekree/QualifiedName", "isNameCharacter", "(C)Z"⟩ : MethodName) prog_7_method_10_code 1 (some .boolean) ({ frames := 0, cells := 0, slots := 0, locals := 0 } : Room) #[.int c] L (RV fun u M => u = .int 1 ∧ M = L) := by
  refine Ct.of (a0 := a0) (Ls := [.val (.int _)]) (plainFor_of_name pn_9) (fun m => ef_i_1 m _) hE ?_
  have yes : ∀ (c : Int32) (cb sb : Nat), Wk l Z a0 EL0 (⟨"com/example/dekree/dekree/QualifiedName", "isNameCharacter", "(C)Z"⟩ : MethodName) prog_7_method_10_code 1 (some .boolean) ({ frames := 0, cells := 0, slots := 0, locals := 0 } : Room) (RV fun u M => u = .int 1 ∧ M = L) L cb sb 54 [.val (.int c)] [] := by
    intro c cb sb
    refine Wk.iconst (q := 55) (1) d39_54 rfl (by decide) ?_
    refine Wk.goto (q := 59) d39_55 (by decide) (by decide) ?_
    refine Wk.ireturn (t := .boolean) d39_59 rfl (by simp) (by rfl) ?_
    exact ⟨_, rfl, rfl, rfl⟩
  rcases hc with h | h | h | rfl | rfl | rfl
  · refine Wk.iload_n (q := 1) d39_0 rfl rfl ?_
    refine Wk.bipush (q := 3) (97) d39_1 rfl (by decide) ?_
    refine Wk.icmp_f (q := 6) d39_3 rfl (XT.ii_lt_f (nlt_of h.1)) ?_
    refine Wk.iload_n (q := 7) d39_6 rfl rfl ?_
    refine Wk.bipush (q := 9) (122) d39_7 rfl (by decide) ?_
    refine Wk.icmp_t (q := 54) d39_9 (by decide) (by decide) (XT.ii_le_t (nlt_of h.2)) ?_
    exact yes _ _ _
  · refine Wk.iload_n (q := 1) d39_0 rfl rfl ?_
    refine Wk.bipush (q := 3) (97) d39_1 rfl (by decide) ?_
    refine Wk.icmp_t (q := 12) d39_3 (by decide) (by decide) (XT.ii_lt_t (lt_of (show c.toInt < 97 by omega))) ?_
    refine Wk.iload_n (q := 13) d39_12 rfl rfl ?_
    refine Wk.bipush (q := 15) (65) d39_13 rfl (by decide) ?_
    refine Wk.icmp_f (q := 18) d39_15 rfl (XT.ii_lt_f (nlt_of h.1)) ?_
    refine Wk.iload_n (q := 19) d39_18 rfl rfl ?_
    refine Wk.bipush (q := 21) (90) d39_19 rfl (by decide) ?_
    refine Wk.icmp_t (q := 54) d39_21 (by decide) (by decide) (XT.ii_le_t (nlt_of h.2)) ?_
    exact yes _ _ _
  · refine Wk.iload_n (q := 1) d39_0 rfl rfl ?_
    refine Wk.bipush (q := 3) (97) d39_1 rfl (by decide) ?_
    refine Wk.icmp_t (q := 12) d39_3 (by decide) (by decide) (XT.ii_lt_t (lt_of (show c.toInt < 97 by omega))) ?_
    refine Wk.iload_n (q := 13) d39_12 rfl rfl ?_
    refine Wk.bipush (q := 15) (65) d39_13 rfl (by decide) ?_
    refine Wk.icmp_t (q := 24) d39_15 (by decide) (by decide) (XT.ii_lt_t (lt_of (show c.toInt < 65 by omega))) ?_
    refine Wk.iload_n (q := 25) d39_24 rfl rfl ?_
    refine Wk.bipush (q := 27) (48) d39_25 rfl (by decide) ?_
    refine Wk.icmp_f (q := 30) d39_27 rfl (XT.ii_lt_f (nlt_of h.1)) ?_
    refine Wk.iload_n (q := 31) d39_30 rfl rfl ?_
    refine Wk.bipush (q := 33) (57) d39_31 rfl (by decide) ?_
    refine Wk.icmp_t (q := 54) d39_33 (by decide) (by decide) (XT.ii_le_t (nlt_of h.2)) ?_
    exact yes _ _ _
  · refine Wk.iload_n (q := 1) d39_0 rfl rfl ?_
    refine Wk.bipush (q := 3) (97) d39_1 rfl (by decide) ?_
    refine Wk.icmp_t (q := 12) d39_3 (by decide) (by decide) (by decide) ?_
    refine Wk.iload_n (q := 13) d39_12 rfl rfl ?_
    refine Wk.bipush (q := 15) (65) d39_13 rfl (by decide) ?_
    refine Wk.icmp_f (q := 18) d39_15 rfl (by decide) ?_
    refine Wk.iload_n (q := 19) d39_18 rfl rfl ?_
    refine Wk.bipush (q := 21) (90) d39_19 rfl (by decide) ?_
    refine Wk.icmp_f (q := 24) d39_21 rfl (by decide) ?_
    refine Wk.iload_n (q := 25) d39_24 rfl rfl ?_
    refine Wk.bipush (q := 27) (48) d39_25 rfl (by decide) ?_
    refine Wk.icmp_f (q := 30) d39_27 rfl (by decide) ?_
    refine Wk.iload_n (q := 31) d39_30 rfl rfl ?_
    refine Wk.bipush (q := 33) (57) d39_31 rfl (by decide) ?_
    refine Wk.icmp_f (q := 36) d39_33 rfl (by decide) ?_
    refine Wk.iload_n (q := 37) d39_36 rfl rfl ?_
    refine Wk.bipush (q := 39) (95) d39_37 rfl (by decide) ?_
    refine Wk.icmp_t (q := 54) d39_39 (by decide) (by decide) (by decide) ?_
    exact yes _ _ _
  · refine Wk.iload_n (q := 1) d39_0 rfl rfl ?_
    refine Wk.bipush (q := 3) (97) d39_1 rfl (by decide) ?_
    refine Wk.icmp_t (q := 12) d39_3 (by decide) (by decide) (by decide) ?_
    refine Wk.iload_n (q := 13) d39_12 rfl rfl ?_
    refine Wk.bipush (q := 15) (65) d39_13 rfl (by decide) ?_
    refine Wk.icmp_t (q := 24) d39_15 (by decide) (by decide) (by decide) ?_
    refine Wk.iload_n (q := 25) d39_24 rfl rfl ?_
    refine Wk.bipush (q := 27) (48) d39_25 rfl (by decide) ?_
    refine Wk.icmp_t (q := 36) d39_27 (by decide) (by decide) (by decide) ?_
    refine Wk.iload_n (q := 37) d39_36 rfl rfl ?_
    refine Wk.bipush (q := 39) (95) d39_37 rfl (by decide) ?_
    refine Wk.icmp_f (q := 42) d39_39 rfl (by decide) ?_
    refine Wk.iload_n (q := 43) d39_42 rfl rfl ?_
    refine Wk.bipush (q := 45) (46) d39_43 rfl (by decide) ?_
    refine Wk.icmp_t (q := 54) d39_45 (by decide) (by decide) (by decide) ?_
    exact yes _ _ _
  · refine Wk.iload_n (q := 1) d39_0 rfl rfl ?_
    refine Wk.bipush (q := 3) (97) d39_1 rfl (by decide) ?_
    refine Wk.icmp_t (q := 12) d39_3 (by decide) (by decide) (by decide) ?_
    refine Wk.iload_n (q := 13) d39_12 rfl rfl ?_
    refine Wk.bipush (q := 15) (65) d39_13 rfl (by decide) ?_
    refine Wk.icmp_t (q := 24) d39_15 (by decide) (by decide) (by decide) ?_
    refine Wk.iload_n (q := 25) d39_24 rfl rfl ?_
    refine Wk.bipush (q := 27) (48) d39_25 rfl (by decide) ?_
    refine Wk.icmp_t (q := 36) d39_27 (by decide) (by decide) (by decide) ?_
    refine Wk.iload_n (q := 37) d39_36 rfl rfl ?_
    refine Wk.bipush (q := 39) (95) d39_37 rfl (by decide) ?_
    refine Wk.icmp_f (q := 42) d39_39 rfl (by decide) ?_
    refine Wk.iload_n (q := 43) d39_42 rfl rfl ?_
    refine Wk.bipush (q := 45) (46) d39_43 rfl (by decide) ?_
    refine Wk.icmp_f (q := 48) d39_45 rfl (by decide) ?_
    refine Wk.iload_n (q := 49) d39_48 rfl rfl ?_
    refine Wk.bipush (q := 51) (45) d39_49 rfl (by decide) ?_
    refine Wk.icmp_f (q := 54) d39_51 rfl (by decide) ?_
    exact yes _ _ _
set_option maxHeartbeats 4000000 in
theorem ct_isPN {l : Launch} {Z : State} {a0 : Array Value} (hw : ∀ d ∈ tables_1, d.before a0 Z = true) (hE : EW Z a0 EL0) (F : ∃ z, z ≠ (0 : Int32) ∧ Sta Z Z.heap "java/lang/String" "COMPACT_STRINGS" "Z" (.int z)) (hO : FO Z) {L : Store} {s b : Addr} {f fb : Bool} {cs : List Int32} (hc : NCs cs) (h0 : cs ≠ []) (hl : cs.length < 1000000) (hs : (s, f, OB Z "java/lang/String" layS [.ref b, .int 0]) ∈ L) (hb : (b, fb, AR Z .byte ((cs.map b8).map .int)) ∈ L) :
    Ct l Z EL0 (⟨"com/example/dekree/dekree/QualifiedName", "isPlainName", "(Ljava/lang/String;)Z"⟩ : MethodName) prog_7_method_9_code 2 (some .boolean) ({ frames := 4, cells := 0, slots := 0, locals := 53 } : Room) #[.ref s] L (RV fun u M => u = .int 1 ∧ M = L) := by
  refine Ct.of (a0 := a0) (Ls := [.val (.ref _), .unset]) (plainFor_of_name pn_9) (fun m => ef_r_2 m _) hE ?_
  have loop : ∀ (k i : Nat) (cb sb : Nat), i + k = cs.length → Wk l Z a0 EL0 (⟨"com/example/dekree/dekree/QualifiedName", "isPlainName", "(Ljava/lang/String;)Z"⟩ : MethodName) prog_7_method_9_code 2 (some .boolean) ({ frames := 4, cells := 0, slots := 0, locals := 53 } : Room) (RV fun u M => u = .int 1 ∧ M = L) L cb sb 11 [.val (.ref s), .val (.int i.toInt32)] [] := by
    intro k
    induction k with
    | zero =>
      intro i cb sb h
      refine Wk.iload_n (q := 12) d40_11 rfl rfl ?_
      refine Wk.aload_n (q := 13) d40_12 rfl rfl (by first | rfl | assumption) ?_
      refine Wk.virtual (q := 16) (C := "java/lang/String") [] _ 1 d40_13 rfl (hw _ (List.mem_of_getElem? (i := 78) rfl)) (hw _ (List.mem_of_getElem? (i := 79) rfl)) (hw _ (List.mem_of_getElem? (i := 81) rfl)) (hw _ (List.mem_of_getElem? (i := 80) rfl)) (hw _ (List.mem_of_getElem? (i := 11) rfl)) (hw _ (List.mem_of_getElem? (i := 82) rfl)) ar_18 (by decide) (nfSel (hw _ (List.mem_of_getElem? (i := 81) rfl))) (by repeat (first | exact List.mem_cons_self | assumption | refine List.mem_cons_of_mem _ ?_)) rfl rfl rfl rfl (ct_lenL hw hE F hs hb) (by first | decide | (dsimp only; omega) | omega) (by first | decide | (dsimp only; omega) | omega) (by first | decide | (dsimp only; omega) | omega) (by first | decide | (dsimp only; omega) | omega) (kv ?_)
      rintro _ _ ⟨rfl, rfl⟩
      rw [List.length_map]
      refine Wk.icmp_t (q := 38) d40_16 (by decide) (by decide) (XT.ii_ge_t (fun q => by have := (n32_lt (by omega) (by omega)).mp q; omega)) ?_
      refine Wk.iconst (q := 39) (1) d40_38 rfl (by decide) ?_
      refine Wk.ireturn (t := .boolean) d40_39 rfl (by simp) (by rfl) ?_
      exact ⟨_, rfl, rfl, rfl⟩
    | succ k ih =>
      intro i cb sb h
      have hi : i < cs.length := by omega
      refine Wk.iload_n (q := 12) d40_11 rfl rfl ?_
      refine Wk.aload_n (q := 13) d40_12 rfl rfl (by first | rfl | assumption) ?_
      refine Wk.virtual (q := 16) (C := "java/lang/String") [] _ 1 d40_13 rfl (hw _ (List.mem_of_getElem? (i := 78) rfl)) (hw _ (List.mem_of_getElem? (i := 79) rfl)) (hw _ (List.mem_of_getElem? (i := 81) rfl)) (hw _ (List.mem_of_getElem? (i := 80) rfl)) (hw _ (List.mem_of_getElem? (i := 11) rfl)) (hw _ (List.mem_of_getElem? (i := 82) rfl)) ar_18 (by decide) (nfSel (hw _ (List.mem_of_getElem? (i := 81) rfl))) (by repeat (first | exact List.mem_cons_self | assumption | refine List.mem_cons_of_mem _ ?_)) rfl rfl rfl rfl (ct_lenL hw hE F hs hb) (by first | decide | (dsimp only; omega) | omega) (by first | decide | (dsimp only; omega) | omega) (by first | decide | (dsimp only; omega) | omega) (by first | decide | (dsimp only; omega) | omega) (kv ?_)
      rintro _ _ ⟨rfl, rfl⟩
      rw [List.length_map]
      refine Wk.icmp_f (q := 19) d40_16 rfl (XT.ii_ge_f ((n32_lt (by omega) (by omega)).mpr hi)) ?_
      refine Wk.aload_n (q := 20) d40_19 rfl rfl (by first | rfl | assumption) ?_
      refine Wk.iload_n (q := 21) d40_20 rfl rfl ?_
      refine Wk.virtual (q := 24) (C := "java/lang/String") [_] _ 0 d40_21 rfl (hw _ (List.mem_of_getElem? (i := 88) rfl)) (hw _ (List.mem_of_getElem? (i := 19) rfl)) (hw _ (List.mem_of_getElem? (i := 21) rfl)) (hw _ (List.mem_of_getElem? (i := 20) rfl)) (hw _ (List.mem_of_getElem? (i := 11) rfl)) (hw _ (List.mem_of_getElem? (i := 22) rfl)) ar_24 (by decide) (nfSel (hw _ (List.mem_of_getElem? (i := 21) rfl))) (by repeat (first | exact List.mem_cons_self | assumption | refine List.mem_cons_of_mem _ ?_)) rfl rfl rfl rfl (ct_atL hw hE F hO hc.lat (by omega) hi hs hb) (by first | decide | (dsimp only; omega) | omega) (by first | decide | (dsimp only; omega) | omega) (by first | decide | (dsimp only; omega) | omega) (by first | decide | (dsimp only; omega) | omega) (kv ?_)
      rintro _ _ ⟨rfl, rfl⟩
      refine Wk.static (q := 27) [_] _ 0 d40_24 rfl (hw _ (List.mem_of_getElem? (i := 89) rfl)) (hw _ (List.mem_of_getElem? (i := 90) rfl)) (hw _ (List.mem_of_getElem? (i := 2) rfl)) (hw _ (List.mem_of_getElem? (i := 91) rfl)) ar_12 (by decide) rfl rfl rfl rfl (ct_isNC hw hE (hc _ (List.getElem_mem hi))) (by first | decide | (dsimp only; omega) | omega) (by first | decide | (dsimp only; omega) | omega) (by first | decide | (dsimp only; omega) | omega) (by first | decide | (dsimp only; omega) | omega) (kv ?_)
      rintro _ _ ⟨rfl, rfl⟩
      refine Wk.if_t (q := 32) d40_27 (by decide) (by decide) (by decide) ?_
      refine Wk.iinc (q := 35) (1) d40_32 rfl (by decide) rfl (LS1.there (LS1.here (by first | exact One.u | exact One.val rfl | assumption))) ?_
      rw [n32_succ]
      refine Wk.goto (q := 11) d40_35 (by decide) (by decide) ?_
      exact ih (i + 1) _ _ (by omega)
  refine Wk.aload_n (q := 1) d40_0 rfl rfl (by first | rfl | assumption) ?_
  refine Wk.virtual (q := 4) (C := "java/lang/String") [] _ 0 d40_1 rfl (hw _ (List.mem_of_getElem? (i := 73) rfl)) (hw _ (List.mem_of_getElem? (i := 74) rfl)) (hw _ (List.mem_of_getElem? (i := 76) rfl)) (hw _ (List.mem_of_getElem? (i := 75) rfl)) (hw _ (List.mem_of_getElem? (i := 11) rfl)) (hw _ (List.mem_of_getElem? (i := 77) rfl)) ar_8 (by decide) (nfSel (hw _ (List.mem_of_getElem? (i := 76) rfl))) (by repeat (first | exact List.mem_cons_self | assumption | refine List.mem_cons_of_mem _ ?_)) rfl rfl rfl rfl (ct_strIsE hw hE (xs := cs.map b8) (by simpa using h0) (by simpa using hl) hs hb) (by first | decide | (dsimp only; omega) | omega) (by first | decide | (dsimp only; omega) | omega) (by first | decide | (dsimp only; omega) | omega) (by first | decide | (dsimp only; omega) | omega) (kv ?_)
  rintro _ _ ⟨rfl, rfl⟩
  refine Wk.if_t (q := 9) d40_4 (by decide) (by decide) (by decide) ?_
  refine Wk.iconst (q := 10) (0) d40_9 rfl (by decide) ?_
  refine Wk.istore_n (q := 11) d40_10 rfl (LS1.there (LS1.here (by first | exact One.u | exact One.val rfl | assumption))) ?_
  exact loop cs.length 0 _ _ (by omega)
set_option maxRecDepth 65536 in
set_option maxHeartbeats 4000000 in
theorem ct_qInit {l : Launch} {Z : State} {a0 : Array Value} (hw : ∀ d ∈ tables_1, d.before a0 Z = true) (hE : EW Z a0 EL0) (F : ∃ z, z ≠ (0 : Int32) ∧ Sta Z Z.heap "java/lang/String" "COMPACT_STRINGS" "Z" (.int z)) (hO : FO Z) {L : Store} {q d db n nb : Addr} {fd fdb fn fnb : Bool} {ds ns : List Int32} (hcd : NCs ds) (hcn : NCs ns) (hd0 : ds ≠ []) (hn0 : ns ≠ []) (hd2 : ds.length ≤ 2) (hn2 : ns.length ≤ 2) (hd : (d, fd, OB Z "java/lang/String" layS [.ref db, .int 0]) ∈ L) (hdb : (db, fdb, AR Z .byte ((ds.map b8).map .int)) ∈ L) (hn : (n, fn, OB Z "java/lang/String" layS [.ref nb, .int 0]) ∈ L) (hnb : (nb, fnb, AR Z .byte ((ns.map b8).map .int)) ∈ L) :
    Ct l Z EL0 (⟨"com/example/dekree/dekree/QualifiedName", "<init>", "(Ljava/lang/String;Ljava/lang/String;)V"⟩ : MethodName) prog_7_method_1_code 3 none ({ frames := 6, cells := 10, slots := 96, locals := 93 } : Room) #[.ref q, .ref d, .ref n] ((q, true, OB Z nQ layQ [.null, .null, .null]) :: L) (R0 fun M => ∃ w wb, M = (q, true, OB Z nQ layQ [.ref d, .ref n, .ref w]) :: (w, true, OB Z "java/lang/String" layS [.ref wb, .int 0]) :: (wb, true, AR Z .byte (((ds ++ [47] ++ ns).map b8).map .int)) :: L) := by
  refine Ct.of (a0 := a0) (Ls := [.val (.ref _), .val (.ref _), .val (.ref _)]) (plainFor_of_name pn_9) (fun m => ef_rrr_3 m _ _ _) hE ?_
  refine Wk.aload_n (q := 1) d41_0 rfl rfl (by first | rfl | assumption) ?_
  refine Wk.objinit (q := 4) 0 d41_1 rfl (hw _ (List.mem_of_getElem? (i := 63) rfl)) (hw _ (List.mem_of_getElem? (i := 58) rfl)) (hw _ (List.mem_of_getElem? (i := 59) rfl)) rfl (by first | decide | (dsimp only; omega) | omega) rfl (by first | decide | (dsimp only; omega) | omega) ?_
  refine Wk.aload_n (q := 5) d41_4 rfl rfl (by first | rfl | assumption) ?_
  refine Wk.ldcO (q := 7) 24 d41_5 rfl (hw _ (List.mem_of_getElem? (i := 64) rfl)) (wS hw) (by decide +kernel) (by decide) (by first | decide | (dsimp only; omega) | omega) (by first | decide | (dsimp only; omega) | omega) ?_
  intro t1
  refine Wk.static (q := 10) [_, _] _ 0 d41_7 rfl (hw _ (List.mem_of_getElem? (i := 65) rfl)) (hw _ (List.mem_of_getElem? (i := 66) rfl)) (hw _ (List.mem_of_getElem? (i := 67) rfl)) (hw _ (List.mem_of_getElem? (i := 68) rfl)) ar_25 (by decide) rfl rfl rfl rfl (ct_rnn2 hw hE) (by first | decide | (dsimp only; omega) | omega) (by first | decide | (dsimp only; omega) | omega) (by first | decide | (dsimp only; omega) | omega) (by first | decide | (dsimp only; omega) | omega) (kv ?_)
  rintro _ _ ⟨rfl, rfl⟩
  refine Wk.pop (q := 11) d41_10 rfl rfl ?_
  refine Wk.aload_n (q := 12) d41_11 rfl rfl (by first | rfl | assumption) ?_
  refine Wk.ldcO (q := 14) 16 d41_12 rfl (hw _ (List.mem_of_getElem? (i := 69) rfl)) (wS hw) (by decide +kernel) (by decide) (by first | decide | (dsimp only; omega) | omega) (by first | decide | (dsimp only; omega) | omega) ?_
  intro t2
  refine Wk.static (q := 17) [_, _] _ 0 d41_14 rfl (hw _ (List.mem_of_getElem? (i := 65) rfl)) (hw _ (List.mem_of_getElem? (i := 66) rfl)) (hw _ (List.mem_of_getElem? (i := 67) rfl)) (hw _ (List.mem_of_getElem? (i := 68) rfl)) ar_25 (by decide) rfl rfl rfl rfl (ct_rnn2 hw hE) (by first | decide | (dsimp only; omega) | omega) (by first | decide | (dsimp only; omega) | omega) (by first | decide | (dsimp only; omega) | omega) (by first | decide | (dsimp only; omega) | omega) (kv ?_)
  rintro _ _ ⟨rfl, rfl⟩
  refine Wk.pop (q := 18) d41_17 rfl rfl ?_
  refine Wk.aload_n (q := 19) d41_18 rfl rfl (by first | rfl | assumption) ?_
  refine Wk.static (q := 22) [_] _ 0 d41_19 rfl (hw _ (List.mem_of_getElem? (i := 70) rfl)) (hw _ (List.mem_of_getElem? (i := 71) rfl)) (hw _ (List.mem_of_getElem? (i := 2) rfl)) (hw _ (List.mem_of_getElem? (i := 72) rfl)) ar_26 (by decide) rfl rfl rfl rfl (ct_isPN hw hE F hO hcd hd0 (by omega) (by repeat (first | exact List.mem_cons_self | assumption | refine List.mem_cons_of_mem _ ?_)) (by repeat (first | exact List.mem_cons_self | assumption | refine List.mem_cons_of_mem _ ?_))) (by first | decide | (dsimp only; omega) | omega) (by first | decide | (dsimp only; omega) | omega) (by first | decide | (dsimp only; omega) | omega) (by first | decide | (dsimp only; omega) | omega) (kv ?_)
  rintro _ _ ⟨rfl, rfl⟩
  refine Wk.if_t (q := 57) d41_22 (by decide) (by decide) (by decide) ?_
  refine Wk.aload_n (q := 58) d41_57 rfl rfl (by first | rfl | assumption) ?_
  refine Wk.static (q := 61) [_] _ 0 d41_58 rfl (hw _ (List.mem_of_getElem? (i := 70) rfl)) (hw _ (List.mem_of_getElem? (i := 71) rfl)) (hw _ (List.mem_of_getElem? (i := 2) rfl)) (hw _ (List.mem_of_getElem? (i := 72) rfl)) ar_26 (by decide) rfl rfl rfl rfl (ct_isPN hw hE F hO hcn hn0 (by omega) (by repeat (first | exact List.mem_cons_self | assumption | refine List.mem_cons_of_mem _ ?_)) (by repeat (first | exact List.mem_cons_self | assumption | refine List.mem_cons_of_mem _ ?_))) (by first | decide | (dsimp only; omega) | omega) (by first | decide | (dsimp only; omega) | omega) (by first | decide | (dsimp only; omega) | omega) (by first | decide | (dsimp only; omega) | omega) (kv ?_)
  rintro _ _ ⟨rfl, rfl⟩
  refine Wk.if_t (q := 96) d41_61 (by decide) (by decide) (by decide) ?_
  refine Wk.aload_n (q := 97) d41_96 rfl rfl (by first | rfl | assumption) ?_
  refine Wk.aload_n (q := 98) d41_97 rfl rfl (by first | rfl | assumption) ?_
  refine Wk.putfield (q := 101) (C := "com/example/dekree/dekree/QualifiedName") (lay := layQ) 0 d41_98 rfl (hw _ (List.mem_of_getElem? (i := 92) rfl)) Via.refl (layQ_ok hw) (hw _ (List.mem_of_getElem? (i := 1) rfl)) (Or.inr ⟨(hw _ (List.mem_of_getElem? (i := 93) rfl)), rfl, rfl⟩) rfl (by decide +kernel : parseFieldDescriptor "Ljava/lang/String;" = some (.object "java/lang/String")) (by repeat (first | exact Ex.here | assumption | apply Ex.there)) (VS.here) (by first | rfl | exact narO) (by first | rfl | exact fitO (by assumption) | exact fitA (by assumption)) ?_
  refine Wk.aload_n (q := 102) d41_101 rfl rfl (by first | rfl | assumption) ?_
  refine Wk.aload_n (q := 103) d41_102 rfl rfl (by first | rfl | assumption) ?_
  refine Wk.putfield (q := 106) (C := "com/example/dekree/dekree/QualifiedName") (lay := layQ) 1 d41_103 rfl (hw _ (List.mem_of_getElem? (i := 94) rfl)) Via.refl (layQ_ok hw) (hw _ (List.mem_of_getElem? (i := 1) rfl)) (Or.inr ⟨(hw _ (List.mem_of_getElem? (i := 95) rfl)), rfl, rfl⟩) rfl (by decide +kernel : parseFieldDescriptor "Ljava/lang/String;" = some (.object "java/lang/String")) (by repeat (first | exact Ex.here | assumption | apply Ex.there)) (VS.there (VS.here)) (by first | rfl | exact narO) (by first | rfl | exact fitO (by assumption) | exact fitA (by assumption)) ?_
  refine Wk.aload_n (q := 107) d41_106 rfl rfl (by first | rfl | assumption) ?_
  refine Wk.new (q := 110) d41_107 rfl (hw _ (List.mem_of_getElem? (i := 96) rfl)) (hw _ (List.mem_of_getElem? (i := 97) rfl)) (hw _ (List.mem_of_getElem? (i := 98) rfl)) (layB_ok hw) layB_dv (by first | decide | (dsimp only; omega) | omega) (by first | decide | (dsimp only; omega) | omega) ?_
  intro s
  refine Wk.dup (q := 111) d41_110 rfl rfl ?_
  refine Wk.special (q := 114) [] _ 2 d41_111 rfl rfl (hw _ (List.mem_of_getElem? (i := 99) rfl)) (hw _ (List.mem_of_getElem? (i := 100) rfl)) (hw _ (List.mem_of_getElem? (i := 98) rfl)) (hw _ (List.mem_of_getElem? (i := 101) rfl)) ar_27 (by decide) rfl rfl rfl rfl (ct_sbInit hw hE F) (by first | decide | (dsimp only; omega) | omega) (by first | decide | (dsimp only; omega) | omega) (by first | decide | (dsimp only; omega) | omega) (by first | decide | (dsimp only; omega) | omega) (k0 ?_)
  rintro _ ⟨v, rfl⟩
  refine Wk.aload_n (q := 115) d41_114 rfl rfl (by first | rfl | assumption) ?_
  refine Wk.virtual (q := 118) (C := "java/lang/StringBuilder") [_] _ 1 d41_115 rfl (hw _ (List.mem_of_getElem? (i := 114) rfl)) (hw _ (List.mem_of_getElem? (i := 115) rfl)) (hw _ (List.mem_of_getElem? (i := 117) rfl)) (hw _ (List.mem_of_getElem? (i := 116) rfl)) (hw _ (List.mem_of_getElem? (i := 98) rfl)) (hw _ (List.mem_of_getElem? (i := 118) rfl)) ar_28 (by decide) (nfSel (hw _ (List.mem_of_getElem? (i := 117) rfl))) (by repeat (first | exact List.mem_cons_self | assumption | refine List.mem_cons_of_mem _ ?_)) rfl rfl rfl rfl (ct_app hw hE F (ys := []) (k := 16) (by decide) (by omega) (by repeat (first | exact List.mem_cons_self | assumption | refine List.mem_cons_of_mem _ ?_)) (show (db, fdb, AR Z .byte ((ds.map b8).map .int)) ∈ _ from (by repeat (first | exact List.mem_cons_self | assumption | refine List.mem_cons_of_mem _ ?_)))) (by first | decide | (dsimp only; omega) | omega) (by first | decide | (dsimp only; omega) | omega) (by first | decide | (dsimp only; omega) | omega) (by first | decide | (dsimp only; omega) | omega) (kv ?_)
  rintro _ _ ⟨rfl, rfl⟩
  refine Wk.ldcS (q := 120) 4 [.int 47] 1 d41_118 rfl (hw _ (List.mem_of_getElem? (i := 152) rfl)) (wS hw) (by decide +kernel) (by decide +kernel) (by decide) (by decide) (by decide +kernel) (by decide) (by first | decide | (dsimp only; omega) | omega) (by first | decide | (dsimp only; omega) | omega) ?_
  intro t e
  refine Wk.pull (o := (v, true, _)) (by repeat (first | exact Ex.here | assumption | apply Ex.there)) ?_
  refine Wk.pull (o := (s, true, _)) (by repeat (first | exact Ex.here | assumption | apply Ex.there)) ?_
  refine Wk.virtual (q := 123) (C := "java/lang/StringBuilder") [_] _ 1 d41_120 rfl (hw _ (List.mem_of_getElem? (i := 114) rfl)) (hw _ (List.mem_of_getElem? (i := 115) rfl)) (hw _ (List.mem_of_getElem? (i := 117) rfl)) (hw _ (List.mem_of_getElem? (i := 116) rfl)) (hw _ (List.mem_of_getElem? (i := 98) rfl)) (hw _ (List.mem_of_getElem? (i := 118) rfl)) ar_28 (by decide) (nfSel (hw _ (List.mem_of_getElem? (i := 117) rfl))) (by repeat (first | exact List.mem_cons_self | assumption | refine List.mem_cons_of_mem _ ?_)) rfl rfl rfl rfl (ct_app hw hE F (cs := [47]) (by rw [List.nil_append]; omega) (by simp; omega) (by repeat (first | exact List.mem_cons_self | assumption | refine List.mem_cons_of_mem _ ?_)) (show (e, false, AR Z .byte ((([47] : List Int32).map b8).map .int)) ∈ _ from List.mem_cons_of_mem _ List.mem_cons_self)) (by first | decide | (dsimp only; omega) | omega) (by first | decide | (dsimp only; omega) | omega) (by first | decide | (dsimp only; omega) | omega) (by first | decide | (dsimp only; omega) | omega) (kv ?_)
  rintro _ _ ⟨rfl, rfl⟩
  refine Wk.aload_n (q := 124) d41_123 rfl rfl (by first | rfl | assumption) ?_
  refine Wk.virtual (q := 127) (C := "java/lang/StringBuilder") [_] _ 1 d41_124 rfl (hw _ (List.mem_of_getElem? (i := 114) rfl)) (hw _ (List.mem_of_getElem? (i := 115) rfl)) (hw _ (List.mem_of_getElem? (i := 117) rfl)) (hw _ (List.mem_of_getElem? (i := 116) rfl)) (hw _ (List.mem_of_getElem? (i := 98) rfl)) (hw _ (List.mem_of_getElem? (i := 118) rfl)) ar_28 (by decide) (nfSel (hw _ (List.mem_of_getElem? (i := 117) rfl))) (by repeat (first | exact List.mem_cons_self | assumption | refine List.mem_cons_of_mem _ ?_)) rfl rfl rfl rfl (ct_app hw hE F (cs := ns) (by simp; omega) (by simp; omega) (by repeat (first | exact List.mem_cons_self | assumption | refine List.mem_cons_of_mem _ ?_)) (by repeat (first | exact List.mem_cons_self | assumption | refine List.mem_cons_of_mem _ ?_))) (by first | decide | (dsimp only; omega) | omega) (by first | decide | (dsimp only; omega) | omega) (by first | decide | (dsimp only; omega) | omega) (by first | decide | (dsimp only; omega) | omega) (kv ?_)
  rintro _ _ ⟨rfl, rfl⟩
  refine Wk.virtual (q := 130) (C := "java/lang/StringBuilder") [] _ 1 d41_127 rfl (hw _ (List.mem_of_getElem? (i := 153) rfl)) (hw _ (List.mem_of_getElem? (i := 154) rfl)) (hw _ (List.mem_of_getElem? (i := 156) rfl)) (hw _ (List.mem_of_getElem? (i := 155) rfl)) (hw _ (List.mem_of_getElem? (i := 98) rfl)) (hw _ (List.mem_of_getElem? (i := 157) rfl)) ar_29 (by decide) (nfSel (hw _ (List.mem_of_getElem? (i := 156) rfl))) (by repeat (first | exact List.mem_cons_self | assumption | refine List.mem_cons_of_mem _ ?_)) rfl rfl rfl rfl (ct_sbStr hw hE F (by repeat (first | exact List.mem_cons_self | assumption | refine List.mem_cons_of_mem _ ?_)) (by repeat (first | exact List.mem_cons_self | assumption | refine List.mem_cons_of_mem _ ?_)) (by simp; omega) (by simp; omega) 16 (by simp; omega)) (by first | decide | (dsimp only; omega) | omega) (by first | decide | (dsimp only; omega) | omega) (by first | decide | (dsimp only; omega) | omega) (by first | decide | (dsimp only; omega) | omega) (kv ?_)
  rintro _ _ ⟨w, wb, rfl, rfl⟩
  refine Wk.putfield (q := 133) (C := "com/example/dekree/dekree/QualifiedName") (lay := layQ) 2 d41_130 rfl (hw _ (List.mem_of_getElem? (i := 198) rfl)) Via.refl (layQ_ok hw) (hw _ (List.mem_of_getElem? (i := 1) rfl)) (Or.inr ⟨(hw _ (List.mem_of_getElem? (i := 199) rfl)), rfl, rfl⟩) rfl (by decide +kernel : parseFieldDescriptor "Ljava/lang/String;" = some (.object "java/lang/String")) (by repeat (first | exact Ex.here | assumption | apply Ex.there)) (VS.there (VS.there (VS.here))) (by first | rfl | exact narO) (by first | rfl | exact fitO (by assumption) | exact fitA (by assumption)) ?_
  refine Wk.sub (.cons_cons _ (.cons_cons _ (.cons_cons _ (.cons _ (.cons _ (.cons _ (.cons _ (.refl _)))))))) ?_
  refine Wk.return_ d41_133 rfl ?_
  refine ⟨rfl, w, wb, ?_⟩
  rw [List.nil_append]
theorem ct_qEq {l : Launch} {Z : State} {a0 : Array Value} (hw : ∀ d ∈ tables_1, d.before a0 Z = true) (hE : EW Z a0 EL0) (F : ∃ z, z ≠ (0 : Int32) ∧ Sta Z Z.heap "java/lang/String" "COMPACT_STRINGS" "Z" (.int z)) {L : Store} {a b d1 n1 w1 b1 d2 n2 w2 b2 : Addr} {fa fb g1 g2 k1 k2 : Bool} {xs ys : List Int32} (hl : xs.length < 2 ^ 31) (hl' : ys.length < 2 ^ 31) (ha : (a, fa, OB Z nQ layQ [.ref d1, .ref n1, .ref w1]) ∈ L) (hb : (b, fb, OB Z nQ layQ [.ref d2, .ref n2, .ref w2]) ∈ L) (h1 : (w1, g1, OB Z "java/lang/String" layS [.ref b1, .int 0]) ∈ L) (h2 : (w2, g2, OB Z "java/lang/String" layS [.ref b2, .int 0]) ∈ L) (h3 : (b1, k1, AR Z .byte (xs.map .int)) ∈ L) (h4 : (b2, k2, AR Z .byte (ys.map .int)) ∈ L) :
    Ct l Z EL0 (⟨"com/example/dekree/dekree/QualifiedName", "equals", "(Ljava/lang/Object;)Z"⟩ : MethodName) prog_7_method_6_code 3 (some .boolean) ({ frames := 2, cells := 0, slots := 0, locals := 28 } : Room) #[.ref a, .ref b] L (RV fun u M => u = .int (if xs = ys then 1 else 0) ∧ M = L) := by
  refine Ct.of (a0 := a0) (Ls := [.val (.ref _), .val (.ref _), .unset]) (plainFor_of_name pn_9) (fun m => ef_rr_3 m _ _) hE ?_
  refine Wk.aload_n (q := 1) d42_0 rfl rfl (by first | rfl | assumption) ?_
  refine Wk.instanceof_t (q := 4) (C := "com/example/dekree/dekree/QualifiedName") d42_1 rfl (hw _ (List.mem_of_getElem? (i := 245) rfl)) (by repeat (first | exact List.mem_cons_self | assumption | refine List.mem_cons_of_mem _ ?_)) (hw _ (List.mem_of_getElem? (i := 219) rfl)) ?_
  refine Wk.if_f (q := 7) d42_4 rfl (by decide) ?_
  refine Wk.aload_n (q := 8) d42_7 rfl rfl (by first | rfl | assumption) ?_
  refine Wk.checkcast (q := 11) (C := "com/example/dekree/dekree/QualifiedName") d42_8 rfl (hw _ (List.mem_of_getElem? (i := 245) rfl)) (by repeat (first | exact List.mem_cons_self | assumption | refine List.mem_cons_of_mem _ ?_)) (hw _ (List.mem_of_getElem? (i := 219) rfl)) ?_
  refine Wk.astore_n (q := 12) d42_11 rfl (by first | rfl | assumption) (LS1.there (LS1.there (LS1.here (by first | exact One.u | exact One.val rfl | assumption)))) ?_
  refine Wk.goto (q := 17) d42_12 (by decide) (by decide) ?_
  refine Wk.aload_n (q := 18) d42_17 rfl rfl (by first | rfl | assumption) ?_
  refine Wk.getfield (q := 21) (C := "com/example/dekree/dekree/QualifiedName") (lay := layQ) 2 d42_18 rfl (hw _ (List.mem_of_getElem? (i := 198) rfl)) Via.refl ha rfl (by rfl) ?_
  refine Wk.aload_n (q := 22) d42_21 rfl rfl (by first | rfl | assumption) ?_
  refine Wk.getfield (q := 25) (C := "com/example/dekree/dekree/QualifiedName") (lay := layQ) 2 d42_22 rfl (hw _ (List.mem_of_getElem? (i := 198) rfl)) Via.refl hb rfl (by rfl) ?_
  refine Wk.virtual (q := 28) (C := "java/lang/String") [_] _ 0 d42_25 rfl (hw _ (List.mem_of_getElem? (i := 246) rfl)) (hw _ (List.mem_of_getElem? (i := 236) rfl)) (hw _ (List.mem_of_getElem? (i := 238) rfl)) (hw _ (List.mem_of_getElem? (i := 237) rfl)) (hw _ (List.mem_of_getElem? (i := 11) rfl)) (hw _ (List.mem_of_getElem? (i := 239) rfl)) ar_30 (by decide) (nfSel (hw _ (List.mem_of_getElem? (i := 238) rfl))) (by repeat (first | exact List.mem_cons_self | assumption | refine List.mem_cons_of_mem _ ?_)) rfl rfl rfl rfl (ct_strEq hw hE F hl hl' h1 h2 h3 h4) (by first | decide | (dsimp only; omega) | omega) (by first | decide | (dsimp only; omega) | omega) (by first | decide | (dsimp only; omega) | omega) (by first | decide | (dsimp only; omega) | omega) (kv ?_)
  rintro _ _ ⟨rfl, rfl⟩
  refine Wk.ireturn (t := .boolean) d42_28 rfl (by simp) (by split <;> decide) ?_
  exact ⟨_, rfl, rfl, rfl⟩

theorem n32_back {x : Int32} (h : 0 ≤ x.toInt) : x = x.toInt.toNat.toInt32 := by
  have r := rng32 x
  apply Int32.toInt_inj.mp
  rw [n32 (by omega)]
  omega

instance (c : Int32) : Decidable (NC c) := by unfold NC; infer_instance
def tab : List Int32 := [97, 98, 99, 100, 101, 102, 103, 104, 105, 106, 107, 108, 109, 110, 111, 112, 113, 114, 115, 116, 117, 118, 119, 120, 121, 122, 65, 66, 67, 68, 69, 70, 71, 72, 73, 74, 75, 76, 77, 78, 79, 80, 81, 82, 83, 84, 85, 86, 87, 88, 89, 90, 48, 49, 50, 51, 52, 53, 54, 55, 56, 57, 95, 46, 45]
theorem tab_len : tab.length = 65 := rfl
theorem tab_all : ∀ j : Nat, j < 65 → NC (tab.getD j 0) := by decide +kernel
theorem tab_inj : ∀ i : Nat, i < 65 → ∀ j : Nat, j < 65 → tab.getD i 0 = tab.getD j 0 → i = j := by decide +kernel
theorem tab_nc : NCs tab := fun c hc => by
  obtain ⟨j, hj, rfl⟩ := List.mem_iff_getElem.mp hc
  have q := tab_all j hj
  rwa [List.getD_eq_getElem?_getD, List.getElem?_eq_getElem hj] at q
def nch (k : Int32) : Int32 := tab.getD (k % 65).toInt.toNat 0
theorem rem65 {k : Int32} (h : 0 ≤ k.toInt) : 0 ≤ (k % 65).toInt ∧ (k % 65).toInt < 65 := remR k 65 65 h (by decide) (by decide)
theorem nch_nc {k : Int32} (h : 0 ≤ k.toInt) : NC (nch k) := tab_all _ (by have := rem65 h; omega)
theorem nch_inj {k k' : Int32} (h : 0 ≤ k.toInt) (h' : 0 ≤ k'.toInt) : nch k = nch k' ↔ k % 65 = k' % 65 := by
  refine ⟨fun q => ?_, fun q => by rw [nch, nch, q]⟩
  have r := rem65 h
  have r' := rem65 h'
  have e := tab_inj _ (by omega) _ (by omega) q
  apply Int32.toInt_inj.mp
  omega
theorem m127 (x : Int32) : 0 ≤ (x &&& 127).toInt := (c_and x 127 (by decide)).1
theorem bit01 (x : Int32) : x &&& 1 = 0 ∨ x &&& 1 = 1 := by
  have a := c_and x 1 (by decide)
  have e : (1 : Int32).toInt = 1 := by decide
  rcases (by omega : (x &&& 1).toInt = 0 ∨ (x &&& 1).toInt = 1) with h | h
  · exact Or.inl (lit32 h 0 (by decide))
  · exact Or.inr (lit32 h 1 (by decide))
def pt (w : Int32) : List Int32 := if XT.ushr w 14 &&& 1 = 0 then [nch (w &&& 127)] else [nch (w &&& 127), nch (XT.ushr w 7 &&& 127)]
theorem pt_nc (w : Int32) : NCs (pt w) := by
  intro c hc
  unfold pt at hc
  split at hc
  · rw [List.mem_singleton.mp hc]; exact nch_nc (m127 _)
  · rcases List.mem_cons.mp hc with rfl | hc
    · exact nch_nc (m127 _)
    · rw [List.mem_singleton.mp hc]; exact nch_nc (m127 _)
theorem pt_ne (w : Int32) : pt w ≠ [] := by unfold pt; split <;> simp
theorem pt_len (w : Int32) : (pt w).length ≤ 2 := by unfold pt; split <;> simp
def opn (w : Int32) : Int32 := if (2 : Int32) < XT.ushr w 16 &&& 3 then 2 else XT.ushr w 16 &&& 3
theorem opn_c (w : Int32) : opn w = 0 ∨ opn w = 1 ∨ opn w = 2 := by
  unfold opn
  have a := c_and (XT.ushr w 16) 3 (by decide)
  generalize XT.ushr w 16 &&& 3 = x at a ⊢
  split
  · exact Or.inr (Or.inr rfl)
  · rename_i h
    have h' : ¬ (2 : Int32).toInt < x.toInt := fun q => h (Int32.lt_iff_toInt_lt.mpr q)
    have e : (2 : Int32).toInt = 2 := by decide
    have e3 : (3 : Int32).toInt = 3 := by decide
    rcases (by omega : x.toInt = 0 ∨ x.toInt = 1 ∨ x.toInt = 2) with q | q | q
    · exact Or.inl (lit32 q 0 (by decide))
    · exact Or.inr (Or.inl (lit32 q 1 (by decide)))
    · exact Or.inr (Or.inr (lit32 q 2 (by decide)))
def opS (w : Int32) : List Int32 := if opn w = 0 then [] else if opn w = 1 then [w &&& 255] else [w &&& 255, XT.ushr w 8 &&& 255]
theorem opS_lat (w : Int32) : Lat (opS w) := by
  unfold opS
  split
  · exact lat_nil
  · split
    · exact lat_cons (mask_lat _) lat_nil
    · exact lat_cons (mask_lat _) (lat_cons (mask_lat _) lat_nil)
theorem opS_len (w : Int32) : (opS w).length ≤ 2 := by
  unfold opS
  split
  · simp
  · split <;> simp
theorem map_b8_inj : ∀ {xs ys : List Int32}, Lat xs → Lat ys → (xs.map b8 = ys.map b8 ↔ xs = ys)
  | [], [], _, _ => by simp
  | [], _ :: _, _, _ => by simp
  | _ :: _, [], _, _ => by simp
  | x :: xs, y :: ys, h1, h2 => by
    rw [List.map_cons, List.map_cons, List.cons.injEq, List.cons.injEq, map_b8_inj (fun z hz => h1 z (List.mem_cons_of_mem _ hz)) (fun z hz => h2 z (List.mem_cons_of_mem _ hz)), b8_iff (h1 x List.mem_cons_self) (h2 y List.mem_cons_self) rfl]
set_option maxRecDepth 65536 in
set_option maxHeartbeats 4000000 in
theorem ct_nch {l : Launch} {Z : State} {a0 : Array Value} (hw : ∀ d ∈ tables_1, d.before a0 Z = true) (hE : EW Z a0 EL0) (F : ∃ z, z ≠ (0 : Int32) ∧ Sta Z Z.heap "java/lang/String" "COMPACT_STRINGS" "Z" (.int z)) (hO : FO Z) {L : Store} {k : Int32} (hk : 0 ≤ k.toInt) : Ct l Z EL0 (⟨"com/example/dekree/dekree/PermissionEqualsPinLaw", "nameChar", "(I)C"⟩ : MethodName) method_2_code 1 (some .char) ({ frames := 4, cells := 2, slots := 264, locals := 53 } : Room) #[.int k] L (RV fun u M => u = .int (nch k) ∧ M = L) := by
  have r := rem65 hk
  have e := n32_back r.1
  have hj : (k % 65).toInt.toNat < tab.length := by rw [tab_len]; omega
  have en : tab[(k % 65).toInt.toNat] = nch k := by rw [nch, List.getD_eq_getElem?_getD, List.getElem?_eq_getElem hj]; rfl
  refine Ct.of (a0 := a0) (Ls := [.val (.int _)]) (plainFor_of_name pn_10) (fun m => ef_i_1 m _) hE ?_
  refine Wk.ldcS (q := 2) 260 [.int 97, .int 98, .int 99, .int 100, .int 101, .int 102, .int 103, .int 104, .int 105, .int 106, .int 107, .int 108, .int 109, .int 110, .int 111, .int 112, .int 113, .int 114, .int 115, .int 116, .int 117, .int 118, .int 119, .int 120, .int 121, .int 122, .int 65, .int 66, .int 67, .int 68, .int 69, .int 70, .int 71, .int 72, .int 73, .int 74, .int 75, .int 76, .int 77, .int 78, .int 79, .int 80, .int 81, .int 82, .int 83, .int 84, .int 85, .int 86, .int 87, .int 88, .int 89, .int 90, .int 48, .int 49, .int 50, .int 51, .int 52, .int 53, .int 54, .int 55, .int 56, .int 57, .int 95, .int 46, .int 45] 65 d43_0 rfl (hw _ (List.mem_of_getElem? (i := 10) rfl)) (wS hw) (by decide +kernel) (by decide +kernel) (by decide) (by decide) (by decide +kernel) (by decide) (by first | decide | (dsimp only; omega) | omega) (by first | decide | (dsimp only; omega) | omega) ?_
  intro t d
  refine Wk.iload_n (q := 3) d43_2 rfl rfl ?_
  refine Wk.bipush (q := 5) (65) d43_3 rfl (by decide) ?_
  refine Wk.irem (q := 6) d43_5 rfl (by decide) ?_
  rw [e]
  refine Wk.virtual (q := 9) (C := "java/lang/String") [_] _ 0 d43_6 rfl (hw _ (List.mem_of_getElem? (i := 18) rfl)) (hw _ (List.mem_of_getElem? (i := 19) rfl)) (hw _ (List.mem_of_getElem? (i := 21) rfl)) (hw _ (List.mem_of_getElem? (i := 20) rfl)) (hw _ (List.mem_of_getElem? (i := 11) rfl)) (hw _ (List.mem_of_getElem? (i := 22) rfl)) ar_24 (by decide) (nfSel (hw _ (List.mem_of_getElem? (i := 21) rfl))) (by repeat (first | exact List.mem_cons_self | assumption | refine List.mem_cons_of_mem _ ?_)) rfl rfl rfl rfl (ct_atL hw hE F hO (cs := tab) tab_nc.lat (by rw [tab_len]; decide) hj (by repeat (first | exact List.mem_cons_self | assumption | refine List.mem_cons_of_mem _ ?_)) (by rw [tab_nc.b8]; exact List.mem_cons_of_mem _ List.mem_cons_self)) (by first | decide | (dsimp only; omega) | omega) (by first | decide | (dsimp only; omega) | omega) (by first | decide | (dsimp only; omega) | omega) (by first | decide | (dsimp only; omega) | omega) (kv ?_)
  rintro _ _ ⟨rfl, rfl⟩
  rw [en]
  refine Wk.sub (.cons _ (.cons _ (.refl _))) ?_
  refine Wk.ireturn (t := .char) d43_9 rfl (by simp) (congrArg Value.int (nchar_lat (nch_nc hk).lat)) ?_
  exact ⟨_, rfl, rfl, rfl⟩
set_option maxHeartbeats 4000000 in
theorem ct_part {l : Launch} {Z : State} {a0 : Array Value} (hw : ∀ d ∈ tables_1, d.before a0 Z = true) (hE : EW Z a0 EL0) (F : ∃ z, z ≠ (0 : Int32) ∧ Sta Z Z.heap "java/lang/String" "COMPACT_STRINGS" "Z" (.int z)) (hO : FO Z) {L : Store} {w : Int32} : Ct l Z EL0 (⟨"com/example/dekree/dekree/PermissionEqualsPinLaw", "part", "(I)Ljava/lang/String;"⟩ : MethodName) method_3_code 3 (some (.object "java/lang/String")) ({ frames := 5, cells := 8, slots := 544, locals := 66 } : Room) #[.int w] L (RV fun u M => ∃ s r, u = .ref s ∧ M = (s, true, OB Z "java/lang/String" layS [.ref r, .int 0]) :: (r, true, AR Z .byte (((pt w).map b8).map .int)) :: L) := by
  have ha := nch_nc (m127 w)
  have hb := nch_nc (m127 (XT.ushr w 7))
  refine Ct.of (a0 := a0) (Ls := [.val (.int _), .unset, .unset]) (plainFor_of_name pn_10) (fun m => ef_i_3 m _) hE ?_
  refine Wk.iload_n (q := 1) d44_0 rfl rfl ?_
  refine Wk.bipush (q := 3) (127) d44_1 rfl (by decide) ?_
  refine Wk.iand (q := 4) d44_3 rfl ?_
  refine Wk.static (q := 7) [_] _ 0 d44_4 rfl (hw _ (List.mem_of_getElem? (i := 7) rfl)) (hw _ (List.mem_of_getElem? (i := 8) rfl)) (hw _ (List.mem_of_getElem? (i := 5) rfl)) (hw _ (List.mem_of_getElem? (i := 9) rfl)) ar_24 (by decide) rfl rfl rfl rfl (ct_nch hw hE F hO (m127 w)) (by first | decide | (dsimp only; omega) | omega) (by first | decide | (dsimp only; omega) | omega) (by first | decide | (dsimp only; omega) | omega) (by first | decide | (dsimp only; omega) | omega) (kv ?_)
  rintro _ _ ⟨rfl, rfl⟩
  refine Wk.istore_n (q := 8) d44_7 rfl (LS1.there (LS1.here (by first | exact One.u | exact One.val rfl | assumption))) ?_
  refine Wk.iload_n (q := 9) d44_8 rfl rfl ?_
  refine Wk.bipush (q := 11) (7) d44_9 rfl (by decide) ?_
  refine Wk.iushr (q := 12) d44_11 rfl ?_
  refine Wk.bipush (q := 14) (127) d44_12 rfl (by decide) ?_
  refine Wk.iand (q := 15) d44_14 rfl ?_
  refine Wk.static (q := 18) [_] _ 0 d44_15 rfl (hw _ (List.mem_of_getElem? (i := 7) rfl)) (hw _ (List.mem_of_getElem? (i := 8) rfl)) (hw _ (List.mem_of_getElem? (i := 5) rfl)) (hw _ (List.mem_of_getElem? (i := 9) rfl)) ar_24 (by decide) rfl rfl rfl rfl (ct_nch hw hE F hO (m127 (XT.ushr w 7))) (by first | decide | (dsimp only; omega) | omega) (by first | decide | (dsimp only; omega) | omega) (by first | decide | (dsimp only; omega) | omega) (by first | decide | (dsimp only; omega) | omega) (kv ?_)
  rintro _ _ ⟨rfl, rfl⟩
  refine Wk.istore_n (q := 19) d44_18 rfl (LS1.there (LS1.there (LS1.here (by first | exact One.u | exact One.val rfl | assumption)))) ?_
  refine Wk.iload_n (q := 20) d44_19 rfl rfl ?_
  refine Wk.bipush (q := 22) (14) d44_20 rfl (by decide) ?_
  refine Wk.iushr (q := 23) d44_22 rfl ?_
  refine Wk.iconst (q := 24) (1) d44_23 rfl (by decide) ?_
  refine Wk.iand (q := 25) d44_24 rfl ?_
  by_cases h : XT.ushr w 14 &&& 1 = 0
  · rw [pt, if_pos h]
    refine Wk.if_f (q := 28) d44_25 rfl (XT.i0_ne_f h) ?_
    refine Wk.iload_n (q := 29) d44_28 rfl rfl ?_
    refine Wk.static (q := 32) [_] _ 0 d44_29 rfl (hw _ (List.mem_of_getElem? (i := 43) rfl)) (hw _ (List.mem_of_getElem? (i := 44) rfl)) (hw _ (List.mem_of_getElem? (i := 11) rfl)) (hw _ (List.mem_of_getElem? (i := 45) rfl)) ar_31 (by decide) rfl rfl rfl rfl (ct_valC hw hE F ha.lat) (by first | decide | (dsimp only; omega) | omega) (by first | decide | (dsimp only; omega) | omega) (by first | decide | (dsimp only; omega) | omega) (by first | decide | (dsimp only; omega) | omega) (kv ?_)
    rintro _ _ ⟨s, r, rfl, rfl⟩
    refine Wk.areturn (t := (.object "java/lang/String")) d44_32 rfl rfl (by first | rfl | exact narO | exact narA) (by first | rfl | assumption) ?_
    exact ⟨_, rfl, s, r, rfl, rfl⟩
  · rw [pt, if_neg h]
    refine Wk.if_t (q := 33) d44_25 (by decide) (by decide) (XT.i0_ne_t h) ?_
    refine Wk.new (q := 36) d44_33 rfl (hw _ (List.mem_of_getElem? (i := 253) rfl)) (hw _ (List.mem_of_getElem? (i := 12) rfl)) (hw _ (List.mem_of_getElem? (i := 11) rfl)) (layS_ok hw) layS_dv (by first | decide | (dsimp only; omega) | omega) (by first | decide | (dsimp only; omega) | omega) ?_
    intro s
    refine Wk.dup (q := 37) d44_36 rfl rfl ?_
    refine Wk.iconst (q := 38) (2) d44_37 rfl (by decide) ?_
    refine Wk.newarray (q := 40) .char (2) [(.int 0), (.int 0)] d44_38 rfl rfl rfl (hw _ (List.mem_of_getElem? (i := 254) rfl)) (by decide) (by decide) (by decide) (by first | decide | (dsimp only; omega) | omega) (by first | decide | (dsimp only; omega) | omega) ?_
    intro ca
    refine Wk.dup (q := 41) d44_40 rfl rfl ?_
    refine Wk.iconst (q := 42) (0) d44_41 rfl (by decide) ?_
    refine Wk.iload_n (q := 43) d44_42 rfl rfl ?_
    refine Wk.castore (q := 44) (0) d44_43 rfl (by repeat (first | exact Ex.here | assumption | apply Ex.there)) (by decide) (by decide) (nchar_lat ha.lat) (VS.here) ?_
    refine Wk.dup (q := 45) d44_44 rfl rfl ?_
    refine Wk.iconst (q := 46) (1) d44_45 rfl (by decide) ?_
    refine Wk.iload_n (q := 47) d44_46 rfl rfl ?_
    refine Wk.castore (q := 48) (1) d44_47 rfl (by repeat (first | exact Ex.here | assumption | apply Ex.there)) (by decide) (by decide) (nchar_lat hb.lat) (VS.there (VS.here)) ?_
    refine Wk.pull (o := (s, true, OB Z "java/lang/String" layS [.null, .int 0])) (by repeat (first | exact Ex.here | assumption | apply Ex.there)) ?_
    refine Wk.special (q := 51) [_] _ 1 d44_48 rfl rfl (hw _ (List.mem_of_getElem? (i := 255) rfl)) (hw _ (List.mem_of_getElem? (i := 256) rfl)) (hw _ (List.mem_of_getElem? (i := 11) rfl)) (hw _ (List.mem_of_getElem? (i := 257) rfl)) ar_32 (by decide) rfl rfl rfl rfl (ct_strInit hw hE F (cs := [nch (w &&& 127), nch (XT.ushr w 7 &&& 127)]) (lat_cons ha.lat (lat_cons hb.lat lat_nil)) (by simp) 2 (by simp) (by simp) (by repeat (first | exact List.mem_cons_self | assumption | refine List.mem_cons_of_mem _ ?_))) (by first | decide | (dsimp only; omega) | omega) (by first | decide | (dsimp only; omega) | omega) (by first | decide | (dsimp only; omega) | omega) (by first | decide | (dsimp only; omega) | omega) (k0 ?_)
    rintro _ ⟨r, rfl⟩
    refine Wk.sub (.cons_cons _ (.cons_cons _ (.cons _ (.refl _)))) ?_
    refine Wk.areturn (t := (.object "java/lang/String")) d44_51 rfl rfl (by first | rfl | exact narO | exact narA) (by first | rfl | assumption) ?_
    exact ⟨_, rfl, s, r, rfl, rfl⟩
set_option maxHeartbeats 4000000 in
theorem ct_op {l : Launch} {Z : State} {a0 : Array Value} (hw : ∀ d ∈ tables_1, d.before a0 Z = true) (hE : EW Z a0 EL0) (F : ∃ z, z ≠ (0 : Int32) ∧ Sta Z Z.heap "java/lang/String" "COMPACT_STRINGS" "Z" (.int z)) {L : Store} {w : Int32} : Ct l Z EL0 (⟨"com/example/dekree/dekree/PermissionEqualsPinLaw", "op", "(I)Ljava/lang/String;"⟩ : MethodName) method_5_code 4 (some (.object "java/lang/String")) ({ frames := 4, cells := 4, slots := 16, locals := 66 } : Room) #[.int w] L (RV fun u M => ∃ s r fs fr, u = .ref s ∧ M = (s, fs, OB Z "java/lang/String" layS [.ref r, .int 0]) :: (r, fr, AR Z .byte (((opS w).map b8).map .int)) :: L) := by
  have ha := mask_lat w
  have hb := mask_lat (XT.ushr w 8)
  refine Ct.of (a0 := a0) (Ls := [.val (.int _), .unset, .unset, .unset]) (plainFor_of_name pn_10) (fun m => ef_i_4 m _) hE ?_
  refine Wk.iload_n (q := 1) d45_0 rfl rfl ?_
  refine Wk.bipush (q := 3) (16) d45_1 rfl (by decide) ?_
  refine Wk.iushr (q := 4) d45_3 rfl ?_
  refine Wk.iconst (q := 5) (3) d45_4 rfl (by decide) ?_
  refine Wk.iand (q := 6) d45_5 rfl ?_
  refine Wk.iconst (q := 7) (2) d45_6 rfl (by decide) ?_
  refine Wk.static (q := 10) [_, _] _ 0 d45_7 rfl (hw _ (List.mem_of_getElem? (i := 203) rfl)) (hw _ (List.mem_of_getElem? (i := 194) rfl)) (hw _ (List.mem_of_getElem? (i := 195) rfl)) (hw _ (List.mem_of_getElem? (i := 196) rfl)) ar_10 (by decide) rfl rfl rfl rfl (ct_mmin hw hE) (by first | decide | (dsimp only; omega) | omega) (by first | decide | (dsimp only; omega) | omega) (by first | decide | (dsimp only; omega) | omega) (by first | decide | (dsimp only; omega) | omega) (kv ?_)
  rintro _ _ ⟨rfl, rfl⟩
  rw [show (if (2 : Int32) < XT.ushr w 16 &&& 3 then (2 : Int32) else XT.ushr w 16 &&& 3) = opn w from rfl]
  refine Wk.istore_n (q := 11) d45_10 rfl (LS1.there (LS1.here (by first | exact One.u | exact One.val rfl | assumption))) ?_
  refine Wk.iload_n (q := 12) d45_11 rfl rfl ?_
  refine Wk.sipush (q := 15) (255) d45_12 rfl (by decide) ?_
  refine Wk.iand (q := 16) d45_15 rfl ?_
  refine Wk.i2c (q := 17) d45_16 rfl ?_
  rw [i2c_mask]
  refine Wk.istore_n (q := 18) d45_17 rfl (LS1.there (LS1.there (LS1.here (by first | exact One.u | exact One.val rfl | assumption)))) ?_
  refine Wk.iload_n (q := 19) d45_18 rfl rfl ?_
  refine Wk.bipush (q := 21) (8) d45_19 rfl (by decide) ?_
  refine Wk.iushr (q := 22) d45_21 rfl ?_
  refine Wk.sipush (q := 25) (255) d45_22 rfl (by decide) ?_
  refine Wk.iand (q := 26) d45_25 rfl ?_
  refine Wk.i2c (q := 27) d45_26 rfl ?_
  rw [i2c_mask]
  refine Wk.istore_n (q := 28) d45_27 rfl (LS1.there (LS1.there (LS1.there (LS1.here (by first | exact One.u | exact One.val rfl | assumption))))) ?_
  refine Wk.iload_n (q := 29) d45_28 rfl rfl ?_
  rcases opn_c w with h | h | h
  · rw [opS, if_pos h]
    refine Wk.if_f (q := 32) d45_29 rfl (XT.i0_ne_f h) ?_
    refine Wk.ldcS (q := 34) 0 [] 0 d45_32 rfl (hw _ (List.mem_of_getElem? (i := 204) rfl)) (wS hw) (by decide +kernel) (by decide +kernel) (by decide) (by decide) (by decide +kernel) (by decide) (by first | decide | (dsimp only; omega) | omega) (by first | decide | (dsimp only; omega) | omega) ?_
    intro s r
    refine Wk.areturn (t := (.object "java/lang/String")) d45_34 rfl rfl (by first | rfl | exact narO | exact narA) (by first | rfl | assumption) ?_
    exact ⟨_, rfl, s, r, false, false, rfl, rfl⟩
  · rw [opS, if_neg (by rw [h]; decide), if_pos h]
    refine Wk.if_t (q := 35) d45_29 (by decide) (by decide) (XT.i0_ne_t (by rw [h]; decide)) ?_
    refine Wk.iload_n (q := 36) d45_35 rfl rfl ?_
    refine Wk.iconst (q := 37) (1) d45_36 rfl (by decide) ?_
    refine Wk.icmp_f (q := 40) d45_37 rfl (XT.ii_ne_f h) ?_
    refine Wk.iload_n (q := 41) d45_40 rfl rfl ?_
    refine Wk.static (q := 44) [_] _ 0 d45_41 rfl (hw _ (List.mem_of_getElem? (i := 43) rfl)) (hw _ (List.mem_of_getElem? (i := 44) rfl)) (hw _ (List.mem_of_getElem? (i := 11) rfl)) (hw _ (List.mem_of_getElem? (i := 45) rfl)) ar_31 (by decide) rfl rfl rfl rfl (ct_valC hw hE F ha) (by first | decide | (dsimp only; omega) | omega) (by first | decide | (dsimp only; omega) | omega) (by first | decide | (dsimp only; omega) | omega) (by first | decide | (dsimp only; omega) | omega) (kv ?_)
    rintro _ _ ⟨s, r, rfl, rfl⟩
    refine Wk.areturn (t := (.object "java/lang/String")) d45_44 rfl rfl (by first | rfl | exact narO | exact narA) (by first | rfl | assumption) ?_
    exact ⟨_, rfl, s, r, true, true, rfl, rfl⟩
  · rw [opS, if_neg (by rw [h]; decide), if_neg (by rw [h]; decide)]
    refine Wk.if_t (q := 35) d45_29 (by decide) (by decide) (XT.i0_ne_t (by rw [h]; decide)) ?_
    refine Wk.iload_n (q := 36) d45_35 rfl rfl ?_
    refine Wk.iconst (q := 37) (1) d45_36 rfl (by decide) ?_
    refine Wk.icmp_t (q := 45) d45_37 (by decide) (by decide) (XT.ii_ne_t (by rw [h]; decide)) ?_
    refine Wk.new (q := 48) d45_45 rfl (hw _ (List.mem_of_getElem? (i := 253) rfl)) (hw _ (List.mem_of_getElem? (i := 12) rfl)) (hw _ (List.mem_of_getElem? (i := 11) rfl)) (layS_ok hw) layS_dv (by first | decide | (dsimp only; omega) | omega) (by first | decide | (dsimp only; omega) | omega) ?_
    intro s
    refine Wk.dup (q := 49) d45_48 rfl rfl ?_
    refine Wk.iconst (q := 50) (2) d45_49 rfl (by decide) ?_
    refine Wk.newarray (q := 52) .char (2) [(.int 0), (.int 0)] d45_50 rfl rfl rfl (hw _ (List.mem_of_getElem? (i := 254) rfl)) (by decide) (by decide) (by decide) (by first | decide | (dsimp only; omega) | omega) (by first | decide | (dsimp only; omega) | omega) ?_
    intro ca
    refine Wk.dup (q := 53) d45_52 rfl rfl ?_
    refine Wk.iconst (q := 54) (0) d45_53 rfl (by decide) ?_
    refine Wk.iload_n (q := 55) d45_54 rfl rfl ?_
    refine Wk.castore (q := 56) (0) d45_55 rfl (by repeat (first | exact Ex.here | assumption | apply Ex.there)) (by decide) (by decide) (nchar_lat ha) (VS.here) ?_
    refine Wk.dup (q := 57) d45_56 rfl rfl ?_
    refine Wk.iconst (q := 58) (1) d45_57 rfl (by decide) ?_
    refine Wk.iload_n (q := 59) d45_58 rfl rfl ?_
    refine Wk.castore (q := 60) (1) d45_59 rfl (by repeat (first | exact Ex.here | assumption | apply Ex.there)) (by decide) (by decide) (nchar_lat hb) (VS.there (VS.here)) ?_
    refine Wk.pull (o := (s, true, OB Z "java/lang/String" layS [.null, .int 0])) (by repeat (first | exact Ex.here | assumption | apply Ex.there)) ?_
    refine Wk.special (q := 63) [_] _ 1 d45_60 rfl rfl (hw _ (List.mem_of_getElem? (i := 255) rfl)) (hw _ (List.mem_of_getElem? (i := 256) rfl)) (hw _ (List.mem_of_getElem? (i := 11) rfl)) (hw _ (List.mem_of_getElem? (i := 257) rfl)) ar_32 (by decide) rfl rfl rfl rfl (ct_strInit hw hE F (cs := [w &&& 255, XT.ushr w 8 &&& 255]) (lat_cons ha (lat_cons hb lat_nil)) (by simp) 2 (by simp) (by simp) (by repeat (first | exact List.mem_cons_self | assumption | refine List.mem_cons_of_mem _ ?_))) (by first | decide | (dsimp only; omega) | omega) (by first | decide | (dsimp only; omega) | omega) (by first | decide | (dsimp only; omega) | omega) (by first | decide | (dsimp only; omega) | omega) (k0 ?_)
    rintro _ ⟨r, rfl⟩
    refine Wk.sub (.cons_cons _ (.cons_cons _ (.cons _ (.refl _)))) ?_
    refine Wk.areturn (t := (.object "java/lang/String")) d45_63 rfl rfl (by first | rfl | exact narO | exact narA) (by first | rfl | assumption) ?_
    exact ⟨_, rfl, s, r, true, true, rfl, rfl⟩
set_option maxHeartbeats 4000000 in
theorem ct_opEq {l : Launch} {Z : State} {a0 : Array Value} (hw : ∀ d ∈ tables_1, d.before a0 Z = true) (hE : EW Z a0 EL0) {L : Store} {w v : Int32} : Ct l Z EL0 (⟨"com/example/dekree/dekree/PermissionEqualsPinLaw", "opEq", "(II)Z"⟩ : MethodName) method_6_code 4 (some .boolean) ({ frames := 1, cells := 0, slots := 0, locals := 13 } : Room) #[.int w, .int v] L (RV fun u M => u = .int (if opS w = opS v then 1 else 0) ∧ M = L) := by
  refine Ct.of (a0 := a0) (Ls := [.val (.int _), .val (.int _), .unset, .unset]) (plainFor_of_name pn_10) (fun m => ef_ii_4 m _ _) hE ?_
  refine Wk.iload_n (q := 1) d46_0 rfl rfl ?_
  refine Wk.bipush (q := 3) (16) d46_1 rfl (by decide) ?_
  refine Wk.iushr (q := 4) d46_3 rfl ?_
  refine Wk.iconst (q := 5) (3) d46_4 rfl (by decide) ?_
  refine Wk.iand (q := 6) d46_5 rfl ?_
  refine Wk.iconst (q := 7) (2) d46_6 rfl (by decide) ?_
  refine Wk.static (q := 10) [_, _] _ 0 d46_7 rfl (hw _ (List.mem_of_getElem? (i := 203) rfl)) (hw _ (List.mem_of_getElem? (i := 194) rfl)) (hw _ (List.mem_of_getElem? (i := 195) rfl)) (hw _ (List.mem_of_getElem? (i := 196) rfl)) ar_10 (by decide) rfl rfl rfl rfl (ct_mmin hw hE) (by first | decide | (dsimp only; omega) | omega) (by first | decide | (dsimp only; omega) | omega) (by first | decide | (dsimp only; omega) | omega) (by first | decide | (dsimp only; omega) | omega) (kv ?_)
  rintro _ _ ⟨rfl, rfl⟩
  rw [show (if (2 : Int32) < XT.ushr w 16 &&& 3 then (2 : Int32) else XT.ushr w 16 &&& 3) = opn w from rfl]
  refine Wk.istore_n (q := 11) d46_10 rfl (LS1.there (LS1.there (LS1.here (by first | exact One.u | exact One.val rfl | assumption)))) ?_
  refine Wk.iload_n (q := 12) d46_11 rfl rfl ?_
  refine Wk.bipush (q := 14) (16) d46_12 rfl (by decide) ?_
  refine Wk.iushr (q := 15) d46_14 rfl ?_
  refine Wk.iconst (q := 16) (3) d46_15 rfl (by decide) ?_
  refine Wk.iand (q := 17) d46_16 rfl ?_
  refine Wk.iconst (q := 18) (2) d46_17 rfl (by decide) ?_
  refine Wk.static (q := 21) [_, _] _ 0 d46_18 rfl (hw _ (List.mem_of_getElem? (i := 203) rfl)) (hw _ (List.mem_of_getElem? (i := 194) rfl)) (hw _ (List.mem_of_getElem? (i := 195) rfl)) (hw _ (List.mem_of_getElem? (i := 196) rfl)) ar_10 (by decide) rfl rfl rfl rfl (ct_mmin hw hE) (by first | decide | (dsimp only; omega) | omega) (by first | decide | (dsimp only; omega) | omega) (by first | decide | (dsimp only; omega) | omega) (by first | decide | (dsimp only; omega) | omega) (kv ?_)
  rintro _ _ ⟨rfl, rfl⟩
  rw [show (if (2 : Int32) < XT.ushr v 16 &&& 3 then (2 : Int32) else XT.ushr v 16 &&& 3) = opn v from rfl]
  refine Wk.istore_n (q := 22) d46_21 rfl (LS1.there (LS1.there (LS1.there (LS1.here (by first | exact One.u | exact One.val rfl | assumption))))) ?_
  refine Wk.iload_n (q := 23) d46_22 rfl rfl ?_
  refine Wk.iload_n (q := 24) d46_23 rfl rfl ?_
  by_cases e : ¬ opn w = opn v
  · refine Wk.icmp_f (q := 27) d46_24 rfl (XT.ii_eq_f e) ?_
    refine Wk.iconst (q := 28) (0) d46_27 rfl (by decide) ?_
    refine Wk.ireturn (t := .boolean) d46_28 rfl (by simp) (by rfl) ?_
    refine ⟨_, rfl, ?_, rfl⟩
    rw [if_neg]
    unfold opS
    rcases opn_c w with h | h | h <;> rcases opn_c v with h' | h' | h' <;> first | exact absurd (h.trans h'.symm) e | simp [h, h']
  · have e' : opn w = opn v := Classical.not_not.mp e
    refine Wk.icmp_t (q := 29) d46_24 (by decide) (by decide) (XT.ii_eq_t e') ?_
    refine Wk.iload_n (q := 30) d46_29 rfl rfl ?_
    refine Wk.iconst (q := 31) (1) d46_30 rfl (by decide) ?_
    rcases opn_c w with h | h | h
    · have h' := e'.symm.trans h
      refine Wk.icmp_t (q := 49) d46_31 (by decide) (by decide) (XT.ii_lt_t (by rw [h]; decide)) ?_
      refine Wk.iload_n (q := 50) d46_49 rfl rfl ?_
      refine Wk.iconst (q := 51) (2) d46_50 rfl (by decide) ?_
      refine Wk.icmp_t (q := 75) d46_51 (by decide) (by decide) (XT.ii_ne_t (by rw [h]; decide)) ?_
      refine Wk.iconst (q := 76) (1) d46_75 rfl (by decide) ?_
      refine Wk.ireturn (t := .boolean) d46_76 rfl (by simp) (by rfl) ?_
      exact ⟨_, rfl, by rw [if_pos]; simp [opS, h, h'], rfl⟩
    · have h' := e'.symm.trans h
      have ew : opS w = [w &&& 255] := by simp [opS, h]
      have ev : opS v = [v &&& 255] := by simp [opS, h']
      refine Wk.icmp_f (q := 34) d46_31 rfl (XT.ii_lt_f (by rw [h]; decide)) ?_
      refine Wk.iload_n (q := 35) d46_34 rfl rfl ?_
      refine Wk.sipush (q := 38) (255) d46_35 rfl (by decide) ?_
      refine Wk.iand (q := 39) d46_38 rfl ?_
      refine Wk.iload_n (q := 40) d46_39 rfl rfl ?_
      refine Wk.sipush (q := 43) (255) d46_40 rfl (by decide) ?_
      refine Wk.iand (q := 44) d46_43 rfl ?_
      by_cases q : ¬ w &&& 255 = v &&& 255
      · refine Wk.icmp_f (q := 47) d46_44 rfl (XT.ii_eq_f q) ?_
        refine Wk.iconst (q := 48) (0) d46_47 rfl (by decide) ?_
        refine Wk.ireturn (t := .boolean) d46_48 rfl (by simp) (by rfl) ?_
        exact ⟨_, rfl, by rw [ew, ev, if_neg]; simpa using q, rfl⟩
      · have q' := Classical.not_not.mp q
        refine Wk.icmp_t (q := 49) d46_44 (by decide) (by decide) (XT.ii_eq_t q') ?_
        refine Wk.iload_n (q := 50) d46_49 rfl rfl ?_
        refine Wk.iconst (q := 51) (2) d46_50 rfl (by decide) ?_
        refine Wk.icmp_t (q := 75) d46_51 (by decide) (by decide) (XT.ii_ne_t (by rw [h]; decide)) ?_
        refine Wk.iconst (q := 76) (1) d46_75 rfl (by decide) ?_
        refine Wk.ireturn (t := .boolean) d46_76 rfl (by simp) (by rfl) ?_
        exact ⟨_, rfl, by rw [ew, ev, if_pos (by rw [q'])], rfl⟩
    · have h' := e'.symm.trans h
      have ew : opS w = [w &&& 255, XT.ushr w 8 &&& 255] := by simp [opS, h]
      have ev : opS v = [v &&& 255, XT.ushr v 8 &&& 255] := by simp [opS, h']
      refine Wk.icmp_f (q := 34) d46_31 rfl (XT.ii_lt_f (by rw [h]; decide)) ?_
      refine Wk.iload_n (q := 35) d46_34 rfl rfl ?_
      refine Wk.sipush (q := 38) (255) d46_35 rfl (by decide) ?_
      refine Wk.iand (q := 39) d46_38 rfl ?_
      refine Wk.iload_n (q := 40) d46_39 rfl rfl ?_
      refine Wk.sipush (q := 43) (255) d46_40 rfl (by decide) ?_
      refine Wk.iand (q := 44) d46_43 rfl ?_
      by_cases q : ¬ w &&& 255 = v &&& 255
      · refine Wk.icmp_f (q := 47) d46_44 rfl (XT.ii_eq_f q) ?_
        refine Wk.iconst (q := 48) (0) d46_47 rfl (by decide) ?_
        refine Wk.ireturn (t := .boolean) d46_48 rfl (by simp) (by rfl) ?_
        exact ⟨_, rfl, by rw [ew, ev, if_neg]; intro q1; injection q1 with q2 q3; exact q q2, rfl⟩
      · have q' := Classical.not_not.mp q
        refine Wk.icmp_t (q := 49) d46_44 (by decide) (by decide) (XT.ii_eq_t q') ?_
        refine Wk.iload_n (q := 50) d46_49 rfl rfl ?_
        refine Wk.iconst (q := 51) (2) d46_50 rfl (by decide) ?_
        refine Wk.icmp_f (q := 54) d46_51 rfl (XT.ii_ne_f h) ?_
        refine Wk.iload_n (q := 55) d46_54 rfl rfl ?_
        refine Wk.bipush (q := 57) (8) d46_55 rfl (by decide) ?_
        refine Wk.iushr (q := 58) d46_57 rfl ?_
        refine Wk.sipush (q := 61) (255) d46_58 rfl (by decide) ?_
        refine Wk.iand (q := 62) d46_61 rfl ?_
        refine Wk.iload_n (q := 63) d46_62 rfl rfl ?_
        refine Wk.bipush (q := 65) (8) d46_63 rfl (by decide) ?_
        refine Wk.iushr (q := 66) d46_65 rfl ?_
        refine Wk.sipush (q := 69) (255) d46_66 rfl (by decide) ?_
        refine Wk.iand (q := 70) d46_69 rfl ?_
        by_cases p : ¬ XT.ushr w 8 &&& 255 = XT.ushr v 8 &&& 255
        · refine Wk.icmp_f (q := 73) d46_70 rfl (XT.ii_eq_f p) ?_
          refine Wk.iconst (q := 74) (0) d46_73 rfl (by decide) ?_
          refine Wk.ireturn (t := .boolean) d46_74 rfl (by simp) (by rfl) ?_
          exact ⟨_, rfl, by rw [ew, ev, if_neg]; intro q1; injection q1 with q2 q3; injection q3 with q4 q5; exact p q4, rfl⟩
        · have p' := Classical.not_not.mp p
          refine Wk.icmp_t (q := 75) d46_70 (by decide) (by decide) (XT.ii_eq_t p') ?_
          refine Wk.iconst (q := 76) (1) d46_75 rfl (by decide) ?_
          refine Wk.ireturn (t := .boolean) d46_76 rfl (by simp) (by rfl) ?_
          exact ⟨_, rfl, by rw [ew, ev, if_pos (by rw [q', p'])], rfl⟩
set_option maxHeartbeats 4000000 in
theorem ct_partEq {l : Launch} {Z : State} {a0 : Array Value} (hw : ∀ d ∈ tables_1, d.before a0 Z = true) (hE : EW Z a0 EL0) {L : Store} {w v : Int32} : Ct l Z EL0 (⟨"com/example/dekree/dekree/PermissionEqualsPinLaw", "partEq", "(II)Z"⟩ : MethodName) method_4_code 4 (some .boolean) ({ frames := 0, cells := 0, slots := 0, locals := 0 } : Room) #[.int w, .int v] L (RV fun u M => u = .int (if pt w = pt v then 1 else 0) ∧ M = L) := by
  have i1 := nch_inj (m127 w) (m127 v)
  have i2 := nch_inj (m127 (XT.ushr w 7)) (m127 (XT.ushr v 7))
  refine Ct.of (a0 := a0) (Ls := [.val (.int _), .val (.int _), .unset, .unset]) (plainFor_of_name pn_10) (fun m => ef_ii_4 m _ _) hE ?_
  refine Wk.iload_n (q := 1) d47_0 rfl rfl ?_
  refine Wk.bipush (q := 3) (14) d47_1 rfl (by decide) ?_
  refine Wk.iushr (q := 4) d47_3 rfl ?_
  refine Wk.iconst (q := 5) (1) d47_4 rfl (by decide) ?_
  refine Wk.iand (q := 6) d47_5 rfl ?_
  refine Wk.istore_n (q := 7) d47_6 rfl (LS1.there (LS1.there (LS1.here (by first | exact One.u | exact One.val rfl | assumption)))) ?_
  refine Wk.iload_n (q := 8) d47_7 rfl rfl ?_
  refine Wk.bipush (q := 10) (14) d47_8 rfl (by decide) ?_
  refine Wk.iushr (q := 11) d47_10 rfl ?_
  refine Wk.iconst (q := 12) (1) d47_11 rfl (by decide) ?_
  refine Wk.iand (q := 13) d47_12 rfl ?_
  refine Wk.istore_n (q := 14) d47_13 rfl (LS1.there (LS1.there (LS1.there (LS1.here (by first | exact One.u | exact One.val rfl | assumption))))) ?_
  refine Wk.iload_n (q := 15) d47_14 rfl rfl ?_
  refine Wk.iload_n (q := 16) d47_15 rfl rfl ?_
  by_cases e : ¬ XT.ushr w 14 &&& 1 = XT.ushr v 14 &&& 1
  · refine Wk.icmp_f (q := 19) d47_16 rfl (XT.ii_eq_f e) ?_
    refine Wk.iconst (q := 20) (0) d47_19 rfl (by decide) ?_
    refine Wk.ireturn (t := .boolean) d47_20 rfl (by simp) (by rfl) ?_
    refine ⟨_, rfl, ?_, rfl⟩
    rw [if_neg]
    unfold pt
    rcases bit01 (XT.ushr w 14) with h | h <;> rcases bit01 (XT.ushr v 14) with h' | h' <;> first | exact absurd (h.trans h'.symm) e | simp [h, h']
  · have e' := Classical.not_not.mp e
    refine Wk.icmp_t (q := 21) d47_16 (by decide) (by decide) (XT.ii_eq_t e') ?_
    refine Wk.iload_n (q := 22) d47_21 rfl rfl ?_
    refine Wk.bipush (q := 24) (127) d47_22 rfl (by decide) ?_
    refine Wk.iand (q := 25) d47_24 rfl ?_
    refine Wk.bipush (q := 27) (65) d47_25 rfl (by decide) ?_
    refine Wk.irem (q := 28) d47_27 rfl (by decide) ?_
    refine Wk.iload_n (q := 29) d47_28 rfl rfl ?_
    refine Wk.bipush (q := 31) (127) d47_29 rfl (by decide) ?_
    refine Wk.iand (q := 32) d47_31 rfl ?_
    refine Wk.bipush (q := 34) (65) d47_32 rfl (by decide) ?_
    refine Wk.irem (q := 35) d47_34 rfl (by decide) ?_
    by_cases q : ¬ (w &&& 127) % 65 = (v &&& 127) % 65
    · refine Wk.icmp_f (q := 38) d47_35 rfl (XT.ii_eq_f q) ?_
      refine Wk.iconst (q := 39) (0) d47_38 rfl (by decide) ?_
      refine Wk.ireturn (t := .boolean) d47_39 rfl (by simp) (by rfl) ?_
      refine ⟨_, rfl, ?_, rfl⟩
      rw [if_neg]
      unfold pt
      rw [e']
      split
      · intro q1; injection q1 with q2 q3; exact q (i1.mp q2)
      · intro q1; injection q1 with q2 q3; exact q (i1.mp q2)
    · have q' := Classical.not_not.mp q
      refine Wk.icmp_t (q := 40) d47_35 (by decide) (by decide) (XT.ii_eq_t q') ?_
      refine Wk.iload_n (q := 41) d47_40 rfl rfl ?_
      by_cases h : ¬ XT.ushr w 14 &&& 1 = 0
      · refine Wk.if_t (q := 46) d47_41 (by decide) (by decide) (XT.i0_ne_t h) ?_
        have hv : ¬ XT.ushr v 14 &&& 1 = 0 := by rw [← e']; exact h
        have ew : pt w = [nch (w &&& 127), nch (XT.ushr w 7 &&& 127)] := by rw [pt, if_neg h]
        have ev : pt v = [nch (v &&& 127), nch (XT.ushr v 7 &&& 127)] := by rw [pt, if_neg hv]
        refine Wk.iload_n (q := 47) d47_46 rfl rfl ?_
        refine Wk.bipush (q := 49) (7) d47_47 rfl (by decide) ?_
        refine Wk.iushr (q := 50) d47_49 rfl ?_
        refine Wk.bipush (q := 52) (127) d47_50 rfl (by decide) ?_
        refine Wk.iand (q := 53) d47_52 rfl ?_
        refine Wk.bipush (q := 55) (65) d47_53 rfl (by decide) ?_
        refine Wk.irem (q := 56) d47_55 rfl (by decide) ?_
        refine Wk.iload_n (q := 57) d47_56 rfl rfl ?_
        refine Wk.bipush (q := 59) (7) d47_57 rfl (by decide) ?_
        refine Wk.iushr (q := 60) d47_59 rfl ?_
        refine Wk.bipush (q := 62) (127) d47_60 rfl (by decide) ?_
        refine Wk.iand (q := 63) d47_62 rfl ?_
        refine Wk.bipush (q := 65) (65) d47_63 rfl (by decide) ?_
        refine Wk.irem (q := 66) d47_65 rfl (by decide) ?_
        by_cases p : (XT.ushr w 7 &&& 127) % 65 = (XT.ushr v 7 &&& 127) % 65
        · refine Wk.icmp_f (q := 69) d47_66 rfl (XT.ii_ne_f p) ?_
          refine Wk.iconst (q := 70) (1) d47_69 rfl (by decide) ?_
          refine Wk.goto (q := 74) d47_70 (by decide) (by decide) ?_
          refine Wk.ireturn (t := .boolean) d47_74 rfl (by simp) (by rfl) ?_
          exact ⟨_, rfl, by rw [ew, ev, if_pos (by rw [i1.mpr q', i2.mpr p])], rfl⟩
        · refine Wk.icmp_t (q := 73) d47_66 (by decide) (by decide) (XT.ii_ne_t p) ?_
          refine Wk.iconst (q := 74) (0) d47_73 rfl (by decide) ?_
          refine Wk.ireturn (t := .boolean) d47_74 rfl (by simp) (by rfl) ?_
          exact ⟨_, rfl, by rw [ew, ev, if_neg]; intro q1; injection q1 with q2 q3; injection q3 with q4 q5; exact p (i2.mp q4), rfl⟩
      · have h' := Classical.not_not.mp h
        refine Wk.if_f (q := 44) d47_41 rfl (XT.i0_ne_f h') ?_
        have hv : XT.ushr v 14 &&& 1 = 0 := by rw [← e']; exact h'
        refine Wk.iconst (q := 45) (1) d47_44 rfl (by decide) ?_
        refine Wk.ireturn (t := .boolean) d47_45 rfl (by simp) (by rfl) ?_
        exact ⟨_, rfl, by rw [pt, if_pos h', pt, if_pos hv, if_pos (by rw [i1.mpr q'])], rfl⟩
def layP : Jvm.OwnW.Lay := [("com/example/dekree/dekree/Permission", "operation", "Ljava/lang/String;"), ("com/example/dekree/dekree/Permission", "object", "Lcom/example/dekree/dekree/QualifiedName;")]
theorem layP_ok {Z : State} {a0 : Array Value} (hw : ∀ d ∈ tables_1, d.before a0 Z = true) : LayOk Z a0 "com/example/dekree/dekree/Permission" layP := by
  refine ⟨fun f hf => ?_, by decide +kernel, fun f hf => ?_⟩
  all_goals simp only [layP, List.mem_cons, List.not_mem_nil, or_false] at hf
  all_goals rcases hf with rfl | rfl
  · exact Or.inr (hw _ (List.mem_of_getElem? (i := 216) rfl))
  · exact Or.inr (hw _ (List.mem_of_getElem? (i := 221) rfl))
  · exact ⟨(.object "java/lang/String"), by decide +kernel⟩
  · exact ⟨(.object "com/example/dekree/dekree/QualifiedName"), by decide +kernel⟩
theorem layP_dv : Dv layP [.null, .null] := by decide +kernel
abbrev nP : String := "com/example/dekree/dekree/Permission"
theorem ct_pInit {l : Launch} {Z : State} {a0 : Array Value} (hw : ∀ d ∈ tables_1, d.before a0 Z = true) (hE : EW Z a0 EL0) {L : Store} {p o q : Addr} {fo fq : Bool} {lo lq : List Value} (ho : (o, fo, OB Z "java/lang/String" layS lo) ∈ L) (hq : (q, fq, OB Z nQ layQ lq) ∈ L) :
    Ct l Z EL0 (⟨"com/example/dekree/dekree/Permission", "<init>", "(Ljava/lang/String;Lcom/example/dekree/dekree/QualifiedName;)V"⟩ : MethodName) prog_4_method_1_code 3 none ({ frames := 1, cells := 4, slots := 68, locals := 14 } : Room) #[.ref p, .ref o, .ref q] ((p, true, OB Z nP layP [.null, .null]) :: L) (R0 fun M => M = (p, true, OB Z nP layP [.ref o, .ref q]) :: L) := by
  refine Ct.of (a0 := a0) (Ls := [.val (.ref _), .val (.ref _), .val (.ref _)]) (plainFor_of_name pn_11) (fun m => ef_rrr_3 m _ _ _) hE ?_
  refine Wk.aload_n (q := 1) d48_0 rfl rfl (by first | rfl | assumption) ?_
  refine Wk.objinit (q := 4) 0 d48_1 rfl (hw _ (List.mem_of_getElem? (i := 211) rfl)) (hw _ (List.mem_of_getElem? (i := 58) rfl)) (hw _ (List.mem_of_getElem? (i := 59) rfl)) rfl (by first | decide | (dsimp only; omega) | omega) rfl (by first | decide | (dsimp only; omega) | omega) ?_
  refine Wk.aload_n (q := 5) d48_4 rfl rfl (by first | rfl | assumption) ?_
  refine Wk.aload_n (q := 6) d48_5 rfl rfl (by first | rfl | assumption) ?_
  refine Wk.ldcO (q := 8) 36 d48_6 rfl (hw _ (List.mem_of_getElem? (i := 212) rfl)) (wS hw) (by decide +kernel) (by decide) (by first | decide | (dsimp only; omega) | omega) (by first | decide | (dsimp only; omega) | omega) ?_
  intro t1
  refine Wk.static (q := 11) [_, _] _ 1 d48_8 rfl (hw _ (List.mem_of_getElem? (i := 213) rfl)) (hw _ (List.mem_of_getElem? (i := 66) rfl)) (hw _ (List.mem_of_getElem? (i := 67) rfl)) (hw _ (List.mem_of_getElem? (i := 68) rfl)) ar_25 (by decide) rfl rfl rfl rfl (ct_rnn2 hw hE) (by first | decide | (dsimp only; omega) | omega) (by first | decide | (dsimp only; omega) | omega) (by first | decide | (dsimp only; omega) | omega) (by first | decide | (dsimp only; omega) | omega) (kv ?_)
  rintro _ _ ⟨rfl, rfl⟩
  refine Wk.checkcast (q := 14) (C := "java/lang/String") d48_11 rfl (hw _ (List.mem_of_getElem? (i := 214) rfl)) (by repeat (first | exact List.mem_cons_self | assumption | refine List.mem_cons_of_mem _ ?_)) (hw _ (List.mem_of_getElem? (i := 55) rfl)) ?_
  refine Wk.putfield (q := 17) (C := "com/example/dekree/dekree/Permission") (lay := layP) 0 d48_14 rfl (hw _ (List.mem_of_getElem? (i := 215) rfl)) Via.refl (layP_ok hw) (hw _ (List.mem_of_getElem? (i := 206) rfl)) (Or.inr ⟨(hw _ (List.mem_of_getElem? (i := 216) rfl)), rfl, rfl⟩) rfl (by decide +kernel : parseFieldDescriptor "Ljava/lang/String;" = some (.object "java/lang/String")) (by repeat (first | exact Ex.here | assumption | apply Ex.there)) (VS.here) (by first | rfl | exact narO) (by first | rfl | exact fitO (by assumption) | exact fitA (by assumption)) ?_
  refine Wk.aload_n (q := 18) d48_17 rfl rfl (by first | rfl | assumption) ?_
  refine Wk.aload_n (q := 19) d48_18 rfl rfl (by first | rfl | assumption) ?_
  refine Wk.ldcO (q := 21) 24 d48_19 rfl (hw _ (List.mem_of_getElem? (i := 217) rfl)) (wS hw) (by decide +kernel) (by decide) (by first | decide | (dsimp only; omega) | omega) (by first | decide | (dsimp only; omega) | omega) ?_
  intro t2
  refine Wk.static (q := 24) [_, _] _ 1 d48_21 rfl (hw _ (List.mem_of_getElem? (i := 213) rfl)) (hw _ (List.mem_of_getElem? (i := 66) rfl)) (hw _ (List.mem_of_getElem? (i := 67) rfl)) (hw _ (List.mem_of_getElem? (i := 68) rfl)) ar_25 (by decide) rfl rfl rfl rfl (ct_rnn2 hw hE) (by first | decide | (dsimp only; omega) | omega) (by first | decide | (dsimp only; omega) | omega) (by first | decide | (dsimp only; omega) | omega) (by first | decide | (dsimp only; omega) | omega) (kv ?_)
  rintro _ _ ⟨rfl, rfl⟩
  refine Wk.checkcast (q := 27) (C := "com/example/dekree/dekree/QualifiedName") d48_24 rfl (hw _ (List.mem_of_getElem? (i := 218) rfl)) (by repeat (first | exact List.mem_cons_self | assumption | refine List.mem_cons_of_mem _ ?_)) (hw _ (List.mem_of_getElem? (i := 219) rfl)) ?_
  refine Wk.putfield (q := 30) (C := "com/example/dekree/dekree/Permission") (lay := layP) 1 d48_27 rfl (hw _ (List.mem_of_getElem? (i := 220) rfl)) Via.refl (layP_ok hw) (hw _ (List.mem_of_getElem? (i := 206) rfl)) (Or.inr ⟨(hw _ (List.mem_of_getElem? (i := 221) rfl)), rfl, rfl⟩) rfl (by decide +kernel : parseFieldDescriptor "Lcom/example/dekree/dekree/QualifiedName;" = some (.object "com/example/dekree/dekree/QualifiedName")) (by repeat (first | exact Ex.here | assumption | apply Ex.there)) (VS.there (VS.here)) (by first | rfl | exact narO) (by first | rfl | exact fitO (by assumption) | exact fitA (by assumption)) ?_
  refine Wk.return_ d48_30 rfl ?_
  exact ⟨rfl, rfl⟩
set_option maxHeartbeats 4000000 in
theorem ct_pEq {l : Launch} {Z : State} {a0 : Array Value} (hw : ∀ d ∈ tables_1, d.before a0 Z = true) (hE : EW Z a0 EL0) (F : ∃ z, z ≠ (0 : Int32) ∧ Sta Z Z.heap "java/lang/String" "COMPACT_STRINGS" "Z" (.int z)) {L : Store} {p p' o o' r r' a b d1 n1 w1 b1 d2 n2 w2 b2 : Addr} {fp fp' fo fo' fr fr' fa fb g1 g2 k1 k2 : Bool} {us vs xs ys : List Int32} (hu : us.length < 2 ^ 31) (hv : vs.length < 2 ^ 31) (hl : xs.length < 2 ^ 31) (hl' : ys.length < 2 ^ 31) (hp : (p, fp, OB Z nP layP [.ref o, .ref a]) ∈ L) (hp' : (p', fp', OB Z nP layP [.ref o', .ref b]) ∈ L) (ho : (o, fo, OB Z "java/lang/String" layS [.ref r, .int 0]) ∈ L) (ho' : (o', fo', OB Z "java/lang/String" layS [.ref r', .int 0]) ∈ L) (hr : (r, fr, AR Z .byte (us.map .int)) ∈ L) (hr' : (r', fr', AR Z .byte (vs.map .int)) ∈ L)
    (ha : (a, fa, OB Z nQ layQ [.ref d1, .ref n1, .ref w1]) ∈ L) (hb : (b, fb, OB Z nQ layQ [.ref d2, .ref n2, .ref w2]) ∈ L) (h1 : (w1, g1, OB Z "java/lang/String" layS [.ref b1, .int 0]) ∈ L) (h2 : (w2, g2, OB Z "java/lang/String" layS [.ref b2, .int 0]) ∈ L) (h3 : (b1, k1, AR Z .byte (xs.map .int)) ∈ L) (h4 : (b2, k2, AR Z .byte (ys.map .int)) ∈ L) :
    Ct l Z EL0 (⟨"com/example/dekree/dekree/Permission", "equals", "(Ljava/lang/Object;)Z"⟩ : MethodName) prog_4_method_4_code 3 (some .boolean) ({ frames := 3, cells := 0, slots := 0, locals := 42 } : Room) #[.ref p, .ref p'] L (RV fun u M => u = .int (if us = vs ∧ xs = ys then 1 else 0) ∧ M = L) := by
  refine Ct.of (a0 := a0) (Ls := [.val (.ref _), .val (.ref _), .unset]) (plainFor_of_name pn_11) (fun m => ef_rr_3 m _ _) hE ?_
  refine Wk.aload_n (q := 1) d49_0 rfl rfl (by first | rfl | assumption) ?_
  refine Wk.instanceof_t (q := 4) (C := "com/example/dekree/dekree/Permission") d49_1 rfl (hw _ (List.mem_of_getElem? (i := 233) rfl)) hp' (hw _ (List.mem_of_getElem? (i := 234) rfl)) ?_
  refine Wk.if_f (q := 7) d49_4 rfl (by decide) ?_
  refine Wk.aload_n (q := 8) d49_7 rfl rfl (by first | rfl | assumption) ?_
  refine Wk.checkcast (q := 11) (C := "com/example/dekree/dekree/Permission") d49_8 rfl (hw _ (List.mem_of_getElem? (i := 233) rfl)) hp' (hw _ (List.mem_of_getElem? (i := 234) rfl)) ?_
  refine Wk.astore_n (q := 12) d49_11 rfl (by first | rfl | assumption) (LS1.there (LS1.there (LS1.here (by first | exact One.u | exact One.val rfl | assumption)))) ?_
  refine Wk.goto (q := 17) d49_12 (by decide) (by decide) ?_
  refine Wk.aload_n (q := 18) d49_17 rfl rfl (by first | rfl | assumption) ?_
  refine Wk.getfield (q := 21) (C := "com/example/dekree/dekree/Permission") (lay := layP) 0 d49_18 rfl (hw _ (List.mem_of_getElem? (i := 215) rfl)) Via.refl hp rfl (by rfl) ?_
  refine Wk.aload_n (q := 22) d49_21 rfl rfl (by first | rfl | assumption) ?_
  refine Wk.getfield (q := 25) (C := "com/example/dekree/dekree/Permission") (lay := layP) 0 d49_22 rfl (hw _ (List.mem_of_getElem? (i := 215) rfl)) Via.refl hp' rfl (by rfl) ?_
  refine Wk.virtual (q := 28) (C := "java/lang/String") [_] _ 0 d49_25 rfl (hw _ (List.mem_of_getElem? (i := 235) rfl)) (hw _ (List.mem_of_getElem? (i := 236) rfl)) (hw _ (List.mem_of_getElem? (i := 238) rfl)) (hw _ (List.mem_of_getElem? (i := 237) rfl)) (hw _ (List.mem_of_getElem? (i := 11) rfl)) (hw _ (List.mem_of_getElem? (i := 239) rfl)) ar_30 (by decide) (nfSel (hw _ (List.mem_of_getElem? (i := 238) rfl))) (by repeat (first | exact List.mem_cons_self | assumption | refine List.mem_cons_of_mem _ ?_)) rfl rfl rfl rfl (ct_strEq hw hE F hu hv ho ho' hr hr') (by first | decide | (dsimp only; omega) | omega) (by first | decide | (dsimp only; omega) | omega) (by first | decide | (dsimp only; omega) | omega) (by first | decide | (dsimp only; omega) | omega) (kv ?_)
  rintro _ _ ⟨rfl, rfl⟩
  by_cases e : us = vs
  · rw [if_pos e]
    refine Wk.if_f (q := 31) d49_28 rfl (by decide) ?_
    refine Wk.aload_n (q := 32) d49_31 rfl rfl (by first | rfl | assumption) ?_
    refine Wk.getfield (q := 35) (C := "com/example/dekree/dekree/Permission") (lay := layP) 1 d49_32 rfl (hw _ (List.mem_of_getElem? (i := 220) rfl)) Via.refl hp rfl (by rfl) ?_
    refine Wk.aload_n (q := 36) d49_35 rfl rfl (by first | rfl | assumption) ?_
    refine Wk.getfield (q := 39) (C := "com/example/dekree/dekree/Permission") (lay := layP) 1 d49_36 rfl (hw _ (List.mem_of_getElem? (i := 220) rfl)) Via.refl hp' rfl (by rfl) ?_
    refine Wk.virtual (q := 42) (C := "com/example/dekree/dekree/QualifiedName") [_] _ 0 d49_39 rfl (hw _ (List.mem_of_getElem? (i := 240) rfl)) (hw _ (List.mem_of_getElem? (i := 241) rfl)) (hw _ (List.mem_of_getElem? (i := 243) rfl)) (hw _ (List.mem_of_getElem? (i := 242) rfl)) (hw _ (List.mem_of_getElem? (i := 2) rfl)) (hw _ (List.mem_of_getElem? (i := 244) rfl)) ar_30 (by decide) (nfSel (hw _ (List.mem_of_getElem? (i := 243) rfl))) (by repeat (first | exact List.mem_cons_self | assumption | refine List.mem_cons_of_mem _ ?_)) rfl rfl rfl rfl (ct_qEq hw hE F hl hl' ha hb h1 h2 h3 h4) (by first | decide | (dsimp only; omega) | omega) (by first | decide | (dsimp only; omega) | omega) (by first | decide | (dsimp only; omega) | omega) (by first | decide | (dsimp only; omega) | omega) (kv ?_)
    rintro _ _ ⟨rfl, rfl⟩
    by_cases e' : xs = ys
    · rw [if_pos e']
      refine Wk.if_f (q := 45) d49_42 rfl (by decide) ?_
      refine Wk.iconst (q := 46) (1) d49_45 rfl (by decide) ?_
      refine Wk.goto (q := 50) d49_46 (by decide) (by decide) ?_
      refine Wk.ireturn (t := .boolean) d49_50 rfl (by simp) (by rfl) ?_
      exact ⟨_, rfl, by rw [if_pos ⟨e, e'⟩], rfl⟩
    · rw [if_neg e']
      refine Wk.if_t (q := 49) d49_42 (by decide) (by decide) (by decide) ?_
      refine Wk.iconst (q := 50) (0) d49_49 rfl (by decide) ?_
      refine Wk.ireturn (t := .boolean) d49_50 rfl (by simp) (by rfl) ?_
      exact ⟨_, rfl, by rw [if_neg (fun h => e' h.2)], rfl⟩
  · rw [if_neg e]
    refine Wk.if_t (q := 49) d49_28 (by decide) (by decide) (by decide) ?_
    refine Wk.iconst (q := 50) (0) d49_49 rfl (by decide) ?_
    refine Wk.ireturn (t := .boolean) d49_50 rfl (by simp) (by rfl) ?_
    exact ⟨_, rfl, by rw [if_neg (fun h => e h.1)], rfl⟩
theorem ct_pEqN {l : Launch} {Z : State} {a0 : Array Value} (hw : ∀ d ∈ tables_1, d.before a0 Z = true) (hE : EW Z a0 EL0) {L : Store} {a : Addr} : Ct l Z EL0 (⟨"com/example/dekree/dekree/Permission", "equals", "(Ljava/lang/Object;)Z"⟩ : MethodName) prog_4_method_4_code 3 (some .boolean) ({ frames := 3, cells := 0, slots := 0, locals := 42 } : Room) #[.ref a, .null] L (RV fun u M => u = .int 0 ∧ M = L) := by
  refine Ct.of (a0 := a0) (Ls := [.val (.ref _), .val .null, .unset]) (plainFor_of_name pn_11) (fun m => ef_rn_3 m _) hE ?_
  refine Wk.aload_n (q := 1) d49_0 rfl rfl (by first | rfl | assumption) ?_
  refine Wk.instanceof_null (q := 4) d49_1 rfl ?_
  refine Wk.if_t (q := 15) d49_4 (by decide) (by decide) (by decide) ?_
  refine Wk.iconst (q := 16) (0) d49_15 rfl (by decide) ?_
  refine Wk.ireturn (t := .boolean) d49_16 rfl (by simp) (by rfl) ?_
  exact ⟨_, rfl, rfl, rfl⟩
theorem ct_pEqS {l : Launch} {Z : State} {a0 : Array Value} (hw : ∀ d ∈ tables_1, d.before a0 Z = true) (hE : EW Z a0 EL0) {L : Store} {a w : Addr} {f : Bool} {lo : List Value} (hs : (w, f, OB Z "java/lang/String" layS lo) ∈ L) : Ct l Z EL0 (⟨"com/example/dekree/dekree/Permission", "equals", "(Ljava/lang/Object;)Z"⟩ : MethodName) prog_4_method_4_code 3 (some .boolean) ({ frames := 3, cells := 0, slots := 0, locals := 42 } : Room) #[.ref a, .ref w] L (RV fun u M => u = .int 0 ∧ M = L) := by
  refine Ct.of (a0 := a0) (Ls := [.val (.ref _), .val (.ref _), .unset]) (plainFor_of_name pn_11) (fun m => ef_rr_3 m _ _) hE ?_
  refine Wk.aload_n (q := 1) d49_0 rfl rfl (by first | rfl | assumption) ?_
  refine Wk.instanceof_f (q := 4) (C := "java/lang/String") d49_1 rfl (hw _ (List.mem_of_getElem? (i := 233) rfl)) (by repeat (first | exact List.mem_cons_self | assumption | refine List.mem_cons_of_mem _ ?_)) (noSub (hw _ (List.mem_of_getElem? (i := 252) rfl)) (hw _ (List.mem_of_getElem? (i := 251) rfl)) (hw _ (List.mem_of_getElem? (i := 206) rfl)) (by decide) (by decide)) ?_
  refine Wk.if_t (q := 15) d49_4 (by decide) (by decide) (by decide) ?_
  refine Wk.iconst (q := 16) (0) d49_15 rfl (by decide) ?_
  refine Wk.ireturn (t := .boolean) d49_16 rfl (by simp) (by rfl) ?_
  exact ⟨_, rfl, rfl, rfl⟩
theorem ct_pEqQ {l : Launch} {Z : State} {a0 : Array Value} (hw : ∀ d ∈ tables_1, d.before a0 Z = true) (hE : EW Z a0 EL0) {L : Store} {a w : Addr} {f : Bool} {lo : List Value} (hs : (w, f, OB Z nQ layQ lo) ∈ L) : Ct l Z EL0 (⟨"com/example/dekree/dekree/Permission", "equals", "(Ljava/lang/Object;)Z"⟩ : MethodName) prog_4_method_4_code 3 (some .boolean) ({ frames := 3, cells := 0, slots := 0, locals := 42 } : Room) #[.ref a, .ref w] L (RV fun u M => u = .int 0 ∧ M = L) := by
  refine Ct.of (a0 := a0) (Ls := [.val (.ref _), .val (.ref _), .unset]) (plainFor_of_name pn_11) (fun m => ef_rr_3 m _ _) hE ?_
  refine Wk.aload_n (q := 1) d49_0 rfl rfl (by first | rfl | assumption) ?_
  refine Wk.instanceof_f (q := 4) (C := "com/example/dekree/dekree/QualifiedName") d49_1 rfl (hw _ (List.mem_of_getElem? (i := 233) rfl)) (by repeat (first | exact List.mem_cons_self | assumption | refine List.mem_cons_of_mem _ ?_)) (noSub (hw _ (List.mem_of_getElem? (i := 250) rfl)) (hw _ (List.mem_of_getElem? (i := 251) rfl)) (hw _ (List.mem_of_getElem? (i := 206) rfl)) (by decide) (by decide)) ?_
  refine Wk.if_t (q := 15) d49_4 (by decide) (by decide) (by decide) ?_
  refine Wk.iconst (q := 16) (0) d49_15 rfl (by decide) ?_
  refine Wk.ireturn (t := .boolean) d49_16 rfl (by simp) (by rfl) ?_
  exact ⟨_, rfl, rfl, rfl⟩
set_option maxRecDepth 65536 in
set_option maxHeartbeats 4000000 in
theorem ct_law {l : Launch} {Z : State} {a0 : Array Value} (hw : ∀ d ∈ tables_1, d.before a0 Z = true) (hE : EW Z a0 EL0) (F : ∃ z, z ≠ (0 : Int32) ∧ Sta Z Z.heap "java/lang/String" "COMPACT_STRINGS" "Z" (.int z)) (hO : FO Z) (i0 i1 i2 i3 : Int32) :
    Ct l Z EL0 x code 10 (some .boolean) room_1 #[.int i0, .int i1, .int i2, .int i3] [] (RV fun u M => u = .int 1) := by
  refine Ct.of (a0 := a0) (Ls := [.val (.int _), .val (.int _), .val (.int _), .val (.int _), .unset, .unset, .unset, .unset, .unset, .unset]) (plainFor_of_name pn_10) (fun m => ef_iiii_10 m _ _ _ _) hE ?_
  refine Wk.new (q := 3) at_0 rfl (hw _ (List.mem_of_getElem? (i := 0) rfl)) (hw _ (List.mem_of_getElem? (i := 1) rfl)) (hw _ (List.mem_of_getElem? (i := 2) rfl)) (layQ_ok hw) layQ_dv (by first | decide | (dsimp only; omega) | omega) (by first | decide | (dsimp only; omega) | omega) ?_
  intro a
  refine Wk.dup (q := 4) at_3 rfl rfl ?_
  refine Wk.iload_n (q := 5) at_4 rfl rfl ?_
  refine Wk.static (q := 8) [_] _ 2 at_5 rfl (hw _ (List.mem_of_getElem? (i := 3) rfl)) (hw _ (List.mem_of_getElem? (i := 4) rfl)) (hw _ (List.mem_of_getElem? (i := 5) rfl)) (hw _ (List.mem_of_getElem? (i := 6) rfl)) ar_33 (by decide) rfl rfl rfl rfl (ct_part hw hE F hO) (by first | decide | (dsimp only; omega) | omega) (by first | decide | (dsimp only; omega) | omega) (by first | decide | (dsimp only; omega) | omega) (by first | decide | (dsimp only; omega) | omega) (kv ?_)
  rintro _ _ ⟨s1, r1, rfl, rfl⟩
  refine Wk.iload_n (q := 9) at_8 rfl rfl ?_
  refine Wk.bipush (q := 11) (15) at_9 rfl (by decide) ?_
  refine Wk.iushr (q := 12) at_11 rfl ?_
  refine Wk.static (q := 15) [_] _ 3 at_12 rfl (hw _ (List.mem_of_getElem? (i := 3) rfl)) (hw _ (List.mem_of_getElem? (i := 4) rfl)) (hw _ (List.mem_of_getElem? (i := 5) rfl)) (hw _ (List.mem_of_getElem? (i := 6) rfl)) ar_33 (by decide) rfl rfl rfl rfl (ct_part hw hE F hO) (by first | decide | (dsimp only; omega) | omega) (by first | decide | (dsimp only; omega) | omega) (by first | decide | (dsimp only; omega) | omega) (by first | decide | (dsimp only; omega) | omega) (kv ?_)
  rintro _ _ ⟨s2, r2, rfl, rfl⟩
  refine Wk.pull (o := (a, true, _)) (by repeat (first | exact Ex.here | assumption | apply Ex.there)) ?_
  refine Wk.special (q := 18) [_, _] _ 1 at_15 rfl rfl (hw _ (List.mem_of_getElem? (i := 60) rfl)) (hw _ (List.mem_of_getElem? (i := 61) rfl)) (hw _ (List.mem_of_getElem? (i := 2) rfl)) (hw _ (List.mem_of_getElem? (i := 62) rfl)) ar_34 (by decide) rfl rfl rfl rfl (ct_qInit hw hE F hO (pt_nc i2) (pt_nc (XT.ushr i2 15)) (pt_ne _) (pt_ne _) (pt_len _) (pt_len _) (by repeat (first | exact List.mem_cons_self | assumption | refine List.mem_cons_of_mem _ ?_)) (show (r1, true, AR Z .byte (((pt i2).map b8).map .int)) ∈ _ from (by repeat (first | exact List.mem_cons_self | assumption | refine List.mem_cons_of_mem _ ?_))) (by repeat (first | exact List.mem_cons_self | assumption | refine List.mem_cons_of_mem _ ?_)) (show (r2, true, AR Z .byte (((pt (XT.ushr i2 15)).map b8).map .int)) ∈ _ from (by repeat (first | exact List.mem_cons_self | assumption | refine List.mem_cons_of_mem _ ?_)))) (by first | decide | (dsimp only; omega) | omega) (by first | decide | (dsimp only; omega) | omega) (by first | decide | (dsimp only; omega) | omega) (by first | decide | (dsimp only; omega) | omega) (k0 ?_)
  rintro _ ⟨wa, ba, rfl⟩
  refine Wk.sub (.cons_cons _ (.cons_cons _ (.cons_cons _ (.cons _ (.cons _ (.cons _ (.cons _ (.refl _)))))))) ?_
  refine Wk.astore (q := 20) at_18 rfl (by first | rfl | assumption) (LS1.there (LS1.there (LS1.there (LS1.there (LS1.here (by first | exact One.u | exact One.val rfl | assumption)))))) ?_
  refine Wk.new (q := 23) at_20 rfl (hw _ (List.mem_of_getElem? (i := 0) rfl)) (hw _ (List.mem_of_getElem? (i := 1) rfl)) (hw _ (List.mem_of_getElem? (i := 2) rfl)) (layQ_ok hw) layQ_dv (by first | decide | (dsimp only; omega) | omega) (by first | decide | (dsimp only; omega) | omega) ?_
  intro b
  refine Wk.dup (q := 24) at_23 rfl rfl ?_
  refine Wk.iload_n (q := 25) at_24 rfl rfl ?_
  refine Wk.static (q := 28) [_] _ 2 at_25 rfl (hw _ (List.mem_of_getElem? (i := 3) rfl)) (hw _ (List.mem_of_getElem? (i := 4) rfl)) (hw _ (List.mem_of_getElem? (i := 5) rfl)) (hw _ (List.mem_of_getElem? (i := 6) rfl)) ar_33 (by decide) rfl rfl rfl rfl (ct_part hw hE F hO) (by first | decide | (dsimp only; omega) | omega) (by first | decide | (dsimp only; omega) | omega) (by first | decide | (dsimp only; omega) | omega) (by first | decide | (dsimp only; omega) | omega) (kv ?_)
  rintro _ _ ⟨s3, r3, rfl, rfl⟩
  refine Wk.iload_n (q := 29) at_28 rfl rfl ?_
  refine Wk.bipush (q := 31) (15) at_29 rfl (by decide) ?_
  refine Wk.iushr (q := 32) at_31 rfl ?_
  refine Wk.static (q := 35) [_] _ 3 at_32 rfl (hw _ (List.mem_of_getElem? (i := 3) rfl)) (hw _ (List.mem_of_getElem? (i := 4) rfl)) (hw _ (List.mem_of_getElem? (i := 5) rfl)) (hw _ (List.mem_of_getElem? (i := 6) rfl)) ar_33 (by decide) rfl rfl rfl rfl (ct_part hw hE F hO) (by first | decide | (dsimp only; omega) | omega) (by first | decide | (dsimp only; omega) | omega) (by first | decide | (dsimp only; omega) | omega) (by first | decide | (dsimp only; omega) | omega) (kv ?_)
  rintro _ _ ⟨s4, r4, rfl, rfl⟩
  refine Wk.pull (o := (b, true, _)) (by repeat (first | exact Ex.here | assumption | apply Ex.there)) ?_
  refine Wk.special (q := 38) [_, _] _ 1 at_35 rfl rfl (hw _ (List.mem_of_getElem? (i := 60) rfl)) (hw _ (List.mem_of_getElem? (i := 61) rfl)) (hw _ (List.mem_of_getElem? (i := 2) rfl)) (hw _ (List.mem_of_getElem? (i := 62) rfl)) ar_34 (by decide) rfl rfl rfl rfl (ct_qInit hw hE F hO (pt_nc i3) (pt_nc (XT.ushr i3 15)) (pt_ne _) (pt_ne _) (pt_len _) (pt_len _) (by repeat (first | exact List.mem_cons_self | assumption | refine List.mem_cons_of_mem _ ?_)) (show (r3, true, AR Z .byte (((pt i3).map b8).map .int)) ∈ _ from (by repeat (first | exact List.mem_cons_self | assumption | refine List.mem_cons_of_mem _ ?_))) (by repeat (first | exact List.mem_cons_self | assumption | refine List.mem_cons_of_mem _ ?_)) (show (r4, true, AR Z .byte (((pt (XT.ushr i3 15)).map b8).map .int)) ∈ _ from (by repeat (first | exact List.mem_cons_self | assumption | refine List.mem_cons_of_mem _ ?_)))) (by first | decide | (dsimp only; omega) | omega) (by first | decide | (dsimp only; omega) | omega) (by first | decide | (dsimp only; omega) | omega) (by first | decide | (dsimp only; omega) | omega) (k0 ?_)
  rintro _ ⟨wb, bb, rfl⟩
  refine Wk.sub (.cons_cons _ (.cons_cons _ (.cons_cons _ (.cons _ (.cons _ (.cons _ (.cons _ (.refl _)))))))) ?_
  refine Wk.astore (q := 40) at_38 rfl (by first | rfl | assumption) (LS1.there (LS1.there (LS1.there (LS1.there (LS1.there (LS1.here (by first | exact One.u | exact One.val rfl | assumption))))))) ?_
  refine Wk.iload_n (q := 41) at_40 rfl rfl ?_
  refine Wk.static (q := 44) [_] _ 0 at_41 rfl (hw _ (List.mem_of_getElem? (i := 200) rfl)) (hw _ (List.mem_of_getElem? (i := 201) rfl)) (hw _ (List.mem_of_getElem? (i := 5) rfl)) (hw _ (List.mem_of_getElem? (i := 202) rfl)) ar_33 (by decide) rfl rfl rfl rfl (ct_op hw hE F) (by first | decide | (dsimp only; omega) | omega) (by first | decide | (dsimp only; omega) | omega) (by first | decide | (dsimp only; omega) | omega) (by first | decide | (dsimp only; omega) | omega) (kv ?_)
  rintro _ _ ⟨o1, x1, fo1, fx1, rfl, rfl⟩
  refine Wk.astore (q := 46) at_44 rfl (by first | rfl | assumption) (LS1.there (LS1.there (LS1.there (LS1.there (LS1.there (LS1.there (LS1.here (by first | exact One.u | exact One.val rfl | assumption)))))))) ?_
  refine Wk.new (q := 49) at_46 rfl (hw _ (List.mem_of_getElem? (i := 205) rfl)) (hw _ (List.mem_of_getElem? (i := 206) rfl)) (hw _ (List.mem_of_getElem? (i := 207) rfl)) (layP_ok hw) layP_dv (by first | decide | (dsimp only; omega) | omega) (by first | decide | (dsimp only; omega) | omega) ?_
  intro p
  refine Wk.dup (q := 50) at_49 rfl rfl ?_
  refine Wk.aload (q := 52) at_50 rfl rfl (by first | rfl | assumption) ?_
  refine Wk.aload (q := 54) at_52 rfl rfl (by first | rfl | assumption) ?_
  refine Wk.special (q := 57) [_, _] _ 1 at_54 rfl rfl (hw _ (List.mem_of_getElem? (i := 208) rfl)) (hw _ (List.mem_of_getElem? (i := 209) rfl)) (hw _ (List.mem_of_getElem? (i := 207) rfl)) (hw _ (List.mem_of_getElem? (i := 210) rfl)) ar_35 (by decide) rfl rfl rfl rfl (ct_pInit hw hE (by repeat (first | exact List.mem_cons_self | assumption | refine List.mem_cons_of_mem _ ?_)) (show (a, true, OB Z nQ layQ [.ref s1, .ref s2, .ref wa]) ∈ _ from (by repeat (first | exact List.mem_cons_self | assumption | refine List.mem_cons_of_mem _ ?_)))) (by first | decide | (dsimp only; omega) | omega) (by first | decide | (dsimp only; omega) | omega) (by first | decide | (dsimp only; omega) | omega) (by first | decide | (dsimp only; omega) | omega) (k0 ?_)
  rintro _ rfl
  refine Wk.astore (q := 59) at_57 rfl (by first | rfl | assumption) (LS1.there (LS1.there (LS1.there (LS1.there (LS1.there (LS1.there (LS1.there (LS1.here (by first | exact One.u | exact One.val rfl | assumption))))))))) ?_
  refine Wk.new (q := 62) at_59 rfl (hw _ (List.mem_of_getElem? (i := 205) rfl)) (hw _ (List.mem_of_getElem? (i := 206) rfl)) (hw _ (List.mem_of_getElem? (i := 207) rfl)) (layP_ok hw) layP_dv (by first | decide | (dsimp only; omega) | omega) (by first | decide | (dsimp only; omega) | omega) ?_
  intro q
  refine Wk.dup (q := 63) at_62 rfl rfl ?_
  refine Wk.iload_n (q := 64) at_63 rfl rfl ?_
  refine Wk.static (q := 67) [_] _ 2 at_64 rfl (hw _ (List.mem_of_getElem? (i := 200) rfl)) (hw _ (List.mem_of_getElem? (i := 201) rfl)) (hw _ (List.mem_of_getElem? (i := 5) rfl)) (hw _ (List.mem_of_getElem? (i := 202) rfl)) ar_33 (by decide) rfl rfl rfl rfl (ct_op hw hE F) (by first | decide | (dsimp only; omega) | omega) (by first | decide | (dsimp only; omega) | omega) (by first | decide | (dsimp only; omega) | omega) (by first | decide | (dsimp only; omega) | omega) (kv ?_)
  rintro _ _ ⟨o2, x2, fo2, fx2, rfl, rfl⟩
  refine Wk.aload (q := 69) at_67 rfl rfl (by first | rfl | assumption) ?_
  refine Wk.pull (o := (q, true, _)) (by repeat (first | exact Ex.here | assumption | apply Ex.there)) ?_
  refine Wk.special (q := 72) [_, _] _ 1 at_69 rfl rfl (hw _ (List.mem_of_getElem? (i := 208) rfl)) (hw _ (List.mem_of_getElem? (i := 209) rfl)) (hw _ (List.mem_of_getElem? (i := 207) rfl)) (hw _ (List.mem_of_getElem? (i := 210) rfl)) ar_35 (by decide) rfl rfl rfl rfl (ct_pInit hw hE (by repeat (first | exact List.mem_cons_self | assumption | refine List.mem_cons_of_mem _ ?_)) (show (b, true, OB Z nQ layQ [.ref s3, .ref s4, .ref wb]) ∈ _ from (by repeat (first | exact List.mem_cons_self | assumption | refine List.mem_cons_of_mem _ ?_)))) (by first | decide | (dsimp only; omega) | omega) (by first | decide | (dsimp only; omega) | omega) (by first | decide | (dsimp only; omega) | omega) (by first | decide | (dsimp only; omega) | omega) (k0 ?_)
  rintro _ rfl
  have hla : ((pt i2 ++ [47] ++ pt (XT.ushr i2 15)).map b8).length < 2 ^ 31 := by have := pt_len i2; have := pt_len (XT.ushr i2 15); simp; omega
  have hlb : ((pt i3 ++ [47] ++ pt (XT.ushr i3 15)).map b8).length < 2 ^ 31 := by have := pt_len i3; have := pt_len (XT.ushr i3 15); simp; omega
  have hou : ((opS i0).map b8).length < 2 ^ 31 := by have := opS_len i0; simp; omega
  have hov : ((opS i1).map b8).length < 2 ^ 31 := by have := opS_len i1; simp; omega
  have ea : (pt i2 ++ [47] ++ pt (XT.ushr i2 15)).map b8 = pt i2 ++ [47] ++ pt (XT.ushr i2 15) := by rw [List.map_append, List.map_append, (pt_nc i2).b8, (pt_nc _).b8]; rfl
  have eb : (pt i3 ++ [47] ++ pt (XT.ushr i3 15)).map b8 = pt i3 ++ [47] ++ pt (XT.ushr i3 15) := by rw [List.map_append, List.map_append, (pt_nc i3).b8, (pt_nc _).b8]; rfl
  have hiff : ((opS i0).map b8 = (opS i1).map b8 ∧ (pt i2 ++ [47] ++ pt (XT.ushr i2 15)).map b8 = (pt i3 ++ [47] ++ pt (XT.ushr i3 15)).map b8) ↔ (opS i0 = opS i1 ∧ pt i2 = pt i3 ∧ pt (XT.ushr i2 15) = pt (XT.ushr i3 15)) := by
    rw [ea, eb, map_b8_inj (opS_lat _) (opS_lat _)]
    exact ⟨fun h => ⟨h.1, sep47 (pt_nc _).no47 (pt_nc _).no47 h.2⟩, fun h => ⟨h.1, by rw [h.2.1, h.2.2]⟩⟩
  generalize (pt i2 ++ [47] ++ pt (XT.ushr i2 15)).map b8 = xa at hla hiff ⊢
  generalize (pt i3 ++ [47] ++ pt (XT.ushr i3 15)).map b8 = xb at hlb hiff ⊢
  generalize (opS i0).map b8 = us at hou hiff ⊢
  generalize (opS i1).map b8 = vs at hov hiff ⊢
  refine Wk.astore (q := 74) at_72 rfl (by first | rfl | assumption) (LS1.there (LS1.there (LS1.there (LS1.there (LS1.there (LS1.there (LS1.there (LS1.there (LS1.here (by first | exact One.u | exact One.val rfl | assumption)))))))))) ?_
  refine Wk.iload_n (q := 75) at_74 rfl rfl ?_
  refine Wk.iload_n (q := 76) at_75 rfl rfl ?_
  refine Wk.static (q := 79) [_, _] _ 0 at_76 rfl (hw _ (List.mem_of_getElem? (i := 222) rfl)) (hw _ (List.mem_of_getElem? (i := 223) rfl)) (hw _ (List.mem_of_getElem? (i := 5) rfl)) (hw _ (List.mem_of_getElem? (i := 224) rfl)) ar_36 (by decide) rfl rfl rfl rfl (ct_opEq hw hE) (by first | decide | (dsimp only; omega) | omega) (by first | decide | (dsimp only; omega) | omega) (by first | decide | (dsimp only; omega) | omega) (by first | decide | (dsimp only; omega) | omega) (kv ?_)
  rintro _ _ ⟨rfl, rfl⟩
  have fin : ∀ (M : Store) (cb sb : Nat) (ex : Int32), ex = (if us = vs ∧ xa = xb then 1 else 0) → (p, true, OB Z nP layP [.ref o1, .ref a]) ∈ M → (q, true, OB Z nP layP [.ref o2, .ref b]) ∈ M → (o1, fo1, OB Z "java/lang/String" layS [.ref x1, .int 0]) ∈ M → (o2, fo2, OB Z "java/lang/String" layS [.ref x2, .int 0]) ∈ M → (x1, fx1, AR Z .byte (us.map .int)) ∈ M → (x2, fx2, AR Z .byte (vs.map .int)) ∈ M → (a, true, OB Z nQ layQ [.ref s1, .ref s2, .ref wa]) ∈ M → (b, true, OB Z nQ layQ [.ref s3, .ref s4, .ref wb]) ∈ M → (wa, true, OB Z "java/lang/String" layS [.ref ba, .int 0]) ∈ M → (wb, true, OB Z "java/lang/String" layS [.ref bb, .int 0]) ∈ M → (ba, true, AR Z .byte (xa.map .int)) ∈ M → (bb, true, AR Z .byte (xb.map .int)) ∈ M → Wk l Z a0 EL0 x code 10 (some .boolean) room_1 (RV fun u M => u = .int 1) M cb sb 109 [.val (.int i0), .val (.int i1), .val (.int i2), .val (.int i3), .val (.ref a), .val (.ref b), .val (.ref o1), .val (.ref p), .val (.ref q), .unset] [.int ex] := by
    intro M cb sb ex hex k1 k2 k3 k4 k5 k6 k7 k8 k9 k10 k11 k12
    refine Wk.istore (q := 111) at_109 rfl (LS1.there (LS1.there (LS1.there (LS1.there (LS1.there (LS1.there (LS1.there (LS1.there (LS1.there (LS1.here (by first | exact One.u | exact One.val rfl | assumption))))))))))) ?_
    refine Wk.aload (q := 113) at_111 rfl rfl (by first | rfl | assumption) ?_
    refine Wk.aload (q := 115) at_113 rfl rfl (by first | rfl | assumption) ?_
    refine Wk.virtual (q := 118) (C := "com/example/dekree/dekree/Permission") [_] _ 0 at_115 rfl (hw _ (List.mem_of_getElem? (i := 228) rfl)) (hw _ (List.mem_of_getElem? (i := 229) rfl)) (hw _ (List.mem_of_getElem? (i := 231) rfl)) (hw _ (List.mem_of_getElem? (i := 230) rfl)) (hw _ (List.mem_of_getElem? (i := 207) rfl)) (hw _ (List.mem_of_getElem? (i := 232) rfl)) ar_30 (by decide) (nfSel (hw _ (List.mem_of_getElem? (i := 231) rfl))) (by repeat (first | exact List.mem_cons_self | assumption | refine List.mem_cons_of_mem _ ?_)) rfl rfl rfl rfl (ct_pEq hw hE F hou hov hla hlb k1 k2 k3 k4 k5 k6 k7 k8 k9 k10 k11 k12) (by first | decide | (dsimp only; omega) | omega) (by first | decide | (dsimp only; omega) | omega) (by first | decide | (dsimp only; omega) | omega) (by first | decide | (dsimp only; omega) | omega) (kv ?_)
    rintro _ _ ⟨rfl, rfl⟩
    refine Wk.iload (q := 120) at_118 rfl rfl ?_
    refine Wk.icmp_f (q := 123) at_120 rfl (XT.ii_ne_f hex.symm) ?_
    refine Wk.aload (q := 125) at_123 rfl rfl (by first | rfl | assumption) ?_
    refine Wk.aload (q := 127) at_125 rfl rfl (by first | rfl | assumption) ?_
    refine Wk.virtual (q := 130) (C := "com/example/dekree/dekree/Permission") [_] _ 0 at_127 rfl (hw _ (List.mem_of_getElem? (i := 228) rfl)) (hw _ (List.mem_of_getElem? (i := 229) rfl)) (hw _ (List.mem_of_getElem? (i := 231) rfl)) (hw _ (List.mem_of_getElem? (i := 230) rfl)) (hw _ (List.mem_of_getElem? (i := 207) rfl)) (hw _ (List.mem_of_getElem? (i := 232) rfl)) ar_30 (by decide) (nfSel (hw _ (List.mem_of_getElem? (i := 231) rfl))) (by repeat (first | exact List.mem_cons_self | assumption | refine List.mem_cons_of_mem _ ?_)) rfl rfl rfl rfl (ct_pEq hw hE F hov hou hlb hla k2 k1 k4 k3 k6 k5 k8 k7 k10 k9 k12 k11) (by first | decide | (dsimp only; omega) | omega) (by first | decide | (dsimp only; omega) | omega) (by first | decide | (dsimp only; omega) | omega) (by first | decide | (dsimp only; omega) | omega) (kv ?_)
    rintro _ _ ⟨rfl, rfl⟩
    refine Wk.iload (q := 132) at_130 rfl rfl ?_
    refine Wk.icmp_f (q := 135) at_132 rfl (XT.ii_ne_f (by rw [hex]; simp only [eq_comm])) ?_
    refine Wk.aload (q := 137) at_135 rfl rfl (by first | rfl | assumption) ?_
    refine Wk.aload (q := 139) at_137 rfl rfl (by first | rfl | assumption) ?_
    refine Wk.virtual (q := 142) (C := "com/example/dekree/dekree/Permission") [_] _ 0 at_139 rfl (hw _ (List.mem_of_getElem? (i := 228) rfl)) (hw _ (List.mem_of_getElem? (i := 229) rfl)) (hw _ (List.mem_of_getElem? (i := 231) rfl)) (hw _ (List.mem_of_getElem? (i := 230) rfl)) (hw _ (List.mem_of_getElem? (i := 207) rfl)) (hw _ (List.mem_of_getElem? (i := 232) rfl)) ar_30 (by decide) (nfSel (hw _ (List.mem_of_getElem? (i := 231) rfl))) (by repeat (first | exact List.mem_cons_self | assumption | refine List.mem_cons_of_mem _ ?_)) rfl rfl rfl rfl (ct_pEq hw hE F hou hou hla hla k1 k1 k3 k3 k5 k5 k7 k7 k9 k9 k11 k11) (by first | decide | (dsimp only; omega) | omega) (by first | decide | (dsimp only; omega) | omega) (by first | decide | (dsimp only; omega) | omega) (by first | decide | (dsimp only; omega) | omega) (kv ?_)
    rintro _ _ ⟨rfl, rfl⟩
    rw [if_pos (show us = us ∧ xa = xa from ⟨rfl, rfl⟩)]
    refine Wk.if_f (q := 145) at_142 rfl (by decide) ?_
    refine Wk.aload (q := 147) at_145 rfl rfl (by first | rfl | assumption) ?_
    refine Wk.aconst_null (q := 148) at_147 rfl ?_
    refine Wk.virtual (q := 151) (C := "com/example/dekree/dekree/Permission") [_] _ 0 at_148 rfl (hw _ (List.mem_of_getElem? (i := 228) rfl)) (hw _ (List.mem_of_getElem? (i := 229) rfl)) (hw _ (List.mem_of_getElem? (i := 231) rfl)) (hw _ (List.mem_of_getElem? (i := 230) rfl)) (hw _ (List.mem_of_getElem? (i := 207) rfl)) (hw _ (List.mem_of_getElem? (i := 232) rfl)) ar_30 (by decide) (nfSel (hw _ (List.mem_of_getElem? (i := 231) rfl))) (by repeat (first | exact List.mem_cons_self | assumption | refine List.mem_cons_of_mem _ ?_)) rfl rfl rfl rfl (ct_pEqN hw hE) (by first | decide | (dsimp only; omega) | omega) (by first | decide | (dsimp only; omega) | omega) (by first | decide | (dsimp only; omega) | omega) (by first | decide | (dsimp only; omega) | omega) (kv ?_)
    rintro _ _ ⟨rfl, rfl⟩
    refine Wk.if_f (q := 154) at_151 rfl (by decide) ?_
    refine Wk.aload (q := 156) at_154 rfl rfl (by first | rfl | assumption) ?_
    refine Wk.aload (q := 158) at_156 rfl rfl (by first | rfl | assumption) ?_
    refine Wk.virtual (q := 161) (C := "com/example/dekree/dekree/Permission") [_] _ 0 at_158 rfl (hw _ (List.mem_of_getElem? (i := 228) rfl)) (hw _ (List.mem_of_getElem? (i := 229) rfl)) (hw _ (List.mem_of_getElem? (i := 231) rfl)) (hw _ (List.mem_of_getElem? (i := 230) rfl)) (hw _ (List.mem_of_getElem? (i := 207) rfl)) (hw _ (List.mem_of_getElem? (i := 232) rfl)) ar_30 (by decide) (nfSel (hw _ (List.mem_of_getElem? (i := 231) rfl))) (by repeat (first | exact List.mem_cons_self | assumption | refine List.mem_cons_of_mem _ ?_)) rfl rfl rfl rfl (ct_pEqQ hw hE k7) (by first | decide | (dsimp only; omega) | omega) (by first | decide | (dsimp only; omega) | omega) (by first | decide | (dsimp only; omega) | omega) (by first | decide | (dsimp only; omega) | omega) (kv ?_)
    rintro _ _ ⟨rfl, rfl⟩
    refine Wk.if_f (q := 164) at_161 rfl (by decide) ?_
    refine Wk.aload (q := 166) at_164 rfl rfl (by first | rfl | assumption) ?_
    refine Wk.aload (q := 168) at_166 rfl rfl (by first | rfl | assumption) ?_
    refine Wk.virtual (q := 171) (C := "com/example/dekree/dekree/Permission") [_] _ 0 at_168 rfl (hw _ (List.mem_of_getElem? (i := 228) rfl)) (hw _ (List.mem_of_getElem? (i := 229) rfl)) (hw _ (List.mem_of_getElem? (i := 231) rfl)) (hw _ (List.mem_of_getElem? (i := 230) rfl)) (hw _ (List.mem_of_getElem? (i := 207) rfl)) (hw _ (List.mem_of_getElem? (i := 232) rfl)) ar_30 (by decide) (nfSel (hw _ (List.mem_of_getElem? (i := 231) rfl))) (by repeat (first | exact List.mem_cons_self | assumption | refine List.mem_cons_of_mem _ ?_)) rfl rfl rfl rfl (ct_pEqS hw hE k3) (by first | decide | (dsimp only; omega) | omega) (by first | decide | (dsimp only; omega) | omega) (by first | decide | (dsimp only; omega) | omega) (by first | decide | (dsimp only; omega) | omega) (kv ?_)
    rintro _ _ ⟨rfl, rfl⟩
    refine Wk.if_f (q := 174) at_171 rfl (by decide) ?_
    refine Wk.iconst (q := 175) (1) at_174 rfl (by decide) ?_
    refine Wk.goto (q := 179) at_175 (by decide) (by decide) ?_
    refine Wk.ireturn (t := .boolean) at_179 rfl (by simp) (by rfl) ?_
    exact ⟨_, rfl, rfl⟩
  by_cases h1 : opS i0 = opS i1
  · rw [if_pos h1]
    refine Wk.if_f (q := 82) at_79 rfl (by decide) ?_
    refine Wk.iload_n (q := 83) at_82 rfl rfl ?_
    refine Wk.iload_n (q := 84) at_83 rfl rfl ?_
    refine Wk.static (q := 87) [_, _] _ 0 at_84 rfl (hw _ (List.mem_of_getElem? (i := 225) rfl)) (hw _ (List.mem_of_getElem? (i := 226) rfl)) (hw _ (List.mem_of_getElem? (i := 5) rfl)) (hw _ (List.mem_of_getElem? (i := 227) rfl)) ar_36 (by decide) rfl rfl rfl rfl (ct_partEq hw hE) (by first | decide | (dsimp only; omega) | omega) (by first | decide | (dsimp only; omega) | omega) (by first | decide | (dsimp only; omega) | omega) (by first | decide | (dsimp only; omega) | omega) (kv ?_)
    rintro _ _ ⟨rfl, rfl⟩
    by_cases h2 : pt i2 = pt i3
    · rw [if_pos h2]
      refine Wk.if_f (q := 90) at_87 rfl (by decide) ?_
      refine Wk.iload_n (q := 91) at_90 rfl rfl ?_
      refine Wk.bipush (q := 93) (15) at_91 rfl (by decide) ?_
      refine Wk.iushr (q := 94) at_93 rfl ?_
      refine Wk.iload_n (q := 95) at_94 rfl rfl ?_
      refine Wk.bipush (q := 97) (15) at_95 rfl (by decide) ?_
      refine Wk.iushr (q := 98) at_97 rfl ?_
      refine Wk.static (q := 101) [_, _] _ 0 at_98 rfl (hw _ (List.mem_of_getElem? (i := 225) rfl)) (hw _ (List.mem_of_getElem? (i := 226) rfl)) (hw _ (List.mem_of_getElem? (i := 5) rfl)) (hw _ (List.mem_of_getElem? (i := 227) rfl)) ar_36 (by decide) rfl rfl rfl rfl (ct_partEq hw hE) (by first | decide | (dsimp only; omega) | omega) (by first | decide | (dsimp only; omega) | omega) (by first | decide | (dsimp only; omega) | omega) (by first | decide | (dsimp only; omega) | omega) (kv ?_)
      rintro _ _ ⟨rfl, rfl⟩
      by_cases h3 : pt (XT.ushr i2 15) = pt (XT.ushr i3 15)
      · rw [if_pos h3]
        refine Wk.if_f (q := 104) at_101 rfl (by decide) ?_
        refine Wk.iconst (q := 105) (1) at_104 rfl (by decide) ?_
        refine Wk.goto (q := 109) at_105 (by decide) (by decide) ?_
        exact fin _ _ _ 1 (by rw [if_pos (hiff.mpr ⟨h1, h2, h3⟩)]) (by repeat (first | exact List.mem_cons_self | assumption | refine List.mem_cons_of_mem _ ?_)) (by repeat (first | exact List.mem_cons_self | assumption | refine List.mem_cons_of_mem _ ?_)) (by repeat (first | exact List.mem_cons_self | assumption | refine List.mem_cons_of_mem _ ?_)) (by repeat (first | exact List.mem_cons_self | assumption | refine List.mem_cons_of_mem _ ?_)) (by repeat (first | exact List.mem_cons_self | assumption | refine List.mem_cons_of_mem _ ?_)) (by repeat (first | exact List.mem_cons_self | assumption | refine List.mem_cons_of_mem _ ?_)) (by repeat (first | exact List.mem_cons_self | assumption | refine List.mem_cons_of_mem _ ?_)) (by repeat (first | exact List.mem_cons_self | assumption | refine List.mem_cons_of_mem _ ?_)) (by repeat (first | exact List.mem_cons_self | assumption | refine List.mem_cons_of_mem _ ?_)) (by repeat (first | exact List.mem_cons_self | assumption | refine List.mem_cons_of_mem _ ?_)) (by repeat (first | exact List.mem_cons_self | assumption | refine List.mem_cons_of_mem _ ?_)) (by repeat (first | exact List.mem_cons_self | assumption | refine List.mem_cons_of_mem _ ?_))
      · rw [if_neg h3]
        refine Wk.if_t (q := 108) at_101 (by decide) (by decide) (by decide) ?_
        refine Wk.iconst (q := 109) (0) at_108 rfl (by decide) ?_
        exact fin _ _ _ 0 (by rw [if_neg (fun h => h3 (hiff.mp h).2.2)]) (by repeat (first | exact List.mem_cons_self | assumption | refine List.mem_cons_of_mem _ ?_)) (by repeat (first | exact List.mem_cons_self | assumption | refine List.mem_cons_of_mem _ ?_)) (by repeat (first | exact List.mem_cons_self | assumption | refine List.mem_cons_of_mem _ ?_)) (by repeat (first | exact List.mem_cons_self | assumption | refine List.mem_cons_of_mem _ ?_)) (by repeat (first | exact List.mem_cons_self | assumption | refine List.mem_cons_of_mem _ ?_)) (by repeat (first | exact List.mem_cons_self | assumption | refine List.mem_cons_of_mem _ ?_)) (by repeat (first | exact List.mem_cons_self | assumption | refine List.mem_cons_of_mem _ ?_)) (by repeat (first | exact List.mem_cons_self | assumption | refine List.mem_cons_of_mem _ ?_)) (by repeat (first | exact List.mem_cons_self | assumption | refine List.mem_cons_of_mem _ ?_)) (by repeat (first | exact List.mem_cons_self | assumption | refine List.mem_cons_of_mem _ ?_)) (by repeat (first | exact List.mem_cons_self | assumption | refine List.mem_cons_of_mem _ ?_)) (by repeat (first | exact List.mem_cons_self | assumption | refine List.mem_cons_of_mem _ ?_))
    · rw [if_neg h2]
      refine Wk.if_t (q := 108) at_87 (by decide) (by decide) (by decide) ?_
      refine Wk.iconst (q := 109) (0) at_108 rfl (by decide) ?_
      exact fin _ _ _ 0 (by rw [if_neg (fun h => h2 (hiff.mp h).2.1)]) (by repeat (first | exact List.mem_cons_self | assumption | refine List.mem_cons_of_mem _ ?_)) (by repeat (first | exact List.mem_cons_self | assumption | refine List.mem_cons_of_mem _ ?_)) (by repeat (first | exact List.mem_cons_self | assumption | refine List.mem_cons_of_mem _ ?_)) (by repeat (first | exact List.mem_cons_self | assumption | refine List.mem_cons_of_mem _ ?_)) (by repeat (first | exact List.mem_cons_self | assumption | refine List.mem_cons_of_mem _ ?_)) (by repeat (first | exact List.mem_cons_self | assumption | refine List.mem_cons_of_mem _ ?_)) (by repeat (first | exact List.mem_cons_self | assumption | refine List.mem_cons_of_mem _ ?_)) (by repeat (first | exact List.mem_cons_self | assumption | refine List.mem_cons_of_mem _ ?_)) (by repeat (first | exact List.mem_cons_self | assumption | refine List.mem_cons_of_mem _ ?_)) (by repeat (first | exact List.mem_cons_self | assumption | refine List.mem_cons_of_mem _ ?_)) (by repeat (first | exact List.mem_cons_self | assumption | refine List.mem_cons_of_mem _ ?_)) (by repeat (first | exact List.mem_cons_self | assumption | refine List.mem_cons_of_mem _ ?_))
  · rw [if_neg h1]
    refine Wk.if_t (q := 108) at_79 (by decide) (by decide) (by decide) ?_
    refine Wk.iconst (q := 109) (0) at_108 rfl (by decide) ?_
    exact fin _ _ _ 0 (by rw [if_neg (fun h => h1 (hiff.mp h).1)]) (by repeat (first | exact List.mem_cons_self | assumption | refine List.mem_cons_of_mem _ ?_)) (by repeat (first | exact List.mem_cons_self | assumption | refine List.mem_cons_of_mem _ ?_)) (by repeat (first | exact List.mem_cons_self | assumption | refine List.mem_cons_of_mem _ ?_)) (by repeat (first | exact List.mem_cons_self | assumption | refine List.mem_cons_of_mem _ ?_)) (by repeat (first | exact List.mem_cons_self | assumption | refine List.mem_cons_of_mem _ ?_)) (by repeat (first | exact List.mem_cons_self | assumption | refine List.mem_cons_of_mem _ ?_)) (by repeat (first | exact List.mem_cons_self | assumption | refine List.mem_cons_of_mem _ ?_)) (by repeat (first | exact List.mem_cons_self | assumption | refine List.mem_cons_of_mem _ ?_)) (by repeat (first | exact List.mem_cons_self | assumption | refine List.mem_cons_of_mem _ ?_)) (by repeat (first | exact List.mem_cons_self | assumption | refine List.mem_cons_of_mem _ ?_)) (by repeat (first | exact List.mem_cons_self | assumption | refine List.mem_cons_of_mem _ ?_)) (by repeat (first | exact List.mem_cons_self | assumption | refine List.mem_cons_of_mem _ ?_))
set_option maxRecDepth 65536 in
set_option maxHeartbeats 4000000 in
theorem comes_1 {Post : Tables → Env → Array Value → State → Outcome → State → Prop} (hpost : ∀ tb e args s v u, (limb_1_1.after args s (.returned v) u = true ∧ limb_1_2.after args s (.returned v) u = true) → ReturnedEndW s (.returned v) u (Jvm.fieldLocs frame_1_writes args s ++ Jvm.arrayLocs frame_1_arrays args s ++ Jvm.staticLocs frame_1_statics s) 88 7552 → Post tb e args s (.returned v) u) :
    ArmFor flags0 classFile x code maxLocals ret World_1 tables_1 room_1 Calls_1 rest_1 Pre_1 Post := by
  intro l hfl _ _ p e ha hc hk s m args below hf hA hF happ hP
  obtain ⟨hcalls, hrest, hpre⟩ := hP
  obtain ⟨-, -, -, hnamed, -, -, -, hat⟩ := (Spec.applies_iff hf).mp happ
  obtain ⟨hg, hn⟩ := and_e (Cond.before_iff.mp (show (Jvm.Cond.and given_1 narrow_1).before args s = true from hpre))
  obtain ⟨g_n, gr⟩ := and_e hg
  obtain ⟨g0, gr⟩ := and_e gr
  obtain ⟨g1, gr⟩ := and_e gr
  obtain ⟨g2, gr⟩ := and_e gr
  have g3 := gr
  obtain ⟨w0, w1, w2, w3, rfl⟩ : ∃ w0 w1 w2 w3 : Value, args = #[w0, w1, w2, w3] := by
    have hs : args.size = 4 := by simpa [Cond.value, given_1] using g_n
    obtain ⟨L⟩ := args
    match L, hs with
    | [w0, w1, w2, w3], _ => exact ⟨w0, w1, w2, w3, rfl⟩
  obtain ⟨i0, ei0⟩ := is_v g0
  obtain rfl : w0 = (.int i0) := Option.some.inj ei0
  obtain ⟨i1, ei1⟩ := is_v g1
  obtain rfl : w1 = (.int i1) := Option.some.inj ei1
  obtain ⟨i2, ei2⟩ := is_v g2
  obtain rfl : w2 = (.int i2) := Option.some.inj ei2
  obtain ⟨i3, ei3⟩ := is_v g3
  obtain rfl : w3 = (.int i3) := Option.some.inj ei3
  have hw := fun d (hd : d ∈ tables_1) => atoms_spec (ws := Jvm.Cond.code x code maxLocals ret :: tables_1) hat d (List.mem_cons_of_mem _ hd)
  obtain ⟨hsets, hown0⟩ := atoms_of _ (rest_1_c_eq ▸ (show rest_1_c.before _ s = true from hrest))
  have F := compact (hsets _ (List.mem_of_getElem? (i := 0) rfl)) (hsets _ (List.mem_of_getElem? (i := 1) rfl)) (hsets _ (List.mem_of_getElem? (i := 2) rfl))
  have hE : EW s _ EL0 := (EW.cons (hw _ (List.mem_of_getElem? (i := 212) rfl)) (by decide +kernel) (EW.cons (hw _ (List.mem_of_getElem? (i := 217) rfl)) (by decide +kernel) (EW.cons (hw _ (List.mem_of_getElem? (i := 10) rfl)) (by decide +kernel) (EW.cons (hw _ (List.mem_of_getElem? (i := 204) rfl)) (by decide +kernel) (EW.cons (hw _ (List.mem_of_getElem? (i := 64) rfl)) (by decide +kernel) (EW.cons (hw _ (List.mem_of_getElem? (i := 69) rfl)) (by decide +kernel) (EW.cons (hw _ (List.mem_of_getElem? (i := 152) rfl)) (by decide +kernel) EW.nil)))))))
  have hheld : constsHeld consts_1 s := hcalls.1
  have hCH : CHv s EL0 s.vm s.heap := CHv.start hE (fun p hp => hheld p hp) (hsets _ (List.mem_of_getElem? (i := 2) rfl)) (hw _ (List.mem_of_getElem? (i := 13) rfl)) (hw _ (List.mem_of_getElem? (i := 12) rfl))
  have hI : Inv s EL0 s.vm s.heap [] := ⟨⟨Nat.le_refl _, fun _ _ q => q⟩, hCH, (fun o ho => nomatch ho), (fun o ho => nomatch ho), List.Pairwise.nil⟩
  have hO : FO s := FO_of (hsets _ (List.mem_of_getElem? (i := 7) rfl)) (hsets _ (List.mem_of_getElem? (i := 8) rfl))
  obtain ⟨n, o, h1, h2, h3, v, Lc, L', rfl, ⟨u, rfl, rfl⟩, -, N, hq⟩ := ct_law hw hE F hO i0 i1 i2 i3 tables_1 p e ha hc hk s m _ below hf ((Spec.applies_iff_loose hf).mp happ).1 ⟨rfl, State.Warmed39.refl s, hI⟩ trivial
  exact ⟨n, _, h1, h2, h3, hpost _ _ _ _ _ _ ⟨Cond.after_iff.mpr rfl, Cond.after_iff.mpr (eq_i res_at (Term.int_eval (1)) rfl)⟩ ⟨hq.1, hq.2.1, hq.2.2.1, (hq.2.2.2.sift fun y hy => Or.inr (N y hy)).mono (by decide) (by decide)⟩⟩
theorem main_1_1 : Claimed_1_1 := comes_1 fun _ _ _ _ _ _ h hF => ⟨h.1, hF⟩
theorem main_1_2 : Claimed_1_2 := comes_1 fun _ _ _ _ _ _ h hF => ⟨h.2, hF⟩

end Jvm.Pilot.@@N@@
namespace Jvm.Pilot.@@N@@
open Jvm Jvm.ClassFile Sem Op Lib Jvm.Free Jvm.Stand Jvm.Pilot.@@N@@.Jvm.D
/-! MADE BY PROGRAM (witnessworld.py) out of the Statement's table words and the real class files: 26 classes; the members and pool entries that the words name. The judged class is class 1, her method 6. -/
namespace start1
open Jvm.ClassFile
def u (s : String) : CpInfo := .utf8 (stringToUtf16 s)
/-- a pool by its gaps: so many unusable entries, then the entry; so many at the end -/
def gap : Nat → List CpInfo → List CpInfo
  | 0, r => r
  | n + 1, r => .unusable :: gap n r
def poolList (es : List (Nat × CpInfo)) (last : Nat) : List CpInfo := es.foldr (fun e r => gap e.1 (e.2 :: r)) (gap last [])
def pool (es : List (Nat × CpInfo)) (last : Nat) : Array CpInfo := ⟨poolList es last⟩
def fileOf (pool : Array CpInfo) (this : Nat) (attrs : Array Attribute := #[]) (ms : Array MethodInfo := #[]) (fl : Nat := 33) (sup : Nat := 0) (ifs : Array Nat := #[]) (fds : Array FieldInfo := #[]) : ClassFile where
  minorVersion := 0
  majorVersion := 65
  constantPool := pool
  accessFlags := fl
  thisClass := this
  superClass := sup
  interfaces := ifs
  fields := fds
  methods := ms
  attributes := attrs
def plain (name : String) (sup : Option ClassId) : Class where
  name := name
  kind := .ordinary
  loader := none
  accessFlags := 33
  super := sup
  interfaces := #[]
  cf := none
  fields := #[]
  methods := #[]
  instanceTypes := #[]
  staticTypes := #[]
  resolved := #[]
  callSites := []
  init := .initialized
  statics := none
  mirror := none

def pool0 : Array CpInfo := pool [(5, u "<init>"), (0, u "()V"), (1, .class_ 10), (1, u "java/lang/Object")] 113

def k0c0 : Code := { maxStack := 0, maxLocals := 1, code := object_method_1_code, exceptionTable := #[], attributes := #[] }
def k0m0 : Method := { name := "<init>", desc := "()V", sig := { parameters := [], returnType := none }, accessFlags := 1, code := some k0c0 }
/-- java/lang/Object -/
def k0 : Class := { plain "java/lang/Object" none with
  accessFlags := 33
  interfaces := #[]
  cf := some (fileOf pool0 8 #[] #[{ accessFlags := 1, nameIndex := 5, descriptorIndex := 6, attributes := #[] }] 33 0 #[] #[])
  fields := #[]
  methods := #[k0m0]
  instanceTypes := #[]
  staticTypes := #[]
  resolved := Array.replicate 124 none
  statics := none }

def pool1 : Array CpInfo := pool [(2, .class_ 4), (1, u "java/lang/Object"), (0, u "<init>"), (0, u "()V"), (0, .string 8), (0, u "abcdefghijklmnopqrstuvwxyzABCDEFGHIJKLMNOPQRSTUVWXYZ0123456789_.-"), (0, .methodref 10 11), (0, .class_ 12), (0, .nameAndType 13 14), (0, u "java/lang/String"), (0, u "charAt"), (0, u "(I)C"), (0, .methodref 16 17), (0, .class_ 18), (0, .nameAndType 19 14), (0, u "com/example/dekree/dekree/PermissionEqualsPinLaw"), (0, u "nameChar"), (0, .methodref 10 21), (0, .nameAndType 22 23), (0, u "valueOf"), (0, u "(C)Ljava/lang/String;"), (0, .methodref 10 25), (0, .nameAndType 5 26), (0, u "([C)V"), (0, .methodref 28 29), (0, .class_ 30), (0, .nameAndType 31 32), (0, u "java/lang/Math"), (0, u "min"), (0, u "(II)I"), (0, .string 34), (0, u ""), (0, .class_ 36), (0, u "com/example/dekree/dekree/QualifiedName"), (0, .methodref 16 38), (0, .nameAndType 39 40), (0, u "part"), (0, u "(I)Ljava/lang/String;"), (0, .methodref 35 42), (0, .nameAndType 5 43), (0, u "(Ljava/lang/String;Ljava/lang/String;)V"), (0, .methodref 16 45), (0, .nameAndType 46 40), (0, u "op"), (0, .class_ 48), (0, u "com/example/dekree/dekree/Permission"), (0, .methodref 47 50), (0, .nameAndType 5 51), (0, u "(Ljava/lang/String;Lcom/example/dekree/dekree/QualifiedName;)V"), (0, .methodref 16 53), (0, .nameAndType 54 55), (0, u "opEq"), (0, u "(II)Z"), (0, .methodref 16 57), (0, .nameAndType 58 55), (0, u "partEq"), (0, .methodref 47 60), (0, .nameAndType 61 62), (0, u "equals"), (0, u "(Ljava/lang/Object;)Z"), (3, u "law"), (0, u "(IIII)Z")] 2

def k1m0 : Method := { name := "<init>", desc := "()V", sig := { parameters := [], returnType := none }, accessFlags := 1, code := none }
def k1c1 : Code := { maxStack := 3, maxLocals := 1, code := method_2_code, exceptionTable := #[], attributes := #[] }
def k1m1 : Method := { name := "nameChar", desc := "(I)C", sig := { parameters := [.int], returnType := some .char }, accessFlags := 10, code := some k1c1 }
def k1c2 : Code := { maxStack := 6, maxLocals := 3, code := method_3_code, exceptionTable := #[], attributes := #[] }
def k1m2 : Method := { name := "part", desc := "(I)Ljava/lang/String;", sig := { parameters := [.int], returnType := some (.object "java/lang/String") }, accessFlags := 10, code := some k1c2 }
def k1c3 : Code := { maxStack := 3, maxLocals := 4, code := method_4_code, exceptionTable := #[], attributes := #[] }
def k1m3 : Method := { name := "partEq", desc := "(II)Z", sig := { parameters := [.int, .int], returnType := some .boolean }, accessFlags := 10, code := some k1c3 }
def k1c4 : Code := { maxStack := 6, maxLocals := 4, code := method_5_code, exceptionTable := #[], attributes := #[] }
def k1m4 : Method := { name := "op", desc := "(I)Ljava/lang/String;", sig := { parameters := [.int], returnType := some (.object "java/lang/String") }, accessFlags := 10, code := some k1c4 }
def k1c5 : Code := { maxStack := 3, maxLocals := 4, code := method_6_code, exceptionTable := #[], attributes := #[] }
def k1m5 : Method := { name := "opEq", desc := "(II)Z", sig := { parameters := [.int, .int], returnType := some .boolean }, accessFlags := 10, code := some k1c5 }
def k1c6 : Code := { maxStack := 5, maxLocals := 10, code := code, exceptionTable := #[], attributes := #[] }
def k1m6 : Method := { name := "law", desc := "(IIII)Z", sig := { parameters := [.int, .int, .int, .int], returnType := some .boolean }, accessFlags := 9, code := some k1c6 }
/-- com/example/dekree/dekree/PermissionEqualsPinLaw -/
def k1 : Class := { plain "com/example/dekree/dekree/PermissionEqualsPinLaw" (some 0) with
  accessFlags := 49
  interfaces := #[]
  cf := some (fileOf pool1 16 #[] #[{ accessFlags := 1, nameIndex := 5, descriptorIndex := 6, attributes := #[] }, { accessFlags := 10, nameIndex := 19, descriptorIndex := 14, attributes := #[] }, { accessFlags := 10, nameIndex := 39, descriptorIndex := 40, attributes := #[] }, { accessFlags := 10, nameIndex := 58, descriptorIndex := 55, attributes := #[] }, { accessFlags := 10, nameIndex := 46, descriptorIndex := 40, attributes := #[] }, { accessFlags := 10, nameIndex := 54, descriptorIndex := 55, attributes := #[] }, { accessFlags := 9, nameIndex := 66, descriptorIndex := 67, attributes := #[] }] 49 2 #[] #[])
  fields := #[]
  methods := #[k1m0, k1m1, k1m2, k1m3, k1m4, k1m5, k1m6]
  instanceTypes := #[]
  staticTypes := #[]
  resolved := Array.replicate 70 none
  statics := none }

def pool2 : Array CpInfo := pool [(1, .methodref 2 3), (0, .class_ 4), (0, .nameAndType 5 6), (0, u "java/lang/Object"), (0, u "<init>"), (0, u "()V"), (0, .string 8), (0, u "domain"), (0, .methodref 10 11), (0, .class_ 12), (0, .nameAndType 13 14), (0, u "java/util/Objects"), (0, u "requireNonNull"), (0, u "(Ljava/lang/Object;Ljava/lang/String;)Ljava/lang/Object;"), (0, .string 16), (0, u "name"), (0, .methodref 18 19), (0, .class_ 20), (0, .nameAndType 21 22), (0, u "com/example/dekree/dekree/QualifiedName"), (0, u "isPlainName"), (0, u "(Ljava/lang/String;)Z"), (2, .class_ 26), (0, u "java/lang/StringBuilder"), (0, .methodref 25 3), (2, .methodref 25 31), (0, .nameAndType 32 33), (0, u "append"), (0, u "(Ljava/lang/String;)Ljava/lang/StringBuilder;"), (2, .methodref 25 37), (0, .nameAndType 38 39), (0, u "toString"), (0, u "()Ljava/lang/String;"), (5, .fieldref 18 46), (0, .nameAndType 8 47), (0, u "Ljava/lang/String;"), (0, .fieldref 18 49), (0, .nameAndType 16 47), (0, .string 51), (0, u "/"), (0, .fieldref 18 53), (0, .nameAndType 54 47), (0, u "written"), (17, .class_ 74), (1, u "java/lang/String"), (15, u "(Ljava/lang/String;Ljava/lang/String;)V"), (4, .methodref 72 96), (0, .nameAndType 97 98), (0, u "equals"), (0, u "(Ljava/lang/Object;)Z"), (3, u "()I"), (0, .methodref 72 104), (0, .nameAndType 105 106), (0, u "isEmpty"), (0, u "()Z"), (0, .methodref 72 108), (0, .nameAndType 109 102), (0, u "length"), (0, .methodref 72 111), (0, .nameAndType 112 113), (0, u "charAt"), (0, u "(I)C"), (0, .methodref 18 115), (0, .nameAndType 116 117), (0, u "isNameCharacter"), (0, u "(C)Z"), (7, u "AS_WRITTEN"), (0, u "Ljava/util/Comparator;"), (53, u "BYTE_ORDER")] 59

def k2c0 : Code := { maxStack := 4, maxLocals := 3, code := prog_7_method_1_code, exceptionTable := #[], attributes := #[] }
def k2m0 : Method := { name := "<init>", desc := "(Ljava/lang/String;Ljava/lang/String;)V", sig := { parameters := [(.object "java/lang/String"), (.object "java/lang/String")], returnType := none }, accessFlags := 1, code := some k2c0 }
def k2c1 : Code := { maxStack := 2, maxLocals := 3, code := prog_7_method_6_code, exceptionTable := #[], attributes := #[] }
def k2m1 : Method := { name := "equals", desc := "(Ljava/lang/Object;)Z", sig := { parameters := [(.object "java/lang/Object")], returnType := some .boolean }, accessFlags := 1, code := some k2c1 }
def k2c2 : Code := { maxStack := 2, maxLocals := 2, code := prog_7_method_9_code, exceptionTable := #[], attributes := #[] }
def k2m2 : Method := { name := "isPlainName", desc := "(Ljava/lang/String;)Z", sig := { parameters := [(.object "java/lang/String")], returnType := some .boolean }, accessFlags := 8, code := some k2c2 }
def k2c3 : Code := { maxStack := 2, maxLocals := 1, code := prog_7_method_10_code, exceptionTable := #[], attributes := #[] }
def k2m3 : Method := { name := "isNameCharacter", desc := "(C)Z", sig := { parameters := [.char], returnType := some .boolean }, accessFlags := 10, code := some k2c3 }
/-- com/example/dekree/dekree/QualifiedName -/
def k2 : Class := { plain "com/example/dekree/dekree/QualifiedName" (some 0) with
  accessFlags := 49
  interfaces := #[]
  cf := some (fileOf pool2 18 #[] #[{ accessFlags := 1, nameIndex := 5, descriptorIndex := 90, attributes := #[] }, { accessFlags := 1, nameIndex := 97, descriptorIndex := 98, attributes := #[] }, { accessFlags := 8, nameIndex := 21, descriptorIndex := 22, attributes := #[] }, { accessFlags := 10, nameIndex := 116, descriptorIndex := 117, attributes := #[] }] 49 2 #[] #[{ accessFlags := 24, nameIndex := 180, descriptorIndex := 126, attributes := #[] }, { accessFlags := 24, nameIndex := 125, descriptorIndex := 126, attributes := #[] }, { accessFlags := 18, nameIndex := 8, descriptorIndex := 47, attributes := #[] }, { accessFlags := 18, nameIndex := 16, descriptorIndex := 47, attributes := #[] }, { accessFlags := 18, nameIndex := 54, descriptorIndex := 47, attributes := #[] }])
  fields := #[{ name := "BYTE_ORDER", type := (.object "java/util/Comparator"), accessFlags := 24, slot := 0, constantValue := 0 }, { name := "AS_WRITTEN", type := (.object "java/util/Comparator"), accessFlags := 24, slot := 1, constantValue := 0 }, { name := "domain", type := (.object "java/lang/String"), accessFlags := 18, slot := 0, constantValue := 0 }, { name := "name", type := (.object "java/lang/String"), accessFlags := 18, slot := 1, constantValue := 0 }, { name := "written", type := (.object "java/lang/String"), accessFlags := 18, slot := 2, constantValue := 0 }]
  methods := #[k2m0, k2m1, k2m2, k2m3]
  instanceTypes := #[(.object "java/lang/String"), (.object "java/lang/String"), (.object "java/lang/String")]
  staticTypes := #[(.object "java/util/Comparator"), (.object "java/util/Comparator")]
  resolved := Array.replicate 240 none
  statics := none }

def pool3 : Array CpInfo := pool [(1, .class_ 2), (0, u "java/io/Serializable"), (0, .class_ 4), (0, u "java/lang/Object")] 2

/-- java/io/Serializable -/
def k3 : Class := { plain "java/io/Serializable" (some 0) with
  accessFlags := 1537
  interfaces := #[]
  cf := some (fileOf pool3 1 #[] #[] 1537 3 #[] #[])
  fields := #[]
  methods := #[]
  instanceTypes := #[]
  staticTypes := #[]
  resolved := Array.replicate 7 none
  statics := none }

def pool4 : Array CpInfo := pool [(1, .class_ 2), (0, u "java/lang/Comparable"), (0, .class_ 4), (0, u "java/lang/Object")] 7

/-- java/lang/Comparable -/
def k4 : Class := { plain "java/lang/Comparable" (some 0) with
  accessFlags := 1537
  interfaces := #[]
  cf := some (fileOf pool4 1 #[] #[] 1537 3 #[] #[])
  fields := #[]
  methods := #[]
  instanceTypes := #[]
  staticTypes := #[]
  resolved := Array.replicate 12 none
  statics := none }

def pool5 : Array CpInfo := pool [(2, .class_ 4), (1, u "java/lang/CharSequence"), (42, .class_ 48), (0, u "java/lang/CharSequence$1CodePointIterator"), (10, .class_ 60), (0, u "java/lang/CharSequence$1CharIterator"), (5, .class_ 67), (0, u "java/lang/Object")] 63

/-- java/lang/CharSequence -/
def k5 : Class := { plain "java/lang/CharSequence" (some 0) with
  accessFlags := 1537
  interfaces := #[]
  cf := some (fileOf pool5 2 #[.nestMembers #[47, 59]] #[] 1537 66 #[] #[])
  fields := #[]
  methods := #[]
  instanceTypes := #[]
  staticTypes := #[]
  resolved := Array.replicate 131 none
  statics := none }

def pool6 : Array CpInfo := pool [(1, .class_ 2), (0, u "java/lang/constant/Constable"), (0, .class_ 4), (0, u "java/lang/Object")] 6

/-- java/lang/constant/Constable -/
def k6 : Class := { plain "java/lang/constant/Constable" (some 0) with
  accessFlags := 1537
  interfaces := #[]
  cf := some (fileOf pool6 1 #[] #[] 1537 3 #[] #[])
  fields := #[]
  methods := #[]
  instanceTypes := #[]
  staticTypes := #[]
  resolved := Array.replicate 11 none
  statics := none }

def pool7 : Array CpInfo := pool [(1, .class_ 2), (0, u "java/lang/constant/ConstantDesc"), (0, .class_ 4), (0, u "java/lang/Object")] 32

/-- java/lang/constant/ConstantDesc -/
def k7 : Class := { plain "java/lang/constant/ConstantDesc" (some 0) with
  accessFlags := 1537
  interfaces := #[]
  cf := some (fileOf pool7 1 #[] #[] 1537 3 #[] #[])
  fields := #[]
  methods := #[]
  instanceTypes := #[]
  staticTypes := #[]
  resolved := Array.replicate 37 none
  statics := none }

def pool8 : Array CpInfo := pool [(1, .methodref 2 3), (0, .class_ 4), (0, .nameAndType 5 6), (0, u "java/lang/Object"), (0, u "<init>"), (0, u "()V"), (2, .fieldref 10 11), (0, .class_ 12), (0, .nameAndType 13 14), (0, u "java/lang/String"), (0, u "value"), (0, u "[B"), (0, .fieldref 10 16), (0, .nameAndType 17 18), (0, u "coder"), (0, u "B"), (2, u "hash"), (0, u "I"), (2, u "hashIsZero"), (0, u "Z"), (0, .methodref 10 28), (0, .nameAndType 5 29), (0, u "([CIILjava/lang/Void;)V"), (8, .fieldref 10 39), (0, .nameAndType 40 26), (0, u "COMPACT_STRINGS"), (1, .class_ 44), (1, u "java/lang/StringUTF16"), (0, u "compress"), (1, .methodref 42 48), (0, .nameAndType 49 50), (0, u "coderFromArrayLen"), (0, u "([BI)B"), (2, u "toBytes"), (0, .methodref 55 56), (0, .class_ 57), (0, .nameAndType 58 59), (0, u "java/util/Arrays"), (0, u "copyOfRange"), (0, u "([BII)[B"), (47, .class_ 109), (1, u "java/lang/StringLatin1"), (32, u "()Z"), (34, .methodref 42 178), (0, .nameAndType 45 179), (0, u "([CII)[B"), (13, .class_ 195), (1, u "java/lang/System"), (13, .methodref 10 210), (0, .nameAndType 5 211), (0, u "([BB)V"), (0, .methodref 193 213), (0, .nameAndType 214 215), (0, u "arraycopy"), (0, u "(Ljava/lang/Object;ILjava/lang/Object;II)V"), (118, u "()I"), (0, .methodref 10 336), (0, .nameAndType 17 337), (0, u "()B"), (2, u "()[B"), (22, u "([BI)C"), (5, u "(C)Z"), (21, u "(II)V"), (35, u "(I)C"), (61, .methodref 10 490), (0, .nameAndType 5 491), (0, u "(Ljava/lang/AbstractStringBuilder;Ljava/lang/Void;)V"), (0, .methodref 10 493), (0, .nameAndType 494 142), (0, u "isLatin1"), (0, .methodref 107 496), (0, .nameAndType 497 363), (0, u "charAt"), (3, u "checkIndex"), (4, .nameAndType 507 334), (0, u "length"), (24, u "getBytes"), (8, .methodref 107 542), (0, .nameAndType 543 544), (0, u "equals"), (0, u "([B[B)Z"), (4, .methodref 550 506), (0, .class_ 551), (0, u "java/lang/AbstractStringBuilder"), (0, .methodref 550 553), (0, .nameAndType 554 340), (0, u "getValue"), (18, u "(Ljava/lang/Object;)Z"), (1, .class_ 576), (0, u "java/lang/CharSequence"), (22, u "CASE_INSENSITIVE_ORDER"), (0, u "Ljava/util/Comparator;"), (91, u "isEmpty"), (89, u "valueOf"), (0, u "(C)Ljava/lang/String;"), (37, u "([BIB)V"), (188, u "([C)V"), (4, .methodref 107 1016), (0, .nameAndType 1017 369), (0, u "canEncode"), (0, .methodref 107 1019), (0, .nameAndType 53 1020), (0, u "(C)[B"), (26, .methodref 550 493), (5, .fieldref 1054 1055), (0, .class_ 1056), (0, .nameAndType 1057 1058), (0, u "jdk/internal/util/Preconditions"), (0, u "SIOOBE_FORMATTER"), (0, u "Ljava/util/function/BiFunction;"), (0, .methodref 1054 1060), (0, .nameAndType 501 1061), (0, u "(IILjava/util/function/BiFunction;)I"), (39, u "serialPersistentFields"), (0, u "[Ljava/io/ObjectStreamField;"), (0, .class_ 1104), (0, u "java/lang/String$CaseInsensitiveComparator"), (1, .class_ 1107), (0, u "java/io/Serializable"), (0, .class_ 1109), (0, u "java/lang/Comparable"), (0, .class_ 1111), (0, u "java/lang/constant/Constable"), (0, .class_ 1113), (0, u "java/lang/constant/ConstantDesc"), (2, u "serialVersionUID"), (0, u "J"), (3, u "REPL"), (0, u "C"), (2, u "LATIN1"), (1, u "UTF16"), (105, u "(Ljava/lang/StringBuilder;)V")] 217

def k8m0 : Method := { name := "<init>", desc := "()V", sig := { parameters := [], returnType := none }, accessFlags := 1, code := none }
def k8c1 : Code := { maxStack := 5, maxLocals := 2, code := jdk_42_method_3_code, exceptionTable := #[], attributes := #[] }
def k8m1 : Method := { name := "<init>", desc := "([C)V", sig := { parameters := [(.array .char)], returnType := none }, accessFlags := 1, code := some k8c1 }
def k8c2 : Code := { maxStack := 3, maxLocals := 2, code := jdk_42_method_53_code, exceptionTable := #[], attributes := #[] }
def k8m2 : Method := { name := "<init>", desc := "(Ljava/lang/StringBuilder;)V", sig := { parameters := [(.object "java/lang/StringBuilder")], returnType := none }, accessFlags := 1, code := some k8c2 }
def k8c3 : Code := { maxStack := 2, maxLocals := 1, code := jdk_42_method_54_code, exceptionTable := #[], attributes := #[] }
def k8m3 : Method := { name := "length", desc := "()I", sig := { parameters := [], returnType := some .int }, accessFlags := 1, code := some k8c3 }
def k8c4 : Code := { maxStack := 1, maxLocals := 1, code := jdk_42_method_55_code, exceptionTable := #[], attributes := #[] }
def k8m4 : Method := { name := "isEmpty", desc := "()Z", sig := { parameters := [], returnType := some .boolean }, accessFlags := 1, code := some k8c4 }
def k8c5 : Code := { maxStack := 2, maxLocals := 2, code := jdk_42_method_56_code, exceptionTable := #[], attributes := #[] }
def k8m5 : Method := { name := "charAt", desc := "(I)C", sig := { parameters := [.int], returnType := some .char }, accessFlags := 1, code := some k8c5 }
def k8c6 : Code := { maxStack := 2, maxLocals := 3, code := jdk_42_method_66_code, exceptionTable := #[], attributes := #[] }
def k8m6 : Method := { name := "equals", desc := "(Ljava/lang/Object;)Z", sig := { parameters := [(.object "java/lang/Object")], returnType := some .boolean }, accessFlags := 1, code := some k8c6 }
def k8c7 : Code := { maxStack := 4, maxLocals := 1, code := jdk_42_method_139_code, exceptionTable := #[], attributes := #[] }
def k8m7 : Method := { name := "valueOf", desc := "(C)Ljava/lang/String;", sig := { parameters := [.char], returnType := some (.object "java/lang/String") }, accessFlags := 9, code := some k8c7 }
def k8c8 : Code := { maxStack := 5, maxLocals := 4, code := jdk_42_method_147_code, exceptionTable := #[], attributes := #[] }
def k8m8 : Method := { name := "getBytes", desc := "([BIB)V", sig := { parameters := [(.array .byte), .int, .byte], returnType := none }, accessFlags := 0, code := some k8c8 }
def k8c9 : Code := { maxStack := 4, maxLocals := 6, code := jdk_42_method_149_code, exceptionTable := #[], attributes := #[] }
def k8m9 : Method := { name := "<init>", desc := "([CIILjava/lang/Void;)V", sig := { parameters := [(.array .char), .int, .int, (.object "java/lang/Void")], returnType := none }, accessFlags := 2, code := some k8c9 }
def k8c10 : Code := { maxStack := 5, maxLocals := 5, code := jdk_42_method_150_code, exceptionTable := #[], attributes := #[] }
def k8m10 : Method := { name := "<init>", desc := "(Ljava/lang/AbstractStringBuilder;Ljava/lang/Void;)V", sig := { parameters := [(.object "java/lang/AbstractStringBuilder"), (.object "java/lang/Void")], returnType := none }, accessFlags := 0, code := some k8c10 }
def k8c11 : Code := { maxStack := 2, maxLocals := 3, code := jdk_42_method_151_code, exceptionTable := #[], attributes := #[] }
def k8m11 : Method := { name := "<init>", desc := "([BB)V", sig := { parameters := [(.array .byte), .byte], returnType := none }, accessFlags := 0, code := some k8c11 }
def k8c12 : Code := { maxStack := 1, maxLocals := 1, code := jdk_42_method_152_code, exceptionTable := #[], attributes := #[] }
def k8m12 : Method := { name := "coder", desc := "()B", sig := { parameters := [], returnType := some .byte }, accessFlags := 0, code := some k8c12 }
def k8c13 : Code := { maxStack := 1, maxLocals := 1, code := jdk_42_method_154_code, exceptionTable := #[], attributes := #[] }
def k8m13 : Method := { name := "isLatin1", desc := "()Z", sig := { parameters := [], returnType := some .boolean }, accessFlags := 0, code := some k8c13 }
def k8c14 : Code := { maxStack := 3, maxLocals := 2, code := jdk_42_method_155_code, exceptionTable := #[], attributes := #[] }
def k8m14 : Method := { name := "checkIndex", desc := "(II)V", sig := { parameters := [.int, .int], returnType := none }, accessFlags := 8, code := some k8c14 }
/-- java/lang/String -/
def k8 : Class := { plain "java/lang/String" (some 0) with
  accessFlags := 49
  interfaces := #[3, 4, 5, 6, 7]
  cf := some (fileOf pool8 10 #[.nestMembers #[1103]] #[{ accessFlags := 1, nameIndex := 5, descriptorIndex := 6, attributes := #[] }, { accessFlags := 1, nameIndex := 5, descriptorIndex := 1010, attributes := #[] }, { accessFlags := 1, nameIndex := 5, descriptorIndex := 1233, attributes := #[] }, { accessFlags := 1, nameIndex := 507, descriptorIndex := 334, attributes := #[] }, { accessFlags := 1, nameIndex := 692, descriptorIndex := 142, attributes := #[] }, { accessFlags := 1, nameIndex := 497, descriptorIndex := 427, attributes := #[] }, { accessFlags := 1, nameIndex := 543, descriptorIndex := 573, attributes := #[] }, { accessFlags := 9, nameIndex := 782, descriptorIndex := 783, attributes := #[] }, { accessFlags := 0, nameIndex := 532, descriptorIndex := 821, attributes := #[] }, { accessFlags := 2, nameIndex := 5, descriptorIndex := 29, attributes := #[] }, { accessFlags := 0, nameIndex := 5, descriptorIndex := 491, attributes := #[] }, { accessFlags := 0, nameIndex := 5, descriptorIndex := 211, attributes := #[] }, { accessFlags := 0, nameIndex := 17, descriptorIndex := 337, attributes := #[] }, { accessFlags := 0, nameIndex := 494, descriptorIndex := 142, attributes := #[] }, { accessFlags := 8, nameIndex := 501, descriptorIndex := 391, attributes := #[] }] 49 2 #[1106, 1108, 575, 1110, 1112] #[{ accessFlags := 18, nameIndex := 13, descriptorIndex := 14, attributes := #[] }, { accessFlags := 18, nameIndex := 17, descriptorIndex := 18, attributes := #[] }, { accessFlags := 2, nameIndex := 21, descriptorIndex := 22, attributes := #[] }, { accessFlags := 2, nameIndex := 25, descriptorIndex := 26, attributes := #[] }, { accessFlags := 26, nameIndex := 1116, descriptorIndex := 1117, attributes := #[] }, { accessFlags := 24, nameIndex := 40, descriptorIndex := 26, attributes := #[] }, { accessFlags := 26, nameIndex := 1101, descriptorIndex := 1102, attributes := #[] }, { accessFlags := 26, nameIndex := 1121, descriptorIndex := 1122, attributes := #[] }, { accessFlags := 25, nameIndex := 599, descriptorIndex := 600, attributes := #[] }, { accessFlags := 24, nameIndex := 1125, descriptorIndex := 18, attributes := #[] }, { accessFlags := 24, nameIndex := 1127, descriptorIndex := 18, attributes := #[] }])
  fields := #[{ name := "value", type := (.array .byte), accessFlags := 18, slot := 0, constantValue := 0 }, { name := "coder", type := .byte, accessFlags := 18, slot := 1, constantValue := 0 }, { name := "hash", type := .int, accessFlags := 2, slot := 2, constantValue := 0 }, { name := "hashIsZero", type := .boolean, accessFlags := 2, slot := 3, constantValue := 0 }, { name := "serialVersionUID", type := .long, accessFlags := 26, slot := 0, constantValue := 0 }, { name := "COMPACT_STRINGS", type := .boolean, accessFlags := 24, slot := 1, constantValue := 0 }, { name := "serialPersistentFields", type := (.array (.object "java/io/ObjectStreamField")), accessFlags := 26, slot := 2, constantValue := 0 }, { name := "REPL", type := .char, accessFlags := 26, slot := 3, constantValue := 0 }, { name := "CASE_INSENSITIVE_ORDER", type := (.object "java/util/Comparator"), accessFlags := 25, slot := 4, constantValue := 0 }, { name := "LATIN1", type := .byte, accessFlags := 24, slot := 5, constantValue := 0 }, { name := "UTF16", type := .byte, accessFlags := 24, slot := 6, constantValue := 0 }]
  methods := #[k8m0, k8m1, k8m2, k8m3, k8m4, k8m5, k8m6, k8m7, k8m8, k8m9, k8m10, k8m11, k8m12, k8m13, k8m14]
  instanceTypes := #[(.array .byte), .byte, .int, .boolean]
  staticTypes := #[.long, .boolean, (.array (.object "java/io/ObjectStreamField")), .char, (.object "java/util/Comparator"), .byte, .byte]
  resolved := Array.replicate 1451 none
  statics := some 0 }

def pool9 : Array CpInfo := pool [(1, .class_ 2), (0, u "java/lang/String"), (1, .class_ 6), (1, u "java/lang/Object"), (0, u "<init>"), (0, u "()V"), (0, .methodref 1 10), (0, .nameAndType 11 12), (0, u "checkIndex"), (0, u "(II)V"), (1, .class_ 16), (1, u "java/lang/StringLatin1"), (36, u "([BI)C"), (36, u "canEncode"), (14, u "(C)Z"), (15, u "$assertionsDisabled"), (0, u "Z"), (98, .class_ 223), (1, u "java/lang/StringLatin1$LinesSpliterator"), (28, u "charAt"), (28, u "equals"), (0, u "([B[B)Z"), (97, u "toBytes"), (1, u "(C)[B"), (7, .class_ 391), (0, u "java/lang/StringLatin1$CharsSpliterator")] 3

def k9m0 : Method := { name := "<init>", desc := "()V", sig := { parameters := [], returnType := none }, accessFlags := 0, code := none }
def k9c1 : Code := { maxStack := 2, maxLocals := 2, code := jdk_43_method_2_code, exceptionTable := #[], attributes := #[] }
def k9m1 : Method := { name := "charAt", desc := "([BI)C", sig := { parameters := [(.array .byte), .int], returnType := some .char }, accessFlags := 9, code := some k9c1 }
def k9c2 : Code := { maxStack := 2, maxLocals := 1, code := jdk_43_method_3_code, exceptionTable := #[], attributes := #[] }
def k9m2 : Method := { name := "canEncode", desc := "(C)Z", sig := { parameters := [.char], returnType := some .boolean }, accessFlags := 9, code := some k9c2 }
def k9c3 : Code := { maxStack := 3, maxLocals := 3, code := jdk_43_method_13_code, exceptionTable := #[], attributes := #[] }
def k9m3 : Method := { name := "equals", desc := "([B[B)Z", sig := { parameters := [(.array .byte), (.array .byte)], returnType := some .boolean }, accessFlags := 9, code := some k9c3 }
def k9c4 : Code := { maxStack := 4, maxLocals := 1, code := jdk_43_method_46_code, exceptionTable := #[], attributes := #[] }
def k9m4 : Method := { name := "toBytes", desc := "(C)[B", sig := { parameters := [.char], returnType := some (.array .byte) }, accessFlags := 9, code := some k9c4 }
/-- java/lang/StringLatin1 -/
def k9 : Class := { plain "java/lang/StringLatin1" (some 0) with
  accessFlags := 48
  interfaces := #[]
  cf := some (fileOf pool9 14 #[.nestMembers #[390, 221]] #[{ accessFlags := 0, nameIndex := 7, descriptorIndex := 8, attributes := #[] }, { accessFlags := 9, nameIndex := 252, descriptorIndex := 53, attributes := #[] }, { accessFlags := 9, nameIndex := 90, descriptorIndex := 105, attributes := #[] }, { accessFlags := 9, nameIndex := 281, descriptorIndex := 282, attributes := #[] }, { accessFlags := 9, nameIndex := 380, descriptorIndex := 382, attributes := #[] }] 48 4 #[] #[{ accessFlags := 4120, nameIndex := 121, descriptorIndex := 122, attributes := #[] }])
  fields := #[{ name := "$assertionsDisabled", type := .boolean, accessFlags := 4120, slot := 0, constantValue := 0 }]
  methods := #[k9m0, k9m1, k9m2, k9m3, k9m4]
  instanceTypes := #[]
  staticTypes := #[.boolean]
  resolved := Array.replicate 395 none
  statics := none }

def pool10 : Array CpInfo := pool [(2, .class_ 4), (1, u "java/lang/Object"), (0, u "<init>"), (0, u "()V"), (17, .class_ 26), (1, u "jdk/internal/util/Preconditions"), (6, u "checkIndex"), (21, .class_ 56), (0, u "jdk/internal/util/Preconditions$4"), (57, .class_ 115), (0, u "jdk/internal/util/Preconditions$1"), (7, u "SIOOBE_FORMATTER"), (0, u "Ljava/util/function/BiFunction;"), (0, .class_ 126), (0, u "jdk/internal/util/Preconditions$2"), (3, u "AIOOBE_FORMATTER"), (0, .class_ 132), (0, u "jdk/internal/util/Preconditions$3"), (3, u "IOOBE_FORMATTER"), (41, u "(IILjava/util/function/BiFunction;)I")] 15

def k10m0 : Method := { name := "<init>", desc := "()V", sig := { parameters := [], returnType := none }, accessFlags := 1, code := none }
def k10c1 : Code := { maxStack := 3, maxLocals := 3, code := jdk_41_method_11_code, exceptionTable := #[], attributes := #[] }
def k10m1 : Method := { name := "checkIndex", desc := "(IILjava/util/function/BiFunction;)I", sig := { parameters := [.int, .int, (.object "java/util/function/BiFunction")], returnType := some .int }, accessFlags := 9, code := some k10c1 }
/-- jdk/internal/util/Preconditions -/
def k10 : Class := { plain "jdk/internal/util/Preconditions" (some 0) with
  accessFlags := 33
  interfaces := #[]
  cf := some (fileOf pool10 24 #[.nestMembers #[55, 131, 125, 114]] #[{ accessFlags := 1, nameIndex := 5, descriptorIndex := 6, attributes := #[] }, { accessFlags := 9, nameIndex := 33, descriptorIndex := 178, attributes := #[] }] 33 2 #[] #[{ accessFlags := 25, nameIndex := 123, descriptorIndex := 124, attributes := #[] }, { accessFlags := 25, nameIndex := 130, descriptorIndex := 124, attributes := #[] }, { accessFlags := 25, nameIndex := 136, descriptorIndex := 124, attributes := #[] }])
  fields := #[{ name := "SIOOBE_FORMATTER", type := (.object "java/util/function/BiFunction"), accessFlags := 25, slot := 0, constantValue := 0 }, { name := "AIOOBE_FORMATTER", type := (.object "java/util/function/BiFunction"), accessFlags := 25, slot := 1, constantValue := 0 }, { name := "IOOBE_FORMATTER", type := (.object "java/util/function/BiFunction"), accessFlags := 25, slot := 2, constantValue := 0 }]
  methods := #[k10m0, k10m1]
  instanceTypes := #[]
  staticTypes := #[(.object "java/util/function/BiFunction"), (.object "java/util/function/BiFunction"), (.object "java/util/function/BiFunction")]
  resolved := Array.replicate 194 none
  statics := some 1 }

def pool11 : Array CpInfo := pool [(2, .class_ 4), (1, u "java/lang/Object"), (0, u "<init>"), (0, u "()V"), (35, .class_ 44), (1, u "java/util/Objects"), (0, u "requireNonNull"), (48, u "(Ljava/lang/Object;Ljava/lang/String;)Ljava/lang/Object;")] 89

def k11m0 : Method := { name := "<init>", desc := "()V", sig := { parameters := [], returnType := none }, accessFlags := 2, code := none }
def k11c1 : Code := { maxStack := 3, maxLocals := 2, code := jdk_31_method_11_code, exceptionTable := #[], attributes := #[] }
def k11m1 : Method := { name := "requireNonNull", desc := "(Ljava/lang/Object;Ljava/lang/String;)Ljava/lang/Object;", sig := { parameters := [(.object "java/lang/Object"), (.object "java/lang/String")], returnType := some (.object "java/lang/Object") }, accessFlags := 9, code := some k11c1 }
/-- java/util/Objects -/
def k11 : Class := { plain "java/util/Objects" (some 0) with
  accessFlags := 49
  interfaces := #[]
  cf := some (fileOf pool11 42 #[] #[{ accessFlags := 2, nameIndex := 5, descriptorIndex := 6, attributes := #[] }, { accessFlags := 9, nameIndex := 45, descriptorIndex := 94, attributes := #[] }] 49 2 #[] #[])
  fields := #[]
  methods := #[k11m0, k11m1]
  instanceTypes := #[]
  staticTypes := #[]
  resolved := Array.replicate 184 none
  statics := none }

def pool12 : Array CpInfo := pool [(1, .class_ 2), (0, u "java/lang/Appendable"), (0, .class_ 4), (0, u "java/lang/Object")] 9

/-- java/lang/Appendable -/
def k12 : Class := { plain "java/lang/Appendable" (some 0) with
  accessFlags := 1537
  interfaces := #[]
  cf := some (fileOf pool12 1 #[] #[] 1537 3 #[] #[])
  fields := #[]
  methods := #[]
  instanceTypes := #[]
  staticTypes := #[]
  resolved := Array.replicate 14 none
  statics := none }

def pool13 : Array CpInfo := pool [(1, .class_ 2), (0, u "java/lang/String"), (0, .methodref 4 5), (0, .class_ 6), (0, .nameAndType 7 8), (0, u "java/lang/Object"), (0, u "<init>"), (0, u "()V"), (1, .class_ 12), (1, u "java/lang/AbstractStringBuilder"), (0, u "EMPTYVALUE"), (0, u "[B"), (0, .fieldref 10 16), (0, .nameAndType 17 14), (0, u "value"), (0, .fieldref 1 19), (0, .nameAndType 20 21), (0, u "COMPACT_STRINGS"), (0, u "Z"), (0, .fieldref 10 23), (0, .nameAndType 24 25), (0, u "coder"), (0, u "B"), (6, .methodref 1 33), (0, .nameAndType 34 35), (0, u "length"), (0, u "()I"), (4, .methodref 1 41), (0, .nameAndType 24 42), (0, u "()B"), (2, u "append"), (0, u "(Ljava/lang/String;)Ljava/lang/AbstractStringBuilder;"), (1, .class_ 49), (0, u "java/lang/CharSequence"), (19, u "(Ljava/lang/String;)V"), (5, u "maybeLatin1"), (3, .fieldref 10 80), (0, .nameAndType 81 82), (0, u "count"), (0, u "I"), (2, u "isLatin1"), (0, u "()Z"), (13, .methodref 10 101), (0, .nameAndType 102 103), (0, u "ensureCapacityInternal"), (0, u "(I)V"), (104, .methodref 10 209), (0, .nameAndType 210 211), (0, u "putStringAt"), (0, u "(ILjava/lang/String;)V"), (5, u "inflateIfNeededFor"), (2, .nameAndType 221 222), (0, u "getBytes"), (0, u "([BIB)V"), (174, .methodref 10 398), (0, .nameAndType 217 69), (0, .methodref 1 220), (3, u "()[B"), (40, .class_ 445), (0, u "java/lang/Appendable"), (106, u "getValue")] 56

def k13m0 : Method := { name := "<init>", desc := "()V", sig := { parameters := [], returnType := none }, accessFlags := 0, code := none }
def k13c1 : Code := { maxStack := 2, maxLocals := 2, code := jdk_68_method_2_code, exceptionTable := #[], attributes := #[] }
def k13m1 : Method := { name := "<init>", desc := "(I)V", sig := { parameters := [.int], returnType := none }, accessFlags := 0, code := some k13c1 }
def k13c2 : Code := { maxStack := 1, maxLocals := 1, code := jdk_68_method_6_code, exceptionTable := #[], attributes := #[] }
def k13m2 : Method := { name := "length", desc := "()I", sig := { parameters := [], returnType := some .int }, accessFlags := 1, code := some k13c2 }
def k13c3 : Code := { maxStack := 4, maxLocals := 3, code := jdk_68_method_9_code, exceptionTable := #[], attributes := #[] }
def k13m3 : Method := { name := "ensureCapacityInternal", desc := "(I)V", sig := { parameters := [.int], returnType := none }, accessFlags := 2, code := some k13c3 }
def k13c4 : Code := { maxStack := 3, maxLocals := 3, code := jdk_68_method_22_code, exceptionTable := #[], attributes := #[] }
def k13m4 : Method := { name := "append", desc := "(Ljava/lang/String;)Ljava/lang/AbstractStringBuilder;", sig := { parameters := [(.object "java/lang/String")], returnType := some (.object "java/lang/AbstractStringBuilder") }, accessFlags := 1, code := some k13c4 }
def k13c5 : Code := { maxStack := 1, maxLocals := 1, code := jdk_68_method_64_code, exceptionTable := #[], attributes := #[] }
def k13m5 : Method := { name := "getValue", desc := "()[B", sig := { parameters := [], returnType := some (.array .byte) }, accessFlags := 16, code := some k13c5 }
def k13c6 : Code := { maxStack := 1, maxLocals := 1, code := jdk_68_method_68_code, exceptionTable := #[], attributes := #[] }
def k13m6 : Method := { name := "isLatin1", desc := "()Z", sig := { parameters := [], returnType := some .boolean }, accessFlags := 16, code := some k13c6 }
def k13c7 : Code := { maxStack := 2, maxLocals := 2, code := jdk_68_method_71_code, exceptionTable := #[], attributes := #[] }
def k13m7 : Method := { name := "inflateIfNeededFor", desc := "(Ljava/lang/String;)V", sig := { parameters := [(.object "java/lang/String")], returnType := none }, accessFlags := 2, code := some k13c7 }
def k13c8 : Code := { maxStack := 4, maxLocals := 3, code := jdk_68_method_73_code, exceptionTable := #[], attributes := #[] }
def k13m8 : Method := { name := "putStringAt", desc := "(ILjava/lang/String;)V", sig := { parameters := [.int, (.object "java/lang/String")], returnType := none }, accessFlags := 2, code := some k13c8 }
/-- java/lang/AbstractStringBuilder -/
def k13 : Class := { plain "java/lang/AbstractStringBuilder" (some 0) with
  accessFlags := 1056
  interfaces := #[12, 5]
  cf := some (fileOf pool13 10 #[] #[{ accessFlags := 0, nameIndex := 7, descriptorIndex := 8, attributes := #[] }, { accessFlags := 0, nameIndex := 7, descriptorIndex := 103, attributes := #[] }, { accessFlags := 1, nameIndex := 34, descriptorIndex := 35, attributes := #[] }, { accessFlags := 2, nameIndex := 102, descriptorIndex := 103, attributes := #[] }, { accessFlags := 1, nameIndex := 45, descriptorIndex := 46, attributes := #[] }, { accessFlags := 16, nameIndex := 552, descriptorIndex := 403, attributes := #[] }, { accessFlags := 16, nameIndex := 85, descriptorIndex := 86, attributes := #[] }, { accessFlags := 2, nameIndex := 217, descriptorIndex := 69, attributes := #[] }, { accessFlags := 2, nameIndex := 210, descriptorIndex := 211, attributes := #[] }] 1056 4 #[444, 48] #[{ accessFlags := 0, nameIndex := 17, descriptorIndex := 14, attributes := #[] }, { accessFlags := 0, nameIndex := 24, descriptorIndex := 25, attributes := #[] }, { accessFlags := 0, nameIndex := 75, descriptorIndex := 21, attributes := #[] }, { accessFlags := 0, nameIndex := 81, descriptorIndex := 82, attributes := #[] }, { accessFlags := 26, nameIndex := 13, descriptorIndex := 14, attributes := #[] }])
  fields := #[{ name := "value", type := (.array .byte), accessFlags := 0, slot := 0, constantValue := 0 }, { name := "coder", type := .byte, accessFlags := 0, slot := 1, constantValue := 0 }, { name := "maybeLatin1", type := .boolean, accessFlags := 0, slot := 2, constantValue := 0 }, { name := "count", type := .int, accessFlags := 0, slot := 3, constantValue := 0 }, { name := "EMPTYVALUE", type := (.array .byte), accessFlags := 26, slot := 0, constantValue := 0 }]
  methods := #[k13m0, k13m1, k13m2, k13m3, k13m4, k13m5, k13m6, k13m7, k13m8]
  instanceTypes := #[(.array .byte), .byte, .boolean, .int]
  staticTypes := #[(.array .byte)]
  resolved := Array.replicate 609 none
  statics := none }

def pool14 : Array CpInfo := pool [(1, .methodref 2 3), (0, .class_ 4), (0, .nameAndType 5 6), (0, u "java/lang/AbstractStringBuilder"), (0, u "<init>"), (0, u "(I)V"), (11, .class_ 20), (1, u "java/lang/String"), (3, .class_ 26), (1, u "java/lang/StringBuilder"), (0, u "append"), (0, u "(Ljava/lang/String;)Ljava/lang/StringBuilder;"), (0, .methodref 2 30), (0, .nameAndType 27 31), (0, u "(Ljava/lang/String;)Ljava/lang/AbstractStringBuilder;"), (105, .methodref 18 138), (0, .nameAndType 5 139), (0, u "(Ljava/lang/StringBuilder;)V"), (5, u "()V"), (10, u "()I"), (186, .methodref 2 344), (0, .nameAndType 345 156), (0, u "length"), (3, .class_ 350), (0, u "java/lang/Appendable"), (0, .class_ 352), (0, u "java/io/Serializable"), (0, .class_ 354), (0, u "java/lang/Comparable"), (0, .class_ 356), (0, u "java/lang/CharSequence"), (0, u "serialVersionUID"), (0, u "J"), (40, u "toString"), (0, u "()Ljava/lang/String;")] 21

def k14c0 : Code := { maxStack := 2, maxLocals := 1, code := jdk_67_method_1_code, exceptionTable := #[], attributes := #[] }
def k14m0 : Method := { name := "<init>", desc := "()V", sig := { parameters := [], returnType := none }, accessFlags := 1, code := some k14c0 }
def k14c1 : Code := { maxStack := 2, maxLocals := 2, code := jdk_67_method_7_code, exceptionTable := #[], attributes := #[] }
def k14m1 : Method := { name := "append", desc := "(Ljava/lang/String;)Ljava/lang/StringBuilder;", sig := { parameters := [(.object "java/lang/String")], returnType := some (.object "java/lang/StringBuilder") }, accessFlags := 1, code := some k14c1 }
def k14c2 : Code := { maxStack := 3, maxLocals := 1, code := jdk_67_method_42_code, exceptionTable := #[], attributes := #[] }
def k14m2 : Method := { name := "toString", desc := "()Ljava/lang/String;", sig := { parameters := [], returnType := some (.object "java/lang/String") }, accessFlags := 1, code := some k14c2 }
def k14c3 : Code := { maxStack := 1, maxLocals := 1, code := jdk_67_method_93_code, exceptionTable := #[], attributes := #[] }
def k14m3 : Method := { name := "length", desc := "()I", sig := { parameters := [], returnType := some .int }, accessFlags := 4161, code := some k14c3 }
/-- java/lang/StringBuilder -/
def k14 : Class := { plain "java/lang/StringBuilder" (some 13) with
  accessFlags := 49
  interfaces := #[12, 3, 4, 5]
  cf := some (fileOf pool14 24 #[] #[{ accessFlags := 1, nameIndex := 5, descriptorIndex := 145, attributes := #[] }, { accessFlags := 1, nameIndex := 27, descriptorIndex := 28, attributes := #[] }, { accessFlags := 1, nameIndex := 399, descriptorIndex := 400, attributes := #[] }, { accessFlags := 4161, nameIndex := 345, descriptorIndex := 156, attributes := #[] }] 49 2 #[349, 351, 353, 355] #[{ accessFlags := 24, nameIndex := 357, descriptorIndex := 358, attributes := #[] }])
  fields := #[{ name := "serialVersionUID", type := .long, accessFlags := 24, slot := 0, constantValue := 0 }]
  methods := #[k14m0, k14m1, k14m2, k14m3]
  instanceTypes := #[(.array .byte), .byte, .boolean, .int]
  staticTypes := #[.long]
  resolved := Array.replicate 422 none
  statics := none }

def pool15 : Array CpInfo := pool [(2, .class_ 4), (1, u "java/lang/Object"), (0, u "<init>"), (0, u "()V"), (1, .class_ 10), (1, u "java/lang/System"), (0, u "allowSecurityManager"), (0, u "I"), (16, u "cons"), (0, u "Ljava/io/Console;"), (77, .class_ 110), (1, u "java/lang/System$CallersHolder"), (43, u "initialErrStream"), (0, u "Ljava/io/PrintStream;"), (19, u "security"), (0, u "Ljava/lang/SecurityManager;"), (31, .class_ 209), (0, u "java/lang/System$1"), (7, u "props"), (0, u "Ljava/util/Properties;"), (2, u "lineSeparator"), (0, u "Ljava/lang/String;"), (96, .class_ 321), (1, u "java/lang/System$LoggerFinder"), (5, .class_ 328), (0, u "java/lang/System$Logger"), (67, u "err"), (2, u "out"), (91, u "notSupportedJnuEncoding"), (15, u "in"), (17, u "initialIn"), (0, u "Ljava/io/InputStream;"), (35, u "bootLayer"), (0, u "Ljava/lang/ModuleLayer;"), (99, .class_ 664), (0, u "java/lang/System$2"), (9, u "NEVER"), (2, u "MAYBE"), (49, u "arraycopy"), (0, u "(Ljava/lang/Object;ILjava/lang/Object;II)V"), (72, .class_ 802), (0, u "java/lang/System$Logger$Level")] 31

def k15m0 : Method := { name := "<init>", desc := "()V", sig := { parameters := [], returnType := none }, accessFlags := 2, code := none }
def k15m1 : Method := { name := "arraycopy", desc := "(Ljava/lang/Object;ILjava/lang/Object;II)V", sig := { parameters := [(.object "java/lang/Object"), .int, (.object "java/lang/Object"), .int, .int], returnType := none }, accessFlags := 265, code := none }
/-- java/lang/System -/
def k15 : Class := { plain "java/lang/System" (some 0) with
  accessFlags := 49
  interfaces := #[]
  cf := some (fileOf pool15 8 #[.nestMembers #[319, 327, 801, 108, 663, 208]] #[{ accessFlags := 2, nameIndex := 5, descriptorIndex := 6, attributes := #[] }, { accessFlags := 265, nameIndex := 727, descriptorIndex := 728, attributes := #[] }] 49 2 #[] #[{ accessFlags := 25, nameIndex := 507, descriptorIndex := 526, attributes := #[] }, { accessFlags := 25, nameIndex := 399, descriptorIndex := 155, attributes := #[] }, { accessFlags := 25, nameIndex := 396, descriptorIndex := 155, attributes := #[] }, { accessFlags := 10, nameIndex := 525, descriptorIndex := 526, attributes := #[] }, { accessFlags := 26, nameIndex := 674, descriptorIndex := 12, attributes := #[] }, { accessFlags := 26, nameIndex := 677, descriptorIndex := 12, attributes := #[] }, { accessFlags := 10, nameIndex := 11, descriptorIndex := 12, attributes := #[] }, { accessFlags := 74, nameIndex := 175, descriptorIndex := 176, attributes := #[] }, { accessFlags := 10, nameIndex := 491, descriptorIndex := 222, attributes := #[] }, { accessFlags := 74, nameIndex := 29, descriptorIndex := 30, attributes := #[] }, { accessFlags := 74, nameIndex := 154, descriptorIndex := 155, attributes := #[] }, { accessFlags := 10, nameIndex := 217, descriptorIndex := 218, attributes := #[] }, { accessFlags := 10, nameIndex := 221, descriptorIndex := 222, attributes := #[] }, { accessFlags := 8, nameIndex := 562, descriptorIndex := 563, attributes := #[] }])
  fields := #[{ name := "in", type := (.object "java/io/InputStream"), accessFlags := 25, slot := 0, constantValue := 0 }, { name := "out", type := (.object "java/io/PrintStream"), accessFlags := 25, slot := 1, constantValue := 0 }, { name := "err", type := (.object "java/io/PrintStream"), accessFlags := 25, slot := 2, constantValue := 0 }, { name := "initialIn", type := (.object "java/io/InputStream"), accessFlags := 10, slot := 3, constantValue := 0 }, { name := "NEVER", type := .int, accessFlags := 26, slot := 4, constantValue := 0 }, { name := "MAYBE", type := .int, accessFlags := 26, slot := 5, constantValue := 0 }, { name := "allowSecurityManager", type := .int, accessFlags := 10, slot := 6, constantValue := 0 }, { name := "security", type := (.object "java/lang/SecurityManager"), accessFlags := 74, slot := 7, constantValue := 0 }, { name := "notSupportedJnuEncoding", type := (.object "java/lang/String"), accessFlags := 10, slot := 8, constantValue := 0 }, { name := "cons", type := (.object "java/io/Console"), accessFlags := 74, slot := 9, constantValue := 0 }, { name := "initialErrStream", type := (.object "java/io/PrintStream"), accessFlags := 74, slot := 10, constantValue := 0 }, { name := "props", type := (.object "java/util/Properties"), accessFlags := 10, slot := 11, constantValue := 0 }, { name := "lineSeparator", type := (.object "java/lang/String"), accessFlags := 10, slot := 12, constantValue := 0 }, { name := "bootLayer", type := (.object "java/lang/ModuleLayer"), accessFlags := 8, slot := 13, constantValue := 0 }]
  methods := #[k15m0, k15m1]
  instanceTypes := #[]
  staticTypes := #[(.object "java/io/InputStream"), (.object "java/io/PrintStream"), (.object "java/io/PrintStream"), (.object "java/io/InputStream"), .int, .int, .int, (.object "java/lang/SecurityManager"), (.object "java/lang/String"), (.object "java/io/Console"), (.object "java/io/PrintStream"), (.object "java/util/Properties"), (.object "java/lang/String"), (.object "java/lang/ModuleLayer")]
  resolved := Array.replicate 834 none
  statics := none }

def pool16 : Array CpInfo := pool [(2, .class_ 4), (1, u "java/lang/Object"), (0, u "<init>"), (0, u "()V"), (7, .class_ 16), (1, u "java/util/Arrays"), (57, .class_ 76), (1, u "java/util/Arrays$NaturalOrder"), (36, .class_ 115), (1, u "java/util/Arrays$LegacyMergeSort"), (1, u "Z"), (21, u "copyOfRange"), (10, .methodref 151 152), (0, .class_ 153), (0, .nameAndType 154 155), (0, u "java/lang/System"), (0, u "arraycopy"), (0, u "(Ljava/lang/Object;ILjava/lang/Object;II)V"), (148, .methodref 305 306), (0, .class_ 307), (0, .nameAndType 308 309), (0, u "java/lang/Math"), (0, u "min"), (0, u "(II)I"), (29, .methodref 14 340), (0, .nameAndType 341 342), (0, u "copyOfRangeByte"), (0, u "([BII)[B"), (0, .methodref 14 344), (0, .nameAndType 345 346), (0, u "checkLength"), (0, u "(II)V"), (28, .class_ 376), (0, u "java/util/Arrays$ArrayList"), (68, u "$assertionsDisabled"), (269, u "MIN_ARRAY_SORT_GRAN"), (0, u "I"), (2, u "INSERTIONSORT_THRESHOLD"), (255, .class_ 976), (0, u "java/util/Arrays$ArrayItr")] 52

def k16m0 : Method := { name := "<init>", desc := "()V", sig := { parameters := [], returnType := none }, accessFlags := 2, code := none }
def k16c1 : Code := { maxStack := 4, maxLocals := 2, code := jdk_65_method_131_code, exceptionTable := #[], attributes := #[] }
def k16m1 : Method := { name := "checkLength", desc := "(II)V", sig := { parameters := [.int, .int], returnType := none }, accessFlags := 10, code := some k16c1 }
def k16c2 : Code := { maxStack := 3, maxLocals := 3, code := jdk_65_method_132_code, exceptionTable := #[], attributes := #[] }
def k16m2 : Method := { name := "copyOfRange", desc := "([BII)[B", sig := { parameters := [(.array .byte), .int, .int], returnType := some (.array .byte) }, accessFlags := 9, code := some k16c2 }
def k16c3 : Code := { maxStack := 6, maxLocals := 5, code := jdk_65_method_133_code, exceptionTable := #[], attributes := #[] }
def k16m3 : Method := { name := "copyOfRangeByte", desc := "([BII)[B", sig := { parameters := [(.array .byte), .int, .int], returnType := some (.array .byte) }, accessFlags := 10, code := some k16c3 }
/-- java/util/Arrays -/
def k16 : Class := { plain "java/util/Arrays" (some 0) with
  accessFlags := 49
  interfaces := #[]
  cf := some (fileOf pool16 14 #[.nestMembers #[975, 375, 113, 74]] #[{ accessFlags := 2, nameIndex := 5, descriptorIndex := 6, attributes := #[] }, { accessFlags := 10, nameIndex := 345, descriptorIndex := 346, attributes := #[] }, { accessFlags := 9, nameIndex := 139, descriptorIndex := 342, attributes := #[] }, { accessFlags := 10, nameIndex := 341, descriptorIndex := 342, attributes := #[] }] 49 2 #[] #[{ accessFlags := 26, nameIndex := 715, descriptorIndex := 716, attributes := #[] }, { accessFlags := 26, nameIndex := 719, descriptorIndex := 716, attributes := #[] }, { accessFlags := 4120, nameIndex := 445, descriptorIndex := 117, attributes := #[] }])
  fields := #[{ name := "MIN_ARRAY_SORT_GRAN", type := .int, accessFlags := 26, slot := 0, constantValue := 0 }, { name := "INSERTIONSORT_THRESHOLD", type := .int, accessFlags := 26, slot := 1, constantValue := 0 }, { name := "$assertionsDisabled", type := .boolean, accessFlags := 4120, slot := 2, constantValue := 0 }]
  methods := #[k16m0, k16m1, k16m2, k16m3]
  instanceTypes := #[]
  staticTypes := #[.int, .int, .boolean]
  resolved := Array.replicate 1029 none
  statics := none }

def pool17 : Array CpInfo := pool [(1, .class_ 2), (0, u "java/lang/Math"), (1, .class_ 6), (1, u "java/lang/Object"), (0, u "<init>"), (0, u "()V"), (89, .class_ 100), (1, u "java/lang/Math$RandomNumberGeneratorHolder"), (71, u "negativeZeroFloatBits"), (0, u "J"), (2, u "negativeZeroDoubleBits"), (24, u "min"), (43, u "$assertionsDisabled"), (0, u "Z"), (88, u "(II)I"), (2, u "twoToTheDoubleScaleDown"), (0, u "D"), (4, u "twoToTheDoubleScaleUp"), (9, u "E"), (3, u "PI"), (2, u "TAU"), (2, u "DEGREES_TO_RADIANS"), (0, u "RADIANS_TO_DEGREES")] 94

def k17m0 : Method := { name := "<init>", desc := "()V", sig := { parameters := [], returnType := none }, accessFlags := 2, code := none }
def k17c1 : Code := { maxStack := 2, maxLocals := 2, code := jdk_29_method_69_code, exceptionTable := #[], attributes := #[] }
def k17m1 : Method := { name := "min", desc := "(II)I", sig := { parameters := [.int, .int], returnType := some .int }, accessFlags := 9, code := some k17c1 }
/-- java/lang/Math -/
def k17 : Class := { plain "java/lang/Math" (some 0) with
  accessFlags := 49
  interfaces := #[]
  cf := some (fileOf pool17 1 #[.nestMembers #[98]] #[{ accessFlags := 2, nameIndex := 7, descriptorIndex := 8, attributes := #[] }, { accessFlags := 9, nameIndex := 201, descriptorIndex := 335, attributes := #[] }] 49 4 #[] #[{ accessFlags := 25, nameIndex := 354, descriptorIndex := 339, attributes := #[] }, { accessFlags := 25, nameIndex := 358, descriptorIndex := 339, attributes := #[] }, { accessFlags := 25, nameIndex := 361, descriptorIndex := 339, attributes := #[] }, { accessFlags := 26, nameIndex := 364, descriptorIndex := 339, attributes := #[] }, { accessFlags := 26, nameIndex := 365, descriptorIndex := 339, attributes := #[] }, { accessFlags := 26, nameIndex := 172, descriptorIndex := 173, attributes := #[] }, { accessFlags := 26, nameIndex := 176, descriptorIndex := 173, attributes := #[] }, { accessFlags := 8, nameIndex := 344, descriptorIndex := 339, attributes := #[] }, { accessFlags := 8, nameIndex := 338, descriptorIndex := 339, attributes := #[] }, { accessFlags := 4120, nameIndex := 245, descriptorIndex := 246, attributes := #[] }])
  fields := #[{ name := "E", type := .double, accessFlags := 25, slot := 0, constantValue := 0 }, { name := "PI", type := .double, accessFlags := 25, slot := 1, constantValue := 0 }, { name := "TAU", type := .double, accessFlags := 25, slot := 2, constantValue := 0 }, { name := "DEGREES_TO_RADIANS", type := .double, accessFlags := 26, slot := 3, constantValue := 0 }, { name := "RADIANS_TO_DEGREES", type := .double, accessFlags := 26, slot := 4, constantValue := 0 }, { name := "negativeZeroFloatBits", type := .long, accessFlags := 26, slot := 5, constantValue := 0 }, { name := "negativeZeroDoubleBits", type := .long, accessFlags := 26, slot := 6, constantValue := 0 }, { name := "twoToTheDoubleScaleUp", type := .double, accessFlags := 8, slot := 7, constantValue := 0 }, { name := "twoToTheDoubleScaleDown", type := .double, accessFlags := 8, slot := 8, constantValue := 0 }, { name := "$assertionsDisabled", type := .boolean, accessFlags := 4120, slot := 9, constantValue := 0 }]
  methods := #[k17m0, k17m1]
  instanceTypes := #[]
  staticTypes := #[.double, .double, .double, .double, .double, .long, .long, .double, .double, .boolean]
  resolved := Array.replicate 460 none
  statics := none }

def pool18 : Array CpInfo := pool [(1, .methodref 2 3), (0, .class_ 4), (0, .nameAndType 5 6), (0, u "java/lang/Object"), (0, u "<init>"), (0, u "()V"), (0, .string 8), (0, u "operation"), (0, .methodref 10 11), (0, .class_ 12), (0, .nameAndType 13 14), (0, u "java/util/Objects"), (0, u "requireNonNull"), (0, u "(Ljava/lang/Object;Ljava/lang/String;)Ljava/lang/Object;"), (0, .class_ 16), (0, u "java/lang/String"), (0, .fieldref 18 19), (0, .class_ 20), (0, .nameAndType 8 21), (0, u "com/example/dekree/dekree/Permission"), (0, u "Ljava/lang/String;"), (0, .string 23), (0, u "object"), (0, .class_ 25), (0, u "com/example/dekree/dekree/QualifiedName"), (0, .fieldref 18 27), (0, .nameAndType 23 28), (0, u "Lcom/example/dekree/dekree/QualifiedName;"), (0, .methodref 15 30), (0, .nameAndType 31 32), (0, u "equals"), (0, u "(Ljava/lang/Object;)Z"), (0, .methodref 24 30), (20, u "(Ljava/lang/String;Lcom/example/dekree/dekree/QualifiedName;)V")] 8

def k18c0 : Code := { maxStack := 3, maxLocals := 3, code := prog_4_method_1_code, exceptionTable := #[], attributes := #[] }
def k18m0 : Method := { name := "<init>", desc := "(Ljava/lang/String;Lcom/example/dekree/dekree/QualifiedName;)V", sig := { parameters := [(.object "java/lang/String"), (.object "com/example/dekree/dekree/QualifiedName")], returnType := none }, accessFlags := 0, code := some k18c0 }
def k18c1 : Code := { maxStack := 2, maxLocals := 3, code := prog_4_method_4_code, exceptionTable := #[], attributes := #[] }
def k18m1 : Method := { name := "equals", desc := "(Ljava/lang/Object;)Z", sig := { parameters := [(.object "java/lang/Object")], returnType := some .boolean }, accessFlags := 1, code := some k18c1 }
/-- com/example/dekree/dekree/Permission -/
def k18 : Class := { plain "com/example/dekree/dekree/Permission" (some 0) with
  accessFlags := 48
  interfaces := #[]
  cf := some (fileOf pool18 18 #[] #[{ accessFlags := 0, nameIndex := 5, descriptorIndex := 54, attributes := #[] }, { accessFlags := 1, nameIndex := 31, descriptorIndex := 32, attributes := #[] }] 48 2 #[] #[{ accessFlags := 18, nameIndex := 8, descriptorIndex := 21, attributes := #[] }, { accessFlags := 18, nameIndex := 23, descriptorIndex := 28, attributes := #[] }])
  fields := #[{ name := "operation", type := (.object "java/lang/String"), accessFlags := 18, slot := 0, constantValue := 0 }, { name := "object", type := (.object "com/example/dekree/dekree/QualifiedName"), accessFlags := 18, slot := 1, constantValue := 0 }]
  methods := #[k18m0, k18m1]
  instanceTypes := #[(.object "java/lang/String"), (.object "com/example/dekree/dekree/QualifiedName")]
  staticTypes := #[]
  resolved := Array.replicate 63 none
  statics := none }

def pool19 : Array CpInfo := pool [(6, .class_ 8), (1, u "java/lang/Object"), (0, u "<init>"), (0, u "()V"), (1, .class_ 14), (1, u "java/lang/StringUTF16"), (31, u "$assertionsDisabled"), (0, u "Z"), (13, u "HI_BYTE_SHIFT"), (0, u "I"), (2, u "LO_BYTE_SHIFT"), (49, .methodref 12 116), (0, .nameAndType 117 118), (0, u "compress"), (0, u "([CI[BII)I"), (3, u "([CII)[B"), (138, u "coderFromArrayLen"), (0, u "([BI)B"), (106, .class_ 371), (1, u "java/lang/StringUTF16$LinesSpliterator"), (58, u "MAX_LENGTH"), (196, .class_ 628), (0, u "java/lang/StringUTF16$CodePointsSpliterator"), (0, .class_ 630), (0, u "java/lang/StringUTF16$CharsSpliterator")] 4

def k19m0 : Method := { name := "<init>", desc := "()V", sig := { parameters := [], returnType := none }, accessFlags := 0, code := none }
def k19c1 : Code := { maxStack := 2, maxLocals := 2, code := jdk_52_method_15_code, exceptionTable := #[], attributes := #[] }
def k19m1 : Method := { name := "coderFromArrayLen", desc := "([BI)B", sig := { parameters := [(.array .byte), .int], returnType := some .byte }, accessFlags := 8, code := some k19c1 }
def k19c2 : Code := { maxStack := 5, maxLocals := 6, code := jdk_52_method_16_code, exceptionTable := #[], attributes := #[] }
def k19m2 : Method := { name := "compress", desc := "([CII)[B", sig := { parameters := [(.array .char), .int, .int], returnType := some (.array .byte) }, accessFlags := 9, code := some k19c2 }
def k19c3 : Code := { maxStack := 3, maxLocals := 7, code := jdk_52_method_21_code, exceptionTable := #[], attributes := #[] }
def k19m3 : Method := { name := "compress", desc := "([CI[BII)I", sig := { parameters := [(.array .char), .int, (.array .byte), .int, .int], returnType := some .int }, accessFlags := 9, code := some k19c3 }
/-- java/lang/StringUTF16 -/
def k19 : Class := { plain "java/lang/StringUTF16" (some 0) with
  accessFlags := 48
  interfaces := #[]
  cf := some (fileOf pool19 12 #[.nestMembers #[627, 629, 369]] #[{ accessFlags := 0, nameIndex := 9, descriptorIndex := 10, attributes := #[] }, { accessFlags := 8, nameIndex := 261, descriptorIndex := 262, attributes := #[] }, { accessFlags := 9, nameIndex := 117, descriptorIndex := 122, attributes := #[] }, { accessFlags := 9, nameIndex := 117, descriptorIndex := 118, attributes := #[] }] 48 6 #[] #[{ accessFlags := 26, nameIndex := 61, descriptorIndex := 62, attributes := #[] }, { accessFlags := 26, nameIndex := 65, descriptorIndex := 62, attributes := #[] }, { accessFlags := 24, nameIndex := 430, descriptorIndex := 62, attributes := #[] }, { accessFlags := 4120, nameIndex := 46, descriptorIndex := 47, attributes := #[] }])
  fields := #[{ name := "HI_BYTE_SHIFT", type := .int, accessFlags := 26, slot := 0, constantValue := 0 }, { name := "LO_BYTE_SHIFT", type := .int, accessFlags := 26, slot := 1, constantValue := 0 }, { name := "MAX_LENGTH", type := .int, accessFlags := 24, slot := 2, constantValue := 0 }, { name := "$assertionsDisabled", type := .boolean, accessFlags := 4120, slot := 3, constantValue := 0 }]
  methods := #[k19m0, k19m1, k19m2, k19m3]
  instanceTypes := #[]
  staticTypes := #[.int, .int, .int, .boolean]
  resolved := Array.replicate 635 none
  statics := none }

def pool20 : Array CpInfo := pool [(9, u "<init>"), (6, .class_ 18), (1, u "java/lang/Object"), (0, u "()V"), (1, .class_ 23), (1, u "jdk/internal/util/ArraysSupport"), (0, u "LOG2_ARRAY_LONG_INDEX_SCALE"), (0, u "I"), (2, u "U"), (0, u "Ljdk/internal/misc/Unsafe;"), (8, u "BIG_ENDIAN"), (0, u "Z"), (8, u "LOG2_BYTE_BIT_SIZE"), (4, u "LOG2_ARRAY_INT_INDEX_SCALE"), (54, u "JLA"), (0, u "Ljdk/internal/access/JavaLangAccess;"), (11, u "LOG2_ARRAY_BOOLEAN_INDEX_SCALE"), (9, u "LOG2_ARRAY_BYTE_INDEX_SCALE"), (5, u "LOG2_ARRAY_CHAR_INDEX_SCALE"), (5, u "LOG2_ARRAY_SHORT_INDEX_SCALE"), (18, u "LOG2_ARRAY_FLOAT_INDEX_SCALE"), (24, u "LOG2_ARRAY_DOUBLE_INDEX_SCALE"), (89, u "T_BOOLEAN"), (2, u "T_CHAR"), (1, u "T_FLOAT"), (1, u "T_DOUBLE"), (1, u "T_BYTE"), (1, u "T_SHORT"), (1, u "T_INT"), (1, u "T_LONG"), (1, u "SOFT_MAX_ARRAY_LENGTH")] 83

def k20m0 : Method := { name := "<init>", desc := "()V", sig := { parameters := [], returnType := none }, accessFlags := 2, code := none }
/-- jdk/internal/util/ArraysSupport -/
def k20 : Class := { plain "jdk/internal/util/ArraysSupport" (some 0) with
  accessFlags := 33
  interfaces := #[]
  cf := some (fileOf pool20 21 #[] #[{ accessFlags := 2, nameIndex := 9, descriptorIndex := 19, attributes := #[] }] 33 16 #[] #[{ accessFlags := 24, nameIndex := 28, descriptorIndex := 29, attributes := #[] }, { accessFlags := 26, nameIndex := 38, descriptorIndex := 39, attributes := #[] }, { accessFlags := 25, nameIndex := 121, descriptorIndex := 25, attributes := #[] }, { accessFlags := 25, nameIndex := 131, descriptorIndex := 25, attributes := #[] }, { accessFlags := 25, nameIndex := 137, descriptorIndex := 25, attributes := #[] }, { accessFlags := 25, nameIndex := 143, descriptorIndex := 25, attributes := #[] }, { accessFlags := 25, nameIndex := 53, descriptorIndex := 25, attributes := #[] }, { accessFlags := 25, nameIndex := 24, descriptorIndex := 25, attributes := #[] }, { accessFlags := 25, nameIndex := 162, descriptorIndex := 25, attributes := #[] }, { accessFlags := 25, nameIndex := 187, descriptorIndex := 25, attributes := #[] }, { accessFlags := 26, nameIndex := 48, descriptorIndex := 25, attributes := #[] }, { accessFlags := 25, nameIndex := 277, descriptorIndex := 25, attributes := #[] }, { accessFlags := 25, nameIndex := 280, descriptorIndex := 25, attributes := #[] }, { accessFlags := 25, nameIndex := 282, descriptorIndex := 25, attributes := #[] }, { accessFlags := 25, nameIndex := 284, descriptorIndex := 25, attributes := #[] }, { accessFlags := 25, nameIndex := 286, descriptorIndex := 25, attributes := #[] }, { accessFlags := 25, nameIndex := 288, descriptorIndex := 25, attributes := #[] }, { accessFlags := 25, nameIndex := 290, descriptorIndex := 25, attributes := #[] }, { accessFlags := 25, nameIndex := 292, descriptorIndex := 25, attributes := #[] }, { accessFlags := 26, nameIndex := 108, descriptorIndex := 109, attributes := #[] }, { accessFlags := 25, nameIndex := 294, descriptorIndex := 25, attributes := #[] }])
  fields := #[{ name := "U", type := (.object "jdk/internal/misc/Unsafe"), accessFlags := 24, slot := 0, constantValue := 0 }, { name := "BIG_ENDIAN", type := .boolean, accessFlags := 26, slot := 1, constantValue := 0 }, { name := "LOG2_ARRAY_BOOLEAN_INDEX_SCALE", type := .int, accessFlags := 25, slot := 2, constantValue := 0 }, { name := "LOG2_ARRAY_BYTE_INDEX_SCALE", type := .int, accessFlags := 25, slot := 3, constantValue := 0 }, { name := "LOG2_ARRAY_CHAR_INDEX_SCALE", type := .int, accessFlags := 25, slot := 4, constantValue := 0 }, { name := "LOG2_ARRAY_SHORT_INDEX_SCALE", type := .int, accessFlags := 25, slot := 5, constantValue := 0 }, { name := "LOG2_ARRAY_INT_INDEX_SCALE", type := .int, accessFlags := 25, slot := 6, constantValue := 0 }, { name := "LOG2_ARRAY_LONG_INDEX_SCALE", type := .int, accessFlags := 25, slot := 7, constantValue := 0 }, { name := "LOG2_ARRAY_FLOAT_INDEX_SCALE", type := .int, accessFlags := 25, slot := 8, constantValue := 0 }, { name := "LOG2_ARRAY_DOUBLE_INDEX_SCALE", type := .int, accessFlags := 25, slot := 9, constantValue := 0 }, { name := "LOG2_BYTE_BIT_SIZE", type := .int, accessFlags := 26, slot := 10, constantValue := 0 }, { name := "T_BOOLEAN", type := .int, accessFlags := 25, slot := 11, constantValue := 0 }, { name := "T_CHAR", type := .int, accessFlags := 25, slot := 12, constantValue := 0 }, { name := "T_FLOAT", type := .int, accessFlags := 25, slot := 13, constantValue := 0 }, { name := "T_DOUBLE", type := .int, accessFlags := 25, slot := 14, constantValue := 0 }, { name := "T_BYTE", type := .int, accessFlags := 25, slot := 15, constantValue := 0 }, { name := "T_SHORT", type := .int, accessFlags := 25, slot := 16, constantValue := 0 }, { name := "T_INT", type := .int, accessFlags := 25, slot := 17, constantValue := 0 }, { name := "T_LONG", type := .int, accessFlags := 25, slot := 18, constantValue := 0 }, { name := "JLA", type := (.object "jdk/internal/access/JavaLangAccess"), accessFlags := 26, slot := 19, constantValue := 0 }, { name := "SOFT_MAX_ARRAY_LENGTH", type := .int, accessFlags := 25, slot := 20, constantValue := 0 }]
  methods := #[k20m0]
  instanceTypes := #[]
  staticTypes := #[(.object "jdk/internal/misc/Unsafe"), .boolean, .int, .int, .int, .int, .int, .int, .int, .int, .int, .int, .int, .int, .int, .int, .int, .int, .int, (.object "jdk/internal/access/JavaLangAccess"), .int]
  resolved := Array.replicate 378 none
  statics := none }

def pool21 : Array CpInfo := pool [(1, u "java/lang/Cloneable"), (0, .class_ 1), (0, u "java/lang/Object"), (0, .class_ 3)] 3

/-- java/lang/Cloneable -/
def k21 : Class := { plain "java/lang/Cloneable" (some 0) with
  accessFlags := 1537
  interfaces := #[]
  cf := some (fileOf pool21 2 #[] #[] 1537 4 #[] #[])
  fields := #[]
  methods := #[]
  instanceTypes := #[]
  staticTypes := #[]
  resolved := Array.replicate 8 none
  statics := none }

/-- the primitive byte -/
def k22 : Class := { plain "byte" none with kind := .primitive 'B', accessFlags := 0x411 }
/-- [B -/
def k23 : Class := { plain "[B" (some 0) with kind := .array 22 .byte, interfaces := #[21, 3], accessFlags := 1041 }

/-- the primitive char -/
def k24 : Class := { plain "char" none with kind := .primitive 'C', accessFlags := 0x411 }
/-- [C -/
def k25 : Class := { plain "[C" (some 0) with kind := .array 24 .char, interfaces := #[21, 3], accessFlags := 1041 }

def heap : Heap := #[{ cls := 8, slots := #[.long 0, .int 1, .null, .int 0, .null, .int 0, .int 0], vm := .statics 8 },
  { cls := 10, slots := #[.null, .null, .null], vm := .statics 10 }]
def classes : Array Class := #[k0, k1, k2, k3, k4, k5, k6, k7, k8, k9, k10, k11, k12, k13, k14, k15, k16, k17, k18, k19, k20, k21, k22, k23, k24, k25]
def interned : List (Array UInt16 × Addr) := []
def slotsUsed : Nat := 10
def theMethod : MethodId := ⟨1, 6⟩
def args0 : Array Value := #[.int 5, .int 5, .int 5, .int 5]
def aboutOver (below : List Frame) : State where
  vm := { classes := classes, interned := interned.toArray }
  heap := heap
  slotsUsed := slotsUsed
  threads := #[{ frames := .invoking theMethod args0 :: below }]
def below0 : List Frame := [.native { method := ⟨0, 0⟩, args := #[] }]
def about1 : State := aboutOver below0
def p0 : Program := .bare "" "" ""
def e0 : Env := launch0.env 0 0 0
theorem w_frames : about1.frames = Frame.invoking theMethod args0 :: below0 := rfl
set_option maxRecDepth 65536 in
theorem w_args : argsFit about1.vm theMethod args0 = true := by decide +kernel
set_option maxRecDepth 65536 in
theorem w_heap : heapFits about1 = true := by decide +kernel
set_option maxRecDepth 65536 in
theorem w_runnable : about1.curStatus? = some .runnable := by decide +kernel
set_option maxRecDepth 65536 in
theorem w_alone : about1.alone = true := by decide +kernel
set_option maxRecDepth 65536 in
theorem w_named : about1.methodNamed? x = some theMethod := by decide +kernel
set_option maxRecDepth 65536 in
theorem w_hears : about1.hears theMethod below0 = true := by decide +kernel
set_option maxRecDepth 65536 in
theorem w_ripe : about1.ripe theMethod args0 below0 = true := by decide +kernel
theorem w_running : about1.status = .running := rfl
set_option maxRecDepth 65536 in
theorem w_room : about1.hasRoom e0.platform room_1 = true :=
  launch0.hasRoom_least _ room_1 (by decide +kernel) (by decide +kernel) (by decide +kernel) (by decide +kernel) (by decide +kernel) (by decide +kernel)
theorem allAtoms_all (ts : List Jvm.Cond) (a : Array Jvm.Value) (st : Jvm.State) : (allAtoms ts).before a st = ts.all (fun c => c.before a st) := by
  induction ts with
  | nil => rfl
  | cons c t ih =>
    show (Jvm.Cond.and c (allAtoms t)).before a st = _
    rw [Jvm.Cond.before_and, ih, List.all_cons]
def words1 : List Jvm.Cond := Jvm.Cond.code x code maxLocals ret :: tables_1
/-- a 'code' word, met by the world's own term for the bytes: nothing is compared byte by byte -/
theorem code_word {y : MethodName} {bytes : ByteArray} {mx : Nat} {rt : Option FieldType} {a : Array Value} {s : State} {m : MethodId} {meth : Method} {c : Code} (h1 : s.methodNamed? y = some m) (h2 : s.vm.method? m = some meth) (h3 : meth.code = some c) (h4 : c.code = bytes)
    (h5 : (c.maxLocals == mx && c.exceptionTable.isEmpty && decide (c.maxStack ≤ mostOperands) && decide (meth.sig.returnType = rt) && !meth.locks && decide (parseMethodDescriptor y.desc = some meth.sig)) = true) : (Jvm.Cond.code y bytes mx rt).before a s = true := by
  simp only [Bool.and_eq_true, beq_iff_eq, Bool.not_eq_true', decide_eq_true_eq] at h5
  obtain ⟨⟨⟨⟨⟨g1, g2⟩, g3⟩, g4⟩, g5⟩, g6⟩ := h5
  simp [Cond.before, Cond.holds, Cond.value, h1, h2, h3, h4, g1, g2, g3, g4, g5, g6]
def isCode : Jvm.Cond → Bool
  | .code _ _ _ _ => true
  | _ => false
theorem all_split {L : List Jvm.Cond} {P : Jvm.Cond → Bool} (h1 : L.all (fun c => isCode c || P c) = true) (h2 : ∀ c ∈ L.filter isCode, P c = true) : L.all P = true := by
  refine List.all_eq_true.mpr fun c hc => ?_
  have h := List.all_eq_true.mp h1 c hc
  rcases Bool.eq_false_or_eq_true (isCode c) with hi | hi
  · exact h2 c (List.mem_filter.mpr ⟨hc, hi⟩)
  · simpa [hi] using h
set_option maxRecDepth 65536 in
theorem w_c0 : (Jvm.Cond.code x code maxLocals ret).before args0 about1 = true := code_word (m := ⟨1, 6⟩) (meth := k1m6) (c := k1c6) (by decide +kernel) rfl rfl rfl (by decide +kernel)
set_option maxRecDepth 65536 in
theorem w_c1 : (Jvm.Cond.code ({ cls := "com/example/dekree/dekree/PermissionEqualsPinLaw", name := "part", desc := "(I)Ljava/lang/String;" } : Jvm.MethodName) method_3_code (3 : Nat) (Option.some (Jvm.ClassFile.FieldType.object "java/lang/String"))).before args0 about1 = true := code_word (m := ⟨1, 2⟩) (meth := k1m2) (c := k1c2) (by decide +kernel) rfl rfl rfl (by decide +kernel)
set_option maxRecDepth 65536 in
theorem w_c2 : (Jvm.Cond.code ({ cls := "com/example/dekree/dekree/PermissionEqualsPinLaw", name := "nameChar", desc := "(I)C" } : Jvm.MethodName) method_2_code (1 : Nat) (Option.some Jvm.ClassFile.FieldType.char)).before args0 about1 = true := code_word (m := ⟨1, 1⟩) (meth := k1m1) (c := k1c1) (by decide +kernel) rfl rfl rfl (by decide +kernel)
set_option maxRecDepth 65536 in
theorem w_c3 : (Jvm.Cond.code ({ cls := "java/lang/String", name := "charAt", desc := "(I)C" } : Jvm.MethodName) jdk_42_method_56_code (2 : Nat) (Option.some Jvm.ClassFile.FieldType.char)).before args0 about1 = true := code_word (m := ⟨8, 5⟩) (meth := k8m5) (c := k8c5) (by decide +kernel) rfl rfl rfl (by decide +kernel)
set_option maxRecDepth 65536 in
theorem w_c4 : (Jvm.Cond.code ({ cls := "java/lang/String", name := "isLatin1", desc := "()Z" } : Jvm.MethodName) jdk_42_method_154_code (1 : Nat) (Option.some Jvm.ClassFile.FieldType.boolean)).before args0 about1 = true := code_word (m := ⟨8, 13⟩) (meth := k8m13) (c := k8c13) (by decide +kernel) rfl rfl rfl (by decide +kernel)
set_option maxRecDepth 65536 in
theorem w_c5 : (Jvm.Cond.code ({ cls := "java/lang/StringLatin1", name := "charAt", desc := "([BI)C" } : Jvm.MethodName) jdk_43_method_2_code (2 : Nat) (Option.some Jvm.ClassFile.FieldType.char)).before args0 about1 = true := code_word (m := ⟨9, 1⟩) (meth := k9m1) (c := k9c1) (by decide +kernel) rfl rfl rfl (by decide +kernel)
set_option maxRecDepth 65536 in
theorem w_c6 : (Jvm.Cond.code ({ cls := "java/lang/String", name := "checkIndex", desc := "(II)V" } : Jvm.MethodName) jdk_42_method_155_code (2 : Nat) (Option.none : Option Jvm.ClassFile.FieldType)).before args0 about1 = true := code_word (m := ⟨8, 14⟩) (meth := k8m14) (c := k8c14) (by decide +kernel) rfl rfl rfl (by decide +kernel)
set_option maxRecDepth 65536 in
theorem w_c7 : (Jvm.Cond.code ({ cls := "jdk/internal/util/Preconditions", name := "checkIndex", desc := "(IILjava/util/function/BiFunction;)I" } : Jvm.MethodName) jdk_41_method_11_code (3 : Nat) (Option.some Jvm.ClassFile.FieldType.int)).before args0 about1 = true := code_word (m := ⟨10, 1⟩) (meth := k10m1) (c := k10c1) (by decide +kernel) rfl rfl rfl (by decide +kernel)
set_option maxRecDepth 65536 in
theorem w_c8 : (Jvm.Cond.code ({ cls := "java/lang/String", name := "valueOf", desc := "(C)Ljava/lang/String;" } : Jvm.MethodName) jdk_42_method_139_code (1 : Nat) (Option.some (Jvm.ClassFile.FieldType.object "java/lang/String"))).before args0 about1 = true := code_word (m := ⟨8, 7⟩) (meth := k8m7) (c := k8c7) (by decide +kernel) rfl rfl rfl (by decide +kernel)
set_option maxRecDepth 65536 in
theorem w_c9 : (Jvm.Cond.code ({ cls := "java/lang/StringLatin1", name := "canEncode", desc := "(C)Z" } : Jvm.MethodName) jdk_43_method_3_code (1 : Nat) (Option.some Jvm.ClassFile.FieldType.boolean)).before args0 about1 = true := code_word (m := ⟨9, 2⟩) (meth := k9m2) (c := k9c2) (by decide +kernel) rfl rfl rfl (by decide +kernel)
set_option maxRecDepth 65536 in
theorem w_c10 : (Jvm.Cond.code ({ cls := "java/lang/StringLatin1", name := "toBytes", desc := "(C)[B" } : Jvm.MethodName) jdk_43_method_46_code (1 : Nat) (Option.some (Jvm.ClassFile.FieldType.array Jvm.ClassFile.FieldType.byte))).before args0 about1 = true := code_word (m := ⟨9, 4⟩) (meth := k9m4) (c := k9c4) (by decide +kernel) rfl rfl rfl (by decide +kernel)
set_option maxRecDepth 65536 in
theorem w_c11 : (Jvm.Cond.code ({ cls := "java/lang/String", name := "<init>", desc := "([BB)V" } : Jvm.MethodName) jdk_42_method_151_code (3 : Nat) (Option.none : Option Jvm.ClassFile.FieldType)).before args0 about1 = true := code_word (m := ⟨8, 11⟩) (meth := k8m11) (c := k8c11) (by decide +kernel) rfl rfl rfl (by decide +kernel)
set_option maxRecDepth 65536 in
theorem w_c12 : (Jvm.Cond.code ({ cls := "java/lang/Object", name := "<init>", desc := "()V" } : Jvm.MethodName) object_method_1_code (1 : Nat) (Option.none : Option Jvm.ClassFile.FieldType)).before args0 about1 = true := code_word (m := ⟨0, 0⟩) (meth := k0m0) (c := k0c0) (by decide +kernel) rfl rfl rfl (by decide +kernel)
set_option maxRecDepth 65536 in
theorem w_c13 : (Jvm.Cond.code ({ cls := "com/example/dekree/dekree/QualifiedName", name := "<init>", desc := "(Ljava/lang/String;Ljava/lang/String;)V" } : Jvm.MethodName) prog_7_method_1_code (3 : Nat) (Option.none : Option Jvm.ClassFile.FieldType)).before args0 about1 = true := code_word (m := ⟨2, 0⟩) (meth := k2m0) (c := k2c0) (by decide +kernel) rfl rfl rfl (by decide +kernel)
set_option maxRecDepth 65536 in
theorem w_c14 : (Jvm.Cond.code ({ cls := "java/util/Objects", name := "requireNonNull", desc := "(Ljava/lang/Object;Ljava/lang/String;)Ljava/lang/Object;" } : Jvm.MethodName) jdk_31_method_11_code (2 : Nat) (Option.some (Jvm.ClassFile.FieldType.object "java/lang/Object"))).before args0 about1 = true := code_word (m := ⟨11, 1⟩) (meth := k11m1) (c := k11c1) (by decide +kernel) rfl rfl rfl (by decide +kernel)
set_option maxRecDepth 65536 in
theorem w_c15 : (Jvm.Cond.code ({ cls := "com/example/dekree/dekree/QualifiedName", name := "isPlainName", desc := "(Ljava/lang/String;)Z" } : Jvm.MethodName) prog_7_method_9_code (2 : Nat) (Option.some Jvm.ClassFile.FieldType.boolean)).before args0 about1 = true := code_word (m := ⟨2, 2⟩) (meth := k2m2) (c := k2c2) (by decide +kernel) rfl rfl rfl (by decide +kernel)
set_option maxRecDepth 65536 in
theorem w_c16 : (Jvm.Cond.code ({ cls := "java/lang/String", name := "isEmpty", desc := "()Z" } : Jvm.MethodName) jdk_42_method_55_code (1 : Nat) (Option.some Jvm.ClassFile.FieldType.boolean)).before args0 about1 = true := code_word (m := ⟨8, 4⟩) (meth := k8m4) (c := k8c4) (by decide +kernel) rfl rfl rfl (by decide +kernel)
set_option maxRecDepth 65536 in
theorem w_c17 : (Jvm.Cond.code ({ cls := "java/lang/String", name := "length", desc := "()I" } : Jvm.MethodName) jdk_42_method_54_code (1 : Nat) (Option.some Jvm.ClassFile.FieldType.int)).before args0 about1 = true := code_word (m := ⟨8, 3⟩) (meth := k8m3) (c := k8c3) (by decide +kernel) rfl rfl rfl (by decide +kernel)
set_option maxRecDepth 65536 in
theorem w_c18 : (Jvm.Cond.code ({ cls := "java/lang/String", name := "coder", desc := "()B" } : Jvm.MethodName) jdk_42_method_152_code (1 : Nat) (Option.some Jvm.ClassFile.FieldType.byte)).before args0 about1 = true := code_word (m := ⟨8, 12⟩) (meth := k8m12) (c := k8c12) (by decide +kernel) rfl rfl rfl (by decide +kernel)
set_option maxRecDepth 65536 in
theorem w_c19 : (Jvm.Cond.code ({ cls := "com/example/dekree/dekree/QualifiedName", name := "isNameCharacter", desc := "(C)Z" } : Jvm.MethodName) prog_7_method_10_code (1 : Nat) (Option.some Jvm.ClassFile.FieldType.boolean)).before args0 about1 = true := code_word (m := ⟨2, 3⟩) (meth := k2m3) (c := k2c3) (by decide +kernel) rfl rfl rfl (by decide +kernel)
set_option maxRecDepth 65536 in
theorem w_c20 : (Jvm.Cond.code ({ cls := "java/lang/StringBuilder", name := "<init>", desc := "()V" } : Jvm.MethodName) jdk_67_method_1_code (1 : Nat) (Option.none : Option Jvm.ClassFile.FieldType)).before args0 about1 = true := code_word (m := ⟨14, 0⟩) (meth := k14m0) (c := k14c0) (by decide +kernel) rfl rfl rfl (by decide +kernel)
set_option maxRecDepth 65536 in
theorem w_c21 : (Jvm.Cond.code ({ cls := "java/lang/AbstractStringBuilder", name := "<init>", desc := "(I)V" } : Jvm.MethodName) jdk_68_method_2_code (2 : Nat) (Option.none : Option Jvm.ClassFile.FieldType)).before args0 about1 = true := code_word (m := ⟨13, 1⟩) (meth := k13m1) (c := k13c1) (by decide +kernel) rfl rfl rfl (by decide +kernel)
set_option maxRecDepth 65536 in
theorem w_c22 : (Jvm.Cond.code ({ cls := "java/lang/StringBuilder", name := "append", desc := "(Ljava/lang/String;)Ljava/lang/StringBuilder;" } : Jvm.MethodName) jdk_67_method_7_code (2 : Nat) (Option.some (Jvm.ClassFile.FieldType.object "java/lang/StringBuilder"))).before args0 about1 = true := code_word (m := ⟨14, 1⟩) (meth := k14m1) (c := k14c1) (by decide +kernel) rfl rfl rfl (by decide +kernel)
set_option maxRecDepth 65536 in
theorem w_c23 : (Jvm.Cond.code ({ cls := "java/lang/AbstractStringBuilder", name := "append", desc := "(Ljava/lang/String;)Ljava/lang/AbstractStringBuilder;" } : Jvm.MethodName) jdk_68_method_22_code (3 : Nat) (Option.some (Jvm.ClassFile.FieldType.object "java/lang/AbstractStringBuilder"))).before args0 about1 = true := code_word (m := ⟨13, 4⟩) (meth := k13m4) (c := k13c4) (by decide +kernel) rfl rfl rfl (by decide +kernel)
set_option maxRecDepth 65536 in
theorem w_c24 : (Jvm.Cond.code ({ cls := "java/lang/AbstractStringBuilder", name := "ensureCapacityInternal", desc := "(I)V" } : Jvm.MethodName) jdk_68_method_9_code (3 : Nat) (Option.none : Option Jvm.ClassFile.FieldType)).before args0 about1 = true := code_word (m := ⟨13, 3⟩) (meth := k13m3) (c := k13c3) (by decide +kernel) rfl rfl rfl (by decide +kernel)
set_option maxRecDepth 65536 in
theorem w_c25 : (Jvm.Cond.code ({ cls := "java/lang/AbstractStringBuilder", name := "putStringAt", desc := "(ILjava/lang/String;)V" } : Jvm.MethodName) jdk_68_method_73_code (3 : Nat) (Option.none : Option Jvm.ClassFile.FieldType)).before args0 about1 = true := code_word (m := ⟨13, 8⟩) (meth := k13m8) (c := k13c8) (by decide +kernel) rfl rfl rfl (by decide +kernel)
set_option maxRecDepth 65536 in
theorem w_c26 : (Jvm.Cond.code ({ cls := "java/lang/AbstractStringBuilder", name := "inflateIfNeededFor", desc := "(Ljava/lang/String;)V" } : Jvm.MethodName) jdk_68_method_71_code (2 : Nat) (Option.none : Option Jvm.ClassFile.FieldType)).before args0 about1 = true := code_word (m := ⟨13, 7⟩) (meth := k13m7) (c := k13c7) (by decide +kernel) rfl rfl rfl (by decide +kernel)
set_option maxRecDepth 65536 in
theorem w_c27 : (Jvm.Cond.code ({ cls := "java/lang/String", name := "getBytes", desc := "([BIB)V" } : Jvm.MethodName) jdk_42_method_147_code (4 : Nat) (Option.none : Option Jvm.ClassFile.FieldType)).before args0 about1 = true := code_word (m := ⟨8, 8⟩) (meth := k8m8) (c := k8c8) (by decide +kernel) rfl rfl rfl (by decide +kernel)
set_option maxRecDepth 65536 in
theorem w_c28 : (Jvm.Cond.code ({ cls := "java/lang/StringBuilder", name := "toString", desc := "()Ljava/lang/String;" } : Jvm.MethodName) jdk_67_method_42_code (1 : Nat) (Option.some (Jvm.ClassFile.FieldType.object "java/lang/String"))).before args0 about1 = true := code_word (m := ⟨14, 2⟩) (meth := k14m2) (c := k14c2) (by decide +kernel) rfl rfl rfl (by decide +kernel)
set_option maxRecDepth 65536 in
theorem w_c29 : (Jvm.Cond.code ({ cls := "java/lang/String", name := "<init>", desc := "(Ljava/lang/StringBuilder;)V" } : Jvm.MethodName) jdk_42_method_53_code (2 : Nat) (Option.none : Option Jvm.ClassFile.FieldType)).before args0 about1 = true := code_word (m := ⟨8, 2⟩) (meth := k8m2) (c := k8c2) (by decide +kernel) rfl rfl rfl (by decide +kernel)
set_option maxRecDepth 65536 in
theorem w_c30 : (Jvm.Cond.code ({ cls := "java/lang/String", name := "<init>", desc := "(Ljava/lang/AbstractStringBuilder;Ljava/lang/Void;)V" } : Jvm.MethodName) jdk_42_method_150_code (5 : Nat) (Option.none : Option Jvm.ClassFile.FieldType)).before args0 about1 = true := code_word (m := ⟨8, 10⟩) (meth := k8m10) (c := k8c10) (by decide +kernel) rfl rfl rfl (by decide +kernel)
set_option maxRecDepth 65536 in
theorem w_c31 : (Jvm.Cond.code ({ cls := "java/lang/AbstractStringBuilder", name := "getValue", desc := "()[B" } : Jvm.MethodName) jdk_68_method_64_code (1 : Nat) (Option.some (Jvm.ClassFile.FieldType.array Jvm.ClassFile.FieldType.byte))).before args0 about1 = true := code_word (m := ⟨13, 5⟩) (meth := k13m5) (c := k13c5) (by decide +kernel) rfl rfl rfl (by decide +kernel)
set_option maxRecDepth 65536 in
theorem w_c32 : (Jvm.Cond.code ({ cls := "java/lang/StringBuilder", name := "length", desc := "()I" } : Jvm.MethodName) jdk_67_method_93_code (1 : Nat) (Option.some Jvm.ClassFile.FieldType.int)).before args0 about1 = true := code_word (m := ⟨14, 3⟩) (meth := k14m3) (c := k14c3) (by decide +kernel) rfl rfl rfl (by decide +kernel)
set_option maxRecDepth 65536 in
theorem w_c33 : (Jvm.Cond.code ({ cls := "java/lang/AbstractStringBuilder", name := "length", desc := "()I" } : Jvm.MethodName) jdk_68_method_6_code (1 : Nat) (Option.some Jvm.ClassFile.FieldType.int)).before args0 about1 = true := code_word (m := ⟨13, 2⟩) (meth := k13m2) (c := k13c2) (by decide +kernel) rfl rfl rfl (by decide +kernel)
set_option maxRecDepth 65536 in
theorem w_c34 : (Jvm.Cond.code ({ cls := "java/lang/AbstractStringBuilder", name := "isLatin1", desc := "()Z" } : Jvm.MethodName) jdk_68_method_68_code (1 : Nat) (Option.some Jvm.ClassFile.FieldType.boolean)).before args0 about1 = true := code_word (m := ⟨13, 6⟩) (meth := k13m6) (c := k13c6) (by decide +kernel) rfl rfl rfl (by decide +kernel)
set_option maxRecDepth 65536 in
theorem w_c35 : (Jvm.Cond.code ({ cls := "java/util/Arrays", name := "copyOfRange", desc := "([BII)[B" } : Jvm.MethodName) jdk_65_method_132_code (3 : Nat) (Option.some (Jvm.ClassFile.FieldType.array Jvm.ClassFile.FieldType.byte))).before args0 about1 = true := code_word (m := ⟨16, 2⟩) (meth := k16m2) (c := k16c2) (by decide +kernel) rfl rfl rfl (by decide +kernel)
set_option maxRecDepth 65536 in
theorem w_c36 : (Jvm.Cond.code ({ cls := "java/util/Arrays", name := "copyOfRangeByte", desc := "([BII)[B" } : Jvm.MethodName) jdk_65_method_133_code (5 : Nat) (Option.some (Jvm.ClassFile.FieldType.array Jvm.ClassFile.FieldType.byte))).before args0 about1 = true := code_word (m := ⟨16, 3⟩) (meth := k16m3) (c := k16c3) (by decide +kernel) rfl rfl rfl (by decide +kernel)
set_option maxRecDepth 65536 in
theorem w_c37 : (Jvm.Cond.code ({ cls := "java/util/Arrays", name := "checkLength", desc := "(II)V" } : Jvm.MethodName) jdk_65_method_131_code (2 : Nat) (Option.none : Option Jvm.ClassFile.FieldType)).before args0 about1 = true := code_word (m := ⟨16, 1⟩) (meth := k16m1) (c := k16c1) (by decide +kernel) rfl rfl rfl (by decide +kernel)
set_option maxRecDepth 65536 in
theorem w_c38 : (Jvm.Cond.code ({ cls := "java/lang/Math", name := "min", desc := "(II)I" } : Jvm.MethodName) jdk_29_method_69_code (2 : Nat) (Option.some Jvm.ClassFile.FieldType.int)).before args0 about1 = true := code_word (m := ⟨17, 1⟩) (meth := k17m1) (c := k17c1) (by decide +kernel) rfl rfl rfl (by decide +kernel)
set_option maxRecDepth 65536 in
theorem w_c39 : (Jvm.Cond.code ({ cls := "com/example/dekree/dekree/PermissionEqualsPinLaw", name := "op", desc := "(I)Ljava/lang/String;" } : Jvm.MethodName) method_5_code (4 : Nat) (Option.some (Jvm.ClassFile.FieldType.object "java/lang/String"))).before args0 about1 = true := code_word (m := ⟨1, 4⟩) (meth := k1m4) (c := k1c4) (by decide +kernel) rfl rfl rfl (by decide +kernel)
set_option maxRecDepth 65536 in
theorem w_c40 : (Jvm.Cond.code ({ cls := "com/example/dekree/dekree/Permission", name := "<init>", desc := "(Ljava/lang/String;Lcom/example/dekree/dekree/QualifiedName;)V" } : Jvm.MethodName) prog_4_method_1_code (3 : Nat) (Option.none : Option Jvm.ClassFile.FieldType)).before args0 about1 = true := code_word (m := ⟨18, 0⟩) (meth := k18m0) (c := k18c0) (by decide +kernel) rfl rfl rfl (by decide +kernel)
set_option maxRecDepth 65536 in
theorem w_c41 : (Jvm.Cond.code ({ cls := "com/example/dekree/dekree/PermissionEqualsPinLaw", name := "opEq", desc := "(II)Z" } : Jvm.MethodName) method_6_code (4 : Nat) (Option.some Jvm.ClassFile.FieldType.boolean)).before args0 about1 = true := code_word (m := ⟨1, 5⟩) (meth := k1m5) (c := k1c5) (by decide +kernel) rfl rfl rfl (by decide +kernel)
set_option maxRecDepth 65536 in
theorem w_c42 : (Jvm.Cond.code ({ cls := "com/example/dekree/dekree/PermissionEqualsPinLaw", name := "partEq", desc := "(II)Z" } : Jvm.MethodName) method_4_code (4 : Nat) (Option.some Jvm.ClassFile.FieldType.boolean)).before args0 about1 = true := code_word (m := ⟨1, 3⟩) (meth := k1m3) (c := k1c3) (by decide +kernel) rfl rfl rfl (by decide +kernel)
set_option maxRecDepth 65536 in
theorem w_c43 : (Jvm.Cond.code ({ cls := "com/example/dekree/dekree/Permission", name := "equals", desc := "(Ljava/lang/Object;)Z" } : Jvm.MethodName) prog_4_method_4_code (3 : Nat) (Option.some Jvm.ClassFile.FieldType.boolean)).before args0 about1 = true := code_word (m := ⟨18, 1⟩) (meth := k18m1) (c := k18c1) (by decide +kernel) rfl rfl rfl (by decide +kernel)
set_option maxRecDepth 65536 in
theorem w_c44 : (Jvm.Cond.code ({ cls := "java/lang/String", name := "equals", desc := "(Ljava/lang/Object;)Z" } : Jvm.MethodName) jdk_42_method_66_code (3 : Nat) (Option.some Jvm.ClassFile.FieldType.boolean)).before args0 about1 = true := code_word (m := ⟨8, 6⟩) (meth := k8m6) (c := k8c6) (by decide +kernel) rfl rfl rfl (by decide +kernel)
set_option maxRecDepth 65536 in
theorem w_c45 : (Jvm.Cond.code ({ cls := "com/example/dekree/dekree/QualifiedName", name := "equals", desc := "(Ljava/lang/Object;)Z" } : Jvm.MethodName) prog_7_method_6_code (3 : Nat) (Option.some Jvm.ClassFile.FieldType.boolean)).before args0 about1 = true := code_word (m := ⟨2, 1⟩) (meth := k2m1) (c := k2c1) (by decide +kernel) rfl rfl rfl (by decide +kernel)
set_option maxRecDepth 65536 in
theorem w_c46 : (Jvm.Cond.code ({ cls := "java/lang/StringLatin1", name := "equals", desc := "([B[B)Z" } : Jvm.MethodName) jdk_43_method_13_code (3 : Nat) (Option.some Jvm.ClassFile.FieldType.boolean)).before args0 about1 = true := code_word (m := ⟨9, 3⟩) (meth := k9m3) (c := k9c3) (by decide +kernel) rfl rfl rfl (by decide +kernel)
set_option maxRecDepth 65536 in
theorem w_c47 : (Jvm.Cond.code ({ cls := "java/lang/String", name := "<init>", desc := "([C)V" } : Jvm.MethodName) jdk_42_method_3_code (2 : Nat) (Option.none : Option Jvm.ClassFile.FieldType)).before args0 about1 = true := code_word (m := ⟨8, 1⟩) (meth := k8m1) (c := k8c1) (by decide +kernel) rfl rfl rfl (by decide +kernel)
set_option maxRecDepth 65536 in
theorem w_c48 : (Jvm.Cond.code ({ cls := "java/lang/String", name := "<init>", desc := "([CIILjava/lang/Void;)V" } : Jvm.MethodName) jdk_42_method_149_code (6 : Nat) (Option.none : Option Jvm.ClassFile.FieldType)).before args0 about1 = true := code_word (m := ⟨8, 9⟩) (meth := k8m9) (c := k8c9) (by decide +kernel) rfl rfl rfl (by decide +kernel)
set_option maxRecDepth 65536 in
theorem w_c49 : (Jvm.Cond.code ({ cls := "java/lang/StringUTF16", name := "compress", desc := "([CII)[B" } : Jvm.MethodName) jdk_52_method_16_code (6 : Nat) (Option.some (Jvm.ClassFile.FieldType.array Jvm.ClassFile.FieldType.byte))).before args0 about1 = true := code_word (m := ⟨19, 2⟩) (meth := k19m2) (c := k19c2) (by decide +kernel) rfl rfl rfl (by decide +kernel)
set_option maxRecDepth 65536 in
theorem w_c50 : (Jvm.Cond.code ({ cls := "java/lang/StringUTF16", name := "compress", desc := "([CI[BII)I" } : Jvm.MethodName) jdk_52_method_21_code (7 : Nat) (Option.some Jvm.ClassFile.FieldType.int)).before args0 about1 = true := code_word (m := ⟨19, 3⟩) (meth := k19m3) (c := k19c3) (by decide +kernel) rfl rfl rfl (by decide +kernel)
set_option maxRecDepth 65536 in
theorem w_c51 : (Jvm.Cond.code ({ cls := "java/lang/StringUTF16", name := "coderFromArrayLen", desc := "([BI)B" } : Jvm.MethodName) jdk_52_method_15_code (2 : Nat) (Option.some Jvm.ClassFile.FieldType.byte)).before args0 about1 = true := code_word (m := ⟨19, 1⟩) (meth := k19m1) (c := k19c1) (by decide +kernel) rfl rfl rfl (by decide +kernel)
def codes1 : List Jvm.Cond := [Jvm.Cond.code x code maxLocals ret, Jvm.Cond.code ({ cls := "com/example/dekree/dekree/PermissionEqualsPinLaw", name := "part", desc := "(I)Ljava/lang/String;" } : Jvm.MethodName) method_3_code (3 : Nat) (Option.some (Jvm.ClassFile.FieldType.object "java/lang/String")), Jvm.Cond.code ({ cls := "com/example/dekree/dekree/PermissionEqualsPinLaw", name := "nameChar", desc := "(I)C" } : Jvm.MethodName) method_2_code (1 : Nat) (Option.some Jvm.ClassFile.FieldType.char), Jvm.Cond.code ({ cls := "java/lang/String", name := "charAt", desc := "(I)C" } : Jvm.MethodName) jdk_42_method_56_code (2 : Nat) (Option.some Jvm.ClassFile.FieldType.char), Jvm.Cond.code ({ cls := "java/lang/String", name := "isLatin1", desc := "()Z" } : Jvm.MethodName) jdk_42_method_154_code (1 : Nat) (Option.some Jvm.ClassFile.FieldType.boolean), Jvm.Cond.code ({ cls := "java/lang/StringLatin1", name := "charAt", desc := "([BI)C" } : Jvm.MethodName) jdk_43_method_2_code (2 : Nat) (Option.some Jvm.ClassFile.FieldType.char), Jvm.Cond.code ({ cls := "java/lang/String", name := "checkIndex", desc := "(II)V" } : Jvm.MethodName) jdk_42_method_155_code (2 : Nat) (Option.none : Option Jvm.ClassFile.FieldType), Jvm.Cond.code ({ cls := "jdk/internal/util/Preconditions", name := "checkIndex", desc := "(IILjava/util/function/BiFunction;)I" } : Jvm.MethodName) jdk_41_method_11_code (3 : Nat) (Option.some Jvm.ClassFile.FieldType.int), Jvm.Cond.code ({ cls := "java/lang/String", name := "valueOf", desc := "(C)Ljava/lang/String;" } : Jvm.MethodName) jdk_42_method_139_code (1 : Nat) (Option.some (Jvm.ClassFile.FieldType.object "java/lang/String")), Jvm.Cond.code ({ cls := "java/lang/StringLatin1", name := "canEncode", desc := "(C)Z" } : Jvm.MethodName) jdk_43_method_3_code (1 : Nat) (Option.some Jvm.ClassFile.FieldType.boolean), Jvm.Cond.code ({ cls := "java/lang/StringLatin1", name := "toBytes", desc := "(C)[B" } : Jvm.MethodName) jdk_43_method_46_code (1 : Nat) (Option.some (Jvm.ClassFile.FieldType.array Jvm.ClassFile.FieldType.byte)), Jvm.Cond.code ({ cls := "java/lang/String", name := "<init>", desc := "([BB)V" } : Jvm.MethodName) jdk_42_method_151_code (3 : Nat) (Option.none : Option Jvm.ClassFile.FieldType), Jvm.Cond.code ({ cls := "java/lang/Object", name := "<init>", desc := "()V" } : Jvm.MethodName) object_method_1_code (1 : Nat) (Option.none : Option Jvm.ClassFile.FieldType), Jvm.Cond.code ({ cls := "com/example/dekree/dekree/QualifiedName", name := "<init>", desc := "(Ljava/lang/String;Ljava/lang/String;)V" } : Jvm.MethodName) prog_7_method_1_code (3 : Nat) (Option.none : Option Jvm.ClassFile.FieldType), Jvm.Cond.code ({ cls := "java/util/Objects", name := "requireNonNull", desc := "(Ljava/lang/Object;Ljava/lang/String;)Ljava/lang/Object;" } : Jvm.MethodName) jdk_31_method_11_code (2 : Nat) (Option.some (Jvm.ClassFile.FieldType.object "java/lang/Object")), Jvm.Cond.code ({ cls := "com/example/dekree/dekree/QualifiedName", name := "isPlainName", desc := "(Ljava/lang/String;)Z" } : Jvm.MethodName) prog_7_method_9_code (2 : Nat) (Option.some Jvm.ClassFile.FieldType.boolean), Jvm.Cond.code ({ cls := "java/lang/String", name := "isEmpty", desc := "()Z" } : Jvm.MethodName) jdk_42_method_55_code (1 : Nat) (Option.some Jvm.ClassFile.FieldType.boolean), Jvm.Cond.code ({ cls := "java/lang/String", name := "length", desc := "()I" } : Jvm.MethodName) jdk_42_method_54_code (1 : Nat) (Option.some Jvm.ClassFile.FieldType.int), Jvm.Cond.code ({ cls := "java/lang/String", name := "coder", desc := "()B" } : Jvm.MethodName) jdk_42_method_152_code (1 : Nat) (Option.some Jvm.ClassFile.FieldType.byte), Jvm.Cond.code ({ cls := "com/example/dekree/dekree/QualifiedName", name := "isNameCharacter", desc := "(C)Z" } : Jvm.MethodName) prog_7_method_10_code (1 : Nat) (Option.some Jvm.ClassFile.FieldType.boolean), Jvm.Cond.code ({ cls := "java/lang/StringBuilder", name := "<init>", desc := "()V" } : Jvm.MethodName) jdk_67_method_1_code (1 : Nat) (Option.none : Option Jvm.ClassFile.FieldType), Jvm.Cond.code ({ cls := "java/lang/AbstractStringBuilder", name := "<init>", desc := "(I)V" } : Jvm.MethodName) jdk_68_method_2_code (2 : Nat) (Option.none : Option Jvm.ClassFile.FieldType), Jvm.Cond.code ({ cls := "java/lang/StringBuilder", name := "append", desc := "(Ljava/lang/String;)Ljava/lang/StringBuilder;" } : Jvm.MethodName) jdk_67_method_7_code (2 : Nat) (Option.some (Jvm.ClassFile.FieldType.object "java/lang/StringBuilder")), Jvm.Cond.code ({ cls := "java/lang/AbstractStringBuilder", name := "append", desc := "(Ljava/lang/String;)Ljava/lang/AbstractStringBuilder;" } : Jvm.MethodName) jdk_68_method_22_code (3 : Nat) (Option.some (Jvm.ClassFile.FieldType.object "java/lang/AbstractStringBuilder")), Jvm.Cond.code ({ cls := "java/lang/AbstractStringBuilder", name := "ensureCapacityInternal", desc := "(I)V" } : Jvm.MethodName) jdk_68_method_9_code (3 : Nat) (Option.none : Option Jvm.ClassFile.FieldType), Jvm.Cond.code ({ cls := "java/lang/AbstractStringBuilder", name := "putStringAt", desc := "(ILjava/lang/String;)V" } : Jvm.MethodName) jdk_68_method_73_code (3 : Nat) (Option.none : Option Jvm.ClassFile.FieldType), Jvm.Cond.code ({ cls := "java/lang/AbstractStringBuilder", name := "inflateIfNeededFor", desc := "(Ljava/lang/String;)V" } : Jvm.MethodName) jdk_68_method_71_code (2 : Nat) (Option.none : Option Jvm.ClassFile.FieldType), Jvm.Cond.code ({ cls := "java/lang/String", name := "getBytes", desc := "([BIB)V" } : Jvm.MethodName) jdk_42_method_147_code (4 : Nat) (Option.none : Option Jvm.ClassFile.FieldType), Jvm.Cond.code ({ cls := "java/lang/StringBuilder", name := "toString", desc := "()Ljava/lang/String;" } : Jvm.MethodName) jdk_67_method_42_code (1 : Nat) (Option.some (Jvm.ClassFile.FieldType.object "java/lang/String")), Jvm.Cond.code ({ cls := "java/lang/String", name := "<init>", desc := "(Ljava/lang/StringBuilder;)V" } : Jvm.MethodName) jdk_42_method_53_code (2 : Nat) (Option.none : Option Jvm.ClassFile.FieldType), Jvm.Cond.code ({ cls := "java/lang/String", name := "<init>", desc := "(Ljava/lang/AbstractStringBuilder;Ljava/lang/Void;)V" } : Jvm.MethodName) jdk_42_method_150_code (5 : Nat) (Option.none : Option Jvm.ClassFile.FieldType), Jvm.Cond.code ({ cls := "java/lang/AbstractStringBuilder", name := "getValue", desc := "()[B" } : Jvm.MethodName) jdk_68_method_64_code (1 : Nat) (Option.some (Jvm.ClassFile.FieldType.array Jvm.ClassFile.FieldType.byte)), Jvm.Cond.code ({ cls := "java/lang/StringBuilder", name := "length", desc := "()I" } : Jvm.MethodName) jdk_67_method_93_code (1 : Nat) (Option.some Jvm.ClassFile.FieldType.int), Jvm.Cond.code ({ cls := "java/lang/AbstractStringBuilder", name := "length", desc := "()I" } : Jvm.MethodName) jdk_68_method_6_code (1 : Nat) (Option.some Jvm.ClassFile.FieldType.int), Jvm.Cond.code ({ cls := "java/lang/AbstractStringBuilder", name := "isLatin1", desc := "()Z" } : Jvm.MethodName) jdk_68_method_68_code (1 : Nat) (Option.some Jvm.ClassFile.FieldType.boolean), Jvm.Cond.code ({ cls := "java/util/Arrays", name := "copyOfRange", desc := "([BII)[B" } : Jvm.MethodName) jdk_65_method_132_code (3 : Nat) (Option.some (Jvm.ClassFile.FieldType.array Jvm.ClassFile.FieldType.byte)), Jvm.Cond.code ({ cls := "java/util/Arrays", name := "copyOfRangeByte", desc := "([BII)[B" } : Jvm.MethodName) jdk_65_method_133_code (5 : Nat) (Option.some (Jvm.ClassFile.FieldType.array Jvm.ClassFile.FieldType.byte)), Jvm.Cond.code ({ cls := "java/util/Arrays", name := "checkLength", desc := "(II)V" } : Jvm.MethodName) jdk_65_method_131_code (2 : Nat) (Option.none : Option Jvm.ClassFile.FieldType), Jvm.Cond.code ({ cls := "java/lang/Math", name := "min", desc := "(II)I" } : Jvm.MethodName) jdk_29_method_69_code (2 : Nat) (Option.some Jvm.ClassFile.FieldType.int), Jvm.Cond.code ({ cls := "com/example/dekree/dekree/PermissionEqualsPinLaw", name := "op", desc := "(I)Ljava/lang/String;" } : Jvm.MethodName) method_5_code (4 : Nat) (Option.some (Jvm.ClassFile.FieldType.object "java/lang/String")), Jvm.Cond.code ({ cls := "com/example/dekree/dekree/Permission", name := "<init>", desc := "(Ljava/lang/String;Lcom/example/dekree/dekree/QualifiedName;)V" } : Jvm.MethodName) prog_4_method_1_code (3 : Nat) (Option.none : Option Jvm.ClassFile.FieldType), Jvm.Cond.code ({ cls := "com/example/dekree/dekree/PermissionEqualsPinLaw", name := "opEq", desc := "(II)Z" } : Jvm.MethodName) method_6_code (4 : Nat) (Option.some Jvm.ClassFile.FieldType.boolean), Jvm.Cond.code ({ cls := "com/example/dekree/dekree/PermissionEqualsPinLaw", name := "partEq", desc := "(II)Z" } : Jvm.MethodName) method_4_code (4 : Nat) (Option.some Jvm.ClassFile.FieldType.boolean), Jvm.Cond.code ({ cls := "com/example/dekree/dekree/Permission", name := "equals", desc := "(Ljava/lang/Object;)Z" } : Jvm.MethodName) prog_4_method_4_code (3 : Nat) (Option.some Jvm.ClassFile.FieldType.boolean), Jvm.Cond.code ({ cls := "java/lang/String", name := "equals", desc := "(Ljava/lang/Object;)Z" } : Jvm.MethodName) jdk_42_method_66_code (3 : Nat) (Option.some Jvm.ClassFile.FieldType.boolean), Jvm.Cond.code ({ cls := "com/example/dekree/dekree/QualifiedName", name := "equals", desc := "(Ljava/lang/Object;)Z" } : Jvm.MethodName) prog_7_method_6_code (3 : Nat) (Option.some Jvm.ClassFile.FieldType.boolean), Jvm.Cond.code ({ cls := "java/lang/StringLatin1", name := "equals", desc := "([B[B)Z" } : Jvm.MethodName) jdk_43_method_13_code (3 : Nat) (Option.some Jvm.ClassFile.FieldType.boolean), Jvm.Cond.code ({ cls := "java/lang/String", name := "<init>", desc := "([C)V" } : Jvm.MethodName) jdk_42_method_3_code (2 : Nat) (Option.none : Option Jvm.ClassFile.FieldType), Jvm.Cond.code ({ cls := "java/lang/String", name := "<init>", desc := "([CIILjava/lang/Void;)V" } : Jvm.MethodName) jdk_42_method_149_code (6 : Nat) (Option.none : Option Jvm.ClassFile.FieldType), Jvm.Cond.code ({ cls := "java/lang/StringUTF16", name := "compress", desc := "([CII)[B" } : Jvm.MethodName) jdk_52_method_16_code (6 : Nat) (Option.some (Jvm.ClassFile.FieldType.array Jvm.ClassFile.FieldType.byte)), Jvm.Cond.code ({ cls := "java/lang/StringUTF16", name := "compress", desc := "([CI[BII)I" } : Jvm.MethodName) jdk_52_method_21_code (7 : Nat) (Option.some Jvm.ClassFile.FieldType.int), Jvm.Cond.code ({ cls := "java/lang/StringUTF16", name := "coderFromArrayLen", desc := "([BI)B" } : Jvm.MethodName) jdk_52_method_15_code (2 : Nat) (Option.some Jvm.ClassFile.FieldType.byte)]
set_option maxRecDepth 65536 in
theorem codes_eq : words1.filter isCode = codes1 := rfl
theorem w_codes : ∀ c ∈ words1.filter isCode, c.before args0 about1 = true := by
  rw [codes_eq]
  intro c hc
  simp only [codes1, List.mem_cons, List.not_mem_nil, or_false] at hc
  rcases hc with rfl | rfl | rfl | rfl | rfl | rfl | rfl | rfl | rfl | rfl | rfl | rfl | rfl | rfl | rfl | rfl | rfl | rfl | rfl | rfl | rfl | rfl | rfl | rfl | rfl | rfl | rfl | rfl | rfl | rfl | rfl | rfl | rfl | rfl | rfl | rfl | rfl | rfl | rfl | rfl | rfl | rfl | rfl | rfl | rfl | rfl | rfl | rfl | rfl | rfl | rfl | rfl
  · exact w_c0
  · exact w_c1
  · exact w_c2
  · exact w_c3
  · exact w_c4
  · exact w_c5
  · exact w_c6
  · exact w_c7
  · exact w_c8
  · exact w_c9
  · exact w_c10
  · exact w_c11
  · exact w_c12
  · exact w_c13
  · exact w_c14
  · exact w_c15
  · exact w_c16
  · exact w_c17
  · exact w_c18
  · exact w_c19
  · exact w_c20
  · exact w_c21
  · exact w_c22
  · exact w_c23
  · exact w_c24
  · exact w_c25
  · exact w_c26
  · exact w_c27
  · exact w_c28
  · exact w_c29
  · exact w_c30
  · exact w_c31
  · exact w_c32
  · exact w_c33
  · exact w_c34
  · exact w_c35
  · exact w_c36
  · exact w_c37
  · exact w_c38
  · exact w_c39
  · exact w_c40
  · exact w_c41
  · exact w_c42
  · exact w_c43
  · exact w_c44
  · exact w_c45
  · exact w_c46
  · exact w_c47
  · exact w_c48
  · exact w_c49
  · exact w_c50
  · exact w_c51
set_option maxRecDepth 65536 in
theorem w_t1 : (words1.take 24).all (fun c => isCode c || c.before args0 about1) = true := by decide +kernel
set_option maxRecDepth 65536 in
theorem w_t2 : ((words1.drop 24).take 24).all (fun c => isCode c || c.before args0 about1) = true := by decide +kernel
set_option maxRecDepth 65536 in
theorem w_t3 : (((words1.drop 24).drop 24).take 24).all (fun c => isCode c || c.before args0 about1) = true := by decide +kernel
set_option maxRecDepth 65536 in
theorem w_t4 : ((((words1.drop 24).drop 24).drop 24).take 24).all (fun c => isCode c || c.before args0 about1) = true := by decide +kernel
set_option maxRecDepth 65536 in
theorem w_t5 : (((((words1.drop 24).drop 24).drop 24).drop 24).take 24).all (fun c => isCode c || c.before args0 about1) = true := by decide +kernel
set_option maxRecDepth 65536 in
theorem w_t6 : ((((((words1.drop 24).drop 24).drop 24).drop 24).drop 24).take 24).all (fun c => isCode c || c.before args0 about1) = true := by decide +kernel
set_option maxRecDepth 65536 in
theorem w_t7 : (((((((words1.drop 24).drop 24).drop 24).drop 24).drop 24).drop 24).take 24).all (fun c => isCode c || c.before args0 about1) = true := by decide +kernel
set_option maxRecDepth 65536 in
theorem w_t8 : ((((((((words1.drop 24).drop 24).drop 24).drop 24).drop 24).drop 24).drop 24).take 24).all (fun c => isCode c || c.before args0 about1) = true := by decide +kernel
set_option maxRecDepth 65536 in
theorem w_t9 : (((((((((words1.drop 24).drop 24).drop 24).drop 24).drop 24).drop 24).drop 24).drop 24).take 24).all (fun c => isCode c || c.before args0 about1) = true := by decide +kernel
set_option maxRecDepth 65536 in
theorem w_t10 : ((((((((((words1.drop 24).drop 24).drop 24).drop 24).drop 24).drop 24).drop 24).drop 24).drop 24).take 24).all (fun c => isCode c || c.before args0 about1) = true := by decide +kernel
set_option maxRecDepth 65536 in
theorem w_t11 : (((((((((((words1.drop 24).drop 24).drop 24).drop 24).drop 24).drop 24).drop 24).drop 24).drop 24).drop 24).take 24).all (fun c => isCode c || c.before args0 about1) = true := by decide +kernel
set_option maxRecDepth 65536 in
theorem w_t12 : (((((((((((words1.drop 24).drop 24).drop 24).drop 24).drop 24).drop 24).drop 24).drop 24).drop 24).drop 24).drop 24).all (fun c => isCode c || c.before args0 about1) = true := by decide +kernel
theorem w_tables : (allAtoms (Jvm.Cond.code x code maxLocals ret :: tables_1)).before args0 about1 = true := by
  rw [allAtoms_all]
  show words1.all (fun c => c.before args0 about1) = true
  refine all_split ?_ w_codes
  rw [← List.take_append_drop 24 words1, List.all_append, w_t1, ← List.take_append_drop 24 (words1.drop 24), List.all_append, w_t2, ← List.take_append_drop 24 ((words1.drop 24).drop 24), List.all_append, w_t3, ← List.take_append_drop 24 (((words1.drop 24).drop 24).drop 24), List.all_append, w_t4, ← List.take_append_drop 24 ((((words1.drop 24).drop 24).drop 24).drop 24), List.all_append, w_t5, ← List.take_append_drop 24 (((((words1.drop 24).drop 24).drop 24).drop 24).drop 24), List.all_append, w_t6, ← List.take_append_drop 24 ((((((words1.drop 24).drop 24).drop 24).drop 24).drop 24).drop 24), List.all_append, w_t7, ← List.take_append_drop 24 (((((((words1.drop 24).drop 24).drop 24).drop 24).drop 24).drop 24).drop 24), List.all_append, w_t8, ← List.take_append_drop 24 ((((((((words1.drop 24).drop 24).drop 24).drop 24).drop 24).drop 24).drop 24).drop 24), List.all_append, w_t9, ← List.take_append_drop 24 (((((((((words1.drop 24).drop 24).drop 24).drop 24).drop 24).drop 24).drop 24).drop 24).drop 24), List.all_append, w_t10, ← List.take_append_drop 24 ((((((((((words1.drop 24).drop 24).drop 24).drop 24).drop 24).drop 24).drop 24).drop 24).drop 24).drop 24), List.all_append, w_t11, w_t12]
  rfl
set_option maxRecDepth 65536 in
theorem w_rest : rest_1_c.before args0 about1 = true := by decide +kernel
set_option maxRecDepth 65536 in
theorem w_case : (Jvm.Cond.and given_1 narrow_1).before args0 about1 = true := by decide +kernel
set_option maxRecDepth 65536 in
theorem w_consts : constsHeld consts_1 about1 := Jvm.Lit.constsHeldB_iff.mp (by decide +kernel)
theorem w_applies : (headSpec (Jvm.Cond.code x code maxLocals ret :: tables_1) room_1).applies x e0.platform about1 = true :=
  (Spec.applies_iff w_frames).mpr ⟨w_running, w_runnable, w_alone, w_named, w_hears, w_ripe, w_room, w_tables⟩
theorem atStart : AtStart classFile x code maxLocals ret World_1 tables_1 room_1 Calls_1 rest_1 Pre_1 launch0 p0 e0 about1 theMethod args0 below0 :=
  ⟨lists_1, trivial, launch0.admits_env _ _ _, launch0.least_env, fairChoices_fair.cas, fairChoices_fair.clock, w_frames, w_args, w_heap, w_applies, ⟨w_consts, trivial⟩, w_rest, w_case⟩
end start1
theorem witness_1 : WitnessClaimed_1 := ⟨start1.p0, start1.e0, start1.about1, start1.theMethod, start1.args0, start1.below0, start1.atStart⟩
end Jvm.Pilot.@@N@@
