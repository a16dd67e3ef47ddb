import JvmDerived
import JvmDerived.Pilot.@@N@@Statement
import JvmDerived.Pilot.@@N@@Code
set_option linter.unusedVariables false
set_option linter.unusedSimpArgs false
namespace Jvm.OwnW
open Jvm Jvm.ClassFile Sem Op Lib Jvm.Free Jvm.Stand Jvm.LawKit Jvm.RoadKit
/-! A small logic of walks of its own: a store L (what is known of single cells), one rule an instruction. -/
abbrev Ent : Type := Addr × Bool × (Cell → Prop)
abbrev Store : Type := List Ent
abbrev Lay : Type := List (String × String × String)
def FldC (Z : State) (C n d : String) (v : Value) (cell : Cell) : Prop := ∃ (cf : ClassId) (k : Class) (i : Nat) (f : Field), Z.fieldFound? C n d = some (cf, k, i, f) ∧ f.isStatic = false ∧ cell.vm ≠ .unknown ∧ cell.vm.isStatics = false ∧ Z.vm.assignable cell.cls cf = true ∧ cell.slots[f.slot]? = some v
def ExaC (Z : State) (C : String) (cell : Cell) : Prop := ∃ k : Class, Z.vm.findClass C = some cell.cls ∧ Z.vm.classes[cell.cls]? = some k ∧ cell.vm.isStatics = false ∧ (k.kind = .ordinary → cell.slots.size = k.instanceTypes.size)
/-- an object of exactly the class C, the fields of lay hold vs -/
def OB (Z : State) (C : String) (lay : Lay) (vs : List Value) (c : Cell) : Prop := ExaC Z C c ∧ ∀ (j : Nat) (f : String × String × String) (v : Value), lay[j]? = some f → vs[j]? = some v → FldC Z f.1 f.2.1 f.2.2 v c
/-- an array of ty that holds vs -/
def AR (Z : State) (ty : FieldType) (vs : List Value) (c : Cell) : Prop := Z.isArrayOf c ty ∧ c.vm ≠ .unknown ∧ c.slots.toList = vs ∧ vs.length < 2 ^ 31
/-- an array of references over the class C -/
def RA (Z : State) (C : String) (vs : List Value) (c : Cell) : Prop := AR Z (.object C) vs c ∧ Ovr Z c.cls C
def Inv (Z : State) (EL : List (String × Nat)) (vm : Vm) (h : Heap) (L : Store) : Prop :=
  Ext Z.heap h ∧ CHv Z EL vm h ∧ (∀ o ∈ L, ∃ c : Cell, h[o.1]? = some c ∧ o.2.2 c) ∧ (∀ o ∈ L, o.2.1 = true → Z.heap.size ≤ o.1 ∧ Safe Z EL vm h o.1) ∧ L.Pairwise (fun o o' => (o.2.1 = true ∨ o'.2.1 = true) → o.1 ≠ o'.1)
section Facts
variable {Z : State} {EL : List (String × Nat)} {vm vm' : Vm} {h h' : Heap} {L L' L0 : Store} {a b : Addr} {C n d : String} {v w : Value} {c c' : Cell} {P P' : Cell → Prop} {lay : Lay} {vs : List Value} {j sl : Nat} {ty : FieldType} {a0 : Array Value} {fl : Bool}
theorem fld_of (hc : h[a]? = some c) (F : FldC Z C n d v c) : Fld Z h a C n d v := by obtain ⟨cf, k, i, f, r⟩ := F; exact ⟨c, cf, k, i, f, hc, r⟩
theorem of_fld (hc : h[a]? = some c) (F : Fld Z h a C n d v) : FldC Z C n d v c := by
  obtain ⟨c1, cf, k, i, f, h1, r⟩ := F
  cases hc.symm.trans h1
  exact ⟨cf, k, i, f, r⟩
theorem exa_of (hc : h[a]? = some c) (F : ExaC Z C c) : Exa Z h a C := by obtain ⟨k, r⟩ := F; exact ⟨c, k, hc, r⟩
theorem of_exa (hc : h[a]? = some c) (F : Exa Z h a C) : ExaC Z C c := by
  obtain ⟨c1, k, h1, r⟩ := F
  cases hc.symm.trans h1
  exact ⟨k, r⟩
theorem OB.exa (F : OB Z C lay vs c) (hc : h[a]? = some c) : Exa Z h a C := exa_of hc F.1
theorem OB.fld {f : String × String × String} (F : OB Z C lay vs c) (hc : h[a]? = some c) (hj : lay[j]? = some f) (hv : vs[j]? = some v) : Fld Z h a f.1 f.2.1 f.2.2 v := fld_of hc (F.2 j f v hj hv)
theorem AR.arr (F : AR Z ty vs c) (hc : h[a]? = some c) : Arr Z h a c ty := ⟨hc, F.1, F.2.1⟩
theorem AR.size (F : AR Z ty vs c) : c.slots.size = vs.length := by rw [← F.2.2.1]; simp
theorem AR.get (F : AR Z ty vs c) (hv : vs[j]? = some v) : c.slots[j]? = some v := by rw [← F.2.2.1] at hv; simpa using hv
theorem AR.set (F : AR Z ty vs c) (j : Nat) (v : Value) : AR Z ty (vs.set j v) (c.setSlot j v) :=
  ⟨F.1, F.2.1, by rw [← F.2.2.1]; simp [Cell.setSlot], by rw [List.length_set]; exact F.2.2.2⟩
theorem Inv.at_ (I : Inv Z EL vm h L) (m : (a, fl, P) ∈ L) : ∃ c : Cell, h[a]? = some c ∧ P c := I.2.2.1 _ m
theorem Inv.perm (p : L.Perm L') (I : Inv Z EL vm h L) : Inv Z EL vm h L' :=
  ⟨I.1, I.2.1, fun o ho => I.2.2.1 o (p.symm.subset ho), fun o ho => I.2.2.2.1 o (p.symm.subset ho), (p.pairwise_iff (fun {x y} q r => (q r.symm).symm)).mp I.2.2.2.2⟩
theorem Inv.sub (p : L'.Sublist L) (I : Inv Z EL vm h L) : Inv Z EL vm h L' :=
  ⟨I.1, I.2.1, fun o ho => I.2.2.1 o (p.subset ho), fun o ho => I.2.2.2.1 o (p.subset ho), I.2.2.2.2.sublist p⟩
theorem Inv.weak (hP : ∀ c, P c → P' c) (I : Inv Z EL vm h ((a, fl, P) :: L)) : Inv Z EL vm h ((a, fl, P') :: L) := by
  obtain ⟨h1, h2, h3, h4, h5⟩ := I
  rw [List.pairwise_cons] at h5
  refine ⟨h1, h2, fun o ho => ?_, fun o ho => ?_, List.pairwise_cons.mpr ⟨fun o ho q => h5.1 o ho q, h5.2⟩⟩
  · rcases List.mem_cons.mp ho with rfl | ho
    · obtain ⟨c, e1, e2⟩ := h3 (a, fl, P) (List.mem_cons_self ..); exact ⟨c, e1, hP c e2⟩
    · exact h3 o (List.mem_cons_of_mem _ ho)
  · rcases List.mem_cons.mp ho with rfl | ho
    · exact h4 (a, fl, P) (List.mem_cons_self ..)
    · exact h4 o (List.mem_cons_of_mem _ ho)
theorem Inv.lt (I : Inv Z EL vm h L) {o : Ent} (m : o ∈ L) : o.1 < h.size := by obtain ⟨c, e, -⟩ := I.2.2.1 o m; exact (Array.getElem?_eq_some_iff.mp e).1
/-- a new cell -/
theorem Inv.new (I : Inv Z EL vm h L) (E : Ext h h') (hc : h'[h.size]? = some c) (hP : P c) : Inv Z EL vm h' ((h.size, true, P) :: L) := by
  have I0 := I
  obtain ⟨h1, h2, h3, h4, h5⟩ := I
  refine ⟨⟨Nat.le_trans h1.1 E.1, fun x c q => E.2 x c (h1.2 x c q)⟩, h2.ext E, fun o ho => ?_, fun o ho q => ?_, List.pairwise_cons.mpr ⟨fun o ho _ q => ?_, h5⟩⟩
  · rcases List.mem_cons.mp ho with rfl | ho
    · exact ⟨c, hc, hP⟩
    · obtain ⟨c1, e1, e2⟩ := h3 o ho; exact ⟨c1, E.2 _ _ e1, e2⟩
  · rcases List.mem_cons.mp ho with rfl | ho
    · exact ⟨h1.1, Safe.ext E h2 (Safe.new (Nat.le_refl _))⟩
    · exact ⟨(h4 o ho q).1, Safe.ext E h2 (h4 o ho q).2⟩
  · have := I0.lt ho
    exact absurd q (Nat.ne_of_gt this)
/-- a write to the first -/
theorem Inv.wr (I : Inv Z EL vm h ((a, true, P) :: L)) (W : Wr h h' a sl v) (hP : ∀ c, h[a]? = some c → P c → P' (c.setSlot sl v)) : Inv Z EL vm h' ((a, true, P') :: L) := by
  have I0 := I
  obtain ⟨h1, h2, h3, h4, h5⟩ := I
  have hs := (h4 _ (List.mem_cons_self ..) rfl)
  rw [List.pairwise_cons] at h5
  have W0 := W
  obtain ⟨cell, e1, e2, e3, rfl⟩ := W
  refine ⟨⟨by simpa using h1.1, fun x c q => ?_⟩, h2.wr W0 hs.2, fun o ho => ?_, fun o ho q => ?_, List.pairwise_cons.mpr ⟨fun o ho q => h5.1 o ho q, h5.2⟩⟩
  · have hx : x < Z.heap.size := (Array.getElem?_eq_some_iff.mp q).1
    have hne : a ≠ x := fun e => by have := hs.1; rw [e] at this; exact absurd hx (Nat.not_lt.mpr this)
    rw [Array.getElem?_setIfInBounds_ne hne]; exact h1.2 x c q
  · rcases List.mem_cons.mp ho with rfl | ho
    · obtain ⟨c1, q1, q2⟩ := h3 (a, true, P) (List.mem_cons_self ..)
      cases e1.symm.trans q1
      exact ⟨_, Array.getElem?_setIfInBounds_self_of_lt (Array.getElem?_eq_some_iff.mp e1).1, hP _ e1 q2⟩
    · obtain ⟨c1, q1, q2⟩ := h3 o (List.mem_cons_of_mem _ ho)
      have hne : a ≠ o.1 := h5.1 o ho (Or.inl rfl)
      exact ⟨c1, by rw [Array.getElem?_setIfInBounds_ne hne]; exact q1, q2⟩
  · rcases List.mem_cons.mp ho with rfl | ho
    · exact ⟨hs.1, Safe.wr W0 hs.2 h2 hs.2⟩
    · have q2 := h4 o (List.mem_cons_of_mem _ ho) q
      exact ⟨q2.1, Safe.wr W0 hs.2 h2 q2.2⟩
/-- the tables go on -/
theorem Inv.later (I : Inv Z EL vm h L) (E : Ext h h') (A : CHr Z EL vm h vm' h') : Inv Z EL vm' h' L := by
  have I0 := I
  obtain ⟨h1, h2, h3, h4, h5⟩ := I
  refine ⟨⟨Nat.le_trans h1.1 E.1, fun x c q => E.2 x c (h1.2 x c q)⟩, A.1, fun o ho => ?_, fun o ho q => ?_, h5⟩
  · obtain ⟨c1, e1, e2⟩ := h3 o ho; exact ⟨c1, E.2 _ _ e1, e2⟩
  · exact ⟨(h4 o ho q).1, A.safe (I0.lt ho) (h4 o ho q).2⟩
/-- a cell that isn't written -/
theorem Inv.old (I : Inv Z EL vm h L) (hc : h[a]? = some c) (hP : P c) (hne : ∀ x, Z.heap.size ≤ x → Safe Z EL vm h x → x ≠ a) : Inv Z EL vm h ((a, false, P) :: L) := by
  obtain ⟨h1, h2, h3, h4, h5⟩ := I
  refine ⟨h1, h2, fun o ho => ?_, fun o ho q => ?_, List.pairwise_cons.mpr ⟨fun o ho q r => ?_, h5⟩⟩
  · rcases List.mem_cons.mp ho with rfl | ho
    · exact ⟨c, hc, hP⟩
    · exact h3 o ho
  · rcases List.mem_cons.mp ho with rfl | ho
    · cases q
    · exact h4 o ho q
  · rcases q with q | q
    · cases q
    · exact hne o.1 (h4 o ho q).1 (h4 o ho q).2 r.symm
theorem Inv.ne {o o' : Ent} (I : Inv Z EL vm h L) {i j : Nat} (hi : L[i]? = some o) (hj : L[j]? = some o') (hij : i < j) (hf : o.2.1 = true ∨ o'.2.1 = true) : o.1 ≠ o'.1 := by
  obtain ⟨h1, e1⟩ := List.getElem?_eq_some_iff.mp hi
  obtain ⟨h2, e2⟩ := List.getElem?_eq_some_iff.mp hj
  have := List.pairwise_iff_getElem.mp I.2.2.2.2 i j h1 h2 hij
  rw [e1, e2] at this
  exact this hf
/-- the slots of a layout are unlike -/
def LayOk (Z : State) (a0 : Array Value) (C : String) (lay : Lay) : Prop := (∀ f ∈ lay, Laid Z a0 C f.1 f.2.1 f.2.2) ∧ (lay.map (·.2.1)).Nodup ∧ ∀ f ∈ lay, ∃ t, parseFieldDescriptor f.2.2 = some t
theorem LayOk.ne {f f' : String × String × String} {j' : Nat} (K : LayOk Z a0 C lay) (hj : lay[j]? = some f) (hj' : lay[j']? = some f') (hne : j ≠ j') : RoadKit.slotOf Z f.1 f.2.1 f.2.2 ≠ RoadKit.slotOf Z f'.1 f'.2.1 f'.2.2 := by
  have m1 := List.mem_of_getElem? hj
  have m2 := List.mem_of_getElem? hj'
  obtain ⟨t1, q1⟩ := K.2.2 f m1
  obtain ⟨t2, q2⟩ := K.2.2 f' m2
  refine slot_ne (K.1 f m1) (K.1 f' m2) (fun e => ?_) q1 q2
  have n1 : (lay.map (·.2.1))[j]? = some f.2.1 := by simp [hj]
  have n2 : (lay.map (·.2.1))[j']? = some f'.2.1 := by simp [hj']
  obtain ⟨l1, g1⟩ := List.getElem?_eq_some_iff.mp n1
  obtain ⟨l2, g2⟩ := List.getElem?_eq_some_iff.mp n2
  have := List.pairwise_iff_getElem.mp (show (lay.map (·.2.1)).Pairwise (· ≠ ·) from K.2.1)
  rcases Nat.lt_or_gt_of_ne hne with q | q
  · exact this j j' l1 l2 q (by rw [g1, g2]; exact e)
  · exact this j' j l2 l1 q (by rw [g1, g2]; exact e.symm)
theorem OB.set {f : String × String × String} (K : LayOk Z a0 C lay) (F : OB Z C lay vs c) (hj : lay[j]? = some f) (hv : vs[j]? = some w) (v : Value) : OB Z C lay (vs.set j v) (c.setSlot (RoadKit.slotOf Z f.1 f.2.1 f.2.2) v) := by
  obtain ⟨⟨k, x1, x2, x3, x4⟩, F2⟩ := F
  have Fj := F2 j f w hj hv
  obtain ⟨cf, kf, i, fi, y1, y2, y3, y4, y5, y6⟩ := Fj
  have es : RoadKit.slotOf Z f.1 f.2.1 f.2.2 = fi.slot := by simp [RoadKit.slotOf, y1]
  refine ⟨⟨k, x1, x2, x3, fun q => by rw [sz_set]; exact x4 q⟩, fun j' f' v' h1 h2 => ?_⟩
  by_cases e : j = j'
  · subst e
    cases hj.symm.trans h1
    have hlt : j < vs.length := (List.getElem?_eq_some_iff.mp hv).1
    have : v' = v := by rw [List.getElem?_set_self hlt] at h2; exact (Option.some.inj h2).symm
    subst this
    have hsl := (Array.getElem?_eq_some_iff.mp y6).1
    exact ⟨cf, kf, i, fi, y1, y2, y3, y4, y5, by rw [es]; simp [Cell.setSlot, hsl]⟩
  · rw [List.getElem?_set_ne e] at h2
    obtain ⟨cf', kf', i', fi', z1, z2, z3, z4, z5, z6⟩ := F2 j' f' v' h1 h2
    have es' : RoadKit.slotOf Z f'.1 f'.2.1 f'.2.2 = fi'.slot := by simp [RoadKit.slotOf, z1]
    have hne := K.ne hj h1 e
    rw [es, es'] at hne
    exact ⟨cf', kf', i', fi', z1, z2, z3, z4, z5, by rw [es]; simp only [Cell.setSlot]; rw [Array.getElem?_setIfInBounds_ne hne]; exact z6⟩
end Facts
/-- the store with the entry o taken out -/
def Ex (L : Store) (o : Ent) (L0 : Store) : Prop := L.Perm (o :: L0)
theorem Ex.here {o : Ent} {L : Store} : Ex (o :: L) o L := List.Perm.refl _
theorem Ex.there {o x : Ent} {L L0 : Store} (h : Ex L o L0) : Ex (x :: L) o (x :: L0) := (List.Perm.cons x h).trans (List.Perm.swap o x L0)
/-- a local is written over -/
def LS1 (k : Nat) (v : Value) (Ls Ls' : List Slot) : Prop := v.category = 1 → storeLocals ⟨Ls⟩ k v = some ⟨Ls'⟩ ∧ ∃ o, Ls[k]? = some o ∧ One o ∧ Ls' = Ls.set k (.val v)
theorem LS1.of {Ls : List Slot} {i : Nat} {v : Value} {o : Slot} (hold : Ls[i]? = some o) (ho : One o) : LS1 i v Ls (Ls.set i (.val v)) := fun hv => by
  have q := XS.store1 (l := ⟨Ls⟩) (i := i) (v := v) (o := o) (by simpa using hold) ho hv
  exact ⟨by simpa using q, o, hold, ho, rfl⟩
theorem LS1.here {v : Value} {o : Slot} {Ls : List Slot} (ho : One o) : LS1 0 v (o :: Ls) (.val v :: Ls) := LS1.of (Ls := o :: Ls) (i := 0) rfl ho
theorem LS1.there {k : Nat} {v : Value} {x : Slot} {Ls Ls' : List Slot} (h : LS1 k v Ls Ls') : LS1 (k + 1) v (x :: Ls) (x :: Ls') := fun hv => by
  obtain ⟨-, o, h1, h2, rfl⟩ := h hv
  exact LS1.of (Ls := x :: Ls) (i := k + 1) (by simpa using h1) h2 hv
def LS2 (k : Nat) (v : Int64) (Ls Ls' : List Slot) : Prop := ∃ (A B : List Slot) (o1 o2 : Slot), Ls = A ++ o1 :: o2 :: B ∧ A.length = k ∧ ((One o1 ∧ One o2) ∨ ∃ x, o1 = .val (.long x) ∧ o2 = .second) ∧ Ls' = A ++ .val (.long v) :: .second :: B
theorem LS2.here {v : Int64} {o1 o2 : Slot} {Ls : List Slot} (ho : (One o1 ∧ One o2) ∨ ∃ x, o1 = .val (.long x) ∧ o2 = .second) : LS2 0 v (o1 :: o2 :: Ls) (.val (.long v) :: .second :: Ls) := ⟨[], Ls, o1, o2, rfl, rfl, ho, rfl⟩
theorem LS2.there {k : Nat} {v : Int64} {x : Slot} {Ls Ls' : List Slot} (h : LS2 k v Ls Ls') : LS2 (k + 1) v (x :: Ls) (x :: Ls') := by
  obtain ⟨A, B, o1, o2, rfl, h2, h3, rfl⟩ := h
  exact ⟨x :: A, B, o1, o2, rfl, by simp [h2], h3, rfl⟩
theorem LS2.store {k : Nat} {v : Int64} {Ls Ls' : List Slot} (h : LS2 k v Ls Ls') : storeLocals ⟨Ls⟩ k (.long v) = some ⟨Ls'⟩ := by
  obtain ⟨A, B, o1, o2, rfl, rfl, h3, rfl⟩ := h
  have hv : (Value.long v).category = 2 := rfl
  rcases h3 with ⟨h1 | ⟨w1, h1, g1⟩, h2 | ⟨w2, h2, g2⟩⟩ | ⟨x, h1, h2⟩
  · subst h1 h2; simp [storeLocals, storeSelf, setAt, hv]
  · subst h1 h2; simp [storeLocals, storeSelf, setAt, hv, g2]
  · subst h1 h2; simp [storeLocals, storeSelf, setAt, hv, g1]
  · subst h1 h2; simp [storeLocals, storeSelf, setAt, hv, g1, g2]
  · have hx : (Value.long x).category = 2 := rfl
    subst h1 h2; simp [storeLocals, storeSelf, setAt, hv, hx]
/-- THE WALK: from pc with these locals and this stack, the store L, cb cells and sb slots yet to be made, the body comes to its return, and Q holds there -/
def Wk (l : Launch) (Z : State) (a0 : Array Value) (EL : List (String × Nat)) (y : MethodName) (bytes : ByteArray) (mx : Nat) (ret : Option FieldType) (R : Room) (Q : Option Value → Store → Prop) (L : Store) (cb sb pc : Nat) (Ls : List Slot) (St : List Value) : Prop :=
  ∀ (p : Program) (e : Env) (s : State) (m : MethodId) (args : Array Value) (below : List Frame) (meth : Method) (c : Code) (T : State) (vm0 : Vm) (k0 : Nat) (locs : List Loc) (cells slots : Nat),
    p.tables.exec = Jvm.exec → c.code = bytes → c.maxLocals = mx → meth.sig.returnType = ret → meth.locks = false → meth.name = y.name → vm0.findClass y.cls = some m.cls →
    Stand p l e R (s.setVm vm0) m args below meth c T locs cells slots → s.Since vm0 k0 → k0 ≤ T.heap.size → Z.Warmed39 vm0 → EW Z a0 EL → Inv Z EL vm0 T.heap L → Fr Z.heap.size locs → cells + cb ≤ R.cells → slots + sb ≤ R.slots →
    ∃ (fin : State) (v : Option Value) (Lc : List Loc) (L' : Store), Steps p.tables e below (T.setTop (mkF m pc ⟨Ls⟩ St)) fin ∧ fin.status = .running ∧ Ended fin below (.returned v) ∧ Q v L' ∧ Inv Z EL fin.vm fin.heap L' ∧ Fr Z.heap.size Lc ∧ ReturnedEndW s (.returned v) fin Lc R.cells R.slots
/-- THE CONTRACT of a body -/
def Ct (l : Launch) (Z : State) (EL : List (String × Nat)) (y : MethodName) (bytes : ByteArray) (mx : Nat) (ret : Option FieldType) (R : Room) (as' : Array Value) (L : Store) (Q : Option Value → Store → Prop) : Prop :=
  ∀ ws : List Jvm.Cond, MetFree l y (head1 (Jvm.Cond.code y bytes mx ret :: ws) R) (fun a U => a = as' ∧ Z.Warmed39 U.vm ∧ Inv Z EL U.vm U.heap L) (fun _ _ _ _ _ => True) (fun _ U o U' => ∃ v Lc L', o = .returned v ∧ Q v L' ∧ Inv Z EL U'.vm U'.heap L' ∧ Fr Z.heap.size Lc ∧ ReturnedEndW U o U' Lc R.cells R.slots)
theorem endMono {s t : State} {o : Outcome} {L : List Loc} {k n k' n' : Nat} (h : ReturnedEndW s o t L k n) (hk : k ≤ k') (hn : n ≤ n') : ReturnedEndW s o t L k' n' := ⟨h.1, h.2.1, h.2.2.1, h.2.2.2.mono hk hn⟩
section Rules
variable {l : Launch} {Z : State} {a0 : Array Value} {EL : List (String × Nat)} {y : MethodName} {bytes : ByteArray} {mx : Nat} {ret : Option FieldType} {R : Room} {Q Q' : Option Value → Store → Prop} {L L0 L' : Store} {cb sb pc q : Nat} {Ls Ls' : List Slot} {St rest : List Value}
theorem Wk.mono (k : Wk l Z a0 EL y bytes mx ret R Q L cb sb pc Ls St) {cb' sb' : Nat} (h1 : cb ≤ cb') (h2 : sb ≤ sb') : Wk l Z a0 EL y bytes mx ret R Q L cb' sb' pc Ls St := by
  intro p e s m args below meth c T vm0 k0 locs cells slots hx hby hmx hret hlk hnm hown X hS hk hZ hE hI hF hc hs
  exact k p e s m args below meth c T vm0 k0 locs cells slots hx hby hmx hret hlk hnm hown X hS hk hZ hE hI hF (Nat.le_trans (Nat.add_le_add_left h1 _) hc) (Nat.le_trans (Nat.add_le_add_left h2 _) hs)
theorem Wk.imp (hq : ∀ v L, Q v L → Q' v L) (k : Wk l Z a0 EL y bytes mx ret R Q L cb sb pc Ls St) : Wk l Z a0 EL y bytes mx ret R Q' L cb sb pc Ls St := by
  intro p e s m args below meth c T vm0 k0 locs cells slots hx hby hmx hret hlk hnm hown X hS hk hZ hE hI hF hc hs
  obtain ⟨fin, v, Lc, L', h1, h2, h3, h4, r⟩ := k p e s m args below meth c T vm0 k0 locs cells slots hx hby hmx hret hlk hnm hown X hS hk hZ hE hI hF hc hs
  exact ⟨fin, v, Lc, L', h1, h2, h3, hq _ _ h4, r⟩
theorem Wk.inv (hi : ∀ vm h, Inv Z EL vm h L → Inv Z EL vm h L') (k : Wk l Z a0 EL y bytes mx ret R Q L' cb sb pc Ls St) : Wk l Z a0 EL y bytes mx ret R Q L cb sb pc Ls St := by
  intro p e s m args below meth c T vm0 k0 locs cells slots hx hby hmx hret hlk hnm hown X hS hk hZ hE hI hF hc hs
  exact k p e s m args below meth c T vm0 k0 locs cells slots hx hby hmx hret hlk hnm hown X hS hk hZ hE (hi _ _ hI) hF hc hs
/-- the entry o comes to the front -/
theorem Wk.pull {o : Ent} (h : Ex L o L0) (k : Wk l Z a0 EL y bytes mx ret R Q (o :: L0) cb sb pc Ls St) : Wk l Z a0 EL y bytes mx ret R Q L cb sb pc Ls St := Wk.inv (fun _ _ I => I.perm h) k
theorem Wk.perm (h : L.Perm L') (k : Wk l Z a0 EL y bytes mx ret R Q L' cb sb pc Ls St) : Wk l Z a0 EL y bytes mx ret R Q L cb sb pc Ls St := Wk.inv (fun _ _ I => I.perm h) k
theorem Wk.sub (h : L'.Sublist L) (k : Wk l Z a0 EL y bytes mx ret R Q L' cb sb pc Ls St) : Wk l Z a0 EL y bytes mx ret R Q L cb sb pc Ls St := Wk.inv (fun _ _ I => I.sub h) k
theorem Wk.distinct {i j : Nat} {o o' : Ent} (hi : L[i]? = some o) (hj : L[j]? = some o') (hij : i < j) (hf : o.2.1 = true ∨ o'.2.1 = true) (k : o.1 ≠ o'.1 → Wk l Z a0 EL y bytes mx ret R Q L cb sb pc Ls St) : Wk l Z a0 EL y bytes mx ret R Q L cb sb pc Ls St := by
  intro p e s m args below meth c T vm0 k0 locs cells slots hx hby hmx hret hlk hnm hown X hS hk hZ hE hI hF hc hs
  exact k (hI.ne hi hj hij hf) p e s m args below meth c T vm0 k0 locs cells slots hx hby hmx hret hlk hnm hown X hS hk hZ hE hI hF hc hs
/-- an old object, known at the start -/
theorem Wk.old {a : Addr} {c0 : Cell} {P : Cell → Prop} (h0 : Z.heap[a]? = some c0) (hP : P c0) (k : Wk l Z a0 EL y bytes mx ret R Q ((a, false, P) :: L) cb sb pc Ls St) : Wk l Z a0 EL y bytes mx ret R Q L cb sb pc Ls St := by
  refine Wk.inv (fun vm h I => I.old (I.1.2 _ _ h0) hP fun x hx _ e => ?_) k
  subst e
  exact absurd (Array.getElem?_eq_some_iff.mp h0).1 (Nat.not_lt.mpr hx)
/-- one plain step -/
theorem Wk.pure {q : Nat} {Ls' : List Slot} {St' : List Value} (st : ∀ {p : Program} {e : Env} {below : List Frame} {T : State} {m : MethodId} {c : Code} {target : State}, At T m c below → p.tables.exec = Jvm.exec → c.code = bytes → Steps p.tables e below (T.setTop (mkF m q ⟨Ls'⟩ St')) target → Steps p.tables e below (T.setTop (mkF m pc ⟨Ls⟩ St)) target)
    (k : Wk l Z a0 EL y bytes mx ret R Q L cb sb q Ls' St') : Wk l Z a0 EL y bytes mx ret R Q L cb sb pc Ls St := by
  intro p e s m args below meth c T vm0 k0 locs cells slots hx hby hmx hret hlk hnm hown X hS hk hZ hE hI hF hc hs
  obtain ⟨fin, v, Lc, L', h1, r⟩ := k p e s m args below meth c T vm0 k0 locs cells slots hx hby hmx hret hlk hnm hown X hS hk hZ hE hI hF hc hs
  exact ⟨fin, v, Lc, L', st X.here hx hby h1, r⟩
theorem getL {k : Nat} {o : Slot} (h : Ls[k]? = some o) : (⟨Ls⟩ : Array Slot)[k]? = some o := by simpa using h
theorem Wk.iload_n {i : Fin 4} {u : Int32} (hd : decode bytes pc = .ok (.iload_n i, 1)) (hq : pc + 1 = q) (hl : Ls[i.val]? = some (.val (.int u))) (k : Wk l Z a0 EL y bytes mx ret R Q L cb sb q Ls (.int u :: St)) : Wk l Z a0 EL y bytes mx ret R Q L cb sb pc Ls (St) := by
  subst hq; exact Wk.pure (fun X hx hby r => XS.iloadN X hx rfl (hb hby hd) (getL hl) r) k
theorem Wk.iload {i : Nat} {u : Int32} (hd : decode bytes pc = .ok (.iload i, 2)) (hq : pc + 2 = q) (hl : Ls[i]? = some (.val (.int u))) (k : Wk l Z a0 EL y bytes mx ret R Q L cb sb q Ls (.int u :: St)) : Wk l Z a0 EL y bytes mx ret R Q L cb sb pc Ls (St) := by
  subst hq; exact Wk.pure (fun X hx hby r => XS.iload X hx rfl (hb hby hd) (getL hl) r) k
theorem Wk.aload_n {i : Fin 4} {u : Value} (hd : decode bytes pc = .ok (.aload_n i, 1)) (hq : pc + 1 = q) (hl : Ls[i.val]? = some (.val u)) (hr : u.isRef = true) (k : Wk l Z a0 EL y bytes mx ret R Q L cb sb q Ls (u :: St)) : Wk l Z a0 EL y bytes mx ret R Q L cb sb pc Ls (St) := by
  subst hq; exact Wk.pure (fun X hx hby r => XS.aloadN X hx rfl (hb hby hd) (getL hl) hr r) k
theorem Wk.aload {i : Nat} {u : Value} (hd : decode bytes pc = .ok (.aload i, 2)) (hq : pc + 2 = q) (hl : Ls[i]? = some (.val u)) (hr : u.isRef = true) (k : Wk l Z a0 EL y bytes mx ret R Q L cb sb q Ls (u :: St)) : Wk l Z a0 EL y bytes mx ret R Q L cb sb pc Ls (St) := by
  subst hq; exact Wk.pure (fun X hx hby r => XS.aload X hx rfl (hb hby hd) (getL hl) hr r) k
theorem Wk.lload_n {i : Fin 4} {u : Int64} (hd : decode bytes pc = .ok (.lload_n i, 1)) (hq : pc + 1 = q) (hl : Ls[i.val]? = some (.val (.long u))) (k : Wk l Z a0 EL y bytes mx ret R Q L cb sb q Ls (.long u :: St)) : Wk l Z a0 EL y bytes mx ret R Q L cb sb pc Ls (St) := by
  subst hq; exact Wk.pure (fun X hx hby r => XT.lloadN X hx rfl (hb hby hd) (getL hl) r) k
theorem Wk.lload {i : Nat} {u : Int64} (hd : decode bytes pc = .ok (.lload i, 2)) (hq : pc + 2 = q) (hl : Ls[i]? = some (.val (.long u))) (k : Wk l Z a0 EL y bytes mx ret R Q L cb sb q Ls (.long u :: St)) : Wk l Z a0 EL y bytes mx ret R Q L cb sb pc Ls (St) := by
  subst hq; exact Wk.pure (fun X hx hby r => XT.lload X hx rfl (hb hby hd) (getL hl) r) k
theorem Wk.istore_n {i : Fin 4} {u : Int32} (hd : decode bytes pc = .ok (.istore_n i, 1)) (hq : pc + 1 = q) (hl : LS1 i.val (.int u) Ls Ls') (k : Wk l Z a0 EL y bytes mx ret R Q L cb sb q Ls' (St)) : Wk l Z a0 EL y bytes mx ret R Q L cb sb pc Ls (.int u :: St) := by
  subst hq; exact Wk.pure (fun X hx hby r => XS.istoreN X hx rfl (hb hby hd) rfl (hl rfl).1 r) k
theorem Wk.istore {i : Nat} {u : Int32} (hd : decode bytes pc = .ok (.istore i, 2)) (hq : pc + 2 = q) (hl : LS1 i (.int u) Ls Ls') (k : Wk l Z a0 EL y bytes mx ret R Q L cb sb q Ls' (St)) : Wk l Z a0 EL y bytes mx ret R Q L cb sb pc Ls (.int u :: St) := by
  subst hq; exact Wk.pure (fun X hx hby r => XS.istore X hx rfl (hb hby hd) rfl (hl rfl).1 r) k
theorem Wk.astore_n {i : Fin 4} {u : Value} (hd : decode bytes pc = .ok (.astore_n i, 1)) (hq : pc + 1 = q) (hr : u.isRef = true) (hl : LS1 i.val u Ls Ls') (k : Wk l Z a0 EL y bytes mx ret R Q L cb sb q Ls' (St)) : Wk l Z a0 EL y bytes mx ret R Q L cb sb pc Ls (u :: St) := by
  subst hq; exact Wk.pure (fun X hx hby r => XS.astoreN X hx rfl (hb hby hd) rfl hr (hl (XT.cat1 hr)).1 r) k
theorem Wk.astore {i : Nat} {u : Value} (hd : decode bytes pc = .ok (.astore i, 2)) (hq : pc + 2 = q) (hr : u.isRef = true) (hl : LS1 i u Ls Ls') (k : Wk l Z a0 EL y bytes mx ret R Q L cb sb q Ls' (St)) : Wk l Z a0 EL y bytes mx ret R Q L cb sb pc Ls (u :: St) := by
  subst hq; exact Wk.pure (fun X hx hby r => XS.astore X hx rfl (hb hby hd) rfl hr (hl (XT.cat1 hr)).1 r) k
theorem Wk.lstore_n {i : Fin 4} {u : Int64} (hd : decode bytes pc = .ok (.lstore_n i, 1)) (hq : pc + 1 = q) (hl : LS2 i.val u Ls Ls') (k : Wk l Z a0 EL y bytes mx ret R Q L cb sb q Ls' (St)) : Wk l Z a0 EL y bytes mx ret R Q L cb sb pc Ls (.long u :: St) := by
  subst hq; exact Wk.pure (fun X hx hby r => XT.lstoreN X hx rfl (hb hby hd) rfl hl.store r) k
theorem Wk.lstore {i : Nat} {u : Int64} (hd : decode bytes pc = .ok (.lstore i, 2)) (hq : pc + 2 = q) (hl : LS2 i u Ls Ls') (k : Wk l Z a0 EL y bytes mx ret R Q L cb sb q Ls' (St)) : Wk l Z a0 EL y bytes mx ret R Q L cb sb pc Ls (.long u :: St) := by
  subst hq; exact Wk.pure (fun X hx hby r => XT.lstore X hx rfl (hb hby hd) rfl hl.store r) k
theorem Wk.iconst {i : Int} (u : Int32) (hd : decode bytes pc = .ok (.iconst i, 1)) (hq : pc + 1 = q) (hu : Int32.ofInt i = u) (k : Wk l Z a0 EL y bytes mx ret R Q L cb sb q Ls (.int u :: St)) : Wk l Z a0 EL y bytes mx ret R Q L cb sb pc Ls (St) := by
  subst hq; exact Wk.pure (fun X hx hby r => XS.iconst X hx rfl (hb hby hd) (by rw [hu]; exact r)) k
theorem Wk.bipush {i : Int} (u : Int32) (hd : decode bytes pc = .ok (.bipush i, 2)) (hq : pc + 2 = q) (hu : (Int8.ofInt i).toInt32 = u) (k : Wk l Z a0 EL y bytes mx ret R Q L cb sb q Ls (.int u :: St)) : Wk l Z a0 EL y bytes mx ret R Q L cb sb pc Ls (St) := by
  subst hq; exact Wk.pure (fun X hx hby r => XS.bipush X hx rfl (hb hby hd) (by rw [hu]; exact r)) k
theorem Wk.sipush {i : Int} (u : Int32) (hd : decode bytes pc = .ok (.sipush i, 3)) (hq : pc + 3 = q) (hu : (Int16.ofInt i).toInt32 = u) (k : Wk l Z a0 EL y bytes mx ret R Q L cb sb q Ls (.int u :: St)) : Wk l Z a0 EL y bytes mx ret R Q L cb sb pc Ls (St) := by
  subst hq; exact Wk.pure (fun X hx hby r => XS.sipush X hx rfl (hb hby hd) (by rw [hu]; exact r)) k
theorem Wk.lconst {i : Fin 2} (u : Int64) (hd : decode bytes pc = .ok (.lconst i, 1)) (hq : pc + 1 = q) (hu : Int64.ofNat i = u) (k : Wk l Z a0 EL y bytes mx ret R Q L cb sb q Ls (.long u :: St)) : Wk l Z a0 EL y bytes mx ret R Q L cb sb pc Ls (St) := by
  subst hq; exact Wk.pure (fun X hx hby r => XT.lconst X hx rfl (hb hby hd) (by rw [hu]; exact r)) k
theorem Wk.aconst_null  (hd : decode bytes pc = .ok (.aconst_null, 1)) (hq : pc + 1 = q) (k : Wk l Z a0 EL y bytes mx ret R Q L cb sb q Ls (.null :: St)) : Wk l Z a0 EL y bytes mx ret R Q L cb sb pc Ls (St) := by
  subst hq; exact Wk.pure (fun X hx hby r => XS.aconstNull X hx rfl (hb hby hd)  r) k
theorem Wk.iadd {u w : Int32} (hd : decode bytes pc = .ok (.iadd, 1)) (hq : pc + 1 = q) (k : Wk l Z a0 EL y bytes mx ret R Q L cb sb q Ls (.int (u + w) :: St)) : Wk l Z a0 EL y bytes mx ret R Q L cb sb pc Ls (.int w :: .int u :: St) := by
  subst hq; exact Wk.pure (fun X hx hby r => XS.iadd X hx rfl (hb hby hd) rfl r) k
theorem Wk.isub {u w : Int32} (hd : decode bytes pc = .ok (.isub, 1)) (hq : pc + 1 = q) (k : Wk l Z a0 EL y bytes mx ret R Q L cb sb q Ls (.int (u - w) :: St)) : Wk l Z a0 EL y bytes mx ret R Q L cb sb pc Ls (.int w :: .int u :: St) := by
  subst hq; exact Wk.pure (fun X hx hby r => XS.isub X hx rfl (hb hby hd) rfl r) k
theorem Wk.imul {u w : Int32} (hd : decode bytes pc = .ok (.imul, 1)) (hq : pc + 1 = q) (k : Wk l Z a0 EL y bytes mx ret R Q L cb sb q Ls (.int (u * w) :: St)) : Wk l Z a0 EL y bytes mx ret R Q L cb sb pc Ls (.int w :: .int u :: St) := by
  subst hq; exact Wk.pure (fun X hx hby r => XS.imul X hx rfl (hb hby hd) rfl r) k
theorem Wk.iand {u w : Int32} (hd : decode bytes pc = .ok (.iand, 1)) (hq : pc + 1 = q) (k : Wk l Z a0 EL y bytes mx ret R Q L cb sb q Ls (.int (u &&& w) :: St)) : Wk l Z a0 EL y bytes mx ret R Q L cb sb pc Ls (.int w :: .int u :: St) := by
  subst hq; exact Wk.pure (fun X hx hby r => XS.iand X hx rfl (hb hby hd) rfl r) k
theorem Wk.irem {u w : Int32} (hd : decode bytes pc = .ok (.irem, 1)) (hq : pc + 1 = q) (hy : w ≠ 0) (k : Wk l Z a0 EL y bytes mx ret R Q L cb sb q Ls (.int (u % w) :: St)) : Wk l Z a0 EL y bytes mx ret R Q L cb sb pc Ls (.int w :: .int u :: St) := by
  subst hq; exact Wk.pure (fun X hx hby r => XS.irem X hx rfl (hb hby hd) rfl hy (by rw [show u - u / w * w = u % w from irem_eq_mod u w]; exact r)) k
theorem Wk.idiv {u w : Int32} (hd : decode bytes pc = .ok (.idiv, 1)) (hq : pc + 1 = q) (hy : w ≠ 0) (k : Wk l Z a0 EL y bytes mx ret R Q L cb sb q Ls (.int (u / w) :: St)) : Wk l Z a0 EL y bytes mx ret R Q L cb sb pc Ls (.int w :: .int u :: St) := by
  subst hq; exact Wk.pure (fun X hx hby r => XS.idiv X hx rfl (hb hby hd) rfl hy r) k
theorem Wk.ineg {u : Int32} (hd : decode bytes pc = .ok (.ineg, 1)) (hq : pc + 1 = q) (k : Wk l Z a0 EL y bytes mx ret R Q L cb sb q Ls (.int (-u) :: St)) : Wk l Z a0 EL y bytes mx ret R Q L cb sb pc Ls (.int u :: St) := by
  subst hq; exact Wk.pure (fun X hx hby r => XS.ineg X hx rfl (hb hby hd) rfl r) k
theorem Wk.ior {u w : Int32} (hd : decode bytes pc = .ok (.ior, 1)) (hq : pc + 1 = q) (k : Wk l Z a0 EL y bytes mx ret R Q L cb sb q Ls (.int (u ||| w) :: St)) : Wk l Z a0 EL y bytes mx ret R Q L cb sb pc Ls (.int w :: .int u :: St) := by
  subst hq; exact Wk.pure (fun X hx hby r => XT.ior X hx rfl (hb hby hd) rfl r) k
theorem Wk.ixor {u w : Int32} (hd : decode bytes pc = .ok (.ixor, 1)) (hq : pc + 1 = q) (k : Wk l Z a0 EL y bytes mx ret R Q L cb sb q Ls (.int (u ^^^ w) :: St)) : Wk l Z a0 EL y bytes mx ret R Q L cb sb pc Ls (.int w :: .int u :: St) := by
  subst hq; exact Wk.pure (fun X hx hby r => XT.ixor X hx rfl (hb hby hd) rfl r) k
theorem Wk.ishl {u w : Int32} (hd : decode bytes pc = .ok (.ishl, 1)) (hq : pc + 1 = q) (k : Wk l Z a0 EL y bytes mx ret R Q L cb sb q Ls (.int (u <<< (w &&& 31)) :: St)) : Wk l Z a0 EL y bytes mx ret R Q L cb sb pc Ls (.int w :: .int u :: St) := by
  subst hq; exact Wk.pure (fun X hx hby r => XT.ishl X hx rfl (hb hby hd) rfl r) k
theorem Wk.ishr {u w : Int32} (hd : decode bytes pc = .ok (.ishr, 1)) (hq : pc + 1 = q) (k : Wk l Z a0 EL y bytes mx ret R Q L cb sb q Ls (.int (u >>> (w &&& 31)) :: St)) : Wk l Z a0 EL y bytes mx ret R Q L cb sb pc Ls (.int w :: .int u :: St) := by
  subst hq; exact Wk.pure (fun X hx hby r => XT.ishr X hx rfl (hb hby hd) rfl r) k
theorem Wk.iushr {u w : Int32} (hd : decode bytes pc = .ok (.iushr, 1)) (hq : pc + 1 = q) (k : Wk l Z a0 EL y bytes mx ret R Q L cb sb q Ls (.int (XT.ushr u w) :: St)) : Wk l Z a0 EL y bytes mx ret R Q L cb sb pc Ls (.int w :: .int u :: St) := by
  subst hq; exact Wk.pure (fun X hx hby r => XT.iushr X hx rfl (hb hby hd) rfl r) k
theorem Wk.ladd {u w : Int64} (hd : decode bytes pc = .ok (.ladd, 1)) (hq : pc + 1 = q) (k : Wk l Z a0 EL y bytes mx ret R Q L cb sb q Ls (.long (u + w) :: St)) : Wk l Z a0 EL y bytes mx ret R Q L cb sb pc Ls (.long w :: .long u :: St) := by
  subst hq; exact Wk.pure (fun X hx hby r => XT.ladd X hx rfl (hb hby hd) rfl r) k
theorem Wk.lsub {u w : Int64} (hd : decode bytes pc = .ok (.lsub, 1)) (hq : pc + 1 = q) (k : Wk l Z a0 EL y bytes mx ret R Q L cb sb q Ls (.long (u - w) :: St)) : Wk l Z a0 EL y bytes mx ret R Q L cb sb pc Ls (.long w :: .long u :: St) := by
  subst hq; exact Wk.pure (fun X hx hby r => XT.lsub X hx rfl (hb hby hd) rfl r) k
theorem Wk.lmul {u w : Int64} (hd : decode bytes pc = .ok (.lmul, 1)) (hq : pc + 1 = q) (k : Wk l Z a0 EL y bytes mx ret R Q L cb sb q Ls (.long (u * w) :: St)) : Wk l Z a0 EL y bytes mx ret R Q L cb sb pc Ls (.long w :: .long u :: St) := by
  subst hq; exact Wk.pure (fun X hx hby r => XT.lmul X hx rfl (hb hby hd) rfl r) k
theorem Wk.land {u w : Int64} (hd : decode bytes pc = .ok (.land, 1)) (hq : pc + 1 = q) (k : Wk l Z a0 EL y bytes mx ret R Q L cb sb q Ls (.long (u &&& w) :: St)) : Wk l Z a0 EL y bytes mx ret R Q L cb sb pc Ls (.long w :: .long u :: St) := by
  subst hq; exact Wk.pure (fun X hx hby r => XT.land X hx rfl (hb hby hd) rfl r) k
theorem Wk.ldiv {u w : Int64} (hd : decode bytes pc = .ok (.ldiv, 1)) (hq : pc + 1 = q) (hy : w ≠ 0) (k : Wk l Z a0 EL y bytes mx ret R Q L cb sb q Ls (.long (u / w) :: St)) : Wk l Z a0 EL y bytes mx ret R Q L cb sb pc Ls (.long w :: .long u :: St) := by
  subst hq; exact Wk.pure (fun X hx hby r => XT.ldiv X hx rfl (hb hby hd) rfl hy r) k
theorem Wk.lrem {u w : Int64} (hd : decode bytes pc = .ok (.lrem, 1)) (hq : pc + 1 = q) (hy : w ≠ 0) (k : Wk l Z a0 EL y bytes mx ret R Q L cb sb q Ls (.long (u % w) :: St)) : Wk l Z a0 EL y bytes mx ret R Q L cb sb pc Ls (.long w :: .long u :: St) := by
  subst hq; exact Wk.pure (fun X hx hby r => XT.lrem X hx rfl (hb hby hd) rfl hy (by rw [show u - u / w * w = u % w from lrem_mod u w]; exact r)) k
theorem Wk.i2l {u : Int32} (hd : decode bytes pc = .ok (.i2l, 1)) (hq : pc + 1 = q) (k : Wk l Z a0 EL y bytes mx ret R Q L cb sb q Ls (.long u.toInt64 :: St)) : Wk l Z a0 EL y bytes mx ret R Q L cb sb pc Ls (.int u :: St) := by
  subst hq; exact Wk.pure (fun X hx hby r => XT.i2l X hx rfl (hb hby hd) rfl r) k
theorem Wk.l2i {u : Int64} (hd : decode bytes pc = .ok (.l2i, 1)) (hq : pc + 1 = q) (k : Wk l Z a0 EL y bytes mx ret R Q L cb sb q Ls (.int u.toInt32 :: St)) : Wk l Z a0 EL y bytes mx ret R Q L cb sb pc Ls (.long u :: St) := by
  subst hq; exact Wk.pure (fun X hx hby r => XT.l2i X hx rfl (hb hby hd) rfl r) k
theorem Wk.i2b {u : Int32} (hd : decode bytes pc = .ok (.i2b, 1)) (hq : pc + 1 = q) (k : Wk l Z a0 EL y bytes mx ret R Q L cb sb q Ls (.int u.toInt8.toInt32 :: St)) : Wk l Z a0 EL y bytes mx ret R Q L cb sb pc Ls (.int u :: St) := by
  subst hq; exact Wk.pure (fun X hx hby r => XT.i2b X hx rfl (hb hby hd) rfl r) k
theorem Wk.i2c {u : Int32} (hd : decode bytes pc = .ok (.i2c, 1)) (hq : pc + 1 = q) (k : Wk l Z a0 EL y bytes mx ret R Q L cb sb q Ls (.int u.toUInt32.toUInt16.toUInt32.toInt32 :: St)) : Wk l Z a0 EL y bytes mx ret R Q L cb sb pc Ls (.int u :: St) := by
  subst hq; exact Wk.pure (fun X hx hby r => XT.i2c X hx rfl (hb hby hd) rfl r) k
theorem Wk.lcmp {u w : Int64} (hd : decode bytes pc = .ok (.lcmp, 1)) (hq : pc + 1 = q) (k : Wk l Z a0 EL y bytes mx ret R Q L cb sb q Ls (.int (XT.cmpL u w) :: St)) : Wk l Z a0 EL y bytes mx ret R Q L cb sb pc Ls (.long w :: .long u :: St) := by
  subst hq; exact Wk.pure (fun X hx hby r => XT.lcmp X hx rfl (hb hby hd) rfl r) k
theorem Wk.dup {u : Value} (hd : decode bytes pc = .ok (.dup, 1)) (hq : pc + 1 = q) (hc : u.category = 1) (k : Wk l Z a0 EL y bytes mx ret R Q L cb sb q Ls (u :: u :: St)) : Wk l Z a0 EL y bytes mx ret R Q L cb sb pc Ls (u :: St) := by
  subst hq; exact Wk.pure (fun X hx hby r => XS.dup X hx rfl (hb hby hd) rfl hc r) k
theorem Wk.pop {u : Value} (hd : decode bytes pc = .ok (.pop, 1)) (hq : pc + 1 = q) (hc : u.category = 1) (k : Wk l Z a0 EL y bytes mx ret R Q L cb sb q Ls (St)) : Wk l Z a0 EL y bytes mx ret R Q L cb sb pc Ls (u :: St) := by
  subst hq; exact Wk.pure (fun X hx hby r => XT.pop X hx rfl (hb hby hd) rfl hc r) k
theorem Wk.dup_x1 {u w : Value} (hd : decode bytes pc = .ok (.dup_x1, 1)) (hq : pc + 1 = q) (hc : u.category = 1) (hc' : w.category = 1) (k : Wk l Z a0 EL y bytes mx ret R Q L cb sb q Ls (u :: w :: u :: St)) : Wk l Z a0 EL y bytes mx ret R Q L cb sb pc Ls (u :: w :: St) := by
  subst hq; exact Wk.pure (fun X hx hby r => XT.dupX1 X hx rfl (hb hby hd) rfl hc hc' r) k
theorem Wk.iinc {i : Nat} {cst : Int} {u : Int32} (w : Int32) (hd : decode bytes pc = .ok (.iinc i cst, 3)) (hq : pc + 3 = q) (hu : Int32.ofInt cst = w) (hl : Ls[i]? = some (.val (.int u))) (hl' : LS1 i (.int (u + w)) Ls Ls') (k : Wk l Z a0 EL y bytes mx ret R Q L cb sb q Ls' (St)) : Wk l Z a0 EL y bytes mx ret R Q L cb sb pc Ls (St) := by
  subst hq; exact Wk.pure (fun X hx hby r => XS.iinc X hx rfl (hb hby hd) (getL hl) (by rw [hu]; exact (hl' rfl).1) r) k
theorem Wk.goto  {o : Int} (hd : decode bytes pc = .ok (.goto o, 3)) (ho : 0 ≤ (pc : Int) + o) (hq : ((pc : Int) + o).toNat = q) (k : Wk l Z a0 EL y bytes mx ret R Q L cb sb q Ls (St)) : Wk l Z a0 EL y bytes mx ret R Q L cb sb pc Ls (St) :=
  Wk.pure (fun X hx hby r => XS.goto X hx rfl rfl (hb hby hd)  ho hq r) k
theorem Wk.if_t {cd : ClassFile.Cond} {u : Int32} {o : Int} (hd : decode bytes pc = .ok (.ifCond cd o, 3)) (ho : 0 ≤ (pc : Int) + o) (hq : ((pc : Int) + o).toNat = q) (hc : ifCond.holds cd u = true) (k : Wk l Z a0 EL y bytes mx ret R Q L cb sb q Ls (St)) : Wk l Z a0 EL y bytes mx ret R Q L cb sb pc Ls (.int u :: St) :=
  Wk.pure (fun X hx hby r => XS.ifYes X hx rfl rfl (hb hby hd) rfl hc ho hq r) k
theorem Wk.if_f {cd : ClassFile.Cond} {o : Int} {u : Int32} (hd : decode bytes pc = .ok (.ifCond cd o, 3)) (hq : pc + 3 = q) (hc : ifCond.holds cd u = false) (k : Wk l Z a0 EL y bytes mx ret R Q L cb sb q Ls (St)) : Wk l Z a0 EL y bytes mx ret R Q L cb sb pc Ls (.int u :: St) := by
  subst hq; exact Wk.pure (fun X hx hby r => XS.ifNo X hx rfl (hb hby hd) rfl hc r) k
theorem Wk.icmp_t {cd : ClassFile.Cond} {u w : Int32} {o : Int} (hd : decode bytes pc = .ok (.if_icmp cd o, 3)) (ho : 0 ≤ (pc : Int) + o) (hq : ((pc : Int) + o).toNat = q) (hc : if_icmp.holds cd u w = true) (k : Wk l Z a0 EL y bytes mx ret R Q L cb sb q Ls (St)) : Wk l Z a0 EL y bytes mx ret R Q L cb sb pc Ls (.int w :: .int u :: St) :=
  Wk.pure (fun X hx hby r => XS.icmpYes X hx rfl rfl (hb hby hd) rfl hc ho hq r) k
theorem Wk.icmp_f {cd : ClassFile.Cond} {o : Int} {u w : Int32} (hd : decode bytes pc = .ok (.if_icmp cd o, 3)) (hq : pc + 3 = q) (hc : if_icmp.holds cd u w = false) (k : Wk l Z a0 EL y bytes mx ret R Q L cb sb q Ls (St)) : Wk l Z a0 EL y bytes mx ret R Q L cb sb pc Ls (.int w :: .int u :: St) := by
  subst hq; exact Wk.pure (fun X hx hby r => XS.icmpNo X hx rfl (hb hby hd) rfl hc r) k
theorem Wk.null_t  {o : Int} (hd : decode bytes pc = .ok (.ifnull o, 3)) (ho : 0 ≤ (pc : Int) + o) (hq : ((pc : Int) + o).toNat = q) (k : Wk l Z a0 EL y bytes mx ret R Q L cb sb q Ls (St)) : Wk l Z a0 EL y bytes mx ret R Q L cb sb pc Ls (.null :: St) :=
  Wk.pure (fun X hx hby r => XS.ifnullYes X hx rfl rfl (hb hby hd) rfl ho hq r) k
theorem Wk.null_f {o : Int} {u : Addr} (hd : decode bytes pc = .ok (.ifnull o, 3)) (hq : pc + 3 = q) (k : Wk l Z a0 EL y bytes mx ret R Q L cb sb q Ls (St)) : Wk l Z a0 EL y bytes mx ret R Q L cb sb pc Ls (.ref u :: St) := by
  subst hq; exact Wk.pure (fun X hx hby r => XS.ifnullNo X hx rfl (hb hby hd) rfl r) k
theorem Wk.nonnull_t {u : Addr} {o : Int} (hd : decode bytes pc = .ok (.ifnonnull o, 3)) (ho : 0 ≤ (pc : Int) + o) (hq : ((pc : Int) + o).toNat = q) (k : Wk l Z a0 EL y bytes mx ret R Q L cb sb q Ls (St)) : Wk l Z a0 EL y bytes mx ret R Q L cb sb pc Ls (.ref u :: St) :=
  Wk.pure (fun X hx hby r => XT.ifnonnullYes X hx rfl rfl (hb hby hd) rfl ho hq r) k
theorem Wk.nonnull_f {o : Int} (hd : decode bytes pc = .ok (.ifnonnull o, 3)) (hq : pc + 3 = q) (k : Wk l Z a0 EL y bytes mx ret R Q L cb sb q Ls (St)) : Wk l Z a0 EL y bytes mx ret R Q L cb sb pc Ls (.null :: St) := by
  subst hq; exact Wk.pure (fun X hx hby r => XT.ifnonnullNo X hx rfl (hb hby hd) rfl r) k
theorem Wk.acmp_t {cd : ClassFile.ACond} {u w : Value} {o : Int} (hd : decode bytes pc = .ok (.if_acmp cd o, 3)) (ho : 0 ≤ (pc : Int) + o) (hq : ((pc : Int) + o).toNat = q) (h1 : u.isRef = true) (h2 : w.isRef = true) (hc : XT.acmp cd u w = true) (k : Wk l Z a0 EL y bytes mx ret R Q L cb sb q Ls (St)) : Wk l Z a0 EL y bytes mx ret R Q L cb sb pc Ls (w :: u :: St) :=
  Wk.pure (fun X hx hby r => XT.acmpYes X hx rfl rfl (hb hby hd) rfl h1 h2 hc ho hq r) k
theorem Wk.acmp_f {cd : ClassFile.ACond} {o : Int} {u w : Value} (hd : decode bytes pc = .ok (.if_acmp cd o, 3)) (hq : pc + 3 = q) (h1 : u.isRef = true) (h2 : w.isRef = true) (hc : XT.acmp cd u w = false) (k : Wk l Z a0 EL y bytes mx ret R Q L cb sb q Ls (St)) : Wk l Z a0 EL y bytes mx ret R Q L cb sb pc Ls (w :: u :: St) := by
  subst hq; exact Wk.pure (fun X hx hby r => XT.acmpNo X hx rfl (hb hby hd) rfl h1 h2 hc r) k

/-- a step that reads the tables or the heap and leaves the heap -/
theorem Wk.same {Ls' : List Slot} {St' : List Value} (st : ∀ {p : Program} {e : Env} {s : State} {m : MethodId} {args : Array Value} {below : List Frame} {meth : Method} {c : Code} {T : State} {vm0 : Vm} {locs : List Loc} {cells slots : Nat}, p.tables.exec = Jvm.exec → c.code = bytes → c.maxLocals = mx → vm0.findClass y.cls = some m.cls → Z.Warmed39 vm0 → Inv Z EL vm0 T.heap L →
      Stand p l e R (s.setVm vm0) m args below meth c T locs cells slots → ∃ T', Stand p l e R (s.setVm vm0) m args below meth c T' locs cells slots ∧ T'.heap = T.heap ∧ ∀ target, Steps p.tables e below (T'.setTop (mkF m q ⟨Ls'⟩ St')) target → Steps p.tables e below (T.setTop (mkF m pc ⟨Ls⟩ St)) target)
    (k : Wk l Z a0 EL y bytes mx ret R Q L cb sb q Ls' St') : Wk l Z a0 EL y bytes mx ret R Q L cb sb pc Ls St := by
  intro p e s m args below meth c T vm0 k0 locs cells slots hx hby hmx hret hlk hnm hown X hS hk hZ hE hI hF hc hs
  obtain ⟨T', X', e', st'⟩ := st hx hby hmx hown hZ hI X
  obtain ⟨fin, v, Lc, L', h1, r⟩ := k p e s m args below meth c T' vm0 k0 locs cells slots hx hby hmx hret hlk hnm hown X' hS (by rw [e']; exact hk) hZ hE (by rw [e']; exact hI) hF hc hs
  exact ⟨fin, v, Lc, L', st' _ h1, r⟩
theorem Wk.getfield {i : Nat} (j : Nat) {a : Addr} {fl : Bool} {C R0 O n d : String} {lay : Lay} {vs : List Value} {v : Value} (hd : decode bytes pc = .ok (.getfield i, 3)) (hq : pc + 3 = q) (w : (Jvm.Cond.fieldLink y.cls i R0 n d).before a0 Z = true) (via : Via Z R0 O n d)
    (hm : (a, fl, OB Z C lay vs) ∈ L) (hj : lay[j]? = some (O, n, d)) (hv : vs[j]? = some v) (k : Wk l Z a0 EL y bytes mx ret R Q L cb sb q Ls (v :: St)) : Wk l Z a0 EL y bytes mx ret R Q L cb sb pc Ls (.ref a :: St) := by
  subst hq
  refine Wk.same (fun {p e s m args below meth c T vm0 locs cells slots} hx hby hmx hown hZ hI X => ?_) k
  obtain ⟨cl, e1, e2⟩ := hI.at_ hm
  exact getF X hx hZ hown (host := "") (Or.inl w) via rfl (e2.fld e1 hj hv) (g := mkF m pc ⟨Ls⟩ (.ref a :: St)) rfl rfl (hb hby hd)
theorem Wk.getstatic {i : Nat} {R0 O n d : String} {v : Value} (hd : decode bytes pc = .ok (.getstatic i, 3)) (hq : pc + 3 = q) (w : (Jvm.Cond.fieldLink y.cls i R0 n d).before a0 Z = true) (via : Via Z R0 O n d) (F : Sta Z Z.heap O n d v)
    (k : Wk l Z a0 EL y bytes mx ret R Q L cb sb q Ls (v :: St)) : Wk l Z a0 EL y bytes mx ret R Q L cb sb pc Ls St := by
  subst hq
  refine Wk.same (fun {p e s m args below meth c T vm0 locs cells slots} hx hby hmx hown hZ hI X => ?_) k
  exact getS (host := "") X hx hZ hown w via rfl (F.ext hI.1) (g := mkF m pc ⟨Ls⟩ St) rfl (hb hby hd)
theorem Wk.checkcast {i : Nat} {a : Addr} {fl : Bool} {C K : String} {lay : Lay} {vs : List Value} (hd : decode bytes pc = .ok (.checkcast i, 3)) (hq : pc + 3 = q) (w : (Jvm.Cond.classLink y.cls i K).before a0 Z = true) (hm : (a, fl, OB Z C lay vs) ∈ L) (wc : (Jvm.Cond.castable C K).before a0 Z = true)
    (k : Wk l Z a0 EL y bytes mx ret R Q L cb sb q Ls (.ref a :: St)) : Wk l Z a0 EL y bytes mx ret R Q L cb sb pc Ls (.ref a :: St) := by
  subst hq
  refine Wk.same (fun {p e s m args below meth c T vm0 locs cells slots} hx hby hmx hown hZ hI X => ?_) k
  obtain ⟨cl, e1, e2⟩ := hI.at_ hm
  exact castY X hx hZ hown w rfl (Ins.of_exa (e2.exa e1) wc) (g := mkF m pc ⟨Ls⟩ (.ref a :: St)) rfl rfl (hb hby hd)
theorem Wk.instanceof_t {i : Nat} {a : Addr} {fl : Bool} {C K : String} {lay : Lay} {vs : List Value} (hd : decode bytes pc = .ok (.instanceof i, 3)) (hq : pc + 3 = q) (w : (Jvm.Cond.classLink y.cls i K).before a0 Z = true) (hm : (a, fl, OB Z C lay vs) ∈ L) (wc : (Jvm.Cond.castable C K).before a0 Z = true)
    (k : Wk l Z a0 EL y bytes mx ret R Q L cb sb q Ls (.int 1 :: St)) : Wk l Z a0 EL y bytes mx ret R Q L cb sb pc Ls (.ref a :: St) := by
  subst hq
  refine Wk.same (fun {p e s m args below meth c T vm0 locs cells slots} hx hby hmx hown hZ hI X => ?_) k
  obtain ⟨cl, e1, e2⟩ := hI.at_ hm
  exact instY X hx hZ hown w rfl (Ins.of_exa (e2.exa e1) wc) (g := mkF m pc ⟨Ls⟩ (.ref a :: St)) rfl rfl (hb hby hd)
theorem Wk.instanceof_f {i : Nat} {a : Addr} {fl : Bool} {C K : String} {lay : Lay} {vs : List Value} (hd : decode bytes pc = .ok (.instanceof i, 3)) (hq : pc + 3 = q) (w : (Jvm.Cond.classLink y.cls i K).before a0 Z = true) (hm : (a, fl, OB Z C lay vs) ∈ L) (F : ∃ c t, Z.vm.findClass C = some c ∧ Z.vm.findClass K = some t ∧ Z.vm.assignable c t = false)
    (k : Wk l Z a0 EL y bytes mx ret R Q L cb sb q Ls (.int 0 :: St)) : Wk l Z a0 EL y bytes mx ret R Q L cb sb pc Ls (.ref a :: St) := by
  subst hq
  refine Wk.same (fun {p e s m args below meth c T vm0 locs cells slots} hx hby hmx hown hZ hI X => ?_) k
  obtain ⟨cl, e1, e2⟩ := hI.at_ hm
  exact instNo X hx hZ hown w rfl (e2.exa e1) F (g := mkF m pc ⟨Ls⟩ (.ref a :: St)) rfl rfl (hb hby hd)
theorem Wk.ldc_int {i : Nat} {u : Int32} (hd : decode bytes pc = .ok (.ldc i, 2)) (hq : pc + 2 = q) (w : (Jvm.Cond.constant y.cls i u).before a0 Z = true) (k : Wk l Z a0 EL y bytes mx ret R Q L cb sb q Ls (.int u :: St)) : Wk l Z a0 EL y bytes mx ret R Q L cb sb pc Ls St := by
  subst hq
  refine Wk.same (fun {p e s m args below meth c T vm0 locs cells slots} hx hby hmx hown hZ hI X => ?_) k
  exact ⟨T, X, rfl, fun target r => ldcI X hx hown (mv (s := s.setVm vm0) hZ w) (g := mkF m pc ⟨Ls⟩ St) rfl (hb hby hd) r⟩
theorem Wk.ldc2_w {i : Nat} {u : Int64} (hd : decode bytes pc = .ok (.ldc2_w i, 3)) (hq : pc + 3 = q) (w : (Jvm.Cond.constantLong y.cls i u).before a0 Z = true) (k : Wk l Z a0 EL y bytes mx ret R Q L cb sb q Ls (.long u :: St)) : Wk l Z a0 EL y bytes mx ret R Q L cb sb pc Ls St := by
  subst hq
  refine Wk.same (fun {p e s m args below meth c T vm0 locs cells slots} hx hby hmx hown hZ hI X => ?_) k
  exact ⟨T, X, rfl, fun target r => ldc2J X hx hown (mv (s := s.setVm vm0) hZ w) (g := mkF m pc ⟨Ls⟩ St) rfl (hb hby hd) r⟩
theorem Wk.objinit {i : Nat} {a : Addr} (W : Nat) (hd : decode bytes pc = .ok (.invokespecial i, 3)) (hq : pc + 3 = q) (w1 : (Jvm.Cond.methodLink y.cls i Lib.objectInit).before a0 Z = true) (w2 : (Jvm.Cond.instanceMethod Lib.objectInit).before a0 Z = true) (w3 : (Jvm.Cond.code Lib.objectInit ⟨#[0xb1]⟩ 1 none).before a0 Z = true)
    (hz : Ls.length = mx) (hf : 1 ≤ R.frames) (hW : (St.map fun v => v.category).sum = W) (hl : W + 12 ≤ R.locals) (k : Wk l Z a0 EL y bytes mx ret R Q L cb sb q Ls St) : Wk l Z a0 EL y bytes mx ret R Q L cb sb pc Ls (.ref a :: St) := by
  subst hq
  refine Wk.same (fun {p e s m args below meth c T vm0 locs cells slots} hx hby hmx hown hZ hI X => ?_) k
  exact initO X hx hZ hown w1 w2 w3 rfl (g := mkF m pc ⟨Ls⟩ (.ref a :: St)) rfl (by rw [hmx]; simpa using hz) rfl (hb hby hd) hf (W := W) (by show 2 * 0 + _ ≤ _; rw [hW]; omega) hl
theorem Wk.arraylength {a : Addr} {fl : Bool} {ty : FieldType} {vs : List Value} {u : Int32} (hd : decode bytes pc = .ok (.arraylength, 1)) (hq : pc + 1 = q) (hm : (a, fl, AR Z ty vs) ∈ L) (hu : vs.length.toInt32 = u) (k : Wk l Z a0 EL y bytes mx ret R Q L cb sb q Ls (.int u :: St)) : Wk l Z a0 EL y bytes mx ret R Q L cb sb pc Ls (.ref a :: St) := by
  subst hq
  refine Wk.same (fun {p e s m args below meth c T vm0 locs cells slots} hx hby hmx hown hZ hI X => ?_) k
  obtain ⟨cl, e1, e2⟩ := hI.at_ hm
  exact ⟨T, X, rfl, fun target r => X.arraylength hx e1 (State.isArrayOf_alike (T := s.setVm vm0) hZ.alike e2.1) (g := mkF m pc ⟨Ls⟩ (.ref a :: St)) rfl rfl (hb hby hd) target (by rw [e2.size, hu]; exact r)⟩
theorem inside {Z : State} {ty : FieldType} {vs : List Value} {c : Cell} {j : Int32} {i : Nat} {v : Value} (F : AR Z ty vs c) (hj : ¬ j < 0) (hi : j.toNatClampNeg = i) (hv : vs[i]? = some v) : ¬ (j < 0 ∨ c.slots.size ≤ j.toNatClampNeg) := by
  have := (List.getElem?_eq_some_iff.mp hv).1
  rw [F.size, hi]
  rintro (q | q)
  · exact hj q
  · omega
theorem Wk.caload {a : Addr} {fl : Bool} {vs : List Value} {j : Int32} (i : Nat) {v : Value} (hd : decode bytes pc = .ok (.caload, 1)) (hq : pc + 1 = q) (hm : (a, fl, AR Z .char vs) ∈ L) (hj : ¬ j < 0) (hi : j.toNatClampNeg = i) (hv : vs[i]? = some v) (k : Wk l Z a0 EL y bytes mx ret R Q L cb sb q Ls (v :: St)) : Wk l Z a0 EL y bytes mx ret R Q L cb sb pc Ls (.int j :: .ref a :: St) := by
  subst hq
  refine Wk.same (fun {p e s m args below meth c T vm0 locs cells slots} hx hby hmx hown hZ hI X => ?_) k
  obtain ⟨cl, e1, e2⟩ := hI.at_ hm
  exact ⟨T, X, rfl, fun target r => X.caload hx e1 (State.isArrayOf_alike (T := s.setVm vm0) hZ.alike e2.1) e2.2.1 (inside e2 hj hi hv) (by rw [hi]; exact e2.get hv) (g := mkF m pc ⟨Ls⟩ (.int j :: .ref a :: St)) rfl rfl (hb hby hd) target r⟩
theorem Wk.baload {a : Addr} {fl : Bool} {vs : List Value} {j : Int32} (i : Nat) {v : Value} (hd : decode bytes pc = .ok (.baload, 1)) (hq : pc + 1 = q) (hm : (a, fl, AR Z .byte vs) ∈ L) (hj : ¬ j < 0) (hi : j.toNatClampNeg = i) (hv : vs[i]? = some v) (k : Wk l Z a0 EL y bytes mx ret R Q L cb sb q Ls (v :: St)) : Wk l Z a0 EL y bytes mx ret R Q L cb sb pc Ls (.int j :: .ref a :: St) := by
  subst hq
  refine Wk.same (fun {p e s m args below meth c T vm0 locs cells slots} hx hby hmx hown hZ hI X => ?_) k
  obtain ⟨cl, e1, e2⟩ := hI.at_ hm
  exact ⟨T, X, rfl, fun target r => X.baloadBytes hx e1 (State.isArrayOf_alike (T := s.setVm vm0) hZ.alike e2.1) e2.2.1 (inside e2 hj hi hv) (by rw [hi]; exact e2.get hv) (g := mkF m pc ⟨Ls⟩ (.int j :: .ref a :: St)) rfl rfl (hb hby hd) target r⟩
theorem Wk.aaload {a : Addr} {fl : Bool} {C : String} {vs : List Value} {j : Int32} (i : Nat) {v : Value} (hd : decode bytes pc = .ok (.aaload, 1)) (hq : pc + 1 = q) (hm : (a, fl, RA Z C vs) ∈ L) (hj : ¬ j < 0) (hi : j.toNatClampNeg = i) (hv : vs[i]? = some v) (k : Wk l Z a0 EL y bytes mx ret R Q L cb sb q Ls (v :: St)) : Wk l Z a0 EL y bytes mx ret R Q L cb sb pc Ls (.int j :: .ref a :: St) := by
  subst hq
  refine Wk.same (fun {p e s m args below meth c T vm0 locs cells slots} hx hby hmx hown hZ hI X => ?_) k
  obtain ⟨cl, e1, e2⟩ := hI.at_ hm
  exact ⟨T, X, rfl, fun target r => X.aaload hx e1 (State.isArrayOf_alike (T := s.setVm vm0) hZ.alike e2.1.1) rfl e2.1.2.1 (inside e2.1 hj hi hv) (by rw [hi]; exact e2.1.get hv) (g := mkF m pc ⟨Ls⟩ (.int j :: .ref a :: St)) rfl rfl (hb hby hd) target r⟩
/-- a list with one place written over -/
def VS (j : Nat) (v : Value) (vs vs' : List Value) : Prop := vs.set j v = vs' ∧ j < vs.length
theorem VS.here {v o : Value} {vs : List Value} : VS 0 v (o :: vs) (v :: vs) := ⟨rfl, Nat.succ_pos _⟩
theorem VS.there {j : Nat} {v o : Value} {vs vs' : List Value} (h : VS j v vs vs') : VS (j + 1) v (o :: vs) (o :: vs') := ⟨by rw [List.set_cons_succ, h.1], Nat.succ_lt_succ h.2⟩
theorem VS.of {j : Nat} {v : Value} {vs : List Value} (h : j < vs.length) : VS j v vs (vs.set j v) := ⟨rfl, h⟩
/-- a step that writes a place of the entry a -/
theorem Wk.write {a : Addr} {P P' : Cell → Prop} {St' : List Value} (hm : Ex L (a, true, P) L0)
    (st : ∀ {p : Program} {e : Env} {s : State} {m : MethodId} {args : Array Value} {below : List Frame} {meth : Method} {c : Code} {T : State} {vm0 : Vm} {locs : List Loc} {cells slots : Nat}, p.tables.exec = Jvm.exec → c.code = bytes → c.maxLocals = mx → meth.name = y.name → vm0.findClass y.cls = some m.cls → Z.Warmed39 vm0 → Inv Z EL vm0 T.heap ((a, true, P) :: L0) →
      Stand p l e R (s.setVm vm0) m args below meth c T locs cells slots → ∃ T' h' sl v, Stand p l e R (s.setVm vm0) m args below meth c T' (locs ++ [⟨a, sl⟩]) cells slots ∧ T'.heap = h' ∧ Wr T.heap h' a sl v ∧ (∀ cl, T.heap[a]? = some cl → P cl → P' (cl.setSlot sl v)) ∧ ∀ target, Steps p.tables e below (T'.setTop (mkF m q ⟨Ls⟩ St')) target → Steps p.tables e below (T.setTop (mkF m pc ⟨Ls⟩ St)) target)
    (k : Wk l Z a0 EL y bytes mx ret R Q ((a, true, P') :: L0) cb sb q Ls St') : Wk l Z a0 EL y bytes mx ret R Q L cb sb pc Ls St := by
  refine Wk.pull hm ?_
  intro p e s m args below meth c T vm0 k0 locs cells slots hx hby hmx hret hlk hnm hown X hS hk hZ hE hI hF hc hs
  obtain ⟨T', h', sl, v, X', rfl, W, hP, st'⟩ := st hx hby hmx hnm hown hZ hI X
  obtain ⟨fin, v, Lc, L', h1, r⟩ := k p e s m args below meth c T' vm0 k0 _ cells slots hx hby hmx hret hlk hnm hown X' hS (by rw [W.size]; exact hk) hZ hE (hI.wr W hP) (Fr.snoc X' hF (hI.2.2.2.1 _ (List.mem_cons_self ..) rfl).1) hc hs
  exact ⟨fin, v, Lc, L', st' _ h1, r⟩
theorem Wk.putfield {i : Nat} (j : Nat) {kk : Nat} {a : Addr} {C R0 O n d : String} {lay : Lay} {vs vs' : List Value} {v : Value} {ty : FieldType} (hd : decode bytes pc = .ok (.putfield i, 3)) (hq : pc + 3 = q) (w : (Jvm.Cond.fieldLink y.cls i R0 n d).before a0 Z = true) (via : Via Z R0 O n d)
    (K : LayOk Z a0 C lay) (wi : (Jvm.Cond.instantiable C kk).before a0 Z = true) (hl : (Jvm.Cond.lays C O n d).before a0 Z = true ∨ ((Jvm.Cond.laysFinal C O n d).before a0 Z = true ∧ y.cls = O ∧ y.name = "<init>")) (hj : lay[j]? = some (O, n, d)) (hty : parseFieldDescriptor d = some ty) (hm : Ex L (a, true, OB Z C lay vs) L0) (hvs : VS j v vs vs') (hn : narrow ty v = v) (hf : fits ty v = true)
    (k : Wk l Z a0 EL y bytes mx ret R Q ((a, true, OB Z C lay vs') :: L0) cb sb q Ls St) : Wk l Z a0 EL y bytes mx ret R Q L cb sb pc Ls (v :: .ref a :: St) := by
  subst hq
  obtain ⟨rfl, hlt⟩ := hvs
  have hv : vs[j]? = some vs[j] := List.getElem?_eq_getElem hlt
  refine Wk.write hm (fun {p e s m args below meth c T vm0 locs cells slots} hx hby hmx hnm hown hZ hI X => ?_) k
  obtain ⟨cl, e1, e2⟩ := hI.at_ (List.mem_cons_self ..)
  obtain ⟨T', h', X', eh, W, st⟩ := putF X hx hZ hown (host := "") (Or.inl w) via rfl (e2.fld e1 hj hv) (e2.exa e1) (hl.imp id fun h => ⟨h.1, h.2.1, hnm.trans h.2.2⟩) wi hty hn hf (g := mkF m pc ⟨Ls⟩ (v :: .ref a :: St)) rfl rfl (hb hby hd)
  exact ⟨T', h', _, v, X', eh, W, fun cl' e3 e4 => OB.set K e4 hj hv v, st⟩
theorem Wk.castore {a : Addr} {vs vs' : List Value} {j u u' : Int32} (i : Nat) (hd : decode bytes pc = .ok (.castore, 1)) (hq : pc + 1 = q) (hm : Ex L (a, true, AR Z .char vs) L0) (hj : ¬ j < 0) (hi : j.toNatClampNeg = i) (hu : nar .char u = u') (hvs : VS i (.int u') vs vs')
    (k : Wk l Z a0 EL y bytes mx ret R Q ((a, true, AR Z .char vs') :: L0) cb sb q Ls St) : Wk l Z a0 EL y bytes mx ret R Q L cb sb pc Ls (.int u :: .int j :: .ref a :: St) := by
  subst hq hu
  obtain ⟨rfl, hlt⟩ := hvs
  refine Wk.write hm (fun {p e s m args below meth c T vm0 locs cells slots} hx hby hmx hnm hown hZ hI X => ?_) k
  obtain ⟨cl, e1, e2⟩ := hI.at_ (List.mem_cons_self ..)
  obtain ⟨T', h', X', eh, W, st⟩ := stC X hx hZ rfl (e2.arr e1) (inside e2 hj hi (List.getElem?_eq_getElem hlt)) (g := mkF m pc ⟨Ls⟩ (.int u :: .int j :: .ref a :: St)) rfl rfl (hb hby hd)
  exact ⟨T', h', _, _, X', eh, W, fun cl' e3 e4 => by rw [hi]; exact e4.set _ _, st⟩
theorem Wk.bastore {a : Addr} {vs vs' : List Value} {j u u' : Int32} (i : Nat) (hd : decode bytes pc = .ok (.bastore, 1)) (hq : pc + 1 = q) (hm : Ex L (a, true, AR Z .byte vs) L0) (hj : ¬ j < 0) (hi : j.toNatClampNeg = i) (hu : nar .byte u = u') (hvs : VS i (.int u') vs vs')
    (k : Wk l Z a0 EL y bytes mx ret R Q ((a, true, AR Z .byte vs') :: L0) cb sb q Ls St) : Wk l Z a0 EL y bytes mx ret R Q L cb sb pc Ls (.int u :: .int j :: .ref a :: St) := by
  subst hq hu
  obtain ⟨rfl, hlt⟩ := hvs
  refine Wk.write hm (fun {p e s m args below meth c T vm0 locs cells slots} hx hby hmx hnm hown hZ hI X => ?_) k
  obtain ⟨cl, e1, e2⟩ := hI.at_ (List.mem_cons_self ..)
  obtain ⟨T', h', X', eh, W, st⟩ := stB X hx hZ rfl (e2.arr e1) (inside e2 hj hi (List.getElem?_eq_getElem hlt)) (g := mkF m pc ⟨Ls⟩ (.int u :: .int j :: .ref a :: St)) rfl rfl (hb hby hd)
  exact ⟨T', h', _, _, X', eh, W, fun cl' e3 e4 => by rw [hi]; exact e4.set _ _, st⟩
theorem Wk.aastore {a b : Addr} {fl : Bool} {C D : String} {lay : Lay} {ws : List Value} {vs vs' : List Value} {j : Int32} (i : Nat) (hd : decode bytes pc = .ok (.aastore, 1)) (hq : pc + 1 = q) (hm : Ex L (a, true, RA Z C vs) L0) (ho : (b, fl, OB Z D lay ws) ∈ L0) (wc : (Jvm.Cond.castable D C).before a0 Z = true) (hj : ¬ j < 0) (hi : j.toNatClampNeg = i) (hvs : VS i (.ref b) vs vs')
    (k : Wk l Z a0 EL y bytes mx ret R Q ((a, true, RA Z C vs') :: L0) cb sb q Ls St) : Wk l Z a0 EL y bytes mx ret R Q L cb sb pc Ls (.ref b :: .int j :: .ref a :: St) := by
  subst hq
  obtain ⟨rfl, hlt⟩ := hvs
  refine Wk.write hm (fun {p e s m args below meth c T vm0 locs cells slots} hx hby hmx hnm hown hZ hI X => ?_) k
  obtain ⟨cl, e1, e2⟩ := hI.at_ (List.mem_cons_self ..)
  obtain ⟨cb, f1, f2⟩ := hI.at_ (List.mem_cons_of_mem _ ho)
  obtain ⟨T', h', X', eh, W, st⟩ := stR X hx hZ rfl (e2.1.arr e1) (inside e2.1 hj hi (List.getElem?_eq_getElem hlt)) rfl (Sto.of (e2.1.arr e1) e2.2 (Ins.of_exa (f2.exa f1) wc)) (g := mkF m pc ⟨Ls⟩ (.ref b :: .int j :: .ref a :: St)) rfl rfl (hb hby hd)
  exact ⟨T', h', _, _, X', eh, W, fun cl' e3 e4 => by rw [hi]; exact ⟨e4.1.set _ _, e4.2⟩, st⟩
/-- the first values of a layout's fields -/
abbrev Dv (lay : Lay) (dv : List Value) : Prop := lay.map (fun f => (parseFieldDescriptor f.2.2).map defaultValue) = dv.map some
theorem Wk.new {i n : Nat} {C : String} {lay : Lay} {dv : List Value} (hd : decode bytes pc = .ok (.new i, 3)) (hq : pc + 3 = q) (w : (Jvm.Cond.classLink y.cls i C).before a0 Z = true) (wi : (Jvm.Cond.instantiable C n).before a0 Z = true) (wz : (Jvm.Cond.initialized C).before a0 Z = true) (K : LayOk Z a0 C lay) (hdv : Dv lay dv)
    (hcb : 1 ≤ cb) (hsb : n ≤ sb) (k : ∀ a : Addr, Wk l Z a0 EL y bytes mx ret R Q ((a, true, OB Z C lay dv) :: L) (cb - 1) (sb - n) q Ls (.ref a :: St)) : Wk l Z a0 EL y bytes mx ret R Q L cb sb pc Ls St := by
  subst hq
  intro p e s m args below meth c T vm0 k0 locs cells slots hx hby hmx hret hlk hnm hown X hS hk hZ hE hI hF hc hs
  obtain ⟨T', h', X', rfl, E, A, D, -, st⟩ := newO X hx hZ hown w wi wz rfl (g := mkF m pc ⟨Ls⟩ St) rfl (hb hby hd) (by omega) (by omega)
  obtain ⟨cl, kc, e1, e2⟩ := A
  have hP : OB Z C lay dv cl := by
    refine ⟨⟨kc, e2⟩, fun j f v h1 h2 => of_fld e1 ?_⟩
    have q1 : (lay.map (fun f => (parseFieldDescriptor f.2.2).map defaultValue))[j]? = some ((parseFieldDescriptor f.2.2).map defaultValue) := by simp [h1]
    rw [show lay.map (fun f => (parseFieldDescriptor f.2.2).map defaultValue) = dv.map some from hdv] at q1
    simp only [List.getElem?_map, h2, Option.map_some, Option.some.injEq] at q1
    cases hp : parseFieldDescriptor f.2.2 with
    | none => rw [hp] at q1; cases q1
    | some t =>
      rw [hp] at q1
      simp only [Option.map_some, Option.some.injEq] at q1
      rw [q1]
      exact D (K.1 f (List.mem_of_getElem? h1)) hp
  obtain ⟨fin, v, Lc, L', h1, r⟩ := k T.heap.size p e s m args below meth c T' vm0 k0 locs (cells + 1) (slots + n) hx hby hmx hret hlk hnm hown X' hS (Nat.le_trans hk E.1) hZ hE (hI.new E e1 hP) hF (by omega) (by omega)
  exact ⟨fin, v, Lc, L', st _ h1, r⟩
theorem Wk.newarray {aty : ArrayType} {u : Int32} (ty : FieldType) (N : Nat) (vs0 : List Value) (hd : decode bytes pc = .ok (.newarray aty, 2)) (hq : pc + 2 = q) (hty : newarray.typeOf aty = ty) (h0 : List.replicate N (defaultValue ty) = vs0) (w : (Jvm.Cond.arrayClass ty).before a0 Z = true) (hu : ¬ u < 0) (hN : u.toNatClampNeg = N) (hbig : N ≤ 67108864) (hcb : 1 ≤ cb) (hsb : N ≤ sb)
    (k : ∀ a : Addr, Wk l Z a0 EL y bytes mx ret R Q ((a, true, AR Z ty vs0) :: L) (cb - 1) (sb - N) q Ls (.ref a :: St)) : Wk l Z a0 EL y bytes mx ret R Q L cb sb pc Ls (.int u :: St) := by
  subst hq hty h0
  intro p e s m args below meth c T vm0 k0 locs cells slots hx hby hmx hret hlk hnm hown X hS hk hZ hE hI hF hc hs
  obtain ⟨T', h', cA, X', rfl, E, A, st⟩ := newP X hx hZ w rfl (g := mkF m pc ⟨Ls⟩ (.int u :: St)) rfl (hb hby hd) rfl hu (cap := N) (Nat.le_of_eq hN) (by omega) (by omega) (by omega)
  have hP : AR Z (newarray.typeOf aty) (List.replicate N (defaultValue (newarray.typeOf aty))) (newA cA (newarray.typeOf aty) u) := ⟨A.2.1, A.2.2, by simp [newA, hN], by simp; omega⟩
  obtain ⟨fin, v, Lc, L', h1, r⟩ := k T.heap.size p e s m args below meth c T' vm0 k0 locs (cells + 1) (slots + N) hx hby hmx hret hlk hnm hown X' hS (Nat.le_trans hk E.1) hZ hE (hI.new E A.1 hP) hF (by omega) (by omega)
  exact ⟨fin, v, Lc, L', st _ h1, r⟩
theorem Wk.anewarray {i : Nat} {C : String} {u : Int32} (N : Nat) (vs0 : List Value) (hd : decode bytes pc = .ok (.anewarray i, 3)) (hq : pc + 3 = q) (w1 : (Jvm.Cond.classLink y.cls i C).before a0 Z = true) (h0 : List.replicate N Value.null = vs0) (w2 : (Jvm.Cond.arrayOver (.object C)).before a0 Z = true) (hu : ¬ u < 0) (hN : u.toNatClampNeg = N) (hbig : N ≤ 67108864) (hcb : 1 ≤ cb) (hsb : N ≤ sb)
    (k : ∀ a : Addr, Wk l Z a0 EL y bytes mx ret R Q ((a, true, RA Z C vs0) :: L) (cb - 1) (sb - N) q Ls (.ref a :: St)) : Wk l Z a0 EL y bytes mx ret R Q L cb sb pc Ls (.int u :: St) := by
  subst hq h0
  intro p e s m args below meth c T vm0 k0 locs cells slots hx hby hmx hret hlk hnm hown X hS hk hZ hE hI hF hc hs
  obtain ⟨T', h', cA, X', rfl, E, A, O, st⟩ := newR X hx hZ hown w1 w2 rfl (g := mkF m pc ⟨Ls⟩ (.int u :: St)) rfl (hb hby hd) rfl hu (cap := N) (Nat.le_of_eq hN) (by omega) (by omega) (by omega)
  have hP : RA Z C (List.replicate N .null) (newA cA (.object C) u) := ⟨⟨A.2.1, A.2.2, by simp [newA, hN, defaultValue], by simp; omega⟩, O⟩
  obtain ⟨fin, v, Lc, L', h1, r⟩ := k T.heap.size p e s m args below meth c T' vm0 k0 locs (cells + 1) (slots + N) hx hby hmx hret hlk hnm hown X' hS (Nat.le_trans hk E.1) hZ hE (hI.new E A.1 hP) hF (by omega) (by omega)
  exact ⟨fin, v, Lc, L', st _ h1, r⟩
/-- a String constant, opaque -/
theorem Wk.ldcO {i : Nat} {text : String} (n : Nat) (hd : decode bytes pc = .ok (.ldc i, 2)) (hq : pc + 2 = q) (w : (Jvm.Cond.stringLink y.cls i text).before a0 Z = true) (wS : ∀ a ∈ Bundle.stringAtoms, a.before a0 Z = true) (hn : 4 * text.toList.length ≤ n) (hbig : n ≤ 536870912) (hcb : 2 ≤ cb) (hsb : n + 4 ≤ sb)
    (k : ∀ a : Addr, Wk l Z a0 EL y bytes mx ret R Q L (cb - 2) (sb - (n + 4)) q Ls (.ref a :: St)) : Wk l Z a0 EL y bytes mx ret R Q L cb sb pc Ls St := by
  subst hq
  intro p e s m args below meth c T vm0 k0 locs cells slots hx hby hmx hret hlk hnm hown X hS hk hZ hE hI hF hc hs
  obtain ⟨a, T', h', k1, X', rfl, E, hS', hk', hW', hown', hC, -, st⟩ := ldcOH X hx hZ hown w wS rfl hS hk hE hI.2.1 (g := mkF m pc ⟨Ls⟩ St) rfl (hb hby hd) hn hbig (by omega) (by omega)
  obtain ⟨fin, v, Lc, L', h1, r⟩ := k a p e s m args below meth c T' T'.vm k1 locs (cells + 2) (slots + (n + 4)) hx hby hmx hret hlk hnm hown' X' hS' hk' hW' hE (hI.later E hC) hF (by omega) (by omega)
  exact ⟨fin, v, Lc, L', st _ h1, r⟩
def layS : Lay := [("java/lang/String", "value", "[B"), ("java/lang/String", "coder", "B")]
theorem ar_of_arv {Z : State} {h : Heap} {a : Addr} {k : ClassId} {ty : FieldType} {z : Int32} {vs : List Value} {d : Value} (A : Arv Z h a k ty z vs d) (hz : z.toNatClampNeg = vs.length) : ∃ c : Cell, h[a]? = some c ∧ AR Z ty vs c := by
  obtain ⟨c, A, -, h2, h3, H, -⟩ := A
  refine ⟨c, A.1, A.2.1, A.2.2, ?_, ?_⟩
  · apply List.ext_getElem?
    intro i
    rw [hz] at h2
    by_cases q : i < c.slots.size
    · have := H i q
      rw [Array.getElem?_toList, this]
      have q' : i < vs.length := by omega
      simp [List.getD, List.getElem?_eq_getElem q']
    · rw [Array.getElem?_toList, Array.getElem?_eq_none (by omega), List.getElem?_eq_none (by omega)]
  · rw [← hz]; exact (back32 h3).2
/-- a String constant, read -/
theorem Wk.ldcS {i : Nat} {text : String} (n : Nat) (vs : List Value) (z : Int32) (hd : decode bytes pc = .ok (.ldc i, 2)) (hq : pc + 2 = q) (w : (Jvm.Cond.stringLink y.cls i text).before a0 Z = true) (wS : ∀ a ∈ Bundle.stringAtoms, a.before a0 Z = true) (hmem : (y.cls, i) ∈ EL)
    (ht : (∀ c ∈ text.toList, c.toNat < 256) ∧ text.toList.map (fun c => Value.int (Jvm.Lit.byteI c.toNat.toUInt16)) = vs) (hz : ¬ z < 0) (hz' : z.toNatClampNeg = vs.length) (hn : 4 * text.toList.length ≤ n) (hbig : n ≤ 536870912) (hcb : 2 ≤ cb) (hsb : n + 4 ≤ sb)
    (k : ∀ a b : Addr, Wk l Z a0 EL y bytes mx ret R Q ((a, false, OB Z "java/lang/String" layS [.ref b, .int 0]) :: (b, false, AR Z .byte vs) :: L) (cb - 2) (sb - (n + 4)) q Ls (.ref a :: St)) : Wk l Z a0 EL y bytes mx ret R Q L cb sb pc Ls St := by
  subst hq
  intro p e s m args below meth c T vm0 k0 locs cells slots hx hby hmx hret hlk hnm hown X hS hk hZ hE hI hF hc hs
  obtain ⟨a, T', h', k1, b, kb, X', rfl, E, hS', hk', hW', hown', x1, x2, x3, x4, -, -, hC, -, hne, st⟩ := ldcCH X hx hZ hown w wS rfl hS hk hE hmem hI.2.1 ht hz hz' (g := mkF m pc ⟨Ls⟩ St) rfl (hb hby hd) hn hbig (by omega) (by omega)
  have I1 := hI.later E hC
  obtain ⟨cB, b1, b2⟩ := ar_of_arv x4 hz'
  have I2 := I1.old b1 b2 (fun x _ hs => (hne x hs).2)
  obtain ⟨cl, kc, e1, e2⟩ := x1
  have I3 := I2.old (P := OB Z "java/lang/String" layS [.ref b, .int 0]) e1 ⟨⟨kc, e2⟩, fun j f v h1 h2 => by
    match j, h1, h2 with
    | 0, h1, h2 => cases h1; cases h2; exact of_fld e1 x3
    | 1, h1, h2 => cases h1; cases h2; exact of_fld e1 x2
    | j + 2, h1, _ => cases h1⟩ (fun x _ hs => (hne x hs).1)
  obtain ⟨fin, v, Lc, L', h1, r⟩ := k a b p e s m args below meth c T' T'.vm k1 locs (cells + 2) (slots + (n + 4)) hx hby hmx hret hlk hnm hown' X' hS' hk' hW' hE I3 hF (by omega) (by omega)
  exact ⟨fin, v, Lc, L', st _ h1, r⟩
/-- what a value that is returned says; what a body that returns nothing says -/
def RV (Q : Value → Store → Prop) : Option Value → Store → Prop := fun v L => ∃ u, v = some u ∧ Q u L
def R0 (Q : Store → Prop) : Option Value → Store → Prop := fun v L => v = none ∧ Q L
theorem Wk.leave (v : Option Value) (hv : ret = none → v = none) (hQ : Q v L)
    (st : ∀ {p : Program} {e : Env} {s : State} {m : MethodId} {args : Array Value} {below : List Frame} {meth : Method} {c : Code} {T : State} {vm0 : Vm} {locs : List Loc} {cells slots : Nat} {fs : List Frame}, p.tables.exec = Jvm.exec → c.code = bytes → meth.sig.returnType = ret → Stand p l e R (s.setVm vm0) m args below meth c T locs cells slots →
      (∀ (f : JFrame) (acts : List Action), f.method = m → f.locked = none → f.entered = [] → (doReturn e (T.setTop f) acts v).1 = T.setFrames fs) → Steps p.tables e below (T.setTop (mkF m pc ⟨Ls⟩ St)) (T.setFrames fs)) : Wk l Z a0 EL y bytes mx ret R Q L cb sb pc Ls St := by
  intro p e s m args below meth c T vm0 k0 locs cells slots hx hby hmx hret hlk hnm hown X hS hk hZ hE hI hF hc hs
  obtain ⟨fs, hr, hrun, hended, hW⟩ := X.leaveW hS hk (v := v) (fun h => hv (hret ▸ h)) hlk
  have A : CHr Z EL vm0 T.heap T.vm T.heap := CHv.at X hZ hE hI.2.1
  have I' : Inv Z EL T.vm T.heap L := hI.later ⟨Nat.le_refl _, fun _ _ q => q⟩ A
  exact ⟨T.setFrames fs, v, locs, L, st hx hby hret X hr, hrun, hended, hQ, I', hF, endMono hW (by omega) (by omega)⟩
theorem Wk.return_ (hd : decode bytes pc = .ok (.return_, 1)) (hr : ret = none) (hQ : Q none L) : Wk l Z a0 EL y bytes mx ret R Q L cb sb pc Ls [] :=
  Wk.leave none (fun _ => rfl) hQ fun hx hby hret X hl => X.returnOut hx (hret.trans hr) (hb hby hd) hl
theorem Wk.ireturn {t : FieldType} {u : Int32} (hd : decode bytes pc = .ok (.ireturn, 1)) (hr : ret = some t) (ht : t = .int ∨ t = .boolean ∨ t = .byte ∨ t = .char ∨ t = .short) (hn : narrow t (.int u) = .int u) (hQ : Q (some (.int u)) L) : Wk l Z a0 EL y bytes mx ret R Q L cb sb pc Ls (.int u :: St) :=
  Wk.leave (some (.int u)) (fun h => by rw [hr] at h; cases h) hQ fun hx hby hret X hl => retOut X hx (hret.trans hr) hn (Or.inl ⟨rfl, ht, u, rfl⟩) (hb hby hd) hl
theorem Wk.lreturn {u : Int64} (hd : decode bytes pc = .ok (.lreturn, 1)) (hr : ret = some .long) (hQ : Q (some (.long u)) L) : Wk l Z a0 EL y bytes mx ret R Q L cb sb pc Ls (.long u :: St) :=
  Wk.leave (some (.long u)) (fun h => by rw [hr] at h; cases h) hQ fun hx hby hret X hl => retOut X hx (hret.trans hr) rfl (Or.inr (Or.inl ⟨rfl, rfl, u, rfl⟩)) (hb hby hd) hl
theorem Wk.areturn {t : FieldType} {u : Value} (hd : decode bytes pc = .ok (.areturn, 1)) (hr : ret = some t) (ht : t.isReference = true) (hn : narrow t u = u) (hu : u.isRef = true) (hQ : Q (some u) L) : Wk l Z a0 EL y bytes mx ret R Q L cb sb pc Ls (u :: St) :=
  Wk.leave (some u) (fun h => by rw [hr] at h; cases h) hQ fun hx hby hret X hl => retOut X hx (hret.trans hr) hn (Or.inr (Or.inr (Or.inr (Or.inr ⟨rfl, ht, hu⟩)))) (hb hby hd) hl
theorem Ct.of {as' : Array Value} (hp : plainFor y = true) (he : ∀ m, entryFrame m as' mx = mkF m 0 ⟨Ls⟩ []) (hE : EW Z a0 EL) (k : Wk l Z a0 EL y bytes mx ret R Q L R.cells R.slots 0 Ls []) : Ct l Z EL y bytes mx ret R as' L Q := by
  intro ws
  refine MetFree.of_bodySF hp hisR ?_
  intro p e s m args below meth c s₁ Bd hml0 hP hK
  obtain ⟨rfl, hZ, hI⟩ := hP
  have hheap : s₁.heap = s.heap := by rw [Bd.state]; rfl
  have X0 : Stand p l e R (s.setVm s.vm) m args below meth c s₁ [] 0 0 := Stand.of_body Bd
  obtain ⟨fin, v, Lc, L', h1, h2, h3, h4, h5, h6, h7⟩ := k p e s m args below meth c s₁ s.vm s.heap.size [] 0 0 Bd.exec Bd.bytes hml0 Bd.returns Bd.notSynchronized (name_of_methodNamed Bd.named Bd.method).1 (findClass_of_methodNamed Bd.named) X0 ((State.WarmedH.refl s).since _) (by rw [hheap]; exact Nat.le_refl _) hZ hE (by rw [hheap]; exact hI) (Fr.nil _) (by omega) (by omega)
  exact ⟨fin, .returned v, castTop (he m) h1, h2, h3, v, Lc, L', rfl, h4, h5, h6, h7⟩
theorem Ct.imp {as' : Array Value} (hq : ∀ v L, Q v L → Q' v L) (h : Ct l Z EL y bytes mx ret R as' L Q) : Ct l Z EL y bytes mx ret R as' L Q' := by
  intro ws p e ha hc hk s m args below hf happ hP hK
  obtain ⟨n, o, h1, h2, h3, v, Lc, L', h4, h5, h6⟩ := h ws p e ha hc hk s m args below hf happ hP hK
  exact ⟨n, o, h1, h2, h3, v, Lc, L', h4, hq _ _ h5, h6⟩
theorem Ct.perm {as' : Array Value} (hp : L.Perm L') (h : Ct l Z EL y bytes mx ret R as' L' Q) : Ct l Z EL y bytes mx ret R as' L Q := by
  intro ws p e ha hc hk s m args below hf happ hP hK
  exact h ws p e ha hc hk s m args below hf happ ⟨hP.1, hP.2.1, hP.2.2.perm hp⟩ hK
section Call
variable {y' : MethodName} {b' : ByteArray} {mx' : Nat} {ret' : Option FieldType} {rm : Room} {as' : Array Value} {W len : Nat} {h : Heap} {p : Program} {e : Env} {below : List Frame} {s : State} {args : Array Value} {vm0 : Vm}
theorem Ct.back (hC : Ct l Z EL y' b' mx' ret' rm as' L Q') (hZ : Z.Warmed39 vm0) (hE : EW Z a0 EL) (hI : Inv Z EL vm0 h L) (wc : (Jvm.Cond.code y' b' mx' ret').before a0 Z = true) (wz : (Jvm.Cond.initialized y'.cls).before a0 Z = true) (hf : rm.frames + 1 ≤ R.frames) (hl : W + (mx' + 11) + rm.locals ≤ R.locals) :
    BackS l R p e below (s.setVm vm0) args y' len W (fun A a => a = as' ∧ A.U.heap = h ∧ A.cells + rm.cells ≤ R.cells ∧ A.slots + rm.slots ≤ R.slots)
      (fun A _ v B => ∃ Lc L', Q' v L' ∧ Inv Z EL B.U.vm B.U.heap L' ∧ Fr Z.heap.size Lc ∧ B.locs = A.locs ++ Lc ∧ B.cells = A.cells + rm.cells ∧ B.slots = A.slots + rm.slots) :=
  BackS.of_freeW (bytes := b') (maxL := mx') (ret := ret') (E := fun _ _ o t Lc k n => k = rm.cells ∧ n = rm.slots ∧ Fr Z.heap.size Lc ∧ ∃ v L', o = .returned v ∧ Q' v L' ∧ Inv Z EL t.vm t.heap L') (hC []) hf hl
    (fun m meth c A a Y hp => have hU : Z.Warmed39 A.U.vm := wtrans (s := s.setVm vm0) hZ Y.warmed
      ⟨by show (Jvm.Cond.and _ .tt).before a A.U = true; rw [Cond.before_and, mv hU wc]; rfl, mv hU wc, mv hU wz, hp.2.2.1, hp.2.2.2⟩)
    (fun m meth c A a g mk Y hp => ⟨hp.1, wtrans (s := s.setVm vm0) hZ Y.warmed, by
      show Inv Z EL A.U.vm A.U.heap L
      rw [hp.2.1]; exact hI.later ⟨Nat.le_refl _, fun _ _ q => q⟩ (CHv.at Y hZ hE hI.2.1)⟩) (fun _ _ _ _ _ _ _ _ _ => trivial)
    (fun _ _ _ _ ⟨v, Lc, L', h1, h2, h3, h4, h5⟩ => ⟨Lc, _, _, h5, rfl, rfl, h4, v, L', h1, h2, h3⟩)
    (fun m meth c A a g mk v t Lc k n Y hp _ _ ⟨e1, e2, e3, v', L', e4, e5, e6⟩ => by
      cases e4; subst e1 e2
      exact ⟨Lc, L', e5, e6, e3, rfl, rfl, rfl⟩)
/-- A CALL, whichever -/
theorem Wk.call {St' : List Value} (hC : Ct l Z EL y' b' mx' ret' rm as' L Q') (wc : (Jvm.Cond.code y' b' mx' ret').before a0 Z = true) (wz : (Jvm.Cond.initialized y'.cls).before a0 Z = true) (hf : rm.frames + 1 ≤ R.frames) (hl : W + (mx' + 11) + rm.locals ≤ R.locals) (hcb : rm.cells ≤ cb) (hsb : rm.slots ≤ sb)
    (go : ∀ {p : Program} {e : Env} {s : State} {m : MethodId} {args : Array Value} {below : List Frame} {meth : Method} {c : Code} {T : State} {vm0 : Vm} {locs : List Loc} {cells slots : Nat} {Pre : Pt → Array Value → Prop} {Post : Pt → Array Value → Option Value → Pt → Prop}, p.tables.exec = Jvm.exec → c.code = bytes → c.maxLocals = mx → vm0.findClass y.cls = some m.cls → Z.Warmed39 vm0 → Inv Z EL vm0 T.heap L →
      Stand p l e R (s.setVm vm0) m args below meth c T locs cells slots → BackS l R p e below (s.setVm vm0) args y' len W Pre Post → (∀ vm₁, (s.setVm vm0).WarmedH vm₁ → Pre ⟨T.setVm vm₁, locs, cells, slots⟩ as') →
      ∃ (v : Option Value) (vm₁ : Vm) (B : Pt), (s.setVm vm0).WarmedH vm₁ ∧ Stand p l e R ((s.setVm vm0).setVm B.U.vm) m args below meth c B.U B.locs B.cells B.slots ∧ (s.setVm vm0).Since B.U.vm B.U.heap.size ∧ T.heap.size ≤ B.U.heap.size ∧ Post ⟨T.setVm vm₁, locs, cells, slots⟩ as' v B ∧ Steps p.tables e below (T.setTop (mkF m pc ⟨Ls⟩ St)) (B.U.setTop (mkF m q ⟨Ls⟩ (v.toList ++ St'))))
    (k : ∀ v L', Q' v L' → Wk l Z a0 EL y bytes mx ret R Q L' (cb - rm.cells) (sb - rm.slots) q Ls (v.toList ++ St')) : Wk l Z a0 EL y bytes mx ret R Q L cb sb pc Ls St := by
  intro p e s m args below meth c T vm0 k0 locs cells slots hx hby hmx hret hlk hnm hown X hS hk hZ hE hI hF hc hs
  obtain ⟨v, vm₁, B, -, X', hS', hgr, ⟨Lc, L', q1, q2, q3, q4, q5, q6⟩, st⟩ := go hx hby hmx hown hZ hI X (Ct.back (len := len) hC hZ hE hI wc wz hf hl) (fun vm₁ _ => ⟨rfl, rfl, by show cells + _ ≤ _; omega, by show slots + _ ≤ _; omega⟩)
  obtain ⟨U, Lx, cx, sx⟩ := B
  dsimp only [Pt.U, Pt.locs, Pt.cells, Pt.slots] at X' hS' hgr q2 q4 q5 q6 st
  subst q4 q5 q6
  obtain ⟨fin, v, Lc', L'', h1, r⟩ := k v L' q1 p e s m args below meth c U U.vm U.heap.size _ _ _ hx hby hmx hret hlk hnm (by rw [hS'.1.alike.findClass]; exact hown) X' (hS.trans hS' (Nat.le_trans hk hgr)) (Nat.le_refl _) (State.Warmed39.trans (t := s.setVm vm0) hZ hS'.1) hE q2 (hF.app q3) (by omega) (by omega)
  exact ⟨fin, v, Lc', L'', st.trans h1, r⟩
end Call
section Calls
variable {y' : MethodName} {b' : ByteArray} {mx' : Nat} {ret' : Option FieldType} {rm : Room} {i : Nat}
theorem Wk.static (argsL rest : List Value) (W : Nat) {na : Nat} (hd : decode bytes pc = .ok (.invokestatic i, 3)) (hq : pc + 3 = q) (w1 : (Jvm.Cond.methodLink y.cls i y').before a0 Z = true) (w2 : (Jvm.Cond.static y').before a0 Z = true) (wz : (Jvm.Cond.initialized y'.cls).before a0 Z = true) (wc : (Jvm.Cond.code y' b' mx' ret').before a0 Z = true) (har : XT.arity y'.desc = some na) (hy : y'.cls ≠ "java/lang/invoke/MethodHandle" ∧ y'.cls ≠ "java/lang/invoke/VarHandle")
    (hst : St = argsL.reverse ++ rest) (hna : argsL.length = na) (hW : (rest.map fun v => v.category).sum = W) (hz : Ls.length = mx) (hC : Ct l Z EL y' b' mx' ret' rm argsL.toArray L Q') (hf : rm.frames + 1 ≤ R.frames) (hl : W + (mx' + 11) + rm.locals ≤ R.locals) (hcb : rm.cells ≤ cb) (hsb : rm.slots ≤ sb)
    (k : ∀ v L', Q' v L' → Wk l Z a0 EL y bytes mx ret R Q L' (cb - rm.cells) (sb - rm.slots) q Ls (v.toList ++ rest)) : Wk l Z a0 EL y bytes mx ret R Q L cb sb pc Ls St := by
  subst hq hst
  refine Wk.call (len := 3) hC wc wz hf hl hcb hsb (fun {p e s m args below meth c T vm0 locs cells slots Pre Post} hx hby hmx hown hZ hI X hK hpre => ?_) k
  exact callSS X hx hown (mv (s := s.setVm vm0) hZ w1) (mv (s := s.setVm vm0) hZ w2) (mv (s := s.setVm vm0) hZ wz) (mv (s := s.setVm vm0) hZ wc) hy hK (g := mkF m pc ⟨Ls⟩ (argsL.reverse ++ rest)) rfl (by rw [hmx]; simpa using hz) (XT.arity_len har hna) rfl (by show 2 * 0 + _ ≤ _; rw [hW]; omega) (hb hby hd) hpre
theorem Wk.special {a : Addr} (argsL rest : List Value) (W : Nat) {na : Nat} (hd : decode bytes pc = .ok (.invokespecial i, 3)) (hq : pc + 3 = q) (hy1 : y'.name = "<init>") (w1 : (Jvm.Cond.methodLink y.cls i y').before a0 Z = true) (w2 : (Jvm.Cond.instanceMethod y').before a0 Z = true) (wz : (Jvm.Cond.initialized y'.cls).before a0 Z = true) (wc : (Jvm.Cond.code y' b' mx' none).before a0 Z = true) (har : XT.arity y'.desc = some na) (hy : y'.cls ≠ "java/lang/invoke/MethodHandle" ∧ y'.cls ≠ "java/lang/invoke/VarHandle")
    (hst : St = argsL.reverse ++ .ref a :: rest) (hna : argsL.length = na) (hW : (rest.map fun v => v.category).sum = W) (hz : Ls.length = mx) (hC : Ct l Z EL y' b' mx' none rm (.ref a :: argsL).toArray L Q') (hf : rm.frames + 1 ≤ R.frames) (hl : W + (mx' + 11) + rm.locals ≤ R.locals) (hcb : rm.cells ≤ cb) (hsb : rm.slots ≤ sb)
    (k : ∀ v L', Q' v L' → Wk l Z a0 EL y bytes mx ret R Q L' (cb - rm.cells) (sb - rm.slots) q Ls (v.toList ++ rest)) : Wk l Z a0 EL y bytes mx ret R Q L cb sb pc Ls St := by
  subst hq hst
  refine Wk.call (len := 3) hC wc wz hf hl hcb hsb (fun {p e s m args below meth c T vm0 locs cells slots Pre Post} hx hby hmx hown hZ hI X hK hpre => ?_) k
  exact X.specialBackS hx hy1 hown (mv (s := s.setVm vm0) hZ w1) (mv (s := s.setVm vm0) hZ w2) (mv (s := s.setVm vm0) hZ wc) hy hK (g := mkF m pc ⟨Ls⟩ (argsL.reverse ++ .ref a :: rest)) rfl (by rw [hmx]; simpa using hz) (Steps.refl _) (XT.arity_len har hna) rfl (by show 2 * 0 + _ ≤ _; rw [hW]; omega) (hb hby hd) hpre
theorem nfSel {y0 : MethodName} {C : String} (w : (Jvm.Cond.selects C y0 y0).before a0 Z = true) : ∀ s : State, Z.Warmed39 s.vm → NotFace s y0 := fun s hZ => notFace_of_selects (args := #[]) (mv hZ w)
theorem nfSup {y0 : MethodName} {S : String} (w : (Jvm.Cond.superclass y0.cls S).before a0 Z = true) : ∀ s : State, Z.Warmed39 s.vm → NotFace s y0 := fun s hZ => nf_super (args := #[]) (mv hZ w)
theorem nfTop {y0 : MethodName} (w : (Jvm.Cond.noSuperclass y0.cls).before a0 Z = true) : ∀ s : State, Z.Warmed39 s.vm → NotFace s y0 := fun s hZ => nf_top (args := #[]) (mv hZ w)
theorem Wk.virtual {a : Addr} {fl : Bool} {C : String} {lay : Lay} {vs : List Value} {y0 : MethodName} (argsL rest : List Value) (W : Nat) {na : Nat} (hd : decode bytes pc = .ok (.invokevirtual i, 3)) (hq : pc + 3 = q) (w1 : (Jvm.Cond.methodLink y.cls i y0).before a0 Z = true) (w2 : (Jvm.Cond.declares y0).before a0 Z = true) (w3 : (Jvm.Cond.selects C y0 y').before a0 Z = true) (w4 : (Jvm.Cond.instanceMethod y').before a0 Z = true) (wz : (Jvm.Cond.initialized y'.cls).before a0 Z = true) (wc : (Jvm.Cond.code y' b' mx' ret').before a0 Z = true)
    (har : XT.arity y0.desc = some na) (hy : y0.cls ≠ "java/lang/invoke/MethodHandle" ∧ y0.cls ≠ "java/lang/invoke/VarHandle") (nf : ∀ s : State, Z.Warmed39 s.vm → NotFace s y0) (hm : (a, fl, OB Z C lay vs) ∈ L)
    (hst : St = argsL.reverse ++ .ref a :: rest) (hna : argsL.length = na) (hW : (rest.map fun v => v.category).sum = W) (hz : Ls.length = mx) (hC : Ct l Z EL y' b' mx' ret' rm (.ref a :: argsL).toArray L Q') (hf : rm.frames + 1 ≤ R.frames) (hl : W + (mx' + 11) + rm.locals ≤ R.locals) (hcb : rm.cells ≤ cb) (hsb : rm.slots ≤ sb)
    (k : ∀ v L', Q' v L' → Wk l Z a0 EL y bytes mx ret R Q L' (cb - rm.cells) (sb - rm.slots) q Ls (v.toList ++ rest)) : Wk l Z a0 EL y bytes mx ret R Q L cb sb pc Ls St := by
  subst hq hst
  refine Wk.call (len := 3) hC wc wz hf hl hcb hsb (fun {p e s m args below meth c T vm0 locs cells slots Pre Post} hx hby hmx hown hZ hI X hK hpre => ?_) k
  obtain ⟨cl, e1, e2⟩ := hI.at_ hm
  obtain ⟨cq, kq, q1, -, q3⟩ := isOf (T := T) (s := s.setVm vm0) hZ rfl (e2.exa e1)
  exact X.virtualBackS hx hown (mv (s := s.setVm vm0) hZ w1) (mv (s := s.setVm vm0) hZ w2) (nf (s.setVm vm0) hZ) (mv (s := s.setVm vm0) hZ w3) (mv (s := s.setVm vm0) hZ w4) hy hK q1 q3 (g := mkF m pc ⟨Ls⟩ (argsL.reverse ++ .ref a :: rest)) rfl (by rw [hmx]; simpa using hz) (Steps.refl _) (XT.arity_len har hna) rfl (by show 2 * 0 + _ ≤ _; rw [hW]; omega) (hb hby hd) hpre
theorem Wk.interface {a : Addr} {fl : Bool} {C : String} {lay : Lay} {vs : List Value} {y0 : MethodName} {cnt : Nat} (argsL rest : List Value) (W : Nat) {na : Nat} (hd : decode bytes pc = .ok (.invokeinterface i cnt, 5)) (hq : pc + 5 = q) (w1 : (Jvm.Cond.methodLink y.cls i y0).before a0 Z = true) (w2 : (Jvm.Cond.declares y0).before a0 Z = true) (w5 : (Jvm.Cond.interfaceMethod y0.cls y0.cls y0.name y0.desc).before a0 Z = true) (hd5 : ((Jvm.Cond.interfaceMethod y0.cls y0.cls y0.name y0.desc).onTables && (Jvm.Cond.interfaceMethod y0.cls y0.cls y0.name y0.desc).keepsFace) = true) (w3 : (Jvm.Cond.selects C y0 y').before a0 Z = true) (w4 : (Jvm.Cond.instanceMethod y').before a0 Z = true) (w6 : (Jvm.Cond.publicMethod y').before a0 Z = true) (w7 : (Jvm.Cond.unhidden C y0.name y0.desc).before a0 Z = true) (w8 : (Jvm.Cond.castable C y0.cls).before a0 Z = true) (wz : (Jvm.Cond.initialized y'.cls).before a0 Z = true) (wc : (Jvm.Cond.code y' b' mx' ret').before a0 Z = true)
    (har : XT.arity y0.desc = some na) (hy : y0.cls ≠ "java/lang/invoke/MethodHandle" ∧ y0.cls ≠ "java/lang/invoke/VarHandle") (hm : (a, fl, OB Z C lay vs) ∈ L)
    (hst : St = argsL.reverse ++ .ref a :: rest) (hna : argsL.length = na) (hW : (rest.map fun v => v.category).sum = W) (hz : Ls.length = mx) (hC : Ct l Z EL y' b' mx' ret' rm (.ref a :: argsL).toArray L Q') (hf : rm.frames + 1 ≤ R.frames) (hl : W + (mx' + 11) + rm.locals ≤ R.locals) (hcb : rm.cells ≤ cb) (hsb : rm.slots ≤ sb)
    (k : ∀ v L', Q' v L' → Wk l Z a0 EL y bytes mx ret R Q L' (cb - rm.cells) (sb - rm.slots) q Ls (v.toList ++ rest)) : Wk l Z a0 EL y bytes mx ret R Q L cb sb pc Ls St := by
  subst hq hst
  refine Wk.call (len := 5) hC wc wz hf hl hcb hsb (fun {p e s m args below meth c T vm0 locs cells slots Pre Post} hx hby hmx hown hZ hI X hK hpre => ?_) k
  obtain ⟨cl, e1, e2⟩ := hI.at_ hm
  obtain ⟨cq, kq, q1, q2, q3⟩ := isOf (T := T) (s := s.setVm vm0) hZ rfl (e2.exa e1)
  exact X.interfaceBackS hx hown (mv (s := s.setVm vm0) hZ w1) (mv (s := s.setVm vm0) hZ w2) (mv (s := s.setVm vm0) hZ w5 hd5) (mv (s := s.setVm vm0) hZ w3) (mv (s := s.setVm vm0) hZ w4) (mv (s := s.setVm vm0) hZ w6) (mv (s := s.setVm vm0) hZ w7) (mv (s := s.setVm vm0) hZ w8) hy hK q1 q2 q3 (g := mkF m pc ⟨Ls⟩ (argsL.reverse ++ .ref a :: rest)) rfl (by rw [hmx]; simpa using hz) (Steps.refl _) (XT.arity_len har hna) rfl (by show 2 * 0 + _ ≤ _; rw [hW]; omega) (hb hby hd) hpre
end Calls
theorem kv {Q0 : Value → Store → Prop} (k : ∀ u L', Q0 u L' → Wk l Z a0 EL y bytes mx ret R Q L' cb sb q Ls (u :: rest)) : ∀ v L', RV Q0 v L' → Wk l Z a0 EL y bytes mx ret R Q L' cb sb q Ls (v.toList ++ rest) := by
  rintro _ L' ⟨u, rfl, h⟩; exact k u L' h
theorem k0 {Q0 : Store → Prop} (k : ∀ L', Q0 L' → Wk l Z a0 EL y bytes mx ret R Q L' cb sb q Ls rest) : ∀ v L', R0 Q0 v L' → Wk l Z a0 EL y bytes mx ret R Q L' cb sb q Ls (v.toList ++ rest) := by
  rintro _ L' ⟨rfl, h⟩; exact k L' h
end Rules
/-- a branch both ways -/
def cP : ClassFile.Cond → Int32 → Int32 → Prop
  | .eq, u, w => u = w
  | .ne, u, w => ¬ u = w
  | .lt, u, w => u < w
  | .ge, u, w => ¬ u < w
  | .gt, u, w => w < u
  | .le, u, w => ¬ w < u
def cneg : ClassFile.Cond → ClassFile.Cond
  | .eq => .ne
  | .ne => .eq
  | .lt => .ge
  | .ge => .lt
  | .gt => .le
  | .le => .gt
theorem icmp_of {cd : ClassFile.Cond} {u w : Int32} : (cP cd u w ∧ if_icmp.holds cd u w = true) ∨ (cP (cneg cd) u w ∧ if_icmp.holds cd u w = false) := by
  cases cd
  · by_cases h : u = w
    · exact Or.inl ⟨h, XT.ii_eq_t h⟩
    · exact Or.inr ⟨h, XT.ii_eq_f h⟩
  · by_cases h : u = w
    · exact Or.inr ⟨h, XT.ii_ne_f h⟩
    · exact Or.inl ⟨h, XT.ii_ne_t h⟩
  · by_cases h : u < w
    · exact Or.inl ⟨h, XT.ii_lt_t h⟩
    · exact Or.inr ⟨h, XT.ii_lt_f h⟩
  · by_cases h : u < w
    · exact Or.inr ⟨h, XT.ii_ge_f h⟩
    · exact Or.inl ⟨h, XT.ii_ge_t h⟩
  · by_cases h : w < u
    · exact Or.inl ⟨h, XT.ii_gt_t h⟩
    · exact Or.inr ⟨h, XT.ii_gt_f h⟩
  · by_cases h : w < u
    · exact Or.inr ⟨h, XT.ii_le_f h⟩
    · exact Or.inl ⟨h, XT.ii_le_t h⟩
theorem if_of {cd : ClassFile.Cond} {u : Int32} : (cP cd u 0 ∧ ifCond.holds cd u = true) ∨ (cP (cneg cd) u 0 ∧ ifCond.holds cd u = false) := by
  cases cd
  · by_cases h : u = 0
    · exact Or.inl ⟨h, XT.i0_eq_t h⟩
    · exact Or.inr ⟨h, XT.i0_eq_f h⟩
  · by_cases h : u = 0
    · exact Or.inr ⟨h, XT.i0_ne_f h⟩
    · exact Or.inl ⟨h, XT.i0_ne_t h⟩
  · by_cases h : u < 0
    · exact Or.inl ⟨h, XT.i0_lt_t h⟩
    · exact Or.inr ⟨h, XT.i0_lt_f h⟩
  · by_cases h : u < 0
    · exact Or.inr ⟨h, XT.i0_ge_f h⟩
    · exact Or.inl ⟨h, XT.i0_ge_t h⟩
  · by_cases h : 0 < u
    · exact Or.inl ⟨h, XT.i0_gt_t h⟩
    · exact Or.inr ⟨h, XT.i0_gt_f h⟩
  · by_cases h : 0 < u
    · exact Or.inr ⟨h, XT.i0_le_f h⟩
    · exact Or.inl ⟨h, XT.i0_le_t h⟩
section Rules2
variable {l : Launch} {Z : State} {a0 : Array Value} {EL : List (String × Nat)} {y : MethodName} {bytes : ByteArray} {mx : Nat} {ret : Option FieldType} {R : Room} {Q Q' : Option Value → Store → Prop} {L L0 L' : Store} {cb sb pc q q' : Nat} {Ls Ls' : List Slot} {St rest : List Value}
theorem Wk.icmp_s {cd : ClassFile.Cond} {u w : Int32} {o : Int} (hd : decode bytes pc = .ok (.if_icmp cd o, 3)) (ho : 0 ≤ (pc : Int) + o) (hq : ((pc : Int) + o).toNat = q) (hq' : pc + 3 = q') (k1 : cP cd u w → Wk l Z a0 EL y bytes mx ret R Q L cb sb q Ls St) (k2 : cP (cneg cd) u w → Wk l Z a0 EL y bytes mx ret R Q L cb sb q' Ls St) : Wk l Z a0 EL y bytes mx ret R Q L cb sb pc Ls (.int w :: .int u :: St) := by
  rcases icmp_of (cd := cd) (u := u) (w := w) with ⟨h, h'⟩ | ⟨h, h'⟩
  · exact Wk.icmp_t hd ho hq h' (k1 h)
  · exact Wk.icmp_f hd hq' h' (k2 h)
theorem Wk.if_s {cd : ClassFile.Cond} {u : Int32} {o : Int} (hd : decode bytes pc = .ok (.ifCond cd o, 3)) (ho : 0 ≤ (pc : Int) + o) (hq : ((pc : Int) + o).toNat = q) (hq' : pc + 3 = q') (k1 : cP cd u 0 → Wk l Z a0 EL y bytes mx ret R Q L cb sb q Ls St) (k2 : cP (cneg cd) u 0 → Wk l Z a0 EL y bytes mx ret R Q L cb sb q' Ls St) : Wk l Z a0 EL y bytes mx ret R Q L cb sb pc Ls (.int u :: St) := by
  rcases if_of (cd := cd) (u := u) with ⟨h, h'⟩ | ⟨h, h'⟩
  · exact Wk.if_t hd ho hq h' (k1 h)
  · exact Wk.if_f hd hq' h' (k2 h)
end Rules2
theorem Wk.know {l : Launch} {Z : State} {a0 : Array Value} {EL : List (String × Nat)} {y : MethodName} {bytes : ByteArray} {mx : Nat} {ret : Option FieldType} {R : Room} {Q : Option Value → Store → Prop} {L : Store} {cb sb pc : Nat} {Ls : List Slot} {St : List Value} {P : Prop} (hp : ∀ vm h, Inv Z EL vm h L → P) (k : P → Wk l Z a0 EL y bytes mx ret R Q L cb sb pc Ls St) : Wk l Z a0 EL y bytes mx ret R Q L cb sb pc Ls St := by
  intro p e s m args below meth c T vm0 k0 locs cells slots hx hby hmx hret hlk hnm hown X hS hk hZ hE hI hF hc hs
  exact k (hp _ _ hI) p e s m args below meth c T vm0 k0 locs cells slots hx hby hmx hret hlk hnm hown X hS hk hZ hE hI hF hc hs
theorem Inv.sameObj {Z : State} {EL : List (String × Nat)} {vm : Vm} {h : Heap} {L : Store} {a : Addr} {f f' : Bool} {C C' : String} {lay : Lay} {vs vs' : List Value} {j : Nat} {g : String × String × String} {v v' : Value} (I : Inv Z EL vm h L) (h1 : (a, f, OB Z C lay vs) ∈ L) (h2 : (a, f', OB Z C' lay vs') ∈ L) (hj : lay[j]? = some g) (hv : vs[j]? = some v) (hv' : vs'[j]? = some v') : v = v' := by
  obtain ⟨c, e1, e2⟩ := I.at_ h1
  obtain ⟨c', g1, g2⟩ := I.at_ h2
  cases e1.symm.trans g1
  obtain ⟨_, _, _, fi, x1, -, -, -, -, x6⟩ := e2.2 j g v hj hv
  obtain ⟨_, _, _, fi', y1, -, -, -, -, y6⟩ := g2.2 j g v' hj hv'
  cases x1.symm.trans y1
  exact Option.some.inj (x6.symm.trans y6)
theorem Inv.sameArr {Z : State} {EL : List (String × Nat)} {vm : Vm} {h : Heap} {L : Store} {a : Addr} {f f' : Bool} {ty ty' : FieldType} {vs vs' : List Value} (I : Inv Z EL vm h L) (h1 : (a, f, AR Z ty vs) ∈ L) (h2 : (a, f', AR Z ty' vs') ∈ L) : vs = vs' := by
  obtain ⟨c, e1, e2⟩ := I.at_ h1
  obtain ⟨c', g1, g2⟩ := I.at_ h2
  cases e1.symm.trans g1
  exact e2.2.2.1.symm.trans g2.2.2.1
theorem map_int_inj {xs ys : List Int32} (h : xs.map Value.int = ys.map Value.int) : xs = ys := (List.map_inj_right (fun a b e => by injection e)).mp h
theorem efOf {m : MethodId} {args : Array Value} {n : Nat} {Ls : List Slot} (h : Jvm.Sym.laidSlots args.toList ++ List.replicate (n - (Jvm.Sym.laidSlots args.toList).length) .unset = Ls) : entryFrame m args n = mkF m 0 ⟨Ls⟩ [] := by
  have : argsToLocals args n = ⟨Ls⟩ := Array.toList_inj.mp (by rw [Jvm.Sym.argsToLocals_toList]; exact h)
  unfold entryFrame
  rw [this]
theorem fitO {c : String} {v : Value} (h : v.isRef = true) : fits (.object c) v = true := by cases v <;> first | rfl | exact Bool.noConfusion h
theorem fitA {c : FieldType} {v : Value} (h : v.isRef = true) : fits (.array c) v = true := by cases v <;> first | rfl | exact Bool.noConfusion h
theorem narO {c : String} {v : Value} : narrow (.object c) v = v := by cases v <;> rfl
theorem narA {c : FieldType} {v : Value} : narrow (.array c) v = v := by cases v <;> rfl
theorem staOf {Z : State} {args a0 : Array Value} {C n d K : String} (h : (Jvm.Cond.exactly (Term.static C n d) K).value args Z none Z [] = some true) (hi : (Jvm.Cond.initialized C).before a0 Z = true) (hl : (Jvm.Cond.laysStatic C n d).before a0 Z = true) : ∃ a : Addr, Sta Z Z.heap C n d (.ref a) ∧ Exa Z Z.heap a K := by
  obtain ⟨a, ev⟩ := exa_v h
  exact ⟨a, Sta.start (args := args) ev (Or.inr ⟨hi, hl⟩), Exa.start ev h⟩
theorem compact {Z : State} {args : Array Value} (h1 : (Jvm.Cond.initializedFor "java/lang/String" "COMPACT_STRINGS" "Z").before args Z = true) (h2 : (Jvm.Cond.isInt (Term.static "java/lang/String" "COMPACT_STRINGS" "Z")).before args Z = true) (h3 : (Jvm.Cond.not (Jvm.Cond.eq (Term.static "java/lang/String" "COMPACT_STRINGS" "Z") (.int 0))).before args Z = true) : ∃ z, z ≠ (0 : Int32) ∧ Sta Z Z.heap "java/lang/String" "COMPACT_STRINGS" "Z" (.int z) := by
  obtain ⟨z, ev⟩ := is_v (Cond.before_iff.mp h2)
  refine ⟨z, fun e => ?_, Sta.start (args := args) ev (Or.inl h1)⟩
  have h := not_v (Cond.before_iff.mp h3)
  rw [eq_i ev (Term.int_eval 0) (by rw [e])] at h
  cases h
theorem staI {Z : State} {args : Array Value} {C n d : String} {z : Int32} (h1 : (Jvm.Cond.initializedFor C n d).before args Z = true) (h2 : (Jvm.Cond.eq (Term.static C n d) (.int z)).before args Z = true) : Sta Z Z.heap C n d (.int z) := by
  have h := Cond.before_iff.mp h2
  obtain ⟨x, y, ex, ey, kx, -⟩ := cmp_v (Or.inl h)
  cases (Term.int_eval z).symm.trans ey
  have e : x = .int z := by
    have q := h
    cases x with
    | int w =>
      simp only [Jvm.Cond.value, ex, Term.int_eval, Option.some.injEq, decide_eq_true_eq] at q
      rw [q]
    | long _ => obtain ⟨_, kx⟩ := kx; cases kx
    | float _ => obtain ⟨_, kx⟩ := kx; cases kx
    | double _ => obtain ⟨_, kx⟩ := kx; cases kx
    | _ => exact Bool.noConfusion kx.2
  subst e
  exact Sta.start (args := args) ex (Or.inl h1)
theorem nar8 (x : Int32) : nar .byte x.toInt8.toInt32 = x.toInt8.toInt32 := by simp [nar]
/-! numbers -/
theorem nchar_mask (x : Int32) : nar .char (x &&& 255) = x &&& 255 := i2c_mask x
theorem mask_lat (x : Int32) : 0 ≤ (x &&& 255).toInt ∧ (x &&& 255).toInt < 256 := by
  have := c_and x 255 (by decide)
  have e : (255 : Int32).toInt = 255 := by decide
  omega
theorem remR (x : Int32) (k : Int32) (d : Int) (hx : 0 ≤ x.toInt) (hd : k.toInt = d) (hk : 0 < d) : 0 ≤ (x % k).toInt ∧ (x % k).toInt < d := by
  have := (c_iremV x k).1 hx (by omega)
  omega
theorem maskR (x : Int32) : 0 ≤ (x &&& 2147483647).toInt := (c_and x 2147483647 (by decide)).1
theorem lit32 {x : Int32} {n : Int} (h : x.toInt = n) (m : Int32) (hm : m.toInt = n) : x = m := Int32.toInt_inj.mp (h.trans hm.symm)
theorem rem4 (x : Int32) : (x &&& 2147483647) % 4 = 0 ∨ (x &&& 2147483647) % 4 = 1 ∨ (x &&& 2147483647) % 4 = 2 ∨ (x &&& 2147483647) % 4 = 3 := by
  have h := remR (x &&& 2147483647) 4 4 (maskR x) (by decide) (by decide)
  generalize (x &&& 2147483647) % 4 = r at *
  have h4 : r.toInt = 0 ∨ r.toInt = 1 ∨ r.toInt = 2 ∨ r.toInt = 3 := by omega
  rcases h4 with h | h | h | h
  · exact Or.inl (lit32 h 0 (by decide))
  · exact Or.inr (Or.inl (lit32 h 1 (by decide)))
  · exact Or.inr (Or.inr (Or.inl (lit32 h 2 (by decide))))
  · exact Or.inr (Or.inr (Or.inr (lit32 h 3 (by decide))))
theorem pw0 : ((2 ^ 0 : Nat) : Int) = 1 := rfl
theorem pw1 : ((2 ^ 1 : Nat) : Int) = 2 := rfl
theorem pw8 : ((2 ^ 8 : Nat) : Int) = 256 := rfl
theorem pw31 : ((2 ^ 31 : Nat) : Int) = 2147483648 := rfl
theorem n32 {n : Nat} (h : n < 2 ^ 31) : n.toInt32.toInt = n := len_toInt h
theorem n32_nn {n : Nat} (h : n < 2 ^ 31) : ¬ n.toInt32 < 0 := by rw [Int32.lt_iff_toInt_lt, n32 h]; show ¬ (n : Int) < 0; omega
theorem n32_nat {n : Nat} (h : n < 2 ^ 31) : n.toInt32.toNatClampNeg = n := by simp only [Int32.toNatClampNeg, n32 h]; rfl
theorem n32_lt {i n : Nat} (hi : i < 2 ^ 31) (hn : n < 2 ^ 31) : i.toInt32 < n.toInt32 ↔ i < n := by rw [Int32.lt_iff_toInt_lt, n32 hi, n32 hn]; omega
theorem n32_inj {i n : Nat} (hi : i < 2 ^ 31) (hn : n < 2 ^ 31) : i.toInt32 = n.toInt32 ↔ i = n := by rw [← Int32.toInt_inj, n32 hi, n32 hn]; omega
theorem n32_succ (i : Nat) : i.toInt32 + 1 = (i + 1).toInt32 := (Int32.ofNat_add i 1).symm
end Jvm.OwnW
namespace Jvm.OwnW
open Jvm Jvm.ClassFile Sem Op Lib Jvm.Free Jvm.Stand Jvm.LawKit Jvm.RoadKit
theorem Inv.keep {Z : State} {EL : List (String × Nat)} {vm : Vm} {h h' : Heap} {L : Store} {b : Addr} {P P' : Cell → Prop} {c : Cell} (I : Inv Z EL vm h ((b, true, P) :: L)) (K : Keep h h' [b]) (hc : h'[b]? = some c) (hP : P' c) : Inv Z EL vm h' ((b, true, P') :: L) := by
  obtain ⟨h1, h2, h3, h4, h5⟩ := I
  have hs := (h4 _ (List.mem_cons_self ..) rfl)
  have hsafe : ∀ x ∈ [b], Safe Z EL vm h x := fun x hx => by cases List.mem_singleton.mp hx; exact hs.2
  rw [List.pairwise_cons] at h5
  refine ⟨⟨Nat.le_trans h1.1 K.1, fun x c q => K.2.1 x c (h1.2 x c q) fun hx => ?_⟩, h2.keep K hsafe, fun o ho => ?_, fun o ho q => ?_, List.pairwise_cons.mpr ⟨fun o ho q => h5.1 o ho q, h5.2⟩⟩
  · cases List.mem_singleton.mp hx
    exact absurd (Array.getElem?_eq_some_iff.mp q).1 (Nat.not_lt.mpr hs.1)
  · rcases List.mem_cons.mp ho with rfl | ho
    · exact ⟨c, hc, hP⟩
    · obtain ⟨c1, q1, q2⟩ := h3 o (List.mem_cons_of_mem _ ho)
      exact ⟨c1, K.2.1 _ _ q1 fun hx => h5.1 o ho (Or.inl rfl) (List.mem_singleton.mp hx).symm, q2⟩
  · rcases List.mem_cons.mp ho with rfl | ho
    · exact ⟨hs.1, Safe.keep K hsafe h2 hs.2⟩
    · have q2 := h4 o (List.mem_cons_of_mem _ ho) q
      exact ⟨q2.1, Safe.keep K hsafe h2 q2.2⟩
theorem arv_of_ar {Z : State} {h : Heap} {a : Addr} {ty : FieldType} {vs : List Value} {c : Cell} (d : Value) (hc : h[a]? = some c) (A : AR Z ty vs c) (hf : ∀ v ∈ vs, fits ty v = true) : Arv Z h a c.cls ty vs.length.toInt32 vs d := by
  refine ⟨c, A.arr hc, rfl, by rw [A.size, n32_nat A.2.2.2], n32_nn A.2.2.2, fun k hk => ?_, fun i hi => ?_⟩
  · rw [A.size] at hk
    rw [A.get (List.getElem?_eq_getElem hk), List.getD_eq_getElem?_getD, List.getElem?_eq_getElem hk]; rfl
  · rw [A.size] at hi
    rw [List.getD_eq_getElem?_getD, List.getElem?_eq_getElem hi]
    exact hf _ (List.getElem_mem hi)
theorem range_take {vs : List Value} {s n : Nat} {d : Value} (h : s + n ≤ vs.length) : ((List.range n).map fun i => vs.getD (s + i) d) = (vs.drop s).take n := by
  apply List.ext_getElem
  · simp; omega
  · intro i h1 h2
    simp only [List.length_map, List.length_range] at h1
    have : s + i < vs.length := by omega
    simp [List.getD_eq_getElem?_getD, List.getElem?_eq_getElem this]
section Rules4
variable {l : Launch} {Z : State} {a0 : Array Value} {EL : List (String × Nat)} {y : MethodName} {bytes : ByteArray} {mx : Nat} {ret : Option FieldType} {R : Room} {Q Q' : Option Value → Store → Prop} {L L0 L' : Store} {cb sb pc q q' : Nat} {Ls Ls' : List Slot} {St rest : List Value}
/-- System.arraycopy between two byte arrays -/
theorem Wk.arraycopyB {i : Nat} (W sN dN nN : Nat) (vs' : List Value) {sp dp nn : Int32} {a b : Addr} {fa : Bool} {va vd : List Value} (hd : decode bytes pc = .ok (.invokestatic i, 3)) (hq : pc + 3 = q) (w1 : (Jvm.Cond.methodLink y.cls i Jvm.Stand.acN).before a0 Z = true) (w2 : (Jvm.Cond.native Jvm.Stand.acN).before a0 Z = true) (w3 : (Jvm.Cond.static Jvm.Stand.acN).before a0 Z = true) (w4 : (Jvm.Cond.initialized "java/lang/System").before a0 Z = true)
    (hm : Ex L (b, true, AR Z .byte vd) L0) (ha : (a, fa, AR Z .byte va) ∈ L0) (hfa : ∀ v ∈ va, fits .byte v = true) (hfd : ∀ v ∈ vd, fits .byte v = true) (h1 : ¬ sp < 0 ∧ sp.toNatClampNeg = sN) (h2 : ¬ dp < 0 ∧ dp.toNatClampNeg = dN) (h3 : ¬ nn < 0 ∧ nn.toNatClampNeg = nN) (h4 : sN + nN ≤ va.length) (h5 : dN + nN ≤ vd.length) (hv : vd.take dN ++ (va.drop sN).take nN ++ vd.drop (dN + nN) = vs')
    (hz : Ls.length = mx) (hf : 1 ≤ R.frames) (hW : (St.map fun v => v.category).sum = W) (hlo : W + (nativeFrameWords "java/lang/System" "arraycopy" 5 + 11) ≤ R.locals) (k : Wk l Z a0 EL y bytes mx ret R Q ((b, true, AR Z .byte vs') :: L0) cb sb q Ls St) : Wk l Z a0 EL y bytes mx ret R Q L cb sb pc Ls (.int nn :: .int dp :: .ref b :: .int sp :: .ref a :: St) := by
  subst hq hv
  obtain ⟨h1, rfl⟩ := h1
  obtain ⟨h2, rfl⟩ := h2
  obtain ⟨h3, rfl⟩ := h3
  refine Wk.pull hm ?_
  intro p e s m args below meth c T vm0 k0 locs cells slots hx hby hmx hret hlk hnm hown X hS hk hZ hE hI hF hc hs
  obtain ⟨cd, d1, d2⟩ := hI.at_ (List.mem_cons_self ..)
  obtain ⟨cs, s1, s2⟩ := hI.at_ (List.mem_cons_of_mem _ ha)
  have A := arv_of_ar (.int 0) s1 s2 hfa
  have B := arv_of_ar (.int 0) d1 d2 hfd
  have la := n32_nat s2.2.2.2
  have ld := n32_nat d2.2.2.2
  obtain ⟨T', h', L2, X', rfl, N, K, B', st⟩ := cpA X hx hZ hown w1 w2 w3 w4 rfl A B (Or.inl ⟨rfl, rfl⟩) h1 h2 h3 (by rw [la]; exact h4) (by rw [ld]; exact h5) (range_take h4).symm h5 hF (hI.2.2.2.1 _ (List.mem_cons_self ..) rfl).1 (g := mkF m pc ⟨Ls⟩ (.int nn :: .int dp :: .ref b :: .int sp :: .ref a :: St)) rfl (by rw [hmx]; simpa using hz) rfl (hb hby hd) hf (W := W) (by show 2 * 0 + _ ≤ _; rw [hW]; omega) hlo
  obtain ⟨c', e1, e2⟩ := ar_of_arv B' (by rw [ld]; simp; omega)
  obtain ⟨fin, v, Lc, L', q1, r⟩ := k p e s m args below meth c T' vm0 k0 L2 cells slots hx hby hmx hret hlk hnm hown X' hS (Nat.le_trans hk K.1) hZ hE (hI.keep K e1 e2) N hc hs
  exact ⟨fin, v, Lc, L', st _ q1, r⟩
end Rules4
end Jvm.OwnW
namespace Jvm.Pilot.@@N@@
open Jvm Jvm.ClassFile Sem Op Lib Jvm.Free Jvm.Stand Jvm.LawKit Jvm.RoadKit Jvm.OwnW Bundle Jvm.Pilot.@@N@@.Jvm.D
abbrev EL0 : List (String × Nat) := consts_1
theorem wS {Z : State} {a0 : Array Value} (hw : ∀ d ∈ tables_1, d.before a0 Z = true) : ∀ a ∈ Bundle.stringAtoms, a.before a0 Z = true := by
  intro a ha
  simp only [Bundle.stringAtoms, Bundle.sN, List.mem_cons, List.not_mem_nil, or_false] at ha
  rcases ha with rfl | rfl | rfl | rfl | rfl | rfl | rfl
  · exact (hw _ (List.mem_of_getElem? (i := 4) rfl))
  · exact (hw _ (List.mem_of_getElem? (i := 3) rfl))
  · exact (hw _ (List.mem_of_getElem? (i := 16) rfl))
  · exact (hw _ (List.mem_of_getElem? (i := 17) rfl))
  · exact (hw _ (List.mem_of_getElem? (i := 18) rfl))
  · exact (hw _ (List.mem_of_getElem? (i := 19) rfl))
  · exact (hw _ (List.mem_of_getElem? (i := 20) rfl))
theorem d0_3 : decode jdk_52_method_21_code 3 = .ok (.iload 5, 2) := by decide +kernel
theorem d0_5 : decode jdk_52_method_21_code 5 = .ok (.iload 4, 2) := by decide +kernel
theorem d0_7 : decode jdk_52_method_21_code 7 = .ok (.if_icmp .ge 37, 3) := by decide +kernel
theorem d0_44 : decode jdk_52_method_21_code 44 = .ok (.iload 4, 2) := by decide +kernel
theorem d0_46 : decode jdk_52_method_21_code 46 = .ok (.ireturn, 1) := by decide +kernel
theorem d0_10 : decode jdk_52_method_21_code 10 = .ok (.aload_n 0, 1) := by decide +kernel
theorem d0_11 : decode jdk_52_method_21_code 11 = .ok (.iload_n 1, 1) := by decide +kernel
theorem d0_12 : decode jdk_52_method_21_code 12 = .ok (.caload, 1) := by decide +kernel
theorem d0_13 : decode jdk_52_method_21_code 13 = .ok (.istore 6, 2) := by decide +kernel
theorem d0_15 : decode jdk_52_method_21_code 15 = .ok (.iload 6, 2) := by decide +kernel
theorem d0_17 : decode jdk_52_method_21_code 17 = .ok (.sipush 255, 3) := by decide +kernel
theorem d0_20 : decode jdk_52_method_21_code 20 = .ok (.if_icmp .le 6, 3) := by decide +kernel
theorem d0_26 : decode jdk_52_method_21_code 26 = .ok (.aload_n 2, 1) := by decide +kernel
theorem d0_27 : decode jdk_52_method_21_code 27 = .ok (.iload_n 3, 1) := by decide +kernel
theorem d0_28 : decode jdk_52_method_21_code 28 = .ok (.iload 6, 2) := by decide +kernel
theorem d0_30 : decode jdk_52_method_21_code 30 = .ok (.i2b, 1) := by decide +kernel
theorem d0_31 : decode jdk_52_method_21_code 31 = .ok (.bastore, 1) := by decide +kernel
theorem d0_32 : decode jdk_52_method_21_code 32 = .ok (.iinc 1 1, 3) := by decide +kernel
theorem d0_35 : decode jdk_52_method_21_code 35 = .ok (.iinc 3 1, 3) := by decide +kernel
theorem d0_38 : decode jdk_52_method_21_code 38 = .ok (.iinc 5 1, 3) := by decide +kernel
theorem d0_41 : decode jdk_52_method_21_code 41 = .ok (.goto (-38), 3) := by decide +kernel
theorem ef_ririi_7 (m : MethodId) (x0 : Addr) (x1 : Int32) (x2 : Addr) (x3 : Int32) (x4 : Int32) : entryFrame m #[(.ref x0), (.int x1), (.ref x2), (.int x3), (.int x4)] 7 = mkF m 0 ⟨[.val (.ref x0), .val (.int x1), .val (.ref x2), .val (.int x3), .val (.int x4), .unset, .unset]⟩ [] := by exact efOf rfl
theorem pn_0 : plainName "java/lang/StringUTF16" = true := by first | (simp [plainName, overriddenIn]; done) | decide +kernel
theorem d0_0 : decode jdk_52_method_21_code 0 = .ok (.iconst 0, 1) := by decide +kernel
theorem d0_1 : decode jdk_52_method_21_code 1 = .ok (.istore 5, 2) := by decide +kernel
theorem ef_ri_2 (m : MethodId) (x0 : Addr) (x1 : Int32) : entryFrame m #[(.ref x0), (.int x1)] 2 = mkF m 0 ⟨[.val (.ref x0), .val (.int x1)]⟩ [] := by exact efOf rfl
theorem d1_0 : decode jdk_52_method_15_code 0 = .ok (.iload_n 1, 1) := by decide +kernel
theorem d1_1 : decode jdk_52_method_15_code 1 = .ok (.aload_n 0, 1) := by decide +kernel
theorem d1_2 : decode jdk_52_method_15_code 2 = .ok (.arraylength, 1) := by decide +kernel
theorem d1_3 : decode jdk_52_method_15_code 3 = .ok (.isub, 1) := by decide +kernel
theorem d1_4 : decode jdk_52_method_15_code 4 = .ok (.bipush 31, 2) := by decide +kernel
theorem d1_6 : decode jdk_52_method_15_code 6 = .ok (.iushr, 1) := by decide +kernel
theorem d1_7 : decode jdk_52_method_15_code 7 = .ok (.i2b, 1) := by decide +kernel
theorem d1_8 : decode jdk_52_method_15_code 8 = .ok (.ireturn, 1) := by decide +kernel
theorem ef_rii_6 (m : MethodId) (x0 : Addr) (x1 : Int32) (x2 : Int32) : entryFrame m #[(.ref x0), (.int x1), (.int x2)] 6 = mkF m 0 ⟨[.val (.ref x0), .val (.int x1), .val (.int x2), .unset, .unset, .unset]⟩ [] := by exact efOf rfl
theorem d2_0 : decode jdk_52_method_16_code 0 = .ok (.iload_n 2, 1) := by decide +kernel
theorem d2_1 : decode jdk_52_method_16_code 1 = .ok (.newarray .byte, 2) := by decide +kernel
theorem d2_3 : decode jdk_52_method_16_code 3 = .ok (.astore_n 3, 1) := by decide +kernel
theorem d2_4 : decode jdk_52_method_16_code 4 = .ok (.aload_n 0, 1) := by decide +kernel
theorem d2_5 : decode jdk_52_method_16_code 5 = .ok (.iload_n 1, 1) := by decide +kernel
theorem d2_6 : decode jdk_52_method_16_code 6 = .ok (.aload_n 3, 1) := by decide +kernel
theorem d2_7 : decode jdk_52_method_16_code 7 = .ok (.iconst 0, 1) := by decide +kernel
theorem d2_8 : decode jdk_52_method_16_code 8 = .ok (.iload_n 2, 1) := by decide +kernel
theorem d2_9 : decode jdk_52_method_16_code 9 = .ok (.invokestatic 115, 3) := by decide +kernel
theorem ar_0 : XT.arity "([CI[BII)I" = some 5 := by decide +kernel
theorem d2_12 : decode jdk_52_method_16_code 12 = .ok (.istore 4, 2) := by decide +kernel
theorem d2_14 : decode jdk_52_method_16_code 14 = .ok (.iload 4, 2) := by decide +kernel
theorem d2_16 : decode jdk_52_method_16_code 16 = .ok (.iload_n 2, 1) := by decide +kernel
theorem d2_17 : decode jdk_52_method_16_code 17 = .ok (.if_icmp .eq 40, 3) := by decide +kernel
theorem d2_57 : decode jdk_52_method_16_code 57 = .ok (.aload_n 3, 1) := by decide +kernel
theorem d2_58 : decode jdk_52_method_16_code 58 = .ok (.areturn, 1) := by decide +kernel
theorem ef_rriin_6 (m : MethodId) (x0 : Addr) (x1 : Addr) (x2 : Int32) (x3 : Int32) : entryFrame m #[(.ref x0), (.ref x1), (.int x2), (.int x3), .null] 6 = mkF m 0 ⟨[.val (.ref x0), .val (.ref x1), .val (.int x2), .val (.int x3), .val .null, .unset]⟩ [] := by exact efOf rfl
theorem pn_1 : plainName "java/lang/String" = true := by first | (simp [plainName, overriddenIn]; done) | decide +kernel
theorem d3_0 : decode jdk_42_method_149_code 0 = .ok (.aload_n 0, 1) := by decide +kernel
theorem d3_1 : decode jdk_42_method_149_code 1 = .ok (.invokespecial 1, 3) := by decide +kernel
theorem d3_4 : decode jdk_42_method_149_code 4 = .ok (.iload_n 3, 1) := by decide +kernel
theorem d3_5 : decode jdk_42_method_149_code 5 = .ok (.ifCond .ne 22, 3) := by decide +kernel
theorem d3_27 : decode jdk_42_method_149_code 27 = .ok (.getstatic 38, 3) := by decide +kernel
theorem d3_30 : decode jdk_42_method_149_code 30 = .ok (.ifCond .eq 28, 3) := by decide +kernel
theorem d3_33 : decode jdk_42_method_149_code 33 = .ok (.aload_n 1, 1) := by decide +kernel
theorem d3_34 : decode jdk_42_method_149_code 34 = .ok (.iload_n 2, 1) := by decide +kernel
theorem d3_35 : decode jdk_42_method_149_code 35 = .ok (.iload_n 3, 1) := by decide +kernel
theorem d3_36 : decode jdk_42_method_149_code 36 = .ok (.invokestatic 177, 3) := by decide +kernel
theorem ar_1 : XT.arity "([CII)[B" = some 3 := by decide +kernel
theorem d3_39 : decode jdk_42_method_149_code 39 = .ok (.astore 5, 2) := by decide +kernel
theorem d3_41 : decode jdk_42_method_149_code 41 = .ok (.aload_n 0, 1) := by decide +kernel
theorem d3_42 : decode jdk_42_method_149_code 42 = .ok (.aload 5, 2) := by decide +kernel
theorem d3_44 : decode jdk_42_method_149_code 44 = .ok (.iload_n 3, 1) := by decide +kernel
theorem d3_45 : decode jdk_42_method_149_code 45 = .ok (.invokestatic 47, 3) := by decide +kernel
theorem ar_2 : XT.arity "([BI)B" = some 2 := by decide +kernel
theorem d3_48 : decode jdk_42_method_149_code 48 = .ok (.putfield 15, 3) := by decide +kernel
theorem d3_51 : decode jdk_42_method_149_code 51 = .ok (.aload_n 0, 1) := by decide +kernel
theorem d3_52 : decode jdk_42_method_149_code 52 = .ok (.aload 5, 2) := by decide +kernel
theorem d3_54 : decode jdk_42_method_149_code 54 = .ok (.putfield 9, 3) := by decide +kernel
theorem d3_57 : decode jdk_42_method_149_code 57 = .ok (.return_, 1) := by decide +kernel
theorem ef_rr_2 (m : MethodId) (x0 : Addr) (x1 : Addr) : entryFrame m #[(.ref x0), (.ref x1)] 2 = mkF m 0 ⟨[.val (.ref x0), .val (.ref x1)]⟩ [] := by exact efOf rfl
theorem d4_0 : decode jdk_42_method_3_code 0 = .ok (.aload_n 0, 1) := by decide +kernel
theorem d4_1 : decode jdk_42_method_3_code 1 = .ok (.aload_n 1, 1) := by decide +kernel
theorem d4_2 : decode jdk_42_method_3_code 2 = .ok (.iconst 0, 1) := by decide +kernel
theorem d4_3 : decode jdk_42_method_3_code 3 = .ok (.aload_n 1, 1) := by decide +kernel
theorem d4_4 : decode jdk_42_method_3_code 4 = .ok (.arraylength, 1) := by decide +kernel
theorem d4_5 : decode jdk_42_method_3_code 5 = .ok (.aconst_null, 1) := by decide +kernel
theorem d4_6 : decode jdk_42_method_3_code 6 = .ok (.invokespecial 27, 3) := by decide +kernel
theorem ar_3 : XT.arity "([CIILjava/lang/Void;)V" = some 4 := by decide +kernel
theorem d4_9 : decode jdk_42_method_3_code 9 = .ok (.return_, 1) := by decide +kernel
theorem d3_8 : decode jdk_42_method_149_code 8 = .ok (.aload_n 0, 1) := by decide +kernel
theorem d3_9 : decode jdk_42_method_149_code 9 = .ok (.ldc 7, 2) := by decide +kernel
theorem d3_11 : decode jdk_42_method_149_code 11 = .ok (.getfield 9, 3) := by decide +kernel
theorem d3_14 : decode jdk_42_method_149_code 14 = .ok (.putfield 9, 3) := by decide +kernel
theorem d3_17 : decode jdk_42_method_149_code 17 = .ok (.aload_n 0, 1) := by decide +kernel
theorem d3_18 : decode jdk_42_method_149_code 18 = .ok (.ldc 7, 2) := by decide +kernel
theorem d3_20 : decode jdk_42_method_149_code 20 = .ok (.getfield 15, 3) := by decide +kernel
theorem d3_23 : decode jdk_42_method_149_code 23 = .ok (.putfield 15, 3) := by decide +kernel
theorem d3_26 : decode jdk_42_method_149_code 26 = .ok (.return_, 1) := by decide +kernel
theorem ef_i_1 (m : MethodId) (x0 : Int32) : entryFrame m #[(.int x0)] 1 = mkF m 0 ⟨[.val (.int x0)]⟩ [] := by exact efOf rfl
theorem d5_0 : decode jdk_52_method_3_code 0 = .ok (.iload_n 0, 1) := by decide +kernel
theorem d5_1 : decode jdk_52_method_3_code 1 = .ok (.ifCond .ge 11, 3) := by decide +kernel
theorem d5_12 : decode jdk_52_method_3_code 12 = .ok (.iload_n 0, 1) := by decide +kernel
theorem d5_13 : decode jdk_52_method_3_code 13 = .ok (.ldc 20, 2) := by decide +kernel
theorem d5_15 : decode jdk_52_method_3_code 15 = .ok (.if_icmp .lt 40, 3) := by decide +kernel
theorem d5_55 : decode jdk_52_method_3_code 55 = .ok (.iload_n 0, 1) := by decide +kernel
theorem d5_56 : decode jdk_52_method_3_code 56 = .ok (.iconst 1, 1) := by decide +kernel
theorem d5_57 : decode jdk_52_method_3_code 57 = .ok (.ishl, 1) := by decide +kernel
theorem d5_58 : decode jdk_52_method_3_code 58 = .ok (.ireturn, 1) := by decide +kernel
theorem d6_0 : decode jdk_52_method_2_code 0 = .ok (.iload_n 0, 1) := by decide +kernel
theorem d6_1 : decode jdk_52_method_2_code 1 = .ok (.invokestatic 11, 3) := by decide +kernel
theorem ar_4 : XT.arity "(I)I" = some 1 := by decide +kernel
theorem d6_4 : decode jdk_52_method_2_code 4 = .ok (.newarray .byte, 2) := by decide +kernel
theorem d6_6 : decode jdk_52_method_2_code 6 = .ok (.areturn, 1) := by decide +kernel
theorem ef_rii_3 (m : MethodId) (x0 : Addr) (x1 : Int32) (x2 : Int32) : entryFrame m #[(.ref x0), (.int x1), (.int x2)] 3 = mkF m 0 ⟨[.val (.ref x0), .val (.int x1), .val (.int x2)]⟩ [] := by exact efOf rfl
theorem d7_0 : decode jdk_52_method_4_code 0 = .ok (.getstatic 44, 3) := by decide +kernel
theorem d7_3 : decode jdk_52_method_4_code 3 = .ok (.ifCond .ne 25, 3) := by decide +kernel
theorem d7_28 : decode jdk_52_method_4_code 28 = .ok (.iload_n 1, 1) := by decide +kernel
theorem d7_29 : decode jdk_52_method_4_code 29 = .ok (.iconst 1, 1) := by decide +kernel
theorem d7_30 : decode jdk_52_method_4_code 30 = .ok (.ishl, 1) := by decide +kernel
theorem d7_31 : decode jdk_52_method_4_code 31 = .ok (.istore_n 1, 1) := by decide +kernel
theorem d7_32 : decode jdk_52_method_4_code 32 = .ok (.aload_n 0, 1) := by decide +kernel
theorem d7_33 : decode jdk_52_method_4_code 33 = .ok (.iload_n 1, 1) := by decide +kernel
theorem d7_34 : decode jdk_52_method_4_code 34 = .ok (.iinc 1 1, 3) := by decide +kernel
theorem d7_37 : decode jdk_52_method_4_code 37 = .ok (.iload_n 2, 1) := by decide +kernel
theorem d7_38 : decode jdk_52_method_4_code 38 = .ok (.getstatic 59, 3) := by decide +kernel
theorem d7_41 : decode jdk_52_method_4_code 41 = .ok (.ishr, 1) := by decide +kernel
theorem d7_42 : decode jdk_52_method_4_code 42 = .ok (.i2b, 1) := by decide +kernel
theorem d7_43 : decode jdk_52_method_4_code 43 = .ok (.bastore, 1) := by decide +kernel
theorem d7_44 : decode jdk_52_method_4_code 44 = .ok (.aload_n 0, 1) := by decide +kernel
theorem d7_45 : decode jdk_52_method_4_code 45 = .ok (.iload_n 1, 1) := by decide +kernel
theorem d7_46 : decode jdk_52_method_4_code 46 = .ok (.iload_n 2, 1) := by decide +kernel
theorem d7_47 : decode jdk_52_method_4_code 47 = .ok (.getstatic 63, 3) := by decide +kernel
theorem d7_50 : decode jdk_52_method_4_code 50 = .ok (.ishr, 1) := by decide +kernel
theorem d7_51 : decode jdk_52_method_4_code 51 = .ok (.i2b, 1) := by decide +kernel
theorem d7_52 : decode jdk_52_method_4_code 52 = .ok (.bastore, 1) := by decide +kernel
theorem d7_53 : decode jdk_52_method_4_code 53 = .ok (.return_, 1) := by decide +kernel
theorem d8_0 : decode jdk_52_method_5_code 0 = .ok (.getstatic 44, 3) := by decide +kernel
theorem d8_3 : decode jdk_52_method_5_code 3 = .ok (.ifCond .ne 25, 3) := by decide +kernel
theorem d8_28 : decode jdk_52_method_5_code 28 = .ok (.iload_n 1, 1) := by decide +kernel
theorem d8_29 : decode jdk_52_method_5_code 29 = .ok (.iconst 1, 1) := by decide +kernel
theorem d8_30 : decode jdk_52_method_5_code 30 = .ok (.ishl, 1) := by decide +kernel
theorem d8_31 : decode jdk_52_method_5_code 31 = .ok (.istore_n 1, 1) := by decide +kernel
theorem d8_32 : decode jdk_52_method_5_code 32 = .ok (.aload_n 0, 1) := by decide +kernel
theorem d8_33 : decode jdk_52_method_5_code 33 = .ok (.iload_n 1, 1) := by decide +kernel
theorem d8_34 : decode jdk_52_method_5_code 34 = .ok (.iinc 1 1, 3) := by decide +kernel
theorem d8_37 : decode jdk_52_method_5_code 37 = .ok (.baload, 1) := by decide +kernel
theorem d8_38 : decode jdk_52_method_5_code 38 = .ok (.sipush 255, 3) := by decide +kernel
theorem d8_41 : decode jdk_52_method_5_code 41 = .ok (.iand, 1) := by decide +kernel
theorem d8_42 : decode jdk_52_method_5_code 42 = .ok (.getstatic 59, 3) := by decide +kernel
theorem d8_45 : decode jdk_52_method_5_code 45 = .ok (.ishl, 1) := by decide +kernel
theorem d8_46 : decode jdk_52_method_5_code 46 = .ok (.aload_n 0, 1) := by decide +kernel
theorem d8_47 : decode jdk_52_method_5_code 47 = .ok (.iload_n 1, 1) := by decide +kernel
theorem d8_48 : decode jdk_52_method_5_code 48 = .ok (.baload, 1) := by decide +kernel
theorem d8_49 : decode jdk_52_method_5_code 49 = .ok (.sipush 255, 3) := by decide +kernel
theorem d8_52 : decode jdk_52_method_5_code 52 = .ok (.iand, 1) := by decide +kernel
theorem d8_53 : decode jdk_52_method_5_code 53 = .ok (.getstatic 63, 3) := by decide +kernel
theorem d8_56 : decode jdk_52_method_5_code 56 = .ok (.ishl, 1) := by decide +kernel
theorem d8_57 : decode jdk_52_method_5_code 57 = .ok (.ior, 1) := by decide +kernel
theorem d8_58 : decode jdk_52_method_5_code 58 = .ok (.i2c, 1) := by decide +kernel
theorem d8_59 : decode jdk_52_method_5_code 59 = .ok (.ireturn, 1) := by decide +kernel
theorem d9_8 : decode jdk_52_method_14_code 8 = .ok (.iload 4, 2) := by decide +kernel
theorem d9_10 : decode jdk_52_method_14_code 10 = .ok (.iload_n 2, 1) := by decide +kernel
theorem d9_11 : decode jdk_52_method_14_code 11 = .ok (.if_icmp .ge 21, 3) := by decide +kernel
theorem d9_32 : decode jdk_52_method_14_code 32 = .ok (.aload_n 3, 1) := by decide +kernel
theorem d9_33 : decode jdk_52_method_14_code 33 = .ok (.areturn, 1) := by decide +kernel
theorem d9_14 : decode jdk_52_method_14_code 14 = .ok (.aload_n 3, 1) := by decide +kernel
theorem d9_15 : decode jdk_52_method_14_code 15 = .ok (.iload 4, 2) := by decide +kernel
theorem d9_17 : decode jdk_52_method_14_code 17 = .ok (.aload_n 0, 1) := by decide +kernel
theorem d9_18 : decode jdk_52_method_14_code 18 = .ok (.iload_n 1, 1) := by decide +kernel
theorem d9_19 : decode jdk_52_method_14_code 19 = .ok (.caload, 1) := by decide +kernel
theorem d9_20 : decode jdk_52_method_14_code 20 = .ok (.invokestatic 111, 3) := by decide +kernel
theorem ar_5 : XT.arity "([BII)V" = some 3 := by decide +kernel
theorem d9_23 : decode jdk_52_method_14_code 23 = .ok (.iinc 1 1, 3) := by decide +kernel
theorem d9_26 : decode jdk_52_method_14_code 26 = .ok (.iinc 4 1, 3) := by decide +kernel
theorem d9_29 : decode jdk_52_method_14_code 29 = .ok (.goto (-21), 3) := by decide +kernel
theorem ef_rii_5 (m : MethodId) (x0 : Addr) (x1 : Int32) (x2 : Int32) : entryFrame m #[(.ref x0), (.int x1), (.int x2)] 5 = mkF m 0 ⟨[.val (.ref x0), .val (.int x1), .val (.int x2), .unset, .unset]⟩ [] := by exact efOf rfl
theorem d9_0 : decode jdk_52_method_14_code 0 = .ok (.iload_n 2, 1) := by decide +kernel
theorem d9_1 : decode jdk_52_method_14_code 1 = .ok (.invokestatic 107, 3) := by decide +kernel
theorem ar_6 : XT.arity "(I)[B" = some 1 := by decide +kernel
theorem d9_4 : decode jdk_52_method_14_code 4 = .ok (.astore_n 3, 1) := by decide +kernel
theorem d9_5 : decode jdk_52_method_14_code 5 = .ok (.iconst 0, 1) := by decide +kernel
theorem d9_6 : decode jdk_52_method_14_code 6 = .ok (.istore 4, 2) := by decide +kernel
theorem d0_23 : decode jdk_52_method_21_code 23 = .ok (.iload 5, 2) := by decide +kernel
theorem d0_25 : decode jdk_52_method_21_code 25 = .ok (.ireturn, 1) := by decide +kernel
theorem d2_20 : decode jdk_52_method_16_code 20 = .ok (.aload_n 0, 1) := by decide +kernel
theorem d2_21 : decode jdk_52_method_16_code 21 = .ok (.iload_n 1, 1) := by decide +kernel
theorem d2_22 : decode jdk_52_method_16_code 22 = .ok (.iload_n 2, 1) := by decide +kernel
theorem d2_23 : decode jdk_52_method_16_code 23 = .ok (.invokestatic 119, 3) := by decide +kernel
theorem d2_26 : decode jdk_52_method_16_code 26 = .ok (.astore 5, 2) := by decide +kernel
theorem d2_28 : decode jdk_52_method_16_code 28 = .ok (.aload 5, 2) := by decide +kernel
theorem d2_30 : decode jdk_52_method_16_code 30 = .ok (.iload 4, 2) := by decide +kernel
theorem d2_32 : decode jdk_52_method_16_code 32 = .ok (.invokestatic 71, 3) := by decide +kernel
theorem ar_7 : XT.arity "([BI)C" = some 2 := by decide +kernel
theorem d2_35 : decode jdk_52_method_16_code 35 = .ok (.sipush 255, 3) := by decide +kernel
theorem d2_38 : decode jdk_52_method_16_code 38 = .ok (.if_icmp .gt 16, 3) := by decide +kernel
theorem d2_54 : decode jdk_52_method_16_code 54 = .ok (.aload 5, 2) := by decide +kernel
theorem d2_56 : decode jdk_52_method_16_code 56 = .ok (.areturn, 1) := by decide +kernel
theorem ef_r_1 (m : MethodId) (x0 : Addr) : entryFrame m #[(.ref x0)] 1 = mkF m 0 ⟨[.val (.ref x0)]⟩ [] := by exact efOf rfl
theorem d10_0 : decode jdk_42_method_152_code 0 = .ok (.getstatic 38, 3) := by decide +kernel
theorem d10_3 : decode jdk_42_method_152_code 3 = .ok (.ifCond .eq 10, 3) := by decide +kernel
theorem d10_6 : decode jdk_42_method_152_code 6 = .ok (.aload_n 0, 1) := by decide +kernel
theorem d10_7 : decode jdk_42_method_152_code 7 = .ok (.getfield 15, 3) := by decide +kernel
theorem d10_10 : decode jdk_42_method_152_code 10 = .ok (.goto 4, 3) := by decide +kernel
theorem d10_14 : decode jdk_42_method_152_code 14 = .ok (.ireturn, 1) := by decide +kernel
theorem d11_0 : decode jdk_42_method_54_code 0 = .ok (.aload_n 0, 1) := by decide +kernel
theorem d11_1 : decode jdk_42_method_54_code 1 = .ok (.getfield 9, 3) := by decide +kernel
theorem d11_4 : decode jdk_42_method_54_code 4 = .ok (.arraylength, 1) := by decide +kernel
theorem d11_5 : decode jdk_42_method_54_code 5 = .ok (.aload_n 0, 1) := by decide +kernel
theorem d11_6 : decode jdk_42_method_54_code 6 = .ok (.invokevirtual 335, 3) := by decide +kernel
theorem ar_8 : XT.arity "()B" = some 0 := by decide +kernel
theorem d11_9 : decode jdk_42_method_54_code 9 = .ok (.ishr, 1) := by decide +kernel
theorem d11_10 : decode jdk_42_method_54_code 10 = .ok (.ireturn, 1) := by decide +kernel
theorem ef_ririi_8 (m : MethodId) (x0 : Addr) (x1 : Int32) (x2 : Addr) (x3 : Int32) (x4 : Int32) : entryFrame m #[(.ref x0), (.int x1), (.ref x2), (.int x3), (.int x4)] 8 = mkF m 0 ⟨[.val (.ref x0), .val (.int x1), .val (.ref x2), .val (.int x3), .val (.int x4), .unset, .unset, .unset]⟩ [] := by exact efOf rfl
theorem pn_2 : plainName "jdk/internal/util/ArraysSupport" = true := by first | (simp [plainName, overriddenIn]; done) | decide +kernel
theorem d12_0 : decode jdk_48_method_14_code 0 = .ok (.iconst 0, 1) := by decide +kernel
theorem d12_1 : decode jdk_48_method_14_code 1 = .ok (.istore 5, 2) := by decide +kernel
theorem d12_3 : decode jdk_48_method_14_code 3 = .ok (.iload 4, 2) := by decide +kernel
theorem d12_5 : decode jdk_48_method_14_code 5 = .ok (.bipush 7, 2) := by decide +kernel
theorem d12_7 : decode jdk_48_method_14_code 7 = .ok (.if_icmp .le 63, 3) := by decide +kernel
theorem d12_70 : decode jdk_48_method_14_code 70 = .ok (.iload 5, 2) := by decide +kernel
theorem d12_72 : decode jdk_48_method_14_code 72 = .ok (.iload 4, 2) := by decide +kernel
theorem d12_74 : decode jdk_48_method_14_code 74 = .ok (.if_icmp .ge 27, 3) := by decide +kernel
theorem d12_77 : decode jdk_48_method_14_code 77 = .ok (.aload_n 0, 1) := by decide +kernel
theorem d12_78 : decode jdk_48_method_14_code 78 = .ok (.iload_n 1, 1) := by decide +kernel
theorem d12_79 : decode jdk_48_method_14_code 79 = .ok (.iload 5, 2) := by decide +kernel
theorem d12_81 : decode jdk_48_method_14_code 81 = .ok (.iadd, 1) := by decide +kernel
theorem d12_82 : decode jdk_48_method_14_code 82 = .ok (.baload, 1) := by decide +kernel
theorem d12_83 : decode jdk_48_method_14_code 83 = .ok (.aload_n 2, 1) := by decide +kernel
theorem d12_84 : decode jdk_48_method_14_code 84 = .ok (.iload_n 3, 1) := by decide +kernel
theorem d12_85 : decode jdk_48_method_14_code 85 = .ok (.iload 5, 2) := by decide +kernel
theorem d12_87 : decode jdk_48_method_14_code 87 = .ok (.iadd, 1) := by decide +kernel
theorem d12_88 : decode jdk_48_method_14_code 88 = .ok (.baload, 1) := by decide +kernel
theorem d12_89 : decode jdk_48_method_14_code 89 = .ok (.if_icmp .eq 6, 3) := by decide +kernel
theorem d12_95 : decode jdk_48_method_14_code 95 = .ok (.iinc 5 1, 3) := by decide +kernel
theorem d12_98 : decode jdk_48_method_14_code 98 = .ok (.goto (-28), 3) := by decide +kernel
theorem d12_101 : decode jdk_48_method_14_code 101 = .ok (.iconst (-1), 1) := by decide +kernel
theorem d12_102 : decode jdk_48_method_14_code 102 = .ok (.ireturn, 1) := by decide +kernel
theorem d12_92 : decode jdk_48_method_14_code 92 = .ok (.iload 5, 2) := by decide +kernel
theorem d12_94 : decode jdk_48_method_14_code 94 = .ok (.ireturn, 1) := by decide +kernel
theorem ef_rri_8 (m : MethodId) (x0 : Addr) (x1 : Addr) (x2 : Int32) : entryFrame m #[(.ref x0), (.ref x1), (.int x2)] 8 = mkF m 0 ⟨[.val (.ref x0), .val (.ref x1), .val (.int x2), .unset, .unset, .unset, .unset, .unset]⟩ [] := by exact efOf rfl
theorem d13_0 : decode jdk_42_method_75_code 0 = .ok (.iload_n 2, 1) := by decide +kernel
theorem d13_1 : decode jdk_42_method_75_code 1 = .ok (.ifCond .lt 16, 3) := by decide +kernel
theorem d13_4 : decode jdk_42_method_75_code 4 = .ok (.iload_n 2, 1) := by decide +kernel
theorem d13_5 : decode jdk_42_method_75_code 5 = .ok (.aload_n 0, 1) := by decide +kernel
theorem d13_6 : decode jdk_42_method_75_code 6 = .ok (.invokevirtual 505, 3) := by decide +kernel
theorem ar_9 : XT.arity "()I" = some 0 := by decide +kernel
theorem d13_9 : decode jdk_42_method_75_code 9 = .ok (.aload_n 1, 1) := by decide +kernel
theorem d13_10 : decode jdk_42_method_75_code 10 = .ok (.invokevirtual 505, 3) := by decide +kernel
theorem d13_13 : decode jdk_42_method_75_code 13 = .ok (.isub, 1) := by decide +kernel
theorem d13_14 : decode jdk_42_method_75_code 14 = .ok (.if_icmp .le 5, 3) := by decide +kernel
theorem d13_17 : decode jdk_42_method_75_code 17 = .ok (.iconst 0, 1) := by decide +kernel
theorem d13_18 : decode jdk_42_method_75_code 18 = .ok (.ireturn, 1) := by decide +kernel
theorem d13_19 : decode jdk_42_method_75_code 19 = .ok (.aload_n 0, 1) := by decide +kernel
theorem d13_20 : decode jdk_42_method_75_code 20 = .ok (.getfield 9, 3) := by decide +kernel
theorem d13_23 : decode jdk_42_method_75_code 23 = .ok (.astore_n 3, 1) := by decide +kernel
theorem d13_24 : decode jdk_42_method_75_code 24 = .ok (.aload_n 1, 1) := by decide +kernel
theorem d13_25 : decode jdk_42_method_75_code 25 = .ok (.getfield 9, 3) := by decide +kernel
theorem d13_28 : decode jdk_42_method_75_code 28 = .ok (.astore 4, 2) := by decide +kernel
theorem d13_30 : decode jdk_42_method_75_code 30 = .ok (.iconst 0, 1) := by decide +kernel
theorem d13_31 : decode jdk_42_method_75_code 31 = .ok (.istore 5, 2) := by decide +kernel
theorem d13_33 : decode jdk_42_method_75_code 33 = .ok (.aload 4, 2) := by decide +kernel
theorem d13_35 : decode jdk_42_method_75_code 35 = .ok (.arraylength, 1) := by decide +kernel
theorem d13_36 : decode jdk_42_method_75_code 36 = .ok (.istore 6, 2) := by decide +kernel
theorem d13_38 : decode jdk_42_method_75_code 38 = .ok (.aload_n 0, 1) := by decide +kernel
theorem d13_39 : decode jdk_42_method_75_code 39 = .ok (.invokevirtual 335, 3) := by decide +kernel
theorem d13_42 : decode jdk_42_method_75_code 42 = .ok (.istore 7, 2) := by decide +kernel
theorem d13_44 : decode jdk_42_method_75_code 44 = .ok (.iload 7, 2) := by decide +kernel
theorem d13_46 : decode jdk_42_method_75_code 46 = .ok (.aload_n 1, 1) := by decide +kernel
theorem d13_47 : decode jdk_42_method_75_code 47 = .ok (.invokevirtual 335, 3) := by decide +kernel
theorem d13_50 : decode jdk_42_method_75_code 50 = .ok (.if_icmp .ne 32, 3) := by decide +kernel
theorem d13_53 : decode jdk_42_method_75_code 53 = .ok (.iload 7, 2) := by decide +kernel
theorem d13_55 : decode jdk_42_method_75_code 55 = .ok (.iconst 1, 1) := by decide +kernel
theorem d13_56 : decode jdk_42_method_75_code 56 = .ok (.if_icmp .ne 7, 3) := by decide +kernel
theorem d13_63 : decode jdk_42_method_75_code 63 = .ok (.aload_n 3, 1) := by decide +kernel
theorem d13_64 : decode jdk_42_method_75_code 64 = .ok (.iload_n 2, 1) := by decide +kernel
theorem d13_65 : decode jdk_42_method_75_code 65 = .ok (.aload 4, 2) := by decide +kernel
theorem d13_67 : decode jdk_42_method_75_code 67 = .ok (.iconst 0, 1) := by decide +kernel
theorem d13_68 : decode jdk_42_method_75_code 68 = .ok (.iload 6, 2) := by decide +kernel
theorem d13_70 : decode jdk_42_method_75_code 70 = .ok (.invokestatic 607, 3) := by decide +kernel
theorem ar_10 : XT.arity "([BI[BII)I" = some 5 := by decide +kernel
theorem d13_73 : decode jdk_42_method_75_code 73 = .ok (.ifCond .ge 7, 3) := by decide +kernel
theorem d13_76 : decode jdk_42_method_75_code 76 = .ok (.iconst 1, 1) := by decide +kernel
theorem d13_77 : decode jdk_42_method_75_code 77 = .ok (.goto 4, 3) := by decide +kernel
theorem d13_81 : decode jdk_42_method_75_code 81 = .ok (.ireturn, 1) := by decide +kernel
theorem d13_80 : decode jdk_42_method_75_code 80 = .ok (.iconst 0, 1) := by decide +kernel
theorem d13_82 : decode jdk_42_method_75_code 82 = .ok (.iload 7, 2) := by decide +kernel
theorem d13_84 : decode jdk_42_method_75_code 84 = .ok (.ifCond .ne 5, 3) := by decide +kernel
theorem d13_89 : decode jdk_42_method_75_code 89 = .ok (.iload 5, 2) := by decide +kernel
theorem d13_91 : decode jdk_42_method_75_code 91 = .ok (.iload 6, 2) := by decide +kernel
theorem d13_93 : decode jdk_42_method_75_code 93 = .ok (.if_icmp .ge 28, 3) := by decide +kernel
theorem d13_96 : decode jdk_42_method_75_code 96 = .ok (.aload_n 3, 1) := by decide +kernel
theorem d13_97 : decode jdk_42_method_75_code 97 = .ok (.iload_n 2, 1) := by decide +kernel
theorem d13_98 : decode jdk_42_method_75_code 98 = .ok (.iinc 2 1, 3) := by decide +kernel
theorem d13_101 : decode jdk_42_method_75_code 101 = .ok (.invokestatic 360, 3) := by decide +kernel
theorem d13_104 : decode jdk_42_method_75_code 104 = .ok (.aload 4, 2) := by decide +kernel
theorem d13_106 : decode jdk_42_method_75_code 106 = .ok (.iload 5, 2) := by decide +kernel
theorem d13_108 : decode jdk_42_method_75_code 108 = .ok (.iinc 5 1, 3) := by decide +kernel
theorem d13_111 : decode jdk_42_method_75_code 111 = .ok (.baload, 1) := by decide +kernel
theorem d13_112 : decode jdk_42_method_75_code 112 = .ok (.sipush 255, 3) := by decide +kernel
theorem d13_115 : decode jdk_42_method_75_code 115 = .ok (.iand, 1) := by decide +kernel
theorem d13_116 : decode jdk_42_method_75_code 116 = .ok (.if_icmp .eq (-27), 3) := by decide +kernel
theorem d13_121 : decode jdk_42_method_75_code 121 = .ok (.iconst 1, 1) := by decide +kernel
theorem d13_122 : decode jdk_42_method_75_code 122 = .ok (.ireturn, 1) := by decide +kernel
theorem d13_119 : decode jdk_42_method_75_code 119 = .ok (.iconst 0, 1) := by decide +kernel
theorem d13_120 : decode jdk_42_method_75_code 120 = .ok (.ireturn, 1) := by decide +kernel
theorem d14_0 : decode jdk_42_method_76_code 0 = .ok (.aload_n 0, 1) := by decide +kernel
theorem d14_1 : decode jdk_42_method_76_code 1 = .ok (.aload_n 1, 1) := by decide +kernel
theorem d14_2 : decode jdk_42_method_76_code 2 = .ok (.iconst 0, 1) := by decide +kernel
theorem d14_3 : decode jdk_42_method_76_code 3 = .ok (.invokevirtual 624, 3) := by decide +kernel
theorem ar_11 : XT.arity "(Ljava/lang/String;I)Z" = some 2 := by decide +kernel
theorem d14_6 : decode jdk_42_method_76_code 6 = .ok (.ireturn, 1) := by decide +kernel
theorem ef_n_1 (m : MethodId)  : entryFrame m #[.null] 1 = mkF m 0 ⟨[.val .null]⟩ [] := by exact efOf rfl
theorem pn_3 : plainName "com/example/tendril/tendril/FactoryBeans" = true := by first | (simp [plainName, overriddenIn]; done) | decide +kernel
theorem d15_0 : decode prog_21_method_4_code 0 = .ok (.aload_n 0, 1) := by decide +kernel
theorem d15_1 : decode prog_21_method_4_code 1 = .ok (.ifnull 16, 3) := by decide +kernel
theorem d15_17 : decode prog_21_method_4_code 17 = .ok (.iconst 0, 1) := by decide +kernel
theorem d15_18 : decode prog_21_method_4_code 18 = .ok (.ireturn, 1) := by decide +kernel
theorem d15_4 : decode prog_21_method_4_code 4 = .ok (.aload_n 0, 1) := by decide +kernel
theorem d15_5 : decode prog_21_method_4_code 5 = .ok (.ldc 13, 2) := by decide +kernel
theorem d15_7 : decode prog_21_method_4_code 7 = .ok (.invokevirtual 37, 3) := by decide +kernel
theorem ar_12 : XT.arity "(Ljava/lang/String;)Z" = some 1 := by decide +kernel
theorem d15_10 : decode prog_21_method_4_code 10 = .ok (.ifCond .eq 7, 3) := by decide +kernel
theorem d15_13 : decode prog_21_method_4_code 13 = .ok (.iconst 1, 1) := by decide +kernel
theorem d15_14 : decode prog_21_method_4_code 14 = .ok (.goto 4, 3) := by decide +kernel
theorem ef_iiii_17 (m : MethodId) (x0 : Int32) (x1 : Int32) (x2 : Int32) (x3 : Int32) : entryFrame m #[(.int x0), (.int x1), (.int x2), (.int x3)] 17 = mkF m 0 ⟨[.val (.int x0), .val (.int x1), .val (.int x2), .val (.int x3), .unset, .unset, .unset, .unset, .unset, .unset, .unset, .unset, .unset, .unset, .unset, .unset, .unset]⟩ [] := by exact efOf rfl
theorem pn_4 : plainName "com/example/tendril/tendril/FactoryBeansIsFactoryNamePinLaw" = true := by first | (simp [plainName, overriddenIn]; done) | decide +kernel
theorem ar_13 : XT.arity "([C)V" = some 1 := by decide +kernel
theorem layS_ok {Z : State} {a0 : Array Value} (hw : ∀ d ∈ tables_1, d.before a0 Z = true) : LayOk Z a0 "java/lang/String" layS := by
  refine ⟨fun f hf => ?_, by decide +kernel, fun f hf => ?_⟩
  all_goals simp only [layS, List.mem_cons, List.not_mem_nil, or_false] at hf
  all_goals rcases hf with rfl | rfl
  · exact Or.inr (hw _ (List.mem_of_getElem? (i := 17) rfl))
  · exact Or.inr (hw _ (List.mem_of_getElem? (i := 18) rfl))
  · exact ⟨(.array .byte), by decide +kernel⟩
  · exact ⟨.byte, by decide +kernel⟩
theorem layS_dv : Dv layS [.null, (.int 0)] := by decide +kernel
/-- the byte of a sign -/
def b8 (c : Int32) : Int32 := c.toInt8.toInt32
def toB (c : Int32) : Value := .int (b8 c)
theorem toB_eq (cs : List Int32) : cs.map toB = (cs.map b8).map .int := by rw [List.map_map]; rfl
def Lat (cs : List Int32) : Prop := ∀ c ∈ cs, 0 ≤ c.toInt ∧ c.toInt < 256
theorem lat_nil : Lat [] := fun _ h => nomatch h
theorem lat_cons {c : Int32} {cs : List Int32} (h : 0 ≤ c.toInt ∧ c.toInt < 256) (t : Lat cs) : Lat (c :: cs) := fun x hx => (List.mem_cons.mp hx).elim (fun e => e ▸ h) (t x)
theorem lat_le {c : Int32} (h : 0 ≤ c.toInt ∧ c.toInt < 256) : ¬ (255 : Int32) < c := by rw [Int32.lt_iff_toInt_lt]; show ¬ (255 : Int) < _; omega
theorem toB_nar (c : Int32) : nar .byte c.toInt8.toInt32 = c.toInt8.toInt32 := by simp [nar]
theorem set_mid (cs : List Int32) (i : Nat) (h : i < cs.length) : ((cs.take i).map toB ++ List.replicate (cs.length - i) (Value.int 0)).set i (toB cs[i]) = (cs.take (i + 1)).map toB ++ List.replicate (cs.length - (i + 1)) (Value.int 0) := by
  have h1 : ((cs.take i).map toB).length = i := by simp; omega
  rw [List.set_append_right _ _ (by omega), h1, Nat.sub_self, show cs.length - i = (cs.length - (i + 1)) + 1 by omega, List.replicate_succ, List.set_cons_zero, List.take_succ_eq_append_getElem h, List.map_append, List.append_assoc]
  rfl
theorem nchar_lat {c : Int32} (h : 0 ≤ c.toInt ∧ c.toInt < 256) : nar .char c = c := by
  apply Int32.toInt_inj.mp
  have q := c_i2c c
  show c.toUInt32.toUInt16.toUInt32.toInt32.toInt = c.toInt
  omega
theorem b8_toInt {c : Int32} (h : 0 ≤ c.toInt ∧ c.toInt < 256) : (b8 c).toInt = if c.toInt < 128 then c.toInt else c.toInt - 256 := by
  have q := c_i2b c
  show c.toInt8.toInt32.toInt = _
  split <;> omega
theorem b8_iff {c d e : Int32} (h : 0 ≤ c.toInt ∧ c.toInt < 256) (h' : 0 ≤ d.toInt ∧ d.toInt < 256) (he : b8 d = e) : b8 c = e ↔ c = d := by
  subst he
  refine ⟨fun q => Int32.toInt_inj.mp ?_, fun q => by rw [q]⟩
  have := congrArg Int32.toInt q
  rw [b8_toInt h, b8_toInt h'] at this
  split at this <;> split at this <;> omega
set_option maxHeartbeats 4000000 in
theorem wk_compressL {l : Launch} {Z : State} {a0 : Array Value} (hw : ∀ d ∈ tables_1, d.before a0 Z = true) (hE : EW Z a0 EL0) {L : Store} {ca b : Addr} {fa : Bool} {cs : List Int32} (hc : Lat cs) (hl : cs.length < 2 ^ 31) (hm : (ca, fa, AR Z .char (cs.map .int)) ∈ L) {cb sb : Nat} : ∀ (k i : Nat) (o : Slot), i + k = cs.length → One o →
    Wk l Z a0 EL0 (⟨"java/lang/StringUTF16", "compress", "([CI[BII)I"⟩ : MethodName) jdk_52_method_21_code 7 (some .int) ({ frames := 0, cells := 0, slots := 0, locals := 0 } : Room) (RV fun u M => u = .int cs.length.toInt32 ∧ M = (b, true, AR Z .byte ((cs.map b8).map .int)) :: L) ((b, true, AR Z .byte ((cs.take i).map toB ++ List.replicate (cs.length - i) (.int 0))) :: L) cb sb 3 [.val (.ref ca), .val (.int i.toInt32), .val (.ref b), .val (.int i.toInt32), .val (.int cs.length.toInt32), .val (.int i.toInt32), o] [] := by
  intro k
  induction k with
  | zero =>
    intro i o hi ho
    have hi' : i = cs.length := by omega
    subst hi'
    refine Wk.iload (q := 5) d0_3 rfl rfl ?_
    refine Wk.iload (q := 7) d0_5 rfl rfl ?_
    refine Wk.icmp_t (q := 44) d0_7 (by decide) (by decide) (XT.ii_ge_t (fun h => by rw [n32_lt hl hl] at h; omega)) ?_
    refine Wk.iload (q := 46) d0_44 rfl rfl ?_
    refine Wk.ireturn (t := .int) d0_46 rfl (by simp) (by rfl) ?_
    refine ⟨_, rfl, rfl, ?_⟩
    rw [← toB_eq]
    simp
  | succ k ih =>
    intro i o hi ho
    have hil : i < cs.length := by omega
    have hi3 : i < 2 ^ 31 := by omega
    have hv : (cs.map Value.int)[i]? = some (.int cs[i]) := by simp [hil]
    have hci := hc cs[i] (List.getElem_mem hil)
    refine Wk.iload (q := 5) d0_3 rfl rfl ?_
    refine Wk.iload (q := 7) d0_5 rfl rfl ?_
    refine Wk.icmp_f (q := 10) d0_7 rfl (XT.ii_ge_f ((n32_lt hi3 hl).mpr hil)) ?_
    refine Wk.aload_n (q := 11) d0_10 rfl rfl (by first | rfl | assumption) ?_
    refine Wk.iload_n (q := 12) d0_11 rfl rfl ?_
    refine Wk.caload (q := 13) (i) d0_12 rfl (by repeat (first | exact List.mem_cons_self | assumption | refine List.mem_cons_of_mem _ ?_)) (n32_nn hi3) (n32_nat hi3) hv ?_
    refine Wk.istore (q := 15) d0_13 rfl (LS1.there (LS1.there (LS1.there (LS1.there (LS1.there (LS1.there (LS1.here (by first | exact One.u | exact One.val rfl | assumption)))))))) ?_
    refine Wk.iload (q := 17) d0_15 rfl rfl ?_
    refine Wk.sipush (q := 20) (255) d0_17 rfl (by decide) ?_
    refine Wk.icmp_t (q := 26) d0_20 (by decide) (by decide) (XT.ii_le_t (lat_le hci)) ?_
    refine Wk.aload_n (q := 27) d0_26 rfl rfl (by first | rfl | assumption) ?_
    refine Wk.iload_n (q := 28) d0_27 rfl rfl ?_
    refine Wk.iload (q := 30) d0_28 rfl rfl ?_
    refine Wk.i2b (q := 31) d0_30 rfl ?_
    refine Wk.bastore (q := 32) (i) d0_31 rfl (by repeat (first | exact Ex.here | assumption | apply Ex.there)) (n32_nn hi3) (n32_nat hi3) (toB_nar _) ⟨set_mid cs i hil, by simp; omega⟩ ?_
    refine Wk.iinc (q := 35) (1) d0_32 rfl (by decide) rfl (LS1.there (LS1.here (by first | exact One.u | exact One.val rfl | assumption))) ?_
    refine Wk.iinc (q := 38) (1) d0_35 rfl (by decide) rfl (LS1.there (LS1.there (LS1.there (LS1.here (by first | exact One.u | exact One.val rfl | assumption))))) ?_
    refine Wk.iinc (q := 41) (1) d0_38 rfl (by decide) rfl (LS1.there (LS1.there (LS1.there (LS1.there (LS1.there (LS1.here (by first | exact One.u | exact One.val rfl | assumption))))))) ?_
    refine Wk.goto (q := 3) d0_41 (by decide) (by decide) ?_
    rw [n32_succ]
    exact ih (i + 1) _ (by omega) (One.val rfl)
set_option maxHeartbeats 4000000 in
theorem ct_compressL {l : Launch} {Z : State} {a0 : Array Value} (hw : ∀ d ∈ tables_1, d.before a0 Z = true) (hE : EW Z a0 EL0) {L : Store} {ca b : Addr} {fa : Bool} {cs : List Int32} (hc : Lat cs) (hl : cs.length < 2 ^ 31) (hm : (ca, fa, AR Z .char (cs.map .int)) ∈ L) :
    Ct l Z EL0 (⟨"java/lang/StringUTF16", "compress", "([CI[BII)I"⟩ : MethodName) jdk_52_method_21_code 7 (some .int) ({ frames := 0, cells := 0, slots := 0, locals := 0 } : Room) #[.ref ca, .int 0, .ref b, .int 0, .int cs.length.toInt32] ((b, true, AR Z .byte (List.replicate cs.length (.int 0))) :: L) (RV fun u M => u = .int cs.length.toInt32 ∧ M = (b, true, AR Z .byte ((cs.map b8).map .int)) :: L) := by
  refine Ct.of (a0 := a0) (Ls := [.val (.ref _), .val (.int _), .val (.ref _), .val (.int _), .val (.int _), .unset, .unset]) (plainFor_of_name pn_0) (fun m => ef_ririi_7 m _ _ _ _ _) hE ?_
  refine Wk.iconst (q := 1) (0) d0_0 rfl (by decide) ?_
  refine Wk.istore (q := 3) d0_1 rfl (LS1.there (LS1.there (LS1.there (LS1.there (LS1.there (LS1.here (by first | exact One.u | exact One.val rfl | assumption))))))) ?_
  have h := wk_compressL hw hE (l := l) (b := b) (cb := 0) (sb := 0) hc hl hm cs.length 0 .unset (by omega) One.u
  simp only [List.take_zero, List.map_nil, List.nil_append, Nat.sub_zero] at h
  exact h
theorem ct_coderLat {l : Launch} {Z : State} {a0 : Array Value} (hw : ∀ d ∈ tables_1, d.before a0 Z = true) (hE : EW Z a0 EL0) {L : Store} {b : Addr} {fb : Bool} {vs : List Value} (hm : (b, fb, AR Z .byte vs) ∈ L) :
    Ct l Z EL0 (⟨"java/lang/StringUTF16", "coderFromArrayLen", "([BI)B"⟩ : MethodName) jdk_52_method_15_code 2 (some .byte) ({ frames := 0, cells := 0, slots := 0, locals := 0 } : Room) #[.ref b, .int vs.length.toInt32] L (RV fun u M => u = .int 0 ∧ M = L) := by
  refine Ct.of (a0 := a0) (Ls := [.val (.ref _), .val (.int _)]) (plainFor_of_name pn_0) (fun m => ef_ri_2 m _ _) hE ?_
  refine Wk.iload_n (q := 1) d1_0 rfl rfl ?_
  refine Wk.aload_n (q := 2) d1_1 rfl rfl (by first | rfl | assumption) ?_
  refine Wk.arraylength (q := 3) d1_2 rfl (by repeat (first | exact List.mem_cons_self | assumption | refine List.mem_cons_of_mem _ ?_)) (by rfl) ?_
  refine Wk.isub (q := 4) d1_3 rfl ?_
  rw [Int32.sub_self]
  refine Wk.bipush (q := 6) (31) d1_4 rfl (by decide) ?_
  refine Wk.iushr (q := 7) d1_6 rfl ?_
  refine Wk.i2b (q := 8) d1_7 rfl ?_
  refine Wk.ireturn (t := .byte) d1_8 rfl (by simp) (by decide) ?_
  exact ⟨_, rfl, by decide, rfl⟩
set_option maxHeartbeats 4000000 in
theorem ct_compressA {l : Launch} {Z : State} {a0 : Array Value} (hw : ∀ d ∈ tables_1, d.before a0 Z = true) (hE : EW Z a0 EL0) {L : Store} {ca : Addr} {fa : Bool} {cs : List Int32} (hc : Lat cs) (N : Nat) (hN : cs.length ≤ N) (hl : cs.length ≤ 4000) (hm : (ca, fa, AR Z .char (cs.map .int)) ∈ L) :
    Ct l Z EL0 (⟨"java/lang/StringUTF16", "compress", "([CII)[B"⟩ : MethodName) jdk_52_method_16_code 6 (some (.array .byte)) ({ frames := 3, cells := 1, slots := N, locals := 40 } : Room) #[.ref ca, .int 0, .int cs.length.toInt32] L (RV fun u M => ∃ b, u = .ref b ∧ M = (b, true, AR Z .byte ((cs.map b8).map .int)) :: L) := by
  have h31 : cs.length < 2 ^ 31 := by omega
  refine Ct.of (a0 := a0) (Ls := [.val (.ref _), .val (.int _), .val (.int _), .unset, .unset, .unset]) (plainFor_of_name pn_0) (fun m => ef_rii_6 m _ _ _) hE ?_
  refine Wk.iload_n (q := 1) d2_0 rfl rfl ?_
  refine Wk.newarray (q := 3) .byte ((cs.length)) (List.replicate (cs.length) (.int 0)) d2_1 rfl rfl rfl (hw _ (List.mem_of_getElem? (i := 16) rfl)) (n32_nn h31) (n32_nat h31) (by omega) (by first | decide | (dsimp only; omega) | omega) (by first | decide | (dsimp only; omega) | omega) ?_
  intro b
  refine Wk.astore_n (q := 4) d2_3 rfl (by first | rfl | assumption) (LS1.there (LS1.there (LS1.there (LS1.here (by first | exact One.u | exact One.val rfl | assumption))))) ?_
  refine Wk.aload_n (q := 5) d2_4 rfl rfl (by first | rfl | assumption) ?_
  refine Wk.iload_n (q := 6) d2_5 rfl rfl ?_
  refine Wk.aload_n (q := 7) d2_6 rfl rfl (by first | rfl | assumption) ?_
  refine Wk.iconst (q := 8) (0) d2_7 rfl (by decide) ?_
  refine Wk.iload_n (q := 9) d2_8 rfl rfl ?_
  refine Wk.static (q := 12) [_, _, _, _, _] _ 0 d2_9 rfl (hw _ (List.mem_of_getElem? (i := 53) rfl)) (hw _ (List.mem_of_getElem? (i := 54) rfl)) (hw _ (List.mem_of_getElem? (i := 51) rfl)) (hw _ (List.mem_of_getElem? (i := 55) rfl)) ar_0 (by decide) rfl rfl rfl rfl (ct_compressL hw hE hc h31 hm) (by first | decide | (dsimp only; omega) | omega) (by first | decide | (dsimp only; omega) | omega) (by first | decide | (dsimp only; omega) | omega) (by first | decide | (dsimp only; omega) | omega) (kv ?_)
  rintro _ _ ⟨rfl, rfl⟩
  refine Wk.istore (q := 14) d2_12 rfl (LS1.there (LS1.there (LS1.there (LS1.there (LS1.here (by first | exact One.u | exact One.val rfl | assumption)))))) ?_
  refine Wk.iload (q := 16) d2_14 rfl rfl ?_
  refine Wk.iload_n (q := 17) d2_16 rfl rfl ?_
  refine Wk.icmp_t (q := 57) d2_17 (by decide) (by decide) (XT.ii_eq_t rfl) ?_
  refine Wk.aload_n (q := 58) d2_57 rfl rfl (by first | rfl | assumption) ?_
  refine Wk.areturn (t := (.array .byte)) d2_58 rfl rfl (by first | rfl | exact narO | exact narA) (by first | rfl | assumption) ?_
  exact ⟨_, rfl, b, rfl, rfl⟩
set_option maxHeartbeats 4000000 in
theorem ct_strInit4 {l : Launch} {Z : State} {a0 : Array Value} (hw : ∀ d ∈ tables_1, d.before a0 Z = true) (hE : EW Z a0 EL0) (F : ∃ z, z ≠ (0 : Int32) ∧ Sta Z Z.heap "java/lang/String" "COMPACT_STRINGS" "Z" (.int z)) {L : Store} {sa ca : Addr} {fa : Bool} {cs : List Int32} (hc : Lat cs) (h0 : cs ≠ []) (N : Nat) (hN : cs.length ≤ N) (hl : cs.length ≤ 4000) (hm : (ca, fa, AR Z .char (cs.map .int)) ∈ L) :
    Ct l Z EL0 (⟨"java/lang/String", "<init>", "([CIILjava/lang/Void;)V"⟩ : MethodName) jdk_42_method_149_code 6 none ({ frames := 4, cells := 1, slots := N, locals := 57 } : Room) #[.ref sa, .ref ca, .int 0, .int cs.length.toInt32, .null] ((sa, true, OB Z "java/lang/String" layS [.null, .int 0]) :: L) (R0 fun M => ∃ b, M = (sa, true, OB Z "java/lang/String" layS [.ref b, .int 0]) :: (b, true, AR Z .byte ((cs.map b8).map .int)) :: L) := by
  have h31 : cs.length < 2 ^ 31 := by omega
  have hp : 0 < cs.length := List.length_pos_iff.mpr h0
  obtain ⟨z, hz, FS⟩ := F
  refine Ct.of (a0 := a0) (Ls := [.val (.ref _), .val (.ref _), .val (.int _), .val (.int _), .val .null, .unset]) (plainFor_of_name pn_1) (fun m => ef_rriin_6 m _ _ _ _) hE ?_
  refine Wk.aload_n (q := 1) d3_0 rfl rfl (by first | rfl | assumption) ?_
  refine Wk.objinit (q := 4) 0 d3_1 rfl (hw _ (List.mem_of_getElem? (i := 12) rfl)) (hw _ (List.mem_of_getElem? (i := 13) rfl)) (hw _ (List.mem_of_getElem? (i := 14) rfl)) rfl (by first | decide | (dsimp only; omega) | omega) rfl (by first | decide | (dsimp only; omega) | omega) ?_
  refine Wk.iload_n (q := 5) d3_4 rfl rfl ?_
  refine Wk.if_t (q := 27) d3_5 (by decide) (by decide) (XT.i0_ne_t (fun h => by have := (n32_inj h31 (by omega : 0 < 2 ^ 31)).mp h; omega)) ?_
  refine Wk.getstatic (q := 30) d3_27 rfl (hw _ (List.mem_of_getElem? (i := 48) rfl)) Via.refl FS ?_
  refine Wk.if_f (q := 33) d3_30 rfl (XT.i0_eq_f hz) ?_
  refine Wk.aload_n (q := 34) d3_33 rfl rfl (by first | rfl | assumption) ?_
  refine Wk.iload_n (q := 35) d3_34 rfl rfl ?_
  refine Wk.iload_n (q := 36) d3_35 rfl rfl ?_
  refine Wk.static (q := 39) [_, _, _] _ 0 d3_36 rfl (hw _ (List.mem_of_getElem? (i := 49) rfl)) (hw _ (List.mem_of_getElem? (i := 50) rfl)) (hw _ (List.mem_of_getElem? (i := 51) rfl)) (hw _ (List.mem_of_getElem? (i := 52) rfl)) ar_1 (by decide) rfl rfl rfl rfl (ct_compressA hw hE hc N hN hl (List.mem_cons_of_mem _ hm)) (by first | decide | (dsimp only; omega) | omega) (by first | decide | (dsimp only; omega) | omega) (by first | decide | (dsimp only; omega) | omega) (by first | decide | (dsimp only; omega) | omega) (kv ?_)
  rintro _ _ ⟨b, rfl, rfl⟩
  refine Wk.astore (q := 41) d3_39 rfl (by first | rfl | assumption) (LS1.there (LS1.there (LS1.there (LS1.there (LS1.there (LS1.here (by first | exact One.u | exact One.val rfl | assumption))))))) ?_
  refine Wk.aload_n (q := 42) d3_41 rfl rfl (by first | rfl | assumption) ?_
  refine Wk.aload (q := 44) d3_42 rfl rfl (by first | rfl | assumption) ?_
  refine Wk.iload_n (q := 45) d3_44 rfl rfl ?_
  rw [show cs.length = ((cs.map b8).map Value.int).length by simp]
  refine Wk.static (q := 48) [_, _] _ 1 d3_45 rfl (hw _ (List.mem_of_getElem? (i := 56) rfl)) (hw _ (List.mem_of_getElem? (i := 57) rfl)) (hw _ (List.mem_of_getElem? (i := 51) rfl)) (hw _ (List.mem_of_getElem? (i := 58) rfl)) ar_2 (by decide) rfl rfl rfl rfl (ct_coderLat hw hE List.mem_cons_self) (by first | decide | (dsimp only; omega) | omega) (by first | decide | (dsimp only; omega) | omega) (by first | decide | (dsimp only; omega) | omega) (by first | decide | (dsimp only; omega) | omega) (kv ?_)
  rintro _ _ ⟨rfl, rfl⟩
  refine Wk.putfield (q := 51) (C := "java/lang/String") (lay := layS) 1 d3_48 rfl (hw _ (List.mem_of_getElem? (i := 22) rfl)) Via.refl (layS_ok hw) (hw _ (List.mem_of_getElem? (i := 3) rfl)) (Or.inr ⟨(hw _ (List.mem_of_getElem? (i := 18) rfl)), rfl, rfl⟩) rfl (by decide +kernel : parseFieldDescriptor "B" = some .byte) (by repeat (first | exact Ex.here | assumption | apply Ex.there)) (VS.there (VS.here)) (by first | rfl | exact narO) (by first | rfl | exact fitO (by assumption) | exact fitA (by assumption)) ?_
  refine Wk.aload_n (q := 52) d3_51 rfl rfl (by first | rfl | assumption) ?_
  refine Wk.aload (q := 54) d3_52 rfl rfl (by first | rfl | assumption) ?_
  refine Wk.putfield (q := 57) (C := "java/lang/String") (lay := layS) 0 d3_54 rfl (hw _ (List.mem_of_getElem? (i := 21) rfl)) Via.refl (layS_ok hw) (hw _ (List.mem_of_getElem? (i := 3) rfl)) (Or.inr ⟨(hw _ (List.mem_of_getElem? (i := 17) rfl)), rfl, rfl⟩) rfl (by decide +kernel : parseFieldDescriptor "[B" = some (.array .byte)) (by repeat (first | exact Ex.here | assumption | apply Ex.there)) (VS.here) (by first | rfl | exact narO) (by first | rfl | exact fitO (by assumption) | exact fitA (by assumption)) ?_
  refine Wk.return_ d3_57 rfl ?_
  exact ⟨rfl, b, rfl⟩
set_option maxHeartbeats 4000000 in
theorem ct_strInit {l : Launch} {Z : State} {a0 : Array Value} (hw : ∀ d ∈ tables_1, d.before a0 Z = true) (hE : EW Z a0 EL0) (F : ∃ z, z ≠ (0 : Int32) ∧ Sta Z Z.heap "java/lang/String" "COMPACT_STRINGS" "Z" (.int z)) {L : Store} {sa ca : Addr} {fa : Bool} {cs : List Int32} (hc : Lat cs) (h0 : cs ≠ []) (N : Nat) (hN : cs.length ≤ N) (hl : cs.length ≤ 4000) (hm : (ca, fa, AR Z .char (cs.map .int)) ∈ L) :
    Ct l Z EL0 (⟨"java/lang/String", "<init>", "([C)V"⟩ : MethodName) jdk_42_method_3_code 2 none ({ frames := 5, cells := 1, slots := N, locals := 74 } : Room) #[.ref sa, .ref ca] ((sa, true, OB Z "java/lang/String" layS [.null, .int 0]) :: L) (R0 fun M => ∃ b, M = (sa, true, OB Z "java/lang/String" layS [.ref b, .int 0]) :: (b, true, AR Z .byte ((cs.map b8).map .int)) :: L) := by
  refine Ct.of (a0 := a0) (Ls := [.val (.ref _), .val (.ref _)]) (plainFor_of_name pn_1) (fun m => ef_rr_2 m _ _) hE ?_
  refine Wk.aload_n (q := 1) d4_0 rfl rfl (by first | rfl | assumption) ?_
  refine Wk.aload_n (q := 2) d4_1 rfl rfl (by first | rfl | assumption) ?_
  refine Wk.iconst (q := 3) (0) d4_2 rfl (by decide) ?_
  refine Wk.aload_n (q := 4) d4_3 rfl rfl (by first | rfl | assumption) ?_
  refine Wk.arraylength (q := 5) d4_4 rfl (by repeat (first | exact List.mem_cons_self | assumption | refine List.mem_cons_of_mem _ ?_)) (show (cs.map Value.int).length.toInt32 = cs.length.toInt32 by simp) ?_
  refine Wk.aconst_null (q := 6) d4_5 rfl ?_
  refine Wk.special (q := 9) [_, _, _, _] _ 0 d4_6 rfl rfl (hw _ (List.mem_of_getElem? (i := 8) rfl)) (hw _ (List.mem_of_getElem? (i := 9) rfl)) (hw _ (List.mem_of_getElem? (i := 4) rfl)) (hw _ (List.mem_of_getElem? (i := 11) rfl)) ar_3 (by decide) rfl rfl rfl rfl (ct_strInit4 hw hE F hc h0 N hN hl hm) (by first | decide | (dsimp only; omega) | omega) (by first | decide | (dsimp only; omega) | omega) (by first | decide | (dsimp only; omega) | omega) (by first | decide | (dsimp only; omega) | omega) (k0 ?_)
  rintro _ ⟨b, rfl⟩
  refine Wk.return_ d4_9 rfl ?_
  exact ⟨rfl, b, rfl⟩

set_option maxHeartbeats 4000000 in
theorem ct_strInit4e {l : Launch} {Z : State} {a0 : Array Value} (hw : ∀ d ∈ tables_1, d.before a0 Z = true) (hE : EW Z a0 EL0) {L : Store} {sa ca : Addr} :
    Ct l Z EL0 (⟨"java/lang/String", "<init>", "([CIILjava/lang/Void;)V"⟩ : MethodName) jdk_42_method_149_code 6 none ({ frames := 4, cells := 4, slots := 8, locals := 57 } : Room) #[.ref sa, .ref ca, .int 0, .int 0, .null] ((sa, true, OB Z "java/lang/String" layS [.null, .int 0]) :: L) (R0 fun M => ∃ b, M = (sa, true, OB Z "java/lang/String" layS [.ref b, .int 0]) :: (b, false, AR Z .byte []) :: L) := by
  refine Ct.of (a0 := a0) (Ls := [.val (.ref _), .val (.ref _), .val (.int _), .val (.int _), .val .null, .unset]) (plainFor_of_name pn_1) (fun m => ef_rriin_6 m _ _ _ _) hE ?_
  refine Wk.aload_n (q := 1) d3_0 rfl rfl (by first | rfl | assumption) ?_
  refine Wk.objinit (q := 4) 0 d3_1 rfl (hw _ (List.mem_of_getElem? (i := 12) rfl)) (hw _ (List.mem_of_getElem? (i := 13) rfl)) (hw _ (List.mem_of_getElem? (i := 14) rfl)) rfl (by first | decide | (dsimp only; omega) | omega) rfl (by first | decide | (dsimp only; omega) | omega) ?_
  refine Wk.iload_n (q := 5) d3_4 rfl rfl ?_
  refine Wk.if_f (q := 8) d3_5 rfl (by decide) ?_
  refine Wk.aload_n (q := 9) d3_8 rfl rfl (by first | rfl | assumption) ?_
  refine Wk.ldcS (q := 11) 0 [] 0 d3_9 rfl (hw _ (List.mem_of_getElem? (i := 15) rfl)) (wS hw) (by decide +kernel) (by decide +kernel) (by decide) (by decide) (by decide +kernel) (by decide) (by first | decide | (dsimp only; omega) | omega) (by first | decide | (dsimp only; omega) | omega) ?_
  intro t1 b1
  refine Wk.getfield (q := 14) (C := "java/lang/String") (lay := layS) 0 d3_11 rfl (hw _ (List.mem_of_getElem? (i := 21) rfl)) Via.refl (by repeat (first | exact List.mem_cons_self | assumption | refine List.mem_cons_of_mem _ ?_)) rfl (by rfl) ?_
  refine Wk.putfield (q := 17) (C := "java/lang/String") (lay := layS) 0 d3_14 rfl (hw _ (List.mem_of_getElem? (i := 21) rfl)) Via.refl (layS_ok hw) (hw _ (List.mem_of_getElem? (i := 3) rfl)) (Or.inr ⟨(hw _ (List.mem_of_getElem? (i := 17) rfl)), rfl, rfl⟩) rfl (by decide +kernel : parseFieldDescriptor "[B" = some (.array .byte)) (by repeat (first | exact Ex.here | assumption | apply Ex.there)) (VS.here) (by first | rfl | exact narO) (by first | rfl | exact fitO (by assumption) | exact fitA (by assumption)) ?_
  refine Wk.aload_n (q := 18) d3_17 rfl rfl (by first | rfl | assumption) ?_
  refine Wk.ldcS (q := 20) 0 [] 0 d3_18 rfl (hw _ (List.mem_of_getElem? (i := 15) rfl)) (wS hw) (by decide +kernel) (by decide +kernel) (by decide) (by decide) (by decide +kernel) (by decide) (by first | decide | (dsimp only; omega) | omega) (by first | decide | (dsimp only; omega) | omega) ?_
  intro t2 b2
  refine Wk.getfield (q := 23) (C := "java/lang/String") (lay := layS) 1 d3_20 rfl (hw _ (List.mem_of_getElem? (i := 22) rfl)) Via.refl (by repeat (first | exact List.mem_cons_self | assumption | refine List.mem_cons_of_mem _ ?_)) rfl (by rfl) ?_
  refine Wk.putfield (q := 26) (C := "java/lang/String") (lay := layS) 1 d3_23 rfl (hw _ (List.mem_of_getElem? (i := 22) rfl)) Via.refl (layS_ok hw) (hw _ (List.mem_of_getElem? (i := 3) rfl)) (Or.inr ⟨(hw _ (List.mem_of_getElem? (i := 18) rfl)), rfl, rfl⟩) rfl (by decide +kernel : parseFieldDescriptor "B" = some .byte) (by repeat (first | exact Ex.here | assumption | apply Ex.there)) (VS.there (VS.here)) (by first | rfl | exact narO) (by first | rfl | exact fitO (by assumption) | exact fitA (by assumption)) ?_
  refine Wk.sub (.cons_cons _ (.cons _ (.cons _ (.cons _ (.refl _))))) ?_
  refine Wk.return_ d3_26 rfl ?_
  exact ⟨rfl, b1, rfl⟩
set_option maxHeartbeats 4000000 in
theorem ct_strInitG {l : Launch} {Z : State} {a0 : Array Value} (hw : ∀ d ∈ tables_1, d.before a0 Z = true) (hE : EW Z a0 EL0) (F : ∃ z, z ≠ (0 : Int32) ∧ Sta Z Z.heap "java/lang/String" "COMPACT_STRINGS" "Z" (.int z)) {L : Store} {sa ca : Addr} {fa : Bool} {cs : List Int32} (hc : Lat cs) (N : Nat) (hN : cs.length ≤ N) (hl : cs.length ≤ 4000) (hm : (ca, fa, AR Z .char (cs.map .int)) ∈ L) :
    Ct l Z EL0 (⟨"java/lang/String", "<init>", "([C)V"⟩ : MethodName) jdk_42_method_3_code 2 none ({ frames := 5, cells := 4, slots := N + 8, locals := 74 } : Room) #[.ref sa, .ref ca] ((sa, true, OB Z "java/lang/String" layS [.null, .int 0]) :: L) (R0 fun M => ∃ b fb, M = (sa, true, OB Z "java/lang/String" layS [.ref b, .int 0]) :: (b, fb, AR Z .byte ((cs.map b8).map .int)) :: L) := by
  refine Ct.of (a0 := a0) (Ls := [.val (.ref _), .val (.ref _)]) (plainFor_of_name pn_1) (fun m => ef_rr_2 m _ _) hE ?_
  refine Wk.aload_n (q := 1) d4_0 rfl rfl (by first | rfl | assumption) ?_
  refine Wk.aload_n (q := 2) d4_1 rfl rfl (by first | rfl | assumption) ?_
  refine Wk.iconst (q := 3) (0) d4_2 rfl (by decide) ?_
  refine Wk.aload_n (q := 4) d4_3 rfl rfl (by first | rfl | assumption) ?_
  refine Wk.arraylength (q := 5) d4_4 rfl (by repeat (first | exact List.mem_cons_self | assumption | refine List.mem_cons_of_mem _ ?_)) (show (cs.map Value.int).length.toInt32 = cs.length.toInt32 by simp) ?_
  refine Wk.aconst_null (q := 6) d4_5 rfl ?_
  by_cases h0 : cs = []
  · subst h0
    refine Wk.special (q := 9) [_, _, _, _] _ 0 d4_6 rfl rfl (hw _ (List.mem_of_getElem? (i := 8) rfl)) (hw _ (List.mem_of_getElem? (i := 9) rfl)) (hw _ (List.mem_of_getElem? (i := 4) rfl)) (hw _ (List.mem_of_getElem? (i := 11) rfl)) ar_3 (by decide) rfl rfl rfl rfl (ct_strInit4e hw hE) (by first | decide | (dsimp only; omega) | omega) (by first | decide | (dsimp only; omega) | omega) (by first | decide | (dsimp only; omega) | omega) (by first | decide | (dsimp only; omega) | omega) (k0 ?_)
    rintro _ ⟨b, rfl⟩
    refine Wk.return_ d4_9 rfl ?_
    exact ⟨rfl, b, false, rfl⟩
  · refine Wk.special (q := 9) [_, _, _, _] _ 0 d4_6 rfl rfl (hw _ (List.mem_of_getElem? (i := 8) rfl)) (hw _ (List.mem_of_getElem? (i := 9) rfl)) (hw _ (List.mem_of_getElem? (i := 4) rfl)) (hw _ (List.mem_of_getElem? (i := 11) rfl)) ar_3 (by decide) rfl rfl rfl rfl (ct_strInit4 hw hE F hc h0 N hN hl hm) (by first | decide | (dsimp only; omega) | omega) (by first | decide | (dsimp only; omega) | omega) (by first | decide | (dsimp only; omega) | omega) (by first | decide | (dsimp only; omega) | omega) (k0 ?_)
    rintro _ ⟨b, rfl⟩
    refine Wk.return_ d4_9 rfl ?_
    exact ⟨rfl, b, true, rfl⟩

def Chars (cs : List Int32) : Prop := ∀ c ∈ cs, 0 ≤ c.toInt ∧ c.toInt < 65536
def lo8 (c : Int32) : Int32 := (c >>> ((0 : Int32) &&& 31)).toInt8.toInt32
def hi8 (c : Int32) : Int32 := (c >>> ((8 : Int32) &&& 31)).toInt8.toInt32
def u16 : List Int32 → List Int32
  | [] => []
  | c :: cs => lo8 c :: hi8 c :: u16 cs
theorem u16_len (cs : List Int32) : (u16 cs).length = 2 * cs.length := by
  induction cs with
  | nil => rfl
  | cons c cs ih => simp only [u16, List.length_cons, ih]; omega
theorem u16_app (xs ys : List Int32) : u16 (xs ++ ys) = u16 xs ++ u16 ys := by
  induction xs with
  | nil => rfl
  | cons c cs ih => simp only [u16, List.cons_append, ih]
theorem u16_lo (cs : List Int32) (i : Nat) (h : i < cs.length) : (u16 cs)[2 * i]? = some (lo8 cs[i]) := by
  induction cs generalizing i with
  | nil => simp at h
  | cons c cs ih =>
    cases i with
    | zero => rfl
    | succ i =>
      have h' : i < cs.length := by simpa using h
      have e := ih i h'
      rw [show 2 * (i + 1) = 2 * i + 2 by omega]
      simpa [u16] using e
theorem u16_hi (cs : List Int32) (i : Nat) (h : i < cs.length) : (u16 cs)[2 * i + 1]? = some (hi8 cs[i]) := by
  induction cs generalizing i with
  | nil => simp at h
  | cons c cs ih =>
    cases i with
    | zero => rfl
    | succ i =>
      have h' : i < cs.length := by simpa using h
      have e := ih i h'
      rw [show 2 * (i + 1) + 1 = (2 * i + 1) + 2 by omega]
      simpa [u16] using e
theorem glue16 {c : Int32} (h : 0 ≤ c.toInt ∧ c.toInt < 65536) : (((lo8 c &&& 255) <<< ((0 : Int32) &&& 31)) ||| ((hi8 c &&& 255) <<< ((8 : Int32) &&& 31))).toUInt32.toUInt16.toUInt32.toInt32 = c := by
  apply Int32.toInt_inj.mp
  have a1 := c_ishr c 0 0 (by decide)
  have a2 := c_ishr c 8 8 (by decide)
  have b1 := c_i2b (c >>> ((0 : Int32) &&& 31))
  have b2 := c_i2b (c >>> ((8 : Int32) &&& 31))
  have d1 := c_mask (lo8 c) 255 8 (by decide) (by decide)
  have d2 := c_mask (hi8 c) 255 8 (by decide) (by decide)
  have e1 := c_ishl (lo8 c &&& 255) 0 0 (by decide)
  have e2 := c_ishl (hi8 c &&& 255) 8 8 (by decide)
  have r1 := rng32 ((lo8 c &&& 255) <<< ((0 : Int32) &&& 31))
  have r2 := rng32 ((hi8 c &&& 255) <<< ((8 : Int32) &&& 31))
  have f := c_or' ((lo8 c &&& 255) <<< ((0 : Int32) &&& 31)) ((hi8 c &&& 255) <<< ((8 : Int32) &&& 31)) 8 (by decide) 256 (by decide)
  have g := c_i2c (((lo8 c &&& 255) <<< ((0 : Int32) &&& 31)) ||| ((hi8 c &&& 255) <<< ((8 : Int32) &&& 31)))
  have r3 := rng32 (((lo8 c &&& 255) <<< ((0 : Int32) &&& 31)) ||| ((hi8 c &&& 255) <<< ((8 : Int32) &&& 31)))
  have hl : (lo8 c).toInt = (c >>> ((0 : Int32) &&& 31)).toInt8.toInt32.toInt := rfl
  have hh : (hi8 c).toInt = (c >>> ((8 : Int32) &&& 31)).toInt8.toInt32.toInt := rfl
  simp only [pw0, pw1, pw8, pw31] at a1 a2 d1 d2 e1 e2
  generalize ((lo8 c &&& 255) <<< ((0 : Int32) &&& 31) ||| (hi8 c &&& 255) <<< ((8 : Int32) &&& 31)).toUInt32.toUInt16.toUInt32.toInt32.toInt = w at *
  generalize ((lo8 c &&& 255) <<< ((0 : Int32) &&& 31) ||| (hi8 c &&& 255) <<< ((8 : Int32) &&& 31)).toInt = w' at *
  generalize ((lo8 c &&& 255) <<< ((0 : Int32) &&& 31)).toInt = p at *
  generalize ((hi8 c &&& 255) <<< ((8 : Int32) &&& 31)).toInt = p' at *
  generalize (lo8 c &&& 255).toInt = q at *
  generalize (hi8 c &&& 255).toInt = q' at *
  generalize (c >>> ((0 : Int32) &&& 31)).toInt8.toInt32.toInt = s at *
  generalize (c >>> ((8 : Int32) &&& 31)).toInt8.toInt32.toInt = s' at *
  generalize (c >>> ((0 : Int32) &&& 31)).toInt = t at *
  generalize (c >>> ((8 : Int32) &&& 31)).toInt = t' at *
  generalize (lo8 c).toInt = u at *
  generalize (hi8 c).toInt = u' at *
  generalize c.toInt = z at *
  have hp : p = q := by omega
  have hp' : p' = q' * 256 := by omega
  have f' := f (by omega) (by omega) (by omega)
  omega
theorem nchar16 {c : Int32} (h : 0 ≤ c.toInt ∧ c.toInt < 65536) : nar .char c = c := by
  apply Int32.toInt_inj.mp
  have q := c_i2c c
  show c.toUInt32.toUInt16.toUInt32.toInt32.toInt = c.toInt
  omega
theorem shl1 {n : Nat} (h : n < 2 ^ 30) : n.toInt32 <<< ((1 : Int32) &&& 31) = (2 * n).toInt32 := by
  apply Int32.toInt_inj.mp
  have a := c_ishl n.toInt32 1 1 (by decide)
  have r := rng32 (n.toInt32 <<< ((1 : Int32) &&& 31))
  rw [n32 (show n < 2 ^ 31 by omega)] at a
  rw [n32 (show 2 * n < 2 ^ 31 by omega)]
  simp only [pw0, pw1, pw8, pw31] at a
  omega
theorem set_u16 (cs : List Int32) (i : Nat) (h : i < cs.length) : (((u16 (cs.take i)).map Value.int ++ List.replicate (2 * (cs.length - i)) (Value.int 0)).set (2 * i) (.int (lo8 cs[i]))).set (2 * i + 1) (.int (hi8 cs[i])) = (u16 (cs.take (i + 1))).map Value.int ++ List.replicate (2 * (cs.length - (i + 1))) (Value.int 0) := by
  have h1 : ((u16 (cs.take i)).map Value.int).length = 2 * i := by simp [u16_len]; omega
  rw [List.set_append_right _ _ (by omega), h1, Nat.sub_self, show 2 * (cs.length - i) = (2 * (cs.length - (i + 1)) + 1) + 1 by omega, List.replicate_succ, List.replicate_succ, List.set_cons_zero, List.set_append_right _ _ (by omega), h1, show 2 * i + 1 - 2 * i = 1 by omega, List.set_cons_succ, List.set_cons_zero,
    List.take_succ_eq_append_getElem h, u16_app, List.map_append, List.append_assoc]
  rfl
/-- the statics of StringUTF16 -/
def FU (Z : State) : Prop := Sta Z Z.heap "java/lang/StringUTF16" "$assertionsDisabled" "Z" (.int 1) ∧ Sta Z Z.heap "java/lang/StringUTF16" "HI_BYTE_SHIFT" "I" (.int 0) ∧ Sta Z Z.heap "java/lang/StringUTF16" "LO_BYTE_SHIFT" "I" (.int 8)
theorem FU_of {Z : State} {args : Array Value} (h1 : (Jvm.Cond.initializedFor "java/lang/StringUTF16" "$assertionsDisabled" "Z").before args Z = true) (h2 : (Jvm.Cond.eq (Term.static "java/lang/StringUTF16" "$assertionsDisabled" "Z") (.int 1)).before args Z = true) (h3 : (Jvm.Cond.initializedFor "java/lang/StringUTF16" "HI_BYTE_SHIFT" "I").before args Z = true) (h4 : (Jvm.Cond.eq (Term.static "java/lang/StringUTF16" "HI_BYTE_SHIFT" "I") (.int 0)).before args Z = true) (h5 : (Jvm.Cond.initializedFor "java/lang/StringUTF16" "LO_BYTE_SHIFT" "I").before args Z = true) (h6 : (Jvm.Cond.eq (Term.static "java/lang/StringUTF16" "LO_BYTE_SHIFT" "I") (.int 8)).before args Z = true) : FU Z :=
  ⟨staI h1 h2, staI h3 h4, staI h5 h6⟩
theorem ct_nbl {l : Launch} {Z : State} {a0 : Array Value} (hw : ∀ d ∈ tables_1, d.before a0 Z = true) (hE : EW Z a0 EL0) {L : Store} {n : Nat} (hn : n < 1000000) : Ct l Z EL0 (⟨"java/lang/StringUTF16", "newBytesLength", "(I)I"⟩ : MethodName) jdk_52_method_3_code 1 (some .int) ({ frames := 0, cells := 0, slots := 0, locals := 0 } : Room) #[.int n.toInt32] L (RV fun u M => u = .int (2 * n).toInt32 ∧ M = L) := by
  refine Ct.of (a0 := a0) (Ls := [.val (.int _)]) (plainFor_of_name pn_0) (fun m => ef_i_1 m _) hE ?_
  refine Wk.iload_n (q := 1) d5_0 rfl rfl ?_
  refine Wk.if_t (q := 12) d5_1 (by decide) (by decide) (XT.i0_ge_t (n32_nn (by omega))) ?_
  refine Wk.iload_n (q := 13) d5_12 rfl rfl ?_
  refine Wk.ldc_int (q := 15) d5_13 rfl (hw _ (List.mem_of_getElem? (i := 72) rfl)) ?_
  refine Wk.icmp_t (q := 55) d5_15 (by decide) (by decide) (XT.ii_lt_t ((n32_lt (show n < 2 ^ 31 by omega) (show 1073741823 < 2 ^ 31 by decide)).mpr (by omega))) ?_
  refine Wk.iload_n (q := 56) d5_55 rfl rfl ?_
  refine Wk.iconst (q := 57) (1) d5_56 rfl (by decide) ?_
  refine Wk.ishl (q := 58) d5_57 rfl ?_
  rw [shl1 (show n < 2 ^ 30 by omega)]
  refine Wk.ireturn (t := .int) d5_58 rfl (by simp) (by rfl) ?_
  exact ⟨_, rfl, rfl, rfl⟩
theorem ct_nbf {l : Launch} {Z : State} {a0 : Array Value} (hw : ∀ d ∈ tables_1, d.before a0 Z = true) (hE : EW Z a0 EL0) {L : Store} {n : Nat} (N : Nat) (hN : 2 * n ≤ N) (hn : n < 1000000) : Ct l Z EL0 (⟨"java/lang/StringUTF16", "newBytesFor", "(I)[B"⟩ : MethodName) jdk_52_method_2_code 1 (some (.array .byte)) ({ frames := 1, cells := 1, slots := N, locals := 12 } : Room) #[.int n.toInt32] L (RV fun u M => ∃ b, u = .ref b ∧ M = (b, true, AR Z .byte (List.replicate (2 * n) (.int 0))) :: L) := by
  refine Ct.of (a0 := a0) (Ls := [.val (.int _)]) (plainFor_of_name pn_0) (fun m => ef_i_1 m _) hE ?_
  refine Wk.iload_n (q := 1) d6_0 rfl rfl ?_
  refine Wk.static (q := 4) [_] _ 0 d6_1 rfl (hw _ (List.mem_of_getElem? (i := 69) rfl)) (hw _ (List.mem_of_getElem? (i := 70) rfl)) (hw _ (List.mem_of_getElem? (i := 51) rfl)) (hw _ (List.mem_of_getElem? (i := 71) rfl)) ar_4 (by decide) rfl rfl rfl rfl (ct_nbl hw hE hn) (by first | decide | (dsimp only; omega) | omega) (by first | decide | (dsimp only; omega) | omega) (by first | decide | (dsimp only; omega) | omega) (by first | decide | (dsimp only; omega) | omega) (kv ?_)
  rintro _ _ ⟨rfl, rfl⟩
  refine Wk.newarray (q := 6) .byte ((2 * n)) (List.replicate (2 * n) (.int 0)) d6_4 rfl rfl rfl (hw _ (List.mem_of_getElem? (i := 16) rfl)) (n32_nn (by omega)) (n32_nat (by omega)) (by omega) (by first | decide | (dsimp only; omega) | omega) (by first | decide | (dsimp only; omega) | omega) ?_
  intro b
  refine Wk.areturn (t := (.array .byte)) d6_6 rfl rfl (by first | rfl | exact narO | exact narA) (by first | rfl | assumption) ?_
  exact ⟨_, rfl, b, rfl, rfl⟩
set_option maxHeartbeats 4000000 in
theorem ct_putChar {l : Launch} {Z : State} {a0 : Array Value} (hw : ∀ d ∈ tables_1, d.before a0 Z = true) (hE : EW Z a0 EL0) (hU : FU Z) {L : Store} {b : Addr} {vs : List Value} {i : Nat} {c : Int32} (hi : 2 * i + 1 < vs.length) (hl : vs.length < 2000000) : Ct l Z EL0 (⟨"java/lang/StringUTF16", "putChar", "([BII)V"⟩ : MethodName) jdk_52_method_4_code 3 none ({ frames := 0, cells := 0, slots := 0, locals := 0 } : Room) #[.ref b, .int i.toInt32, .int c] ((b, true, AR Z .byte vs) :: L) (R0 fun M => M = (b, true, AR Z .byte ((vs.set (2 * i) (.int (lo8 c))).set (2 * i + 1) (.int (hi8 c)))) :: L) := by
  obtain ⟨U1, U2, U3⟩ := hU
  refine Ct.of (a0 := a0) (Ls := [.val (.ref _), .val (.int _), .val (.int _)]) (plainFor_of_name pn_0) (fun m => ef_rii_3 m _ _ _) hE ?_
  refine Wk.getstatic (q := 3) d7_0 rfl (hw _ (List.mem_of_getElem? (i := 76) rfl)) Via.refl U1 ?_
  refine Wk.if_t (q := 28) d7_3 (by decide) (by decide) (by decide) ?_
  refine Wk.iload_n (q := 29) d7_28 rfl rfl ?_
  refine Wk.iconst (q := 30) (1) d7_29 rfl (by decide) ?_
  refine Wk.ishl (q := 31) d7_30 rfl ?_
  rw [shl1 (show i < 2 ^ 30 by omega)]
  refine Wk.istore_n (q := 32) d7_31 rfl (LS1.there (LS1.here (by first | exact One.u | exact One.val rfl | assumption))) ?_
  refine Wk.aload_n (q := 33) d7_32 rfl rfl (by first | rfl | assumption) ?_
  refine Wk.iload_n (q := 34) d7_33 rfl rfl ?_
  refine Wk.iinc (q := 37) (1) d7_34 rfl (by decide) rfl (LS1.there (LS1.here (by first | exact One.u | exact One.val rfl | assumption))) ?_
  refine Wk.iload_n (q := 38) d7_37 rfl rfl ?_
  rw [n32_succ]
  refine Wk.getstatic (q := 41) d7_38 rfl (hw _ (List.mem_of_getElem? (i := 77) rfl)) Via.refl U2 ?_
  refine Wk.ishr (q := 42) d7_41 rfl ?_
  refine Wk.i2b (q := 43) d7_42 rfl ?_
  refine Wk.bastore (q := 44) ((2 * i)) d7_43 rfl (by repeat (first | exact Ex.here | assumption | apply Ex.there)) (n32_nn (by omega)) (n32_nat (by omega)) (nar8 _) (VS.of (by omega)) ?_
  refine Wk.aload_n (q := 45) d7_44 rfl rfl (by first | rfl | assumption) ?_
  refine Wk.iload_n (q := 46) d7_45 rfl rfl ?_
  refine Wk.iload_n (q := 47) d7_46 rfl rfl ?_
  refine Wk.getstatic (q := 50) d7_47 rfl (hw _ (List.mem_of_getElem? (i := 78) rfl)) Via.refl U3 ?_
  refine Wk.ishr (q := 51) d7_50 rfl ?_
  refine Wk.i2b (q := 52) d7_51 rfl ?_
  refine Wk.bastore (q := 53) ((2 * i + 1)) d7_52 rfl (by repeat (first | exact Ex.here | assumption | apply Ex.there)) (n32_nn (by omega)) (n32_nat (by omega)) (nar8 _) (VS.of (by simp; omega)) ?_
  refine Wk.return_ d7_53 rfl ?_
  exact ⟨rfl, rfl⟩
set_option maxHeartbeats 4000000 in
theorem ct_getChar {l : Launch} {Z : State} {a0 : Array Value} (hw : ∀ d ∈ tables_1, d.before a0 Z = true) (hE : EW Z a0 EL0) (hU : FU Z) {L : Store} {b : Addr} {fb : Bool} {cs : List Int32} (hc : Chars cs) (hl : cs.length < 1000000) {i : Nat} (hi : i < cs.length) (hm : (b, fb, AR Z .byte ((u16 cs).map .int)) ∈ L) : Ct l Z EL0 (⟨"java/lang/StringUTF16", "getChar", "([BI)C"⟩ : MethodName) jdk_52_method_5_code 2 (some .char) ({ frames := 0, cells := 0, slots := 0, locals := 0 } : Room) #[.ref b, .int i.toInt32] L (RV fun u M => u = .int cs[i] ∧ M = L) := by
  obtain ⟨U1, U2, U3⟩ := hU
  have h16 := hc cs[i] (List.getElem_mem hi)
  refine Ct.of (a0 := a0) (Ls := [.val (.ref _), .val (.int _)]) (plainFor_of_name pn_0) (fun m => ef_ri_2 m _ _) hE ?_
  refine Wk.getstatic (q := 3) d8_0 rfl (hw _ (List.mem_of_getElem? (i := 76) rfl)) Via.refl U1 ?_
  refine Wk.if_t (q := 28) d8_3 (by decide) (by decide) (by decide) ?_
  refine Wk.iload_n (q := 29) d8_28 rfl rfl ?_
  refine Wk.iconst (q := 30) (1) d8_29 rfl (by decide) ?_
  refine Wk.ishl (q := 31) d8_30 rfl ?_
  rw [shl1 (show i < 2 ^ 30 by omega)]
  refine Wk.istore_n (q := 32) d8_31 rfl (LS1.there (LS1.here (by first | exact One.u | exact One.val rfl | assumption))) ?_
  refine Wk.aload_n (q := 33) d8_32 rfl rfl (by first | rfl | assumption) ?_
  refine Wk.iload_n (q := 34) d8_33 rfl rfl ?_
  refine Wk.iinc (q := 37) (1) d8_34 rfl (by decide) rfl (LS1.there (LS1.here (by first | exact One.u | exact One.val rfl | assumption))) ?_
  rw [n32_succ]
  refine Wk.baload (q := 38) ((2 * i)) d8_37 rfl (by repeat (first | exact List.mem_cons_self | assumption | refine List.mem_cons_of_mem _ ?_)) (n32_nn (by omega)) (n32_nat (by omega)) (show ((u16 cs).map Value.int)[2 * i]? = some (.int (lo8 cs[i])) by simp [u16_lo cs i hi]) ?_
  refine Wk.sipush (q := 41) (255) d8_38 rfl (by decide) ?_
  refine Wk.iand (q := 42) d8_41 rfl ?_
  refine Wk.getstatic (q := 45) d8_42 rfl (hw _ (List.mem_of_getElem? (i := 77) rfl)) Via.refl U2 ?_
  refine Wk.ishl (q := 46) d8_45 rfl ?_
  refine Wk.aload_n (q := 47) d8_46 rfl rfl (by first | rfl | assumption) ?_
  refine Wk.iload_n (q := 48) d8_47 rfl rfl ?_
  refine Wk.baload (q := 49) ((2 * i + 1)) d8_48 rfl (by repeat (first | exact List.mem_cons_self | assumption | refine List.mem_cons_of_mem _ ?_)) (n32_nn (by omega)) (n32_nat (by omega)) (show ((u16 cs).map Value.int)[2 * i + 1]? = some (.int (hi8 cs[i])) by simp [u16_hi cs i hi]) ?_
  refine Wk.sipush (q := 52) (255) d8_49 rfl (by decide) ?_
  refine Wk.iand (q := 53) d8_52 rfl ?_
  refine Wk.getstatic (q := 56) d8_53 rfl (hw _ (List.mem_of_getElem? (i := 78) rfl)) Via.refl U3 ?_
  refine Wk.ishl (q := 57) d8_56 rfl ?_
  refine Wk.ior (q := 58) d8_57 rfl ?_
  refine Wk.i2c (q := 59) d8_58 rfl ?_
  rw [glue16 h16]
  refine Wk.ireturn (t := .char) d8_59 rfl (by simp) (congrArg Value.int (nchar16 h16)) ?_
  exact ⟨_, rfl, rfl, rfl⟩
set_option maxHeartbeats 4000000 in
theorem wk_toBytes {l : Launch} {Z : State} {a0 : Array Value} (hw : ∀ d ∈ tables_1, d.before a0 Z = true) (hE : EW Z a0 EL0) (hU : FU Z) {L : Store} {ca b : Addr} {fa : Bool} {cs : List Int32} (hl : cs.length < 1000000) (hm : (ca, fa, AR Z .char (cs.map .int)) ∈ L) {N cb sb : Nat} : ∀ (k i : Nat), i + k = cs.length →
    Wk l Z a0 EL0 (⟨"java/lang/StringUTF16", "toBytes", "([CII)[B"⟩ : MethodName) jdk_52_method_14_code 5 (some (.array .byte)) ({ frames := 2, cells := 1, slots := N, locals := 24 } : Room) (RV fun u M => ∃ b, u = .ref b ∧ M = (b, true, AR Z .byte ((u16 cs).map .int)) :: L) ((b, true, AR Z .byte ((u16 (cs.take i)).map Value.int ++ List.replicate (2 * (cs.length - i)) (.int 0))) :: L) cb sb 8 [.val (.ref ca), .val (.int i.toInt32), .val (.int cs.length.toInt32), .val (.ref b), .val (.int i.toInt32)] [] := by
  intro k
  induction k with
  | zero =>
    intro i hi
    have hi' : i = cs.length := by omega
    subst hi'
    refine Wk.iload (q := 10) d9_8 rfl rfl ?_
    refine Wk.iload_n (q := 11) d9_10 rfl rfl ?_
    refine Wk.icmp_t (q := 32) d9_11 (by decide) (by decide) (XT.ii_ge_t (fun h => by rw [n32_lt (by omega) (by omega)] at h; omega)) ?_
    refine Wk.aload_n (q := 33) d9_32 rfl rfl (by first | rfl | assumption) ?_
    refine Wk.areturn (t := (.array .byte)) d9_33 rfl rfl (by first | rfl | exact narO | exact narA) (by first | rfl | assumption) ?_
    refine ⟨_, rfl, b, rfl, ?_⟩
    simp
  | succ k ih =>
    intro i hi
    have h1 : i < cs.length := by omega
    have h3 : i < 2 ^ 31 := by omega
    refine Wk.iload (q := 10) d9_8 rfl rfl ?_
    refine Wk.iload_n (q := 11) d9_10 rfl rfl ?_
    refine Wk.icmp_f (q := 14) d9_11 rfl (XT.ii_ge_f ((n32_lt h3 (by omega)).mpr h1)) ?_
    refine Wk.aload_n (q := 15) d9_14 rfl rfl (by first | rfl | assumption) ?_
    refine Wk.iload (q := 17) d9_15 rfl rfl ?_
    refine Wk.aload_n (q := 18) d9_17 rfl rfl (by first | rfl | assumption) ?_
    refine Wk.iload_n (q := 19) d9_18 rfl rfl ?_
    refine Wk.caload (q := 20) (i) d9_19 rfl (by repeat (first | exact List.mem_cons_self | assumption | refine List.mem_cons_of_mem _ ?_)) (n32_nn h3) (n32_nat h3) (show (cs.map Value.int)[i]? = some (.int cs[i]) by simp [h1]) ?_
    refine Wk.static (q := 23) [_, _, _] _ 0 d9_20 rfl (hw _ (List.mem_of_getElem? (i := 73) rfl)) (hw _ (List.mem_of_getElem? (i := 74) rfl)) (hw _ (List.mem_of_getElem? (i := 51) rfl)) (hw _ (List.mem_of_getElem? (i := 75) rfl)) ar_5 (by decide) rfl rfl rfl rfl (ct_putChar hw hE hU (by simp [u16_len]; omega) (by simp [u16_len]; omega)) (by first | decide | (dsimp only; omega) | omega) (by first | decide | (dsimp only; omega) | omega) (by first | decide | (dsimp only; omega) | omega) (by first | decide | (dsimp only; omega) | omega) (k0 ?_)
    rintro _ rfl
    refine Wk.iinc (q := 26) (1) d9_23 rfl (by decide) rfl (LS1.there (LS1.here (by first | exact One.u | exact One.val rfl | assumption))) ?_
    refine Wk.iinc (q := 29) (1) d9_26 rfl (by decide) rfl (LS1.there (LS1.there (LS1.there (LS1.there (LS1.here (by first | exact One.u | exact One.val rfl | assumption)))))) ?_
    refine Wk.goto (q := 8) d9_29 (by decide) (by decide) ?_
    rw [n32_succ, set_u16 cs i h1]
    exact ih (i + 1) (by omega)
set_option maxHeartbeats 4000000 in
theorem ct_toBytes {l : Launch} {Z : State} {a0 : Array Value} (hw : ∀ d ∈ tables_1, d.before a0 Z = true) (hE : EW Z a0 EL0) (hU : FU Z) {L : Store} {ca : Addr} {fa : Bool} {cs : List Int32} (N : Nat) (hN : 2 * cs.length ≤ N) (hl : cs.length < 1000000) (hm : (ca, fa, AR Z .char (cs.map .int)) ∈ L) :
    Ct l Z EL0 (⟨"java/lang/StringUTF16", "toBytes", "([CII)[B"⟩ : MethodName) jdk_52_method_14_code 5 (some (.array .byte)) ({ frames := 2, cells := 1, slots := N, locals := 24 } : Room) #[.ref ca, .int 0, .int cs.length.toInt32] L (RV fun u M => ∃ b, u = .ref b ∧ M = (b, true, AR Z .byte ((u16 cs).map .int)) :: L) := by
  refine Ct.of (a0 := a0) (Ls := [.val (.ref _), .val (.int _), .val (.int _), .unset, .unset]) (plainFor_of_name pn_0) (fun m => ef_rii_5 m _ _ _) hE ?_
  refine Wk.iload_n (q := 1) d9_0 rfl rfl ?_
  refine Wk.static (q := 4) [_] _ 0 d9_1 rfl (hw _ (List.mem_of_getElem? (i := 66) rfl)) (hw _ (List.mem_of_getElem? (i := 67) rfl)) (hw _ (List.mem_of_getElem? (i := 51) rfl)) (hw _ (List.mem_of_getElem? (i := 68) rfl)) ar_6 (by decide) rfl rfl rfl rfl (ct_nbf hw hE N hN hl) (by first | decide | (dsimp only; omega) | omega) (by first | decide | (dsimp only; omega) | omega) (by first | decide | (dsimp only; omega) | omega) (by first | decide | (dsimp only; omega) | omega) (kv ?_)
  rintro _ _ ⟨b, rfl, rfl⟩
  refine Wk.astore_n (q := 5) d9_4 rfl (by first | rfl | assumption) (LS1.there (LS1.there (LS1.there (LS1.here (by first | exact One.u | exact One.val rfl | assumption))))) ?_
  refine Wk.iconst (q := 6) (0) d9_5 rfl (by decide) ?_
  refine Wk.istore (q := 8) d9_6 rfl (LS1.there (LS1.there (LS1.there (LS1.there (LS1.here (by first | exact One.u | exact One.val rfl | assumption)))))) ?_
  have h := wk_toBytes hw hE hU (l := l) (b := b) (N := N) (cb := 1 - 1) (sb := N - N) hl hm cs.length 0 (by omega)
  simp only [List.take_zero, u16, List.map_nil, List.nil_append, Nat.sub_zero] at h
  exact h

theorem first_big (cs : List Int32) (hc : Chars cs) (hn : ¬ Lat cs) : ∃ (p : Nat) (hp : p < cs.length), Lat (cs.take p) ∧ (255 : Int32) < cs[p] := by
  induction cs with
  | nil => exact absurd lat_nil hn
  | cons c cs ih =>
    by_cases h : 0 ≤ c.toInt ∧ c.toInt < 256
    · have hn' : ¬ Lat cs := fun q => hn (lat_cons h q)
      obtain ⟨p, hp, h1, h2⟩ := ih (fun x hx => hc x (List.mem_cons_of_mem _ hx)) hn'
      exact ⟨p + 1, by simpa using hp, by simpa using lat_cons h h1, by simpa using h2⟩
    · have := hc c List.mem_cons_self
      exact ⟨0, by simp, lat_nil, by rw [Int32.lt_iff_toInt_lt]; show (255 : Int) < c.toInt; omega⟩
theorem lat_get {cs : List Int32} {p i : Nat} (hp : p < cs.length) (h : Lat (cs.take p)) (hi : i < p) : 0 ≤ (cs[i]'(by omega)).toInt ∧ (cs[i]'(by omega)).toInt < 256 := h _ (by
  rw [List.mem_iff_getElem]
  exact ⟨i, by simp; omega, by simp⟩)
def cdr (k : Bool) : Int32 := if k then 1 else 0
def enc (k : Bool) (cs : List Int32) : List Int32 := if k then u16 cs else cs.map b8
set_option maxHeartbeats 4000000 in
theorem wk_compressN {l : Launch} {Z : State} {a0 : Array Value} (hw : ∀ d ∈ tables_1, d.before a0 Z = true) (hE : EW Z a0 EL0) {L : Store} {ca b : Addr} {fa : Bool} {cs : List Int32} {p : Nat} (hp : p < cs.length) (hlt : Lat (cs.take p)) (hbig : (255 : Int32) < cs[p]) (hl : cs.length < 2 ^ 31) (hm : (ca, fa, AR Z .char (cs.map .int)) ∈ L) {cb sb : Nat} : ∀ (k i : Nat) (o : Slot) (vs : List Value), vs.length = cs.length → i + k = p → One o →
    Wk l Z a0 EL0 (⟨"java/lang/StringUTF16", "compress", "([CI[BII)I"⟩ : MethodName) jdk_52_method_21_code 7 (some .int) ({ frames := 0, cells := 0, slots := 0, locals := 0 } : Room) (RV fun u M => u = .int p.toInt32 ∧ ∃ vs, M = (b, true, AR Z .byte vs) :: L) ((b, true, AR Z .byte vs) :: L) cb sb 3 [.val (.ref ca), .val (.int i.toInt32), .val (.ref b), .val (.int i.toInt32), .val (.int cs.length.toInt32), .val (.int i.toInt32), o] [] := by
  intro k
  induction k with
  | zero =>
    intro i o vs hvs hi ho
    have hi' : i = p := by omega
    subst hi'
    have hi3 : i < 2 ^ 31 := by omega
    have hv : (cs.map Value.int)[i]? = some (.int cs[i]) := by simp [hp]
    refine Wk.iload (q := 5) d0_3 rfl rfl ?_
    refine Wk.iload (q := 7) d0_5 rfl rfl ?_
    refine Wk.icmp_f (q := 10) d0_7 rfl (XT.ii_ge_f ((n32_lt hi3 hl).mpr hp)) ?_
    refine Wk.aload_n (q := 11) d0_10 rfl rfl (by first | rfl | assumption) ?_
    refine Wk.iload_n (q := 12) d0_11 rfl rfl ?_
    refine Wk.caload (q := 13) (i) d0_12 rfl (by repeat (first | exact List.mem_cons_self | assumption | refine List.mem_cons_of_mem _ ?_)) (n32_nn hi3) (n32_nat hi3) hv ?_
    refine Wk.istore (q := 15) d0_13 rfl (LS1.there (LS1.there (LS1.there (LS1.there (LS1.there (LS1.there (LS1.here (by first | exact One.u | exact One.val rfl | assumption)))))))) ?_
    refine Wk.iload (q := 17) d0_15 rfl rfl ?_
    refine Wk.sipush (q := 20) (255) d0_17 rfl (by decide) ?_
    refine Wk.icmp_f (q := 23) d0_20 rfl (XT.ii_le_f hbig) ?_
    refine Wk.iload (q := 25) d0_23 rfl rfl ?_
    refine Wk.ireturn (t := .int) d0_25 rfl (by simp) (by rfl) ?_
    exact ⟨_, rfl, rfl, vs, rfl⟩
  | succ k ih =>
    intro i o vs hvs hi ho
    have hil : i < cs.length := by omega
    have hi3 : i < 2 ^ 31 := by omega
    have hv : (cs.map Value.int)[i]? = some (.int cs[i]) := by simp [hil]
    have hci := lat_get hp hlt (show i < p by omega)
    refine Wk.iload (q := 5) d0_3 rfl rfl ?_
    refine Wk.iload (q := 7) d0_5 rfl rfl ?_
    refine Wk.icmp_f (q := 10) d0_7 rfl (XT.ii_ge_f ((n32_lt hi3 hl).mpr hil)) ?_
    refine Wk.aload_n (q := 11) d0_10 rfl rfl (by first | rfl | assumption) ?_
    refine Wk.iload_n (q := 12) d0_11 rfl rfl ?_
    refine Wk.caload (q := 13) (i) d0_12 rfl (by repeat (first | exact List.mem_cons_self | assumption | refine List.mem_cons_of_mem _ ?_)) (n32_nn hi3) (n32_nat hi3) hv ?_
    refine Wk.istore (q := 15) d0_13 rfl (LS1.there (LS1.there (LS1.there (LS1.there (LS1.there (LS1.there (LS1.here (by first | exact One.u | exact One.val rfl | assumption)))))))) ?_
    refine Wk.iload (q := 17) d0_15 rfl rfl ?_
    refine Wk.sipush (q := 20) (255) d0_17 rfl (by decide) ?_
    refine Wk.icmp_t (q := 26) d0_20 (by decide) (by decide) (XT.ii_le_t (lat_le hci)) ?_
    refine Wk.aload_n (q := 27) d0_26 rfl rfl (by first | rfl | assumption) ?_
    refine Wk.iload_n (q := 28) d0_27 rfl rfl ?_
    refine Wk.iload (q := 30) d0_28 rfl rfl ?_
    refine Wk.i2b (q := 31) d0_30 rfl ?_
    refine Wk.bastore (q := 32) (i) d0_31 rfl (by repeat (first | exact Ex.here | assumption | apply Ex.there)) (n32_nn hi3) (n32_nat hi3) (nar8 _) (VS.of (by omega)) ?_
    refine Wk.iinc (q := 35) (1) d0_32 rfl (by decide) rfl (LS1.there (LS1.here (by first | exact One.u | exact One.val rfl | assumption))) ?_
    refine Wk.iinc (q := 38) (1) d0_35 rfl (by decide) rfl (LS1.there (LS1.there (LS1.there (LS1.here (by first | exact One.u | exact One.val rfl | assumption))))) ?_
    refine Wk.iinc (q := 41) (1) d0_38 rfl (by decide) rfl (LS1.there (LS1.there (LS1.there (LS1.there (LS1.there (LS1.here (by first | exact One.u | exact One.val rfl | assumption))))))) ?_
    refine Wk.goto (q := 3) d0_41 (by decide) (by decide) ?_
    rw [n32_succ]
    exact ih (i + 1) _ _ (by simp [hvs]) (by omega) (One.val rfl)
theorem ct_compressN {l : Launch} {Z : State} {a0 : Array Value} (hw : ∀ d ∈ tables_1, d.before a0 Z = true) (hE : EW Z a0 EL0) {L : Store} {ca b : Addr} {fa : Bool} {cs : List Int32} {p : Nat} (hp : p < cs.length) (hlt : Lat (cs.take p)) (hbig : (255 : Int32) < cs[p]) (hl : cs.length < 2 ^ 31) (hm : (ca, fa, AR Z .char (cs.map .int)) ∈ L) :
    Ct l Z EL0 (⟨"java/lang/StringUTF16", "compress", "([CI[BII)I"⟩ : MethodName) jdk_52_method_21_code 7 (some .int) ({ frames := 0, cells := 0, slots := 0, locals := 0 } : Room) #[.ref ca, .int 0, .ref b, .int 0, .int cs.length.toInt32] ((b, true, AR Z .byte (List.replicate cs.length (.int 0))) :: L) (RV fun u M => u = .int p.toInt32 ∧ ∃ vs, M = (b, true, AR Z .byte vs) :: L) := by
  refine Ct.of (a0 := a0) (Ls := [.val (.ref _), .val (.int _), .val (.ref _), .val (.int _), .val (.int _), .unset, .unset]) (plainFor_of_name pn_0) (fun m => ef_ririi_7 m _ _ _ _ _) hE ?_
  refine Wk.iconst (q := 1) (0) d0_0 rfl (by decide) ?_
  refine Wk.istore (q := 3) d0_1 rfl (LS1.there (LS1.there (LS1.there (LS1.there (LS1.there (LS1.here (by first | exact One.u | exact One.val rfl | assumption))))))) ?_
  exact wk_compressN hw hE hp hlt hbig hl hm p 0 .unset _ (by simp) (by omega) One.u
set_option maxHeartbeats 4000000 in
theorem ct_compressU {l : Launch} {Z : State} {a0 : Array Value} (hw : ∀ d ∈ tables_1, d.before a0 Z = true) (hE : EW Z a0 EL0) (hU : FU Z) {L : Store} {ca : Addr} {fa : Bool} {cs : List Int32} (hc : Chars cs) (hn : ¬ Lat cs) (N : Nat) (hN : 3 * cs.length ≤ N) (hl : cs.length ≤ 4000) (hm : (ca, fa, AR Z .char (cs.map .int)) ∈ L) :
    Ct l Z EL0 (⟨"java/lang/StringUTF16", "compress", "([CII)[B"⟩ : MethodName) jdk_52_method_16_code 6 (some (.array .byte)) ({ frames := 3, cells := 2, slots := N, locals := 40 } : Room) #[.ref ca, .int 0, .int cs.length.toInt32] L (RV fun u M => ∃ b, u = .ref b ∧ M = (b, true, AR Z .byte ((u16 cs).map .int)) :: L) := by
  have h31 : cs.length < 2 ^ 31 := by omega
  obtain ⟨p, hp, hlt, hbig⟩ := first_big cs hc hn
  refine Ct.of (a0 := a0) (Ls := [.val (.ref _), .val (.int _), .val (.int _), .unset, .unset, .unset]) (plainFor_of_name pn_0) (fun m => ef_rii_6 m _ _ _) hE ?_
  refine Wk.iload_n (q := 1) d2_0 rfl rfl ?_
  refine Wk.newarray (q := 3) .byte ((cs.length)) (List.replicate (cs.length) (.int 0)) d2_1 rfl rfl rfl (hw _ (List.mem_of_getElem? (i := 16) rfl)) (n32_nn h31) (n32_nat h31) (by omega) (by first | decide | (dsimp only; omega) | omega) (by first | decide | (dsimp only; omega) | omega) ?_
  intro b
  refine Wk.astore_n (q := 4) d2_3 rfl (by first | rfl | assumption) (LS1.there (LS1.there (LS1.there (LS1.here (by first | exact One.u | exact One.val rfl | assumption))))) ?_
  refine Wk.aload_n (q := 5) d2_4 rfl rfl (by first | rfl | assumption) ?_
  refine Wk.iload_n (q := 6) d2_5 rfl rfl ?_
  refine Wk.aload_n (q := 7) d2_6 rfl rfl (by first | rfl | assumption) ?_
  refine Wk.iconst (q := 8) (0) d2_7 rfl (by decide) ?_
  refine Wk.iload_n (q := 9) d2_8 rfl rfl ?_
  refine Wk.static (q := 12) [_, _, _, _, _] _ 0 d2_9 rfl (hw _ (List.mem_of_getElem? (i := 53) rfl)) (hw _ (List.mem_of_getElem? (i := 54) rfl)) (hw _ (List.mem_of_getElem? (i := 51) rfl)) (hw _ (List.mem_of_getElem? (i := 55) rfl)) ar_0 (by decide) rfl rfl rfl rfl (ct_compressN hw hE hp hlt hbig h31 hm) (by first | decide | (dsimp only; omega) | omega) (by first | decide | (dsimp only; omega) | omega) (by first | decide | (dsimp only; omega) | omega) (by first | decide | (dsimp only; omega) | omega) (kv ?_)
  rintro _ _ ⟨rfl, vs, rfl⟩
  refine Wk.istore (q := 14) d2_12 rfl (LS1.there (LS1.there (LS1.there (LS1.there (LS1.here (by first | exact One.u | exact One.val rfl | assumption)))))) ?_
  refine Wk.iload (q := 16) d2_14 rfl rfl ?_
  refine Wk.iload_n (q := 17) d2_16 rfl rfl ?_
  refine Wk.icmp_f (q := 20) d2_17 rfl (XT.ii_eq_f (fun h => by have := (n32_inj (by omega) h31).mp h; omega)) ?_
  refine Wk.aload_n (q := 21) d2_20 rfl rfl (by first | rfl | assumption) ?_
  refine Wk.iload_n (q := 22) d2_21 rfl rfl ?_
  refine Wk.iload_n (q := 23) d2_22 rfl rfl ?_
  refine Wk.static (q := 26) [_, _, _] _ 0 d2_23 rfl (hw _ (List.mem_of_getElem? (i := 63) rfl)) (hw _ (List.mem_of_getElem? (i := 64) rfl)) (hw _ (List.mem_of_getElem? (i := 51) rfl)) (hw _ (List.mem_of_getElem? (i := 65) rfl)) ar_1 (by decide) rfl rfl rfl rfl (ct_toBytes hw hE hU (2 * cs.length) (by omega) (by omega) (List.mem_cons_of_mem _ hm)) (by first | decide | (dsimp only; omega) | omega) (by first | decide | (dsimp only; omega) | omega) (by first | decide | (dsimp only; omega) | omega) (by first | decide | (dsimp only; omega) | omega) (kv ?_)
  rintro _ _ ⟨b2, rfl, rfl⟩
  refine Wk.sub (.cons_cons _ (.cons _ (.refl _))) ?_
  refine Wk.astore (q := 28) d2_26 rfl (by first | rfl | assumption) (LS1.there (LS1.there (LS1.there (LS1.there (LS1.there (LS1.here (by first | exact One.u | exact One.val rfl | assumption))))))) ?_
  refine Wk.aload (q := 30) d2_28 rfl rfl (by first | rfl | assumption) ?_
  refine Wk.iload (q := 32) d2_30 rfl rfl ?_
  refine Wk.static (q := 35) [_, _] _ 0 d2_32 rfl (hw _ (List.mem_of_getElem? (i := 79) rfl)) (hw _ (List.mem_of_getElem? (i := 80) rfl)) (hw _ (List.mem_of_getElem? (i := 51) rfl)) (hw _ (List.mem_of_getElem? (i := 81) rfl)) ar_7 (by decide) rfl rfl rfl rfl (ct_getChar hw hE hU hc (by omega) hp List.mem_cons_self) (by first | decide | (dsimp only; omega) | omega) (by first | decide | (dsimp only; omega) | omega) (by first | decide | (dsimp only; omega) | omega) (by first | decide | (dsimp only; omega) | omega) (kv ?_)
  rintro _ _ ⟨rfl, rfl⟩
  refine Wk.sipush (q := 38) (255) d2_35 rfl (by decide) ?_
  refine Wk.icmp_t (q := 54) d2_38 (by decide) (by decide) (XT.ii_gt_t hbig) ?_
  refine Wk.aload (q := 56) d2_54 rfl rfl (by first | rfl | assumption) ?_
  refine Wk.areturn (t := (.array .byte)) d2_56 rfl rfl (by first | rfl | exact narO | exact narA) (by first | rfl | assumption) ?_
  exact ⟨_, rfl, b2, rfl, rfl⟩
theorem ushr31_neg {n : Nat} (h0 : 0 < n) (h : n < 1000000) : (XT.ushr (n.toInt32 - (2 * n).toInt32) 31).toInt8.toInt32 = 1 := by
  have e : XT.ushr (n.toInt32 - (2 * n).toInt32) 31 = 1 := by
    apply Int32.toInt_inj.mp
    have a := c_iushr (n.toInt32 - (2 * n).toInt32) 31 31 (by decide) (by decide)
    have b := c_isub n.toInt32 (2 * n).toInt32
    rw [n32 (show n < 2 ^ 31 by omega), n32 (show 2 * n < 2 ^ 31 by omega)] at b
    have r := rng32 (n.toInt32 - (2 * n).toInt32)
    show ((n.toInt32 - (2 * n).toInt32).toUInt32 >>> ((31 : Int32) &&& 31).toUInt32).toInt32.toInt = 1
    rw [a]
    simp only [pw31]
    omega
  rw [e]; decide
theorem ct_coderU {l : Launch} {Z : State} {a0 : Array Value} (hw : ∀ d ∈ tables_1, d.before a0 Z = true) (hE : EW Z a0 EL0) {L : Store} {b : Addr} {fb : Bool} {vs : List Value} {n : Nat} (h0 : 0 < n) (hn : n < 1000000) (hv : vs.length = 2 * n) (hm : (b, fb, AR Z .byte vs) ∈ L) :
    Ct l Z EL0 (⟨"java/lang/StringUTF16", "coderFromArrayLen", "([BI)B"⟩ : MethodName) jdk_52_method_15_code 2 (some .byte) ({ frames := 0, cells := 0, slots := 0, locals := 0 } : Room) #[.ref b, .int n.toInt32] L (RV fun u M => u = .int 1 ∧ M = L) := by
  refine Ct.of (a0 := a0) (Ls := [.val (.ref _), .val (.int _)]) (plainFor_of_name pn_0) (fun m => ef_ri_2 m _ _) hE ?_
  refine Wk.iload_n (q := 1) d1_0 rfl rfl ?_
  refine Wk.aload_n (q := 2) d1_1 rfl rfl (by first | rfl | assumption) ?_
  refine Wk.arraylength (q := 3) d1_2 rfl (by repeat (first | exact List.mem_cons_self | assumption | refine List.mem_cons_of_mem _ ?_)) (show vs.length.toInt32 = (2 * n).toInt32 by rw [hv]) ?_
  refine Wk.isub (q := 4) d1_3 rfl ?_
  refine Wk.bipush (q := 6) (31) d1_4 rfl (by decide) ?_
  refine Wk.iushr (q := 7) d1_6 rfl ?_
  refine Wk.i2b (q := 8) d1_7 rfl ?_
  rw [ushr31_neg h0 hn]
  refine Wk.ireturn (t := .byte) d1_8 rfl (by simp) (by decide) ?_
  exact ⟨_, rfl, rfl, rfl⟩
set_option maxHeartbeats 4000000 in
theorem ct_strInit4u {l : Launch} {Z : State} {a0 : Array Value} (hw : ∀ d ∈ tables_1, d.before a0 Z = true) (hE : EW Z a0 EL0) (F : ∃ z, z ≠ (0 : Int32) ∧ Sta Z Z.heap "java/lang/String" "COMPACT_STRINGS" "Z" (.int z)) (hU : FU Z) {L : Store} {sa ca : Addr} {fa : Bool} {cs : List Int32} (hc : Chars cs) (hn : ¬ Lat cs) (N : Nat) (hN : 3 * cs.length ≤ N) (hl : cs.length ≤ 4000) (hm : (ca, fa, AR Z .char (cs.map .int)) ∈ L) :
    Ct l Z EL0 (⟨"java/lang/String", "<init>", "([CIILjava/lang/Void;)V"⟩ : MethodName) jdk_42_method_149_code 6 none ({ frames := 4, cells := 2, slots := N, locals := 57 } : Room) #[.ref sa, .ref ca, .int 0, .int cs.length.toInt32, .null] ((sa, true, OB Z "java/lang/String" layS [.null, .int 0]) :: L) (R0 fun M => ∃ b, M = (sa, true, OB Z "java/lang/String" layS [.ref b, .int 1]) :: (b, true, AR Z .byte ((u16 cs).map .int)) :: L) := by
  have h31 : cs.length < 2 ^ 31 := by omega
  have hp : 0 < cs.length := by
    cases cs with
    | nil => exact absurd lat_nil hn
    | cons c cs => simp
  obtain ⟨z, hz, FS⟩ := F
  refine Ct.of (a0 := a0) (Ls := [.val (.ref _), .val (.ref _), .val (.int _), .val (.int _), .val .null, .unset]) (plainFor_of_name pn_1) (fun m => ef_rriin_6 m _ _ _ _) hE ?_
  refine Wk.aload_n (q := 1) d3_0 rfl rfl (by first | rfl | assumption) ?_
  refine Wk.objinit (q := 4) 0 d3_1 rfl (hw _ (List.mem_of_getElem? (i := 12) rfl)) (hw _ (List.mem_of_getElem? (i := 13) rfl)) (hw _ (List.mem_of_getElem? (i := 14) rfl)) rfl (by first | decide | (dsimp only; omega) | omega) rfl (by first | decide | (dsimp only; omega) | omega) ?_
  refine Wk.iload_n (q := 5) d3_4 rfl rfl ?_
  refine Wk.if_t (q := 27) d3_5 (by decide) (by decide) (XT.i0_ne_t (fun h => by have := (n32_inj h31 (by omega : 0 < 2 ^ 31)).mp h; omega)) ?_
  refine Wk.getstatic (q := 30) d3_27 rfl (hw _ (List.mem_of_getElem? (i := 48) rfl)) Via.refl FS ?_
  refine Wk.if_f (q := 33) d3_30 rfl (XT.i0_eq_f hz) ?_
  refine Wk.aload_n (q := 34) d3_33 rfl rfl (by first | rfl | assumption) ?_
  refine Wk.iload_n (q := 35) d3_34 rfl rfl ?_
  refine Wk.iload_n (q := 36) d3_35 rfl rfl ?_
  refine Wk.static (q := 39) [_, _, _] _ 0 d3_36 rfl (hw _ (List.mem_of_getElem? (i := 49) rfl)) (hw _ (List.mem_of_getElem? (i := 50) rfl)) (hw _ (List.mem_of_getElem? (i := 51) rfl)) (hw _ (List.mem_of_getElem? (i := 52) rfl)) ar_1 (by decide) rfl rfl rfl rfl (ct_compressU hw hE hU hc hn N hN hl (List.mem_cons_of_mem _ hm)) (by first | decide | (dsimp only; omega) | omega) (by first | decide | (dsimp only; omega) | omega) (by first | decide | (dsimp only; omega) | omega) (by first | decide | (dsimp only; omega) | omega) (kv ?_)
  rintro _ _ ⟨b, rfl, rfl⟩
  refine Wk.astore (q := 41) d3_39 rfl (by first | rfl | assumption) (LS1.there (LS1.there (LS1.there (LS1.there (LS1.there (LS1.here (by first | exact One.u | exact One.val rfl | assumption))))))) ?_
  refine Wk.aload_n (q := 42) d3_41 rfl rfl (by first | rfl | assumption) ?_
  refine Wk.aload (q := 44) d3_42 rfl rfl (by first | rfl | assumption) ?_
  refine Wk.iload_n (q := 45) d3_44 rfl rfl ?_
  refine Wk.static (q := 48) [_, _] _ 1 d3_45 rfl (hw _ (List.mem_of_getElem? (i := 56) rfl)) (hw _ (List.mem_of_getElem? (i := 57) rfl)) (hw _ (List.mem_of_getElem? (i := 51) rfl)) (hw _ (List.mem_of_getElem? (i := 58) rfl)) ar_2 (by decide) rfl rfl rfl rfl (ct_coderU hw hE hp (by omega) (by simp [u16_len]) List.mem_cons_self) (by first | decide | (dsimp only; omega) | omega) (by first | decide | (dsimp only; omega) | omega) (by first | decide | (dsimp only; omega) | omega) (by first | decide | (dsimp only; omega) | omega) (kv ?_)
  rintro _ _ ⟨rfl, rfl⟩
  refine Wk.putfield (q := 51) (C := "java/lang/String") (lay := layS) 1 d3_48 rfl (hw _ (List.mem_of_getElem? (i := 22) rfl)) Via.refl (layS_ok hw) (hw _ (List.mem_of_getElem? (i := 3) rfl)) (Or.inr ⟨(hw _ (List.mem_of_getElem? (i := 18) rfl)), rfl, rfl⟩) rfl (by decide +kernel : parseFieldDescriptor "B" = some .byte) (by repeat (first | exact Ex.here | assumption | apply Ex.there)) (VS.there (VS.here)) (by first | rfl | exact narO) (by first | rfl | exact fitO (by assumption) | exact fitA (by assumption)) ?_
  refine Wk.aload_n (q := 52) d3_51 rfl rfl (by first | rfl | assumption) ?_
  refine Wk.aload (q := 54) d3_52 rfl rfl (by first | rfl | assumption) ?_
  refine Wk.putfield (q := 57) (C := "java/lang/String") (lay := layS) 0 d3_54 rfl (hw _ (List.mem_of_getElem? (i := 21) rfl)) Via.refl (layS_ok hw) (hw _ (List.mem_of_getElem? (i := 3) rfl)) (Or.inr ⟨(hw _ (List.mem_of_getElem? (i := 17) rfl)), rfl, rfl⟩) rfl (by decide +kernel : parseFieldDescriptor "[B" = some (.array .byte)) (by repeat (first | exact Ex.here | assumption | apply Ex.there)) (VS.here) (by first | rfl | exact narO) (by first | rfl | exact fitO (by assumption) | exact fitA (by assumption)) ?_
  refine Wk.return_ d3_57 rfl ?_
  exact ⟨rfl, b, rfl⟩
set_option maxHeartbeats 4000000 in
theorem ct_strInitA {l : Launch} {Z : State} {a0 : Array Value} (hw : ∀ d ∈ tables_1, d.before a0 Z = true) (hE : EW Z a0 EL0) (F : ∃ z, z ≠ (0 : Int32) ∧ Sta Z Z.heap "java/lang/String" "COMPACT_STRINGS" "Z" (.int z)) (hU : FU Z) {L : Store} {sa ca : Addr} {fa : Bool} {cs : List Int32} (hc : Chars cs) (N : Nat) (hN : 3 * cs.length ≤ N) (hl : cs.length ≤ 4000) (hm : (ca, fa, AR Z .char (cs.map .int)) ∈ L) :
    Ct l Z EL0 (⟨"java/lang/String", "<init>", "([C)V"⟩ : MethodName) jdk_42_method_3_code 2 none ({ frames := 5, cells := 4, slots := N + 8, locals := 74 } : Room) #[.ref sa, .ref ca] ((sa, true, OB Z "java/lang/String" layS [.null, .int 0]) :: L) (R0 fun M => ∃ b fb k, (k = false ↔ Lat cs) ∧ M = (sa, true, OB Z "java/lang/String" layS [.ref b, .int (cdr k)]) :: (b, fb, AR Z .byte ((enc k cs).map .int)) :: L) := by
  refine Ct.of (a0 := a0) (Ls := [.val (.ref _), .val (.ref _)]) (plainFor_of_name pn_1) (fun m => ef_rr_2 m _ _) hE ?_
  refine Wk.aload_n (q := 1) d4_0 rfl rfl (by first | rfl | assumption) ?_
  refine Wk.aload_n (q := 2) d4_1 rfl rfl (by first | rfl | assumption) ?_
  refine Wk.iconst (q := 3) (0) d4_2 rfl (by decide) ?_
  refine Wk.aload_n (q := 4) d4_3 rfl rfl (by first | rfl | assumption) ?_
  refine Wk.arraylength (q := 5) d4_4 rfl (by repeat (first | exact List.mem_cons_self | assumption | refine List.mem_cons_of_mem _ ?_)) (show (cs.map Value.int).length.toInt32 = cs.length.toInt32 by simp) ?_
  refine Wk.aconst_null (q := 6) d4_5 rfl ?_
  by_cases h0 : cs = []
  · subst h0
    refine Wk.special (q := 9) [_, _, _, _] _ 0 d4_6 rfl rfl (hw _ (List.mem_of_getElem? (i := 8) rfl)) (hw _ (List.mem_of_getElem? (i := 9) rfl)) (hw _ (List.mem_of_getElem? (i := 4) rfl)) (hw _ (List.mem_of_getElem? (i := 11) rfl)) ar_3 (by decide) rfl rfl rfl rfl (ct_strInit4e hw hE) (by first | decide | (dsimp only; omega) | omega) (by first | decide | (dsimp only; omega) | omega) (by first | decide | (dsimp only; omega) | omega) (by first | decide | (dsimp only; omega) | omega) (k0 ?_)
    rintro _ ⟨b, rfl⟩
    refine Wk.return_ d4_9 rfl ?_
    exact ⟨rfl, b, false, false, ⟨fun _ => lat_nil, fun _ => rfl⟩, rfl⟩
  · by_cases hlat : Lat cs
    · refine Wk.special (q := 9) [_, _, _, _] _ 0 d4_6 rfl rfl (hw _ (List.mem_of_getElem? (i := 8) rfl)) (hw _ (List.mem_of_getElem? (i := 9) rfl)) (hw _ (List.mem_of_getElem? (i := 4) rfl)) (hw _ (List.mem_of_getElem? (i := 11) rfl)) ar_3 (by decide) rfl rfl rfl rfl (ct_strInit4 hw hE F hlat h0 N (by omega) hl hm) (by first | decide | (dsimp only; omega) | omega) (by first | decide | (dsimp only; omega) | omega) (by first | decide | (dsimp only; omega) | omega) (by first | decide | (dsimp only; omega) | omega) (k0 ?_)
      rintro _ ⟨b, rfl⟩
      refine Wk.return_ d4_9 rfl ?_
      exact ⟨rfl, b, true, false, ⟨fun _ => hlat, fun _ => rfl⟩, rfl⟩
    · refine Wk.special (q := 9) [_, _, _, _] _ 0 d4_6 rfl rfl (hw _ (List.mem_of_getElem? (i := 8) rfl)) (hw _ (List.mem_of_getElem? (i := 9) rfl)) (hw _ (List.mem_of_getElem? (i := 4) rfl)) (hw _ (List.mem_of_getElem? (i := 11) rfl)) ar_3 (by decide) rfl rfl rfl rfl (ct_strInit4u hw hE F hU hc hlat N hN hl hm) (by first | decide | (dsimp only; omega) | omega) (by first | decide | (dsimp only; omega) | omega) (by first | decide | (dsimp only; omega) | omega) (by first | decide | (dsimp only; omega) | omega) (k0 ?_)
      rintro _ ⟨b, rfl⟩
      refine Wk.return_ d4_9 rfl ?_
      exact ⟨rfl, b, true, true, ⟨fun h => Bool.noConfusion h, fun h => absurd h hlat⟩, rfl⟩

theorem b8_back {c : Int32} (h : 0 ≤ c.toInt ∧ c.toInt < 256) : b8 c &&& 255 = c := by
  apply Int32.toInt_inj.mp
  have a := c_mask (b8 c) 255 8 (by decide) (by decide)
  have b := b8_toInt h
  simp only [pw0, pw1, pw8, pw31] at a
  rw [a, b]
  split <;> omega
theorem shr0 (x : Int32) : x >>> ((0 : Int32) &&& 31) = x := by
  apply Int32.toInt_inj.mp
  have a := c_ishr x 0 0 (by decide)
  simp only [pw0, pw1, pw8, pw31] at a
  omega
theorem shr1 {n : Nat} (h : n < 1000000) : (2 * n).toInt32 >>> ((1 : Int32) &&& 31) = n.toInt32 := by
  apply Int32.toInt_inj.mp
  have a := c_ishr (2 * n).toInt32 1 1 (by decide)
  rw [n32 (show 2 * n < 2 ^ 31 by omega)] at a
  rw [n32 (show n < 2 ^ 31 by omega)]
  simp only [pw0, pw1, pw8, pw31] at a
  omega
theorem ct_coder {l : Launch} {Z : State} {a0 : Array Value} (hw : ∀ d ∈ tables_1, d.before a0 Z = true) (hE : EW Z a0 EL0) (F : ∃ z, z ≠ (0 : Int32) ∧ Sta Z Z.heap "java/lang/String" "COMPACT_STRINGS" "Z" (.int z)) {L : Store} {s b : Addr} {f : Bool} {k : Int32} (hk : k = 0 ∨ k = 1) (hs : (s, f, OB Z "java/lang/String" layS [.ref b, .int k]) ∈ L) :
    Ct l Z EL0 (⟨"java/lang/String", "coder", "()B"⟩ : MethodName) jdk_42_method_152_code 1 (some .byte) ({ frames := 0, cells := 0, slots := 0, locals := 0 } : Room) #[.ref s] L (RV fun u M => u = .int k ∧ M = L) := by
  obtain ⟨z, hz, FS⟩ := F
  refine Ct.of (a0 := a0) (Ls := [.val (.ref _)]) (plainFor_of_name pn_1) (fun m => ef_r_1 m _) hE ?_
  refine Wk.getstatic (q := 3) d10_0 rfl (hw _ (List.mem_of_getElem? (i := 48) rfl)) Via.refl FS ?_
  refine Wk.if_f (q := 6) d10_3 rfl (XT.i0_eq_f hz) ?_
  refine Wk.aload_n (q := 7) d10_6 rfl rfl (by first | rfl | assumption) ?_
  refine Wk.getfield (q := 10) (C := "java/lang/String") (lay := layS) 1 d10_7 rfl (hw _ (List.mem_of_getElem? (i := 22) rfl)) Via.refl (by repeat (first | exact List.mem_cons_self | assumption | refine List.mem_cons_of_mem _ ?_)) rfl (by rfl) ?_
  refine Wk.goto (q := 14) d10_10 (by decide) (by decide) ?_
  refine Wk.ireturn (t := .byte) d10_14 rfl (by simp) (by rcases hk with rfl | rfl <;> decide) ?_
  exact ⟨_, rfl, rfl, rfl⟩
theorem ct_len {l : Launch} {Z : State} {a0 : Array Value} (hw : ∀ d ∈ tables_1, d.before a0 Z = true) (hE : EW Z a0 EL0) (F : ∃ z, z ≠ (0 : Int32) ∧ Sta Z Z.heap "java/lang/String" "COMPACT_STRINGS" "Z" (.int z)) {L : Store} {s b : Addr} {f fb : Bool} {k : Int32} {vs : List Value} (hk : k = 0 ∨ k = 1) (hs : (s, f, OB Z "java/lang/String" layS [.ref b, .int k]) ∈ L) (hb : (b, fb, AR Z .byte vs) ∈ L) :
    Ct l Z EL0 (⟨"java/lang/String", "length", "()I"⟩ : MethodName) jdk_42_method_54_code 1 (some .int) ({ frames := 1, cells := 0, slots := 0, locals := 13 } : Room) #[.ref s] L (RV fun u M => u = .int (vs.length.toInt32 >>> (k &&& 31)) ∧ M = L) := by
  refine Ct.of (a0 := a0) (Ls := [.val (.ref _)]) (plainFor_of_name pn_1) (fun m => ef_r_1 m _) hE ?_
  refine Wk.aload_n (q := 1) d11_0 rfl rfl (by first | rfl | assumption) ?_
  refine Wk.getfield (q := 4) (C := "java/lang/String") (lay := layS) 0 d11_1 rfl (hw _ (List.mem_of_getElem? (i := 21) rfl)) Via.refl (by repeat (first | exact List.mem_cons_self | assumption | refine List.mem_cons_of_mem _ ?_)) rfl (by rfl) ?_
  refine Wk.arraylength (q := 5) d11_4 rfl (by repeat (first | exact List.mem_cons_self | assumption | refine List.mem_cons_of_mem _ ?_)) (by rfl) ?_
  refine Wk.aload_n (q := 6) d11_5 rfl rfl (by first | rfl | assumption) ?_
  refine Wk.virtual (q := 9) (C := "java/lang/String") [] _ 1 d11_6 rfl (hw _ (List.mem_of_getElem? (i := 43) rfl)) (hw _ (List.mem_of_getElem? (i := 44) rfl)) (hw _ (List.mem_of_getElem? (i := 46) rfl)) (hw _ (List.mem_of_getElem? (i := 45) rfl)) (hw _ (List.mem_of_getElem? (i := 4) rfl)) (hw _ (List.mem_of_getElem? (i := 47) rfl)) ar_8 (by decide) (nfSel (hw _ (List.mem_of_getElem? (i := 46) rfl))) (by repeat (first | exact List.mem_cons_self | assumption | refine List.mem_cons_of_mem _ ?_)) rfl rfl rfl rfl (ct_coder hw hE F hk hs) (by first | decide | (dsimp only; omega) | omega) (by first | decide | (dsimp only; omega) | omega) (by first | decide | (dsimp only; omega) | omega) (by first | decide | (dsimp only; omega) | omega) (kv ?_)
  rintro _ _ ⟨rfl, rfl⟩
  refine Wk.ishr (q := 10) d11_9 rfl ?_
  refine Wk.ireturn (t := .int) d11_10 rfl (by simp) (by rfl) ?_
  exact ⟨_, rfl, rfl, rfl⟩
theorem ct_lenL {l : Launch} {Z : State} {a0 : Array Value} (hw : ∀ d ∈ tables_1, d.before a0 Z = true) (hE : EW Z a0 EL0) (F : ∃ z, z ≠ (0 : Int32) ∧ Sta Z Z.heap "java/lang/String" "COMPACT_STRINGS" "Z" (.int z)) {L : Store} {s b : Addr} {f fb : Bool} {xs : List Int32} (hs : (s, f, OB Z "java/lang/String" layS [.ref b, .int 0]) ∈ L) (hb : (b, fb, AR Z .byte (xs.map .int)) ∈ L) :
    Ct l Z EL0 (⟨"java/lang/String", "length", "()I"⟩ : MethodName) jdk_42_method_54_code 1 (some .int) ({ frames := 1, cells := 0, slots := 0, locals := 13 } : Room) #[.ref s] L (RV fun u M => u = .int xs.length.toInt32 ∧ M = L) :=
  Ct.imp (fun v M ⟨u, h1, h2, h3⟩ => ⟨u, h1, by rw [h2, shr0]; simp, h3⟩) (ct_len hw hE F (Or.inl rfl) hs hb)

theorem cdr_cases (k : Bool) : cdr k = 0 ∨ cdr k = 1 := by cases k <;> decide
theorem enc_len (k : Bool) (cs : List Int32) (h : cs.length < 1000000) : ((enc k cs).map Value.int).length.toInt32 >>> (cdr k &&& 31) = cs.length.toInt32 := by
  cases k
  · show (((cs.map b8).map Value.int).length.toInt32 >>> ((0 : Int32) &&& 31)) = _
    rw [shr0]; simp
  · show (((u16 cs).map Value.int).length.toInt32 >>> ((1 : Int32) &&& 31)) = _
    rw [List.length_map, u16_len, shr1 h]
theorem ct_lenA {l : Launch} {Z : State} {a0 : Array Value} (hw : ∀ d ∈ tables_1, d.before a0 Z = true) (hE : EW Z a0 EL0) (F : ∃ z, z ≠ (0 : Int32) ∧ Sta Z Z.heap "java/lang/String" "COMPACT_STRINGS" "Z" (.int z)) {L : Store} {s b : Addr} {f fb : Bool} {k : Bool} {cs : List Int32} (hl : cs.length < 1000000) (hs : (s, f, OB Z "java/lang/String" layS [.ref b, .int (cdr k)]) ∈ L) (hb : (b, fb, AR Z .byte ((enc k cs).map .int)) ∈ L) :
    Ct l Z EL0 (⟨"java/lang/String", "length", "()I"⟩ : MethodName) jdk_42_method_54_code 1 (some .int) ({ frames := 1, cells := 0, slots := 0, locals := 13 } : Room) #[.ref s] L (RV fun u M => u = .int cs.length.toInt32 ∧ M = L) :=
  Ct.imp (fun v M ⟨u, h1, h2, h3⟩ => ⟨u, h1, by rw [h2, enc_len k cs hl], h3⟩) (ct_len hw hE F (cdr_cases k) hs hb)
set_option maxHeartbeats 4000000 in
theorem ct_mism1 {l : Launch} {Z : State} {a0 : Array Value} (hw : ∀ d ∈ tables_1, d.before a0 Z = true) (hE : EW Z a0 EL0) {L : Store} {a b : Addr} {fa fb : Bool} {xs : List Int32} {y : Int32} {i : Nat} (hl : xs.length < 2 ^ 31) (hi : i < xs.length) (ha : (a, fa, AR Z .byte (xs.map .int)) ∈ L) (hb : (b, fb, AR Z .byte [.int y]) ∈ L) :
    Ct l Z EL0 (⟨"jdk/internal/util/ArraysSupport", "mismatch", "([BI[BII)I"⟩ : MethodName) jdk_48_method_14_code 8 (some .int) ({ frames := 0, cells := 0, slots := 0, locals := 0 } : Room) #[.ref a, .int i.toInt32, .ref b, .int 0, .int 1] L (RV fun u M => u = .int (if xs[i] = y then -1 else 0) ∧ M = L) := by
  have h3 : i < 2 ^ 31 := by omega
  refine Ct.of (a0 := a0) (Ls := [.val (.ref _), .val (.int _), .val (.ref _), .val (.int _), .val (.int _), .unset, .unset, .unset]) (plainFor_of_name pn_2) (fun m => ef_ririi_8 m _ _ _ _ _) hE ?_
  refine Wk.iconst (q := 1) (0) d12_0 rfl (by decide) ?_
  refine Wk.istore (q := 3) d12_1 rfl (LS1.there (LS1.there (LS1.there (LS1.there (LS1.there (LS1.here (by first | exact One.u | exact One.val rfl | assumption))))))) ?_
  refine Wk.iload (q := 5) d12_3 rfl rfl ?_
  refine Wk.bipush (q := 7) (7) d12_5 rfl (by decide) ?_
  refine Wk.icmp_t (q := 70) d12_7 (by decide) (by decide) (by decide) ?_
  refine Wk.iload (q := 72) d12_70 rfl rfl ?_
  refine Wk.iload (q := 74) d12_72 rfl rfl ?_
  refine Wk.icmp_f (q := 77) d12_74 rfl (by decide) ?_
  refine Wk.aload_n (q := 78) d12_77 rfl rfl (by first | rfl | assumption) ?_
  refine Wk.iload_n (q := 79) d12_78 rfl rfl ?_
  refine Wk.iload (q := 81) d12_79 rfl rfl ?_
  refine Wk.iadd (q := 82) d12_81 rfl ?_
  rw [Int32.add_zero]
  refine Wk.baload (q := 83) (i) d12_82 rfl (by repeat (first | exact List.mem_cons_self | assumption | refine List.mem_cons_of_mem _ ?_)) (n32_nn h3) (n32_nat h3) (show (xs.map Value.int)[i]? = some (.int xs[i]) by simp [hi]) ?_
  refine Wk.aload_n (q := 84) d12_83 rfl rfl (by first | rfl | assumption) ?_
  refine Wk.iload_n (q := 85) d12_84 rfl rfl ?_
  refine Wk.iload (q := 87) d12_85 rfl rfl ?_
  refine Wk.iadd (q := 88) d12_87 rfl ?_
  refine Wk.baload (q := 89) (0) d12_88 rfl (by repeat (first | exact List.mem_cons_self | assumption | refine List.mem_cons_of_mem _ ?_)) (by decide) (by decide) (by rfl) ?_
  refine Wk.icmp_s (q := 95) (q' := 92) d12_89 (by decide) (by decide) rfl ?_ ?_
  · intro (h : xs[i] = y)
    refine Wk.iinc (q := 98) (1) d12_95 rfl (by decide) rfl (LS1.there (LS1.there (LS1.there (LS1.there (LS1.there (LS1.here (by first | exact One.u | exact One.val rfl | assumption))))))) ?_
    refine Wk.goto (q := 70) d12_98 (by decide) (by decide) ?_
    refine Wk.iload (q := 72) d12_70 rfl rfl ?_
    refine Wk.iload (q := 74) d12_72 rfl rfl ?_
    refine Wk.icmp_t (q := 101) d12_74 (by decide) (by decide) (by decide) ?_
    refine Wk.iconst (q := 102) ((-1)) d12_101 rfl (by decide) ?_
    refine Wk.ireturn (t := .int) d12_102 rfl (by simp) (by rfl) ?_
    exact ⟨_, rfl, by rw [if_pos h], rfl⟩
  · intro (h : ¬ xs[i] = y)
    refine Wk.iload (q := 94) d12_92 rfl rfl ?_
    refine Wk.ireturn (t := .int) d12_94 rfl (by simp) (by rfl) ?_
    exact ⟨_, rfl, by rw [if_neg h], rfl⟩

set_option maxHeartbeats 4000000 in
theorem ct_sw2 {l : Launch} {Z : State} {a0 : Array Value} (hw : ∀ d ∈ tables_1, d.before a0 Z = true) (hE : EW Z a0 EL0) (F : ∃ z, z ≠ (0 : Int32) ∧ Sta Z Z.heap "java/lang/String" "COMPACT_STRINGS" "Z" (.int z)) (hU : FU Z) {L : Store} {s b t d : Addr} {f fb ft fd : Bool} {k : Bool} {cs : List Int32} (hc : Chars cs) (hk : k = false ↔ Lat cs) (hl : cs.length < 1000000) (hs : (s, f, OB Z "java/lang/String" layS [.ref b, .int (cdr k)]) ∈ L) (hb : (b, fb, AR Z .byte ((enc k cs).map .int)) ∈ L) (ht : (t, ft, OB Z "java/lang/String" layS [.ref d, .int 0]) ∈ L) (hd : (d, fd, AR Z .byte [.int 38]) ∈ L) :
    Ct l Z EL0 (⟨"java/lang/String", "startsWith", "(Ljava/lang/String;I)Z"⟩ : MethodName) jdk_42_method_75_code 8 (some .boolean) ({ frames := 2, cells := 0, slots := 0, locals := 27 } : Room) #[.ref s, .ref t, .int 0] L (RV fun u M => u = .int (if cs.head? = some 38 then 1 else 0) ∧ M = L) := by
  refine Ct.of (a0 := a0) (Ls := [.val (.ref _), .val (.ref _), .val (.int _), .unset, .unset, .unset, .unset, .unset]) (plainFor_of_name pn_1) (fun m => ef_rri_8 m _ _ _) hE ?_
  refine Wk.iload_n (q := 1) d13_0 rfl rfl ?_
  refine Wk.if_f (q := 4) d13_1 rfl (by decide) ?_
  refine Wk.iload_n (q := 5) d13_4 rfl rfl ?_
  refine Wk.aload_n (q := 6) d13_5 rfl rfl (by first | rfl | assumption) ?_
  refine Wk.virtual (q := 9) (C := "java/lang/String") [] _ 1 d13_6 rfl (hw _ (List.mem_of_getElem? (i := 38) rfl)) (hw _ (List.mem_of_getElem? (i := 39) rfl)) (hw _ (List.mem_of_getElem? (i := 41) rfl)) (hw _ (List.mem_of_getElem? (i := 40) rfl)) (hw _ (List.mem_of_getElem? (i := 4) rfl)) (hw _ (List.mem_of_getElem? (i := 42) rfl)) ar_9 (by decide) (nfSel (hw _ (List.mem_of_getElem? (i := 41) rfl))) (by repeat (first | exact List.mem_cons_self | assumption | refine List.mem_cons_of_mem _ ?_)) rfl rfl rfl rfl (ct_lenA hw hE F hl hs hb) (by first | decide | (dsimp only; omega) | omega) (by first | decide | (dsimp only; omega) | omega) (by first | decide | (dsimp only; omega) | omega) (by first | decide | (dsimp only; omega) | omega) (kv ?_)
  rintro _ _ ⟨rfl, rfl⟩
  refine Wk.aload_n (q := 10) d13_9 rfl rfl (by first | rfl | assumption) ?_
  refine Wk.virtual (q := 13) (C := "java/lang/String") [] _ 2 d13_10 rfl (hw _ (List.mem_of_getElem? (i := 38) rfl)) (hw _ (List.mem_of_getElem? (i := 39) rfl)) (hw _ (List.mem_of_getElem? (i := 41) rfl)) (hw _ (List.mem_of_getElem? (i := 40) rfl)) (hw _ (List.mem_of_getElem? (i := 4) rfl)) (hw _ (List.mem_of_getElem? (i := 42) rfl)) ar_9 (by decide) (nfSel (hw _ (List.mem_of_getElem? (i := 41) rfl))) (by repeat (first | exact List.mem_cons_self | assumption | refine List.mem_cons_of_mem _ ?_)) rfl rfl rfl rfl (ct_lenL hw hE F (xs := [38]) ht hd) (by first | decide | (dsimp only; omega) | omega) (by first | decide | (dsimp only; omega) | omega) (by first | decide | (dsimp only; omega) | omega) (by first | decide | (dsimp only; omega) | omega) (kv ?_)
  rintro _ _ ⟨rfl, rfl⟩
  refine Wk.isub (q := 14) d13_13 rfl ?_
  cases cs with
  | nil =>
    refine Wk.icmp_f (q := 17) d13_14 rfl (XT.ii_le_f (by decide)) ?_
    refine Wk.iconst (q := 18) (0) d13_17 rfl (by decide) ?_
    refine Wk.ireturn (t := .boolean) d13_18 rfl (by simp) (by rfl) ?_
    exact ⟨_, rfl, rfl, rfl⟩
  | cons c rest =>
    have hc0 := hc c List.mem_cons_self
    have hle : ¬ ((c :: rest).length.toInt32 - ([38] : List Int32).length.toInt32) < 0 := by
      have h1 := c_isub (c :: rest).length.toInt32 ([38] : List Int32).length.toInt32
      rw [n32 (show (c :: rest).length < 2 ^ 31 by omega)] at h1
      have h2 : (([38] : List Int32).length.toInt32).toInt = 1 := by decide
      have r := rng32 ((c :: rest).length.toInt32 - ([38] : List Int32).length.toInt32)
      have h4 : 0 < (c :: rest).length := by simp
      rw [h2] at h1
      rw [Int32.lt_iff_toInt_lt]
      show ¬ _ < (0 : Int)
      omega
    refine Wk.icmp_t (q := 19) d13_14 (by decide) (by decide) (XT.ii_le_t hle) ?_
    refine Wk.aload_n (q := 20) d13_19 rfl rfl (by first | rfl | assumption) ?_
    refine Wk.getfield (q := 23) (C := "java/lang/String") (lay := layS) 0 d13_20 rfl (hw _ (List.mem_of_getElem? (i := 21) rfl)) Via.refl (by repeat (first | exact List.mem_cons_self | assumption | refine List.mem_cons_of_mem _ ?_)) rfl (by rfl) ?_
    refine Wk.astore_n (q := 24) d13_23 rfl (by first | rfl | assumption) (LS1.there (LS1.there (LS1.there (LS1.here (by first | exact One.u | exact One.val rfl | assumption))))) ?_
    refine Wk.aload_n (q := 25) d13_24 rfl rfl (by first | rfl | assumption) ?_
    refine Wk.getfield (q := 28) (C := "java/lang/String") (lay := layS) 0 d13_25 rfl (hw _ (List.mem_of_getElem? (i := 21) rfl)) Via.refl (by repeat (first | exact List.mem_cons_self | assumption | refine List.mem_cons_of_mem _ ?_)) rfl (by rfl) ?_
    refine Wk.astore (q := 30) d13_28 rfl (by first | rfl | assumption) (LS1.there (LS1.there (LS1.there (LS1.there (LS1.here (by first | exact One.u | exact One.val rfl | assumption)))))) ?_
    refine Wk.iconst (q := 31) (0) d13_30 rfl (by decide) ?_
    refine Wk.istore (q := 33) d13_31 rfl (LS1.there (LS1.there (LS1.there (LS1.there (LS1.there (LS1.here (by first | exact One.u | exact One.val rfl | assumption))))))) ?_
    refine Wk.aload (q := 35) d13_33 rfl rfl (by first | rfl | assumption) ?_
    refine Wk.arraylength (q := 36) d13_35 rfl (by repeat (first | exact List.mem_cons_self | assumption | refine List.mem_cons_of_mem _ ?_)) (show ([Value.int 38] : List Value).length.toInt32 = 1 by decide) ?_
    refine Wk.istore (q := 38) d13_36 rfl (LS1.there (LS1.there (LS1.there (LS1.there (LS1.there (LS1.there (LS1.here (by first | exact One.u | exact One.val rfl | assumption)))))))) ?_
    refine Wk.aload_n (q := 39) d13_38 rfl rfl (by first | rfl | assumption) ?_
    refine Wk.virtual (q := 42) (C := "java/lang/String") [] _ 0 d13_39 rfl (hw _ (List.mem_of_getElem? (i := 43) rfl)) (hw _ (List.mem_of_getElem? (i := 44) rfl)) (hw _ (List.mem_of_getElem? (i := 46) rfl)) (hw _ (List.mem_of_getElem? (i := 45) rfl)) (hw _ (List.mem_of_getElem? (i := 4) rfl)) (hw _ (List.mem_of_getElem? (i := 47) rfl)) ar_8 (by decide) (nfSel (hw _ (List.mem_of_getElem? (i := 46) rfl))) (by repeat (first | exact List.mem_cons_self | assumption | refine List.mem_cons_of_mem _ ?_)) rfl rfl rfl rfl (ct_coder hw hE F (cdr_cases k) hs) (by first | decide | (dsimp only; omega) | omega) (by first | decide | (dsimp only; omega) | omega) (by first | decide | (dsimp only; omega) | omega) (by first | decide | (dsimp only; omega) | omega) (kv ?_)
    rintro _ _ ⟨rfl, rfl⟩
    refine Wk.istore (q := 44) d13_42 rfl (LS1.there (LS1.there (LS1.there (LS1.there (LS1.there (LS1.there (LS1.there (LS1.here (by first | exact One.u | exact One.val rfl | assumption))))))))) ?_
    refine Wk.iload (q := 46) d13_44 rfl rfl ?_
    refine Wk.aload_n (q := 47) d13_46 rfl rfl (by first | rfl | assumption) ?_
    refine Wk.virtual (q := 50) (C := "java/lang/String") [] _ 1 d13_47 rfl (hw _ (List.mem_of_getElem? (i := 43) rfl)) (hw _ (List.mem_of_getElem? (i := 44) rfl)) (hw _ (List.mem_of_getElem? (i := 46) rfl)) (hw _ (List.mem_of_getElem? (i := 45) rfl)) (hw _ (List.mem_of_getElem? (i := 4) rfl)) (hw _ (List.mem_of_getElem? (i := 47) rfl)) ar_8 (by decide) (nfSel (hw _ (List.mem_of_getElem? (i := 46) rfl))) (by repeat (first | exact List.mem_cons_self | assumption | refine List.mem_cons_of_mem _ ?_)) rfl rfl rfl rfl (ct_coder hw hE F (Or.inl rfl) ht) (by first | decide | (dsimp only; omega) | omega) (by first | decide | (dsimp only; omega) | omega) (by first | decide | (dsimp only; omega) | omega) (by first | decide | (dsimp only; omega) | omega) (kv ?_)
    rintro _ _ ⟨rfl, rfl⟩
    cases k with
    | false =>
      have hlat : Lat (c :: rest) := hk.mp rfl
      refine Wk.icmp_f (q := 53) d13_50 rfl (by decide) ?_
      refine Wk.iload (q := 55) d13_53 rfl rfl ?_
      refine Wk.iconst (q := 56) (1) d13_55 rfl (by decide) ?_
      refine Wk.icmp_t (q := 63) d13_56 (by decide) (by decide) (by decide) ?_
      refine Wk.aload_n (q := 64) d13_63 rfl rfl (by first | rfl | assumption) ?_
      refine Wk.iload_n (q := 65) d13_64 rfl rfl ?_
      refine Wk.aload (q := 67) d13_65 rfl rfl (by first | rfl | assumption) ?_
      refine Wk.iconst (q := 68) (0) d13_67 rfl (by decide) ?_
      refine Wk.iload (q := 70) d13_68 rfl rfl ?_
      refine Wk.static (q := 73) [_, _, _, _, _] _ 0 d13_70 rfl (hw _ (List.mem_of_getElem? (i := 59) rfl)) (hw _ (List.mem_of_getElem? (i := 60) rfl)) (hw _ (List.mem_of_getElem? (i := 61) rfl)) (hw _ (List.mem_of_getElem? (i := 62) rfl)) ar_10 (by decide) rfl rfl rfl rfl (ct_mism1 hw hE (xs := (c :: rest).map b8) (i := 0) (by rw [List.length_map]; omega) (by simp) hb hd) (by first | decide | (dsimp only; omega) | omega) (by first | decide | (dsimp only; omega) | omega) (by first | decide | (dsimp only; omega) | omega) (by first | decide | (dsimp only; omega) | omega) (kv ?_)
      rintro _ _ ⟨rfl, rfl⟩
      have e : ((c :: rest).map b8)[0] = 38 ↔ c = 38 := b8_iff (hlat c List.mem_cons_self) (by decide : 0 ≤ (38 : Int32).toInt ∧ (38 : Int32).toInt < 256) (by decide)
      by_cases h : c = 38
      · rw [if_pos (e.mpr h)]
        refine Wk.if_f (q := 76) d13_73 rfl (by decide) ?_
        refine Wk.iconst (q := 77) (1) d13_76 rfl (by decide) ?_
        refine Wk.goto (q := 81) d13_77 (by decide) (by decide) ?_
        refine Wk.ireturn (t := .boolean) d13_81 rfl (by simp) (by rfl) ?_
        exact ⟨_, rfl, by subst h; rfl, rfl⟩
      · rw [if_neg (fun q => h (e.mp q))]
        refine Wk.if_t (q := 80) d13_73 (by decide) (by decide) (by decide) ?_
        refine Wk.iconst (q := 81) (0) d13_80 rfl (by decide) ?_
        refine Wk.ireturn (t := .boolean) d13_81 rfl (by simp) (by rfl) ?_
        exact ⟨_, rfl, by rw [if_neg]; simpa using h, rfl⟩
    | true =>
      refine Wk.icmp_t (q := 82) d13_50 (by decide) (by decide) (by decide) ?_
      refine Wk.iload (q := 84) d13_82 rfl rfl ?_
      refine Wk.if_t (q := 89) d13_84 (by decide) (by decide) (by decide) ?_
      refine Wk.iload (q := 91) d13_89 rfl rfl ?_
      refine Wk.iload (q := 93) d13_91 rfl rfl ?_
      refine Wk.icmp_f (q := 96) d13_93 rfl (by decide) ?_
      refine Wk.aload_n (q := 97) d13_96 rfl rfl (by first | rfl | assumption) ?_
      refine Wk.iload_n (q := 98) d13_97 rfl rfl ?_
      refine Wk.iinc (q := 101) (1) d13_98 rfl (by decide) rfl (LS1.there (LS1.there (LS1.here (by first | exact One.u | exact One.val rfl | assumption)))) ?_
      refine Wk.static (q := 104) [_, _] _ 0 d13_101 rfl (hw _ (List.mem_of_getElem? (i := 82) rfl)) (hw _ (List.mem_of_getElem? (i := 80) rfl)) (hw _ (List.mem_of_getElem? (i := 51) rfl)) (hw _ (List.mem_of_getElem? (i := 81) rfl)) ar_7 (by decide) rfl rfl rfl rfl (ct_getChar hw hE hU hc hl (i := 0) (by simp) hb) (by first | decide | (dsimp only; omega) | omega) (by first | decide | (dsimp only; omega) | omega) (by first | decide | (dsimp only; omega) | omega) (by first | decide | (dsimp only; omega) | omega) (kv ?_)
      rintro _ _ ⟨rfl, rfl⟩
      refine Wk.aload (q := 106) d13_104 rfl rfl (by first | rfl | assumption) ?_
      refine Wk.iload (q := 108) d13_106 rfl rfl ?_
      refine Wk.iinc (q := 111) (1) d13_108 rfl (by decide) rfl (LS1.there (LS1.there (LS1.there (LS1.there (LS1.there (LS1.here (by first | exact One.u | exact One.val rfl | assumption))))))) ?_
      refine Wk.baload (q := 112) (0) d13_111 rfl (by repeat (first | exact List.mem_cons_self | assumption | refine List.mem_cons_of_mem _ ?_)) (by decide) (by decide) (by rfl) ?_
      refine Wk.sipush (q := 115) (255) d13_112 rfl (by decide) ?_
      refine Wk.iand (q := 116) d13_115 rfl ?_
      refine Wk.icmp_s (q := 89) (q' := 119) d13_116 (by decide) (by decide) rfl ?_ ?_
      · intro (h : c = 38)
        refine Wk.iload (q := 91) d13_89 rfl rfl ?_
        refine Wk.iload (q := 93) d13_91 rfl rfl ?_
        refine Wk.icmp_t (q := 121) d13_93 (by decide) (by decide) (by decide) ?_
        refine Wk.iconst (q := 122) (1) d13_121 rfl (by decide) ?_
        refine Wk.ireturn (t := .boolean) d13_122 rfl (by simp) (by rfl) ?_
        exact ⟨_, rfl, by subst h; rfl, rfl⟩
      · intro (h : ¬ c = 38)
        refine Wk.iconst (q := 120) (0) d13_119 rfl (by decide) ?_
        refine Wk.ireturn (t := .boolean) d13_120 rfl (by simp) (by rfl) ?_
        exact ⟨_, rfl, by rw [if_neg]; simpa using h, rfl⟩
theorem ct_sw1 {l : Launch} {Z : State} {a0 : Array Value} (hw : ∀ d ∈ tables_1, d.before a0 Z = true) (hE : EW Z a0 EL0) (F : ∃ z, z ≠ (0 : Int32) ∧ Sta Z Z.heap "java/lang/String" "COMPACT_STRINGS" "Z" (.int z)) (hU : FU Z) {L : Store} {s b t d : Addr} {f fb ft fd : Bool} {k : Bool} {cs : List Int32} (hc : Chars cs) (hk : k = false ↔ Lat cs) (hl : cs.length < 1000000) (hs : (s, f, OB Z "java/lang/String" layS [.ref b, .int (cdr k)]) ∈ L) (hb : (b, fb, AR Z .byte ((enc k cs).map .int)) ∈ L) (ht : (t, ft, OB Z "java/lang/String" layS [.ref d, .int 0]) ∈ L) (hd : (d, fd, AR Z .byte [.int 38]) ∈ L) :
    Ct l Z EL0 (⟨"java/lang/String", "startsWith", "(Ljava/lang/String;)Z"⟩ : MethodName) jdk_42_method_76_code 2 (some .boolean) ({ frames := 3, cells := 0, slots := 0, locals := 46 } : Room) #[.ref s, .ref t] L (RV fun u M => u = .int (if cs.head? = some 38 then 1 else 0) ∧ M = L) := by
  refine Ct.of (a0 := a0) (Ls := [.val (.ref _), .val (.ref _)]) (plainFor_of_name pn_1) (fun m => ef_rr_2 m _ _) hE ?_
  refine Wk.aload_n (q := 1) d14_0 rfl rfl (by first | rfl | assumption) ?_
  refine Wk.aload_n (q := 2) d14_1 rfl rfl (by first | rfl | assumption) ?_
  refine Wk.iconst (q := 3) (0) d14_2 rfl (by decide) ?_
  refine Wk.virtual (q := 6) (C := "java/lang/String") [_, _] _ 0 d14_3 rfl (hw _ (List.mem_of_getElem? (i := 33) rfl)) (hw _ (List.mem_of_getElem? (i := 34) rfl)) (hw _ (List.mem_of_getElem? (i := 36) rfl)) (hw _ (List.mem_of_getElem? (i := 35) rfl)) (hw _ (List.mem_of_getElem? (i := 4) rfl)) (hw _ (List.mem_of_getElem? (i := 37) rfl)) ar_11 (by decide) (nfSel (hw _ (List.mem_of_getElem? (i := 36) rfl))) (by repeat (first | exact List.mem_cons_self | assumption | refine List.mem_cons_of_mem _ ?_)) rfl rfl rfl rfl (ct_sw2 hw hE F hU hc hk hl hs hb ht hd) (by first | decide | (dsimp only; omega) | omega) (by first | decide | (dsimp only; omega) | omega) (by first | decide | (dsimp only; omega) | omega) (by first | decide | (dsimp only; omega) | omega) (kv ?_)
  rintro _ _ ⟨rfl, rfl⟩
  refine Wk.ireturn (t := .boolean) d14_6 rfl (by simp) (by split <;> decide) ?_
  exact ⟨_, rfl, rfl, rfl⟩
theorem ct_isFac0 {l : Launch} {Z : State} {a0 : Array Value} (hw : ∀ d ∈ tables_1, d.before a0 Z = true) (hE : EW Z a0 EL0) {L : Store} : Ct l Z EL0 (⟨"com/example/tendril/tendril/FactoryBeans", "isFactoryName", "(Ljava/lang/String;)Z"⟩ : MethodName) prog_21_method_4_code 1 (some .boolean) ({ frames := 4, cells := 2, slots := 8, locals := 59 } : Room) #[.null] L (RV fun u M => u = .int 0) := by
  refine Ct.of (a0 := a0) (Ls := [.val .null]) (plainFor_of_name pn_3) (fun m => ef_n_1 m) hE ?_
  refine Wk.aload_n (q := 1) d15_0 rfl rfl (by first | rfl | assumption) ?_
  refine Wk.null_t (q := 17) d15_1 (by decide) (by decide)  ?_
  refine Wk.iconst (q := 18) (0) d15_17 rfl (by decide) ?_
  refine Wk.ireturn (t := .boolean) d15_18 rfl (by simp) (by rfl) ?_
  exact ⟨_, rfl, rfl⟩
set_option maxHeartbeats 4000000 in
theorem ct_isFac {l : Launch} {Z : State} {a0 : Array Value} (hw : ∀ d ∈ tables_1, d.before a0 Z = true) (hE : EW Z a0 EL0) (F : ∃ z, z ≠ (0 : Int32) ∧ Sta Z Z.heap "java/lang/String" "COMPACT_STRINGS" "Z" (.int z)) (hU : FU Z) {L : Store} {s b : Addr} {f fb : Bool} {k : Bool} {cs : List Int32} (hc : Chars cs) (hk : k = false ↔ Lat cs) (hl : cs.length < 1000000) (hs : (s, f, OB Z "java/lang/String" layS [.ref b, .int (cdr k)]) ∈ L) (hb : (b, fb, AR Z .byte ((enc k cs).map .int)) ∈ L) :
    Ct l Z EL0 (⟨"com/example/tendril/tendril/FactoryBeans", "isFactoryName", "(Ljava/lang/String;)Z"⟩ : MethodName) prog_21_method_4_code 1 (some .boolean) ({ frames := 4, cells := 2, slots := 8, locals := 59 } : Room) #[.ref s] L (RV fun u M => u = .int (if cs.head? = some 38 then 1 else 0)) := by
  refine Ct.of (a0 := a0) (Ls := [.val (.ref _)]) (plainFor_of_name pn_3) (fun m => ef_r_1 m _) hE ?_
  refine Wk.aload_n (q := 1) d15_0 rfl rfl (by first | rfl | assumption) ?_
  refine Wk.null_f (q := 4) d15_1 rfl  ?_
  refine Wk.aload_n (q := 5) d15_4 rfl rfl (by first | rfl | assumption) ?_
  refine Wk.ldcS (q := 7) 4 [.int 38] 1 d15_5 rfl (hw _ (List.mem_of_getElem? (i := 27) rfl)) (wS hw) (by decide +kernel) (by decide +kernel) (by decide) (by decide) (by decide +kernel) (by decide) (by first | decide | (dsimp only; omega) | omega) (by first | decide | (dsimp only; omega) | omega) ?_
  intro t d
  refine Wk.virtual (q := 10) (C := "java/lang/String") [_] _ 0 d15_7 rfl (hw _ (List.mem_of_getElem? (i := 28) rfl)) (hw _ (List.mem_of_getElem? (i := 29) rfl)) (hw _ (List.mem_of_getElem? (i := 31) rfl)) (hw _ (List.mem_of_getElem? (i := 30) rfl)) (hw _ (List.mem_of_getElem? (i := 4) rfl)) (hw _ (List.mem_of_getElem? (i := 32) rfl)) ar_12 (by decide) (nfSel (hw _ (List.mem_of_getElem? (i := 31) rfl))) (by repeat (first | exact List.mem_cons_self | assumption | refine List.mem_cons_of_mem _ ?_)) rfl rfl rfl rfl (ct_sw1 hw hE F hU hc hk hl (by repeat (first | exact List.mem_cons_self | assumption | refine List.mem_cons_of_mem _ ?_)) (by repeat (first | exact List.mem_cons_self | assumption | refine List.mem_cons_of_mem _ ?_)) (by repeat (first | exact List.mem_cons_self | assumption | refine List.mem_cons_of_mem _ ?_)) (by repeat (first | exact List.mem_cons_self | assumption | refine List.mem_cons_of_mem _ ?_))) (by first | decide | (dsimp only; omega) | omega) (by first | decide | (dsimp only; omega) | omega) (by first | decide | (dsimp only; omega) | omega) (by first | decide | (dsimp only; omega) | omega) (kv ?_)
  rintro _ _ ⟨rfl, rfl⟩
  by_cases h : cs.head? = some 38
  · simp only [if_pos h]
    refine Wk.if_f (q := 13) d15_10 rfl (by decide) ?_
    refine Wk.iconst (q := 14) (1) d15_13 rfl (by decide) ?_
    refine Wk.goto (q := 18) d15_14 (by decide) (by decide) ?_
    refine Wk.ireturn (t := .boolean) d15_18 rfl (by simp) (by rfl) ?_
    exact ⟨_, rfl, rfl⟩
  · simp only [if_neg h]
    refine Wk.if_t (q := 17) d15_10 (by decide) (by decide) (by decide) ?_
    refine Wk.iconst (q := 18) (0) d15_17 rfl (by decide) ?_
    refine Wk.ireturn (t := .boolean) d15_18 rfl (by simp) (by rfl) ?_
    exact ⟨_, rfl, rfl⟩
theorem ch16 (x : Int32) : 0 ≤ (x.toUInt32.toUInt16.toUInt32.toInt32).toInt ∧ (x.toUInt32.toUInt16.toUInt32.toInt32).toInt < 65536 := (c_i2c x).2
theorem chs_nil : Chars [] := fun _ h => nomatch h
theorem chs_cons {c : Int32} {cs : List Int32} (h : 0 ≤ c.toInt ∧ c.toInt < 65536) (t : Chars cs) : Chars (c :: cs) := fun x hx => (List.mem_cons.mp hx).elim (fun e => e ▸ h) (t x)
set_option maxRecDepth 65536 in
set_option maxHeartbeats 4000000 in
theorem ct_law {l : Launch} {Z : State} {a0 : Array Value} (hw : ∀ d ∈ tables_1, d.before a0 Z = true) (hE : EW Z a0 EL0) (F : ∃ z, z ≠ (0 : Int32) ∧ Sta Z Z.heap "java/lang/String" "COMPACT_STRINGS" "Z" (.int z)) (hU : FU Z) (i0 i1 i2 i3 : Int32) :
    Ct l Z EL0 x code 17 (some .boolean) room_1 #[.int i0, .int i1, .int i2, .int i3] [] (RV fun u M => u = .int 1) := by
  refine Ct.of (a0 := a0) (Ls := [.val (.int _), .val (.int _), .val (.int _), .val (.int _), .unset, .unset, .unset, .unset, .unset, .unset, .unset, .unset, .unset, .unset, .unset, .unset, .unset]) (plainFor_of_name pn_4) (fun m => ef_iiii_17 m _ _ _ _) hE ?_
  refine Wk.iload_n (q := 1) at_0 rfl rfl ?_
  refine Wk.iconst (q := 2) (3) at_1 rfl (by decide) ?_
  refine Wk.iand (q := 3) at_2 rfl ?_
  refine Wk.istore (q := 5) at_3 rfl (LS1.there (LS1.there (LS1.there (LS1.there (LS1.here (by first | exact One.u | exact One.val rfl | assumption)))))) ?_
  refine Wk.iload_n (q := 6) at_5 rfl rfl ?_
  refine Wk.iconst (q := 7) (2) at_6 rfl (by decide) ?_
  refine Wk.iushr (q := 8) at_7 rfl ?_
  refine Wk.iconst (q := 9) (3) at_8 rfl (by decide) ?_
  refine Wk.iand (q := 10) at_9 rfl ?_
  generalize XT.ushr i0 2 &&& 3 = n
  generalize i0 &&& 3 = kd
  have fin : ∀ (nl fa x0 x1 x2 e : Int32) (A0 A1 A2 A3 : Addr) (sv : Value) (M : Store) (cb sb : Nat), Wk l Z a0 EL0 x code 17 (some .boolean) room_1 (RV fun u M => u = .int 1) M cb sb 241 [.val (.int i0), .val (.int i1), .val (.int i2), .val (.int i3), .val (.int kd), .val (.int n), .val (.int nl), .val (.int fa), .val (.int x0), .val (.int x1), .val (.int x2), .val (.ref A0), .val (.ref A1), .val (.ref A2), .val (.ref A3), .val sv, .val (.int e)] [.int e] := by
    intro nl fa x0 x1 x2 e A0 A1 A2 A3 sv M cb sb
    refine Wk.iload (q := 243) at_241 rfl rfl ?_
    refine Wk.icmp_f (q := 246) at_243 rfl (XT.ii_ne_f rfl) ?_
    refine Wk.iconst (q := 247) (1) at_246 rfl (by decide) ?_
    refine Wk.goto (q := 251) at_247 (by decide) (by decide) ?_
    refine Wk.ireturn (t := .boolean) at_251 rfl (by simp) (by rfl) ?_
    exact ⟨_, rfl, rfl⟩
  have join200 : ∀ (fa x0 x1 x2 : Int32) (A0 A1 A2 A3 s b : Addr) (fb k : Bool) (cs : List Int32), Chars cs → (k = false ↔ Lat cs) → cs.length < 1000000 → ((n = 0 ∧ cs = []) ∨ (¬ n = 0 ∧ cs.head? = some x0)) →
      Wk l Z a0 EL0 x code 17 (some .boolean) room_1 (RV fun u M => u = .int 1) [(s, true, OB Z "java/lang/String" layS [.ref b, .int (cdr k)]), (b, fb, AR Z .byte ((enc k cs).map .int))] 2 8 200 [.val (.int i0), .val (.int i1), .val (.int i2), .val (.int i3), .val (.int kd), .val (.int n), .val (.int 0), .val (.int fa), .val (.int x0), .val (.int x1), .val (.int x2), .val (.ref A0), .val (.ref A1), .val (.ref A2), .val (.ref A3), .val (.ref s), .unset] [] := by
    intro fa x0 x1 x2 A0 A1 A2 A3 s b fb k cs hc hk hl hn
    refine Wk.iload (q := 202) at_200 rfl rfl ?_
    refine Wk.if_t (q := 211) at_202 (by decide) (by decide) (by decide) ?_
    refine Wk.iload (q := 213) at_211 rfl rfl ?_
    rcases hn with ⟨hn, rfl⟩ | ⟨hn, hh⟩
    · refine Wk.if_f (q := 216) at_213 rfl (XT.i0_ne_f hn) ?_
      refine Wk.iconst (q := 217) (0) at_216 rfl (by decide) ?_
      refine Wk.istore (q := 219) at_217 rfl (LS1.there (LS1.there (LS1.there (LS1.there (LS1.there (LS1.there (LS1.there (LS1.there (LS1.there (LS1.there (LS1.there (LS1.there (LS1.there (LS1.there (LS1.there (LS1.there (LS1.here (by first | exact One.u | exact One.val rfl | assumption)))))))))))))))))) ?_
      refine Wk.goto (q := 236) at_219 (by decide) (by decide) ?_
      refine Wk.aload (q := 238) at_236 rfl rfl (by first | rfl | assumption) ?_
      refine Wk.static (q := 241) [_] _ 0 at_238 rfl (hw _ (List.mem_of_getElem? (i := 23) rfl)) (hw _ (List.mem_of_getElem? (i := 24) rfl)) (hw _ (List.mem_of_getElem? (i := 25) rfl)) (hw _ (List.mem_of_getElem? (i := 26) rfl)) ar_12 (by decide) rfl rfl rfl rfl (ct_isFac hw hE F hU hc hk hl (by repeat (first | exact List.mem_cons_self | assumption | refine List.mem_cons_of_mem _ ?_)) (by repeat (first | exact List.mem_cons_self | assumption | refine List.mem_cons_of_mem _ ?_))) (by first | decide | (dsimp only; omega) | omega) (by first | decide | (dsimp only; omega) | omega) (by first | decide | (dsimp only; omega) | omega) (by first | decide | (dsimp only; omega) | omega) (kv ?_)
      rintro _ M rfl
      exact fin 0 fa x0 x1 x2 0 A0 A1 A2 A3 (.ref s) M _ _
    · refine Wk.if_t (q := 222) at_213 (by decide) (by decide) (XT.i0_ne_t hn) ?_
      refine Wk.iload (q := 224) at_222 rfl rfl ?_
      refine Wk.bipush (q := 226) (38) at_224 rfl (by decide) ?_
      refine Wk.icmp_s (q := 233) (q' := 229) at_226 (by decide) (by decide) rfl ?_ ?_
      · intro (h : ¬ x0 = 38)
        refine Wk.iconst (q := 234) (0) at_233 rfl (by decide) ?_
        refine Wk.istore (q := 236) at_234 rfl (LS1.there (LS1.there (LS1.there (LS1.there (LS1.there (LS1.there (LS1.there (LS1.there (LS1.there (LS1.there (LS1.there (LS1.there (LS1.there (LS1.there (LS1.there (LS1.there (LS1.here (by first | exact One.u | exact One.val rfl | assumption)))))))))))))))))) ?_
        refine Wk.aload (q := 238) at_236 rfl rfl (by first | rfl | assumption) ?_
        refine Wk.static (q := 241) [_] _ 0 at_238 rfl (hw _ (List.mem_of_getElem? (i := 23) rfl)) (hw _ (List.mem_of_getElem? (i := 24) rfl)) (hw _ (List.mem_of_getElem? (i := 25) rfl)) (hw _ (List.mem_of_getElem? (i := 26) rfl)) ar_12 (by decide) rfl rfl rfl rfl (ct_isFac hw hE F hU hc hk hl (by repeat (first | exact List.mem_cons_self | assumption | refine List.mem_cons_of_mem _ ?_)) (by repeat (first | exact List.mem_cons_self | assumption | refine List.mem_cons_of_mem _ ?_))) (by first | decide | (dsimp only; omega) | omega) (by first | decide | (dsimp only; omega) | omega) (by first | decide | (dsimp only; omega) | omega) (by first | decide | (dsimp only; omega) | omega) (kv ?_)
        rintro _ M rfl
        rw [if_neg (by rw [hh]; simpa using h)]
        exact fin 0 fa x0 x1 x2 0 A0 A1 A2 A3 (.ref s) M _ _
      · intro (h : x0 = 38)
        refine Wk.iconst (q := 230) (1) at_229 rfl (by decide) ?_
        refine Wk.goto (q := 234) at_230 (by decide) (by decide) ?_
        refine Wk.istore (q := 236) at_234 rfl (LS1.there (LS1.there (LS1.there (LS1.there (LS1.there (LS1.there (LS1.there (LS1.there (LS1.there (LS1.there (LS1.there (LS1.there (LS1.there (LS1.there (LS1.there (LS1.there (LS1.here (by first | exact One.u | exact One.val rfl | assumption)))))))))))))))))) ?_
        refine Wk.aload (q := 238) at_236 rfl rfl (by first | rfl | assumption) ?_
        refine Wk.static (q := 241) [_] _ 0 at_238 rfl (hw _ (List.mem_of_getElem? (i := 23) rfl)) (hw _ (List.mem_of_getElem? (i := 24) rfl)) (hw _ (List.mem_of_getElem? (i := 25) rfl)) (hw _ (List.mem_of_getElem? (i := 26) rfl)) ar_12 (by decide) rfl rfl rfl rfl (ct_isFac hw hE F hU hc hk hl (by repeat (first | exact List.mem_cons_self | assumption | refine List.mem_cons_of_mem _ ?_)) (by repeat (first | exact List.mem_cons_self | assumption | refine List.mem_cons_of_mem _ ?_))) (by first | decide | (dsimp only; omega) | omega) (by first | decide | (dsimp only; omega) | omega) (by first | decide | (dsimp only; omega) | omega) (by first | decide | (dsimp only; omega) | omega) (kv ?_)
        rintro _ M rfl
        rw [if_pos (by rw [hh, h])]
        exact fin 0 fa x0 x1 x2 1 A0 A1 A2 A3 (.ref s) M _ _
  have join53 : ∀ (nl fa c : Int32), (nl = 0 ∨ nl = 1) → (0 ≤ c.toInt ∧ c.toInt < 65536) → Wk l Z a0 EL0 x code 17 (some .boolean) room_1 (RV fun u M => u = .int 1) [] 24 400 53 [.val (.int i0), .val (.int i1), .val (.int i2), .val (.int i3), .val (.int kd), .val (.int n), .val (.int nl), .val (.int fa), .unset, .unset, .unset, .unset, .unset, .unset, .unset, .unset, .unset] [.int c] := by
    intro nl fa x0 hnl h0
    refine Wk.istore (q := 55) at_53 rfl (LS1.there (LS1.there (LS1.there (LS1.there (LS1.there (LS1.there (LS1.there (LS1.there (LS1.here (by first | exact One.u | exact One.val rfl | assumption)))))))))) ?_
    refine Wk.iload_n (q := 56) at_55 rfl rfl ?_
    refine Wk.ldc_int (q := 58) at_56 rfl (hw _ (List.mem_of_getElem? (i := 0) rfl)) ?_
    refine Wk.iand (q := 59) at_58 rfl ?_
    refine Wk.i2c (q := 60) at_59 rfl ?_
    have h1 := ch16 (i2 &&& 65535)
    generalize (i2 &&& 65535).toUInt32.toUInt16.toUInt32.toInt32 = x1 at *
    refine Wk.istore (q := 62) at_60 rfl (LS1.there (LS1.there (LS1.there (LS1.there (LS1.there (LS1.there (LS1.there (LS1.there (LS1.there (LS1.here (by first | exact One.u | exact One.val rfl | assumption))))))))))) ?_
    refine Wk.iload_n (q := 63) at_62 rfl rfl ?_
    refine Wk.ldc_int (q := 65) at_63 rfl (hw _ (List.mem_of_getElem? (i := 0) rfl)) ?_
    refine Wk.iand (q := 66) at_65 rfl ?_
    refine Wk.i2c (q := 67) at_66 rfl ?_
    have h2 := ch16 (i3 &&& 65535)
    generalize (i3 &&& 65535).toUInt32.toUInt16.toUInt32.toInt32 = x2 at *
    refine Wk.istore (q := 69) at_67 rfl (LS1.there (LS1.there (LS1.there (LS1.there (LS1.there (LS1.there (LS1.there (LS1.there (LS1.there (LS1.there (LS1.here (by first | exact One.u | exact One.val rfl | assumption)))))))))))) ?_
    refine Wk.iconst (q := 70) (0) at_69 rfl (by decide) ?_
    refine Wk.newarray (q := 72) .char (0) [] at_70 rfl rfl rfl (hw _ (List.mem_of_getElem? (i := 1) rfl)) (by decide) (by decide) (by decide) (by first | decide | (dsimp only; omega) | omega) (by first | decide | (dsimp only; omega) | omega) ?_
    intro A0
    refine Wk.astore (q := 74) at_72 rfl (by first | rfl | assumption) (LS1.there (LS1.there (LS1.there (LS1.there (LS1.there (LS1.there (LS1.there (LS1.there (LS1.there (LS1.there (LS1.there (LS1.here (by first | exact One.u | exact One.val rfl | assumption))))))))))))) ?_
    refine Wk.iconst (q := 75) (1) at_74 rfl (by decide) ?_
    refine Wk.newarray (q := 77) .char (1) [(.int 0)] at_75 rfl rfl rfl (hw _ (List.mem_of_getElem? (i := 1) rfl)) (by decide) (by decide) (by decide) (by first | decide | (dsimp only; omega) | omega) (by first | decide | (dsimp only; omega) | omega) ?_
    intro A1
    refine Wk.dup (q := 78) at_77 rfl rfl ?_
    refine Wk.iconst (q := 79) (0) at_78 rfl (by decide) ?_
    refine Wk.iload (q := 81) at_79 rfl rfl ?_
    refine Wk.castore (q := 82) (0) at_81 rfl (by repeat (first | exact Ex.here | assumption | apply Ex.there)) (by decide) (by decide) (nchar16 h0) (VS.here) ?_
    refine Wk.astore (q := 84) at_82 rfl (by first | rfl | assumption) (LS1.there (LS1.there (LS1.there (LS1.there (LS1.there (LS1.there (LS1.there (LS1.there (LS1.there (LS1.there (LS1.there (LS1.there (LS1.here (by first | exact One.u | exact One.val rfl | assumption)))))))))))))) ?_
    refine Wk.iconst (q := 85) (2) at_84 rfl (by decide) ?_
    refine Wk.newarray (q := 87) .char (2) [(.int 0), (.int 0)] at_85 rfl rfl rfl (hw _ (List.mem_of_getElem? (i := 1) rfl)) (by decide) (by decide) (by decide) (by first | decide | (dsimp only; omega) | omega) (by first | decide | (dsimp only; omega) | omega) ?_
    intro A2
    refine Wk.dup (q := 88) at_87 rfl rfl ?_
    refine Wk.iconst (q := 89) (0) at_88 rfl (by decide) ?_
    refine Wk.iload (q := 91) at_89 rfl rfl ?_
    refine Wk.castore (q := 92) (0) at_91 rfl (by repeat (first | exact Ex.here | assumption | apply Ex.there)) (by decide) (by decide) (nchar16 h0) (VS.here) ?_
    refine Wk.dup (q := 93) at_92 rfl rfl ?_
    refine Wk.iconst (q := 94) (1) at_93 rfl (by decide) ?_
    refine Wk.iload (q := 96) at_94 rfl rfl ?_
    refine Wk.castore (q := 97) (1) at_96 rfl (by repeat (first | exact Ex.here | assumption | apply Ex.there)) (by decide) (by decide) (nchar16 h1) (VS.there (VS.here)) ?_
    refine Wk.astore (q := 99) at_97 rfl (by first | rfl | assumption) (LS1.there (LS1.there (LS1.there (LS1.there (LS1.there (LS1.there (LS1.there (LS1.there (LS1.there (LS1.there (LS1.there (LS1.there (LS1.there (LS1.here (by first | exact One.u | exact One.val rfl | assumption))))))))))))))) ?_
    refine Wk.iconst (q := 100) (3) at_99 rfl (by decide) ?_
    refine Wk.newarray (q := 102) .char (3) [(.int 0), (.int 0), (.int 0)] at_100 rfl rfl rfl (hw _ (List.mem_of_getElem? (i := 1) rfl)) (by decide) (by decide) (by decide) (by first | decide | (dsimp only; omega) | omega) (by first | decide | (dsimp only; omega) | omega) ?_
    intro A3
    refine Wk.dup (q := 103) at_102 rfl rfl ?_
    refine Wk.iconst (q := 104) (0) at_103 rfl (by decide) ?_
    refine Wk.iload (q := 106) at_104 rfl rfl ?_
    refine Wk.castore (q := 107) (0) at_106 rfl (by repeat (first | exact Ex.here | assumption | apply Ex.there)) (by decide) (by decide) (nchar16 h0) (VS.here) ?_
    refine Wk.dup (q := 108) at_107 rfl rfl ?_
    refine Wk.iconst (q := 109) (1) at_108 rfl (by decide) ?_
    refine Wk.iload (q := 111) at_109 rfl rfl ?_
    refine Wk.castore (q := 112) (1) at_111 rfl (by repeat (first | exact Ex.here | assumption | apply Ex.there)) (by decide) (by decide) (nchar16 h1) (VS.there (VS.here)) ?_
    refine Wk.dup (q := 113) at_112 rfl rfl ?_
    refine Wk.iconst (q := 114) (2) at_113 rfl (by decide) ?_
    refine Wk.iload (q := 116) at_114 rfl rfl ?_
    refine Wk.castore (q := 117) (2) at_116 rfl (by repeat (first | exact Ex.here | assumption | apply Ex.there)) (by decide) (by decide) (nchar16 h2) (VS.there (VS.there (VS.here))) ?_
    refine Wk.astore (q := 119) at_117 rfl (by first | rfl | assumption) (LS1.there (LS1.there (LS1.there (LS1.there (LS1.there (LS1.there (LS1.there (LS1.there (LS1.there (LS1.there (LS1.there (LS1.there (LS1.there (LS1.there (LS1.here (by first | exact One.u | exact One.val rfl | assumption)))))))))))))))) ?_
    refine Wk.iload (q := 121) at_119 rfl rfl ?_
    rcases hnl with rfl | rfl
    · refine Wk.if_t (q := 130) at_121 (by decide) (by decide) (by decide) ?_
      refine Wk.iload (q := 132) at_130 rfl rfl ?_
      refine Wk.if_s (q := 149) (q' := 135) at_132 (by decide) (by decide) rfl ?_ ?_
      · intro (hn0 : ¬ n = 0)
        refine Wk.iload (q := 151) at_149 rfl rfl ?_
        refine Wk.iconst (q := 152) (1) at_151 rfl (by decide) ?_
        refine Wk.icmp_s (q := 169) (q' := 155) at_152 (by decide) (by decide) rfl ?_ ?_
        · intro _
          refine Wk.iload (q := 171) at_169 rfl rfl ?_
          refine Wk.iconst (q := 172) (2) at_171 rfl (by decide) ?_
          refine Wk.icmp_s (q := 189) (q' := 175) at_172 (by decide) (by decide) rfl ?_ ?_
          · intro _
            refine Wk.new (q := 192) at_189 rfl (hw _ (List.mem_of_getElem? (i := 2) rfl)) (hw _ (List.mem_of_getElem? (i := 3) rfl)) (hw _ (List.mem_of_getElem? (i := 4) rfl)) (layS_ok hw) layS_dv (by first | decide | (dsimp only; omega) | omega) (by first | decide | (dsimp only; omega) | omega) ?_
            intro s
            refine Wk.dup (q := 193) at_192 rfl rfl ?_
            refine Wk.aload (q := 195) at_193 rfl rfl (by first | rfl | assumption) ?_
            refine Wk.special (q := 198) [_] _ 1 at_195 rfl rfl (hw _ (List.mem_of_getElem? (i := 5) rfl)) (hw _ (List.mem_of_getElem? (i := 6) rfl)) (hw _ (List.mem_of_getElem? (i := 4) rfl)) (hw _ (List.mem_of_getElem? (i := 7) rfl)) ar_13 (by decide) rfl rfl rfl rfl (ct_strInitA hw hE F hU (cs := [x0, x1, x2]) (chs_cons h0 (chs_cons h1 (chs_cons h2 chs_nil))) 9 (by simp) (by simp) (by repeat (first | exact List.mem_cons_self | assumption | refine List.mem_cons_of_mem _ ?_))) (by first | decide | (dsimp only; omega) | omega) (by first | decide | (dsimp only; omega) | omega) (by first | decide | (dsimp only; omega) | omega) (by first | decide | (dsimp only; omega) | omega) (k0 ?_)
            rintro _ ⟨b, fb, k, hk, rfl⟩
            refine Wk.sub (.cons_cons _ (.cons_cons _ (List.nil_sublist _))) ?_
            refine Wk.astore (q := 200) at_198 rfl (by first | rfl | assumption) (LS1.there (LS1.there (LS1.there (LS1.there (LS1.there (LS1.there (LS1.there (LS1.there (LS1.there (LS1.there (LS1.there (LS1.there (LS1.there (LS1.there (LS1.there (LS1.here (by first | exact One.u | exact One.val rfl | assumption))))))))))))))))) ?_
            exact (join200 fa x0 x1 x2 A0 A1 A2 A3 s b fb k _ (chs_cons h0 (chs_cons h1 (chs_cons h2 chs_nil))) hk (by simp) (Or.inr ⟨hn0, rfl⟩)).mono (by decide) (by decide)
          · intro _
            refine Wk.new (q := 178) at_175 rfl (hw _ (List.mem_of_getElem? (i := 2) rfl)) (hw _ (List.mem_of_getElem? (i := 3) rfl)) (hw _ (List.mem_of_getElem? (i := 4) rfl)) (layS_ok hw) layS_dv (by first | decide | (dsimp only; omega) | omega) (by first | decide | (dsimp only; omega) | omega) ?_
            intro s
            refine Wk.dup (q := 179) at_178 rfl rfl ?_
            refine Wk.aload (q := 181) at_179 rfl rfl (by first | rfl | assumption) ?_
            refine Wk.special (q := 184) [_] _ 1 at_181 rfl rfl (hw _ (List.mem_of_getElem? (i := 5) rfl)) (hw _ (List.mem_of_getElem? (i := 6) rfl)) (hw _ (List.mem_of_getElem? (i := 4) rfl)) (hw _ (List.mem_of_getElem? (i := 7) rfl)) ar_13 (by decide) rfl rfl rfl rfl (ct_strInitA hw hE F hU (cs := [x0, x1]) (chs_cons h0 (chs_cons h1 chs_nil)) 9 (by simp) (by simp) (by repeat (first | exact List.mem_cons_self | assumption | refine List.mem_cons_of_mem _ ?_))) (by first | decide | (dsimp only; omega) | omega) (by first | decide | (dsimp only; omega) | omega) (by first | decide | (dsimp only; omega) | omega) (by first | decide | (dsimp only; omega) | omega) (k0 ?_)
            rintro _ ⟨b, fb, k, hk, rfl⟩
            refine Wk.sub (.cons_cons _ (.cons_cons _ (List.nil_sublist _))) ?_
            refine Wk.astore (q := 186) at_184 rfl (by first | rfl | assumption) (LS1.there (LS1.there (LS1.there (LS1.there (LS1.there (LS1.there (LS1.there (LS1.there (LS1.there (LS1.there (LS1.there (LS1.there (LS1.there (LS1.there (LS1.there (LS1.here (by first | exact One.u | exact One.val rfl | assumption))))))))))))))))) ?_
            refine Wk.goto (q := 200) at_186 (by decide) (by decide) ?_
            exact (join200 fa x0 x1 x2 A0 A1 A2 A3 s b fb k _ (chs_cons h0 (chs_cons h1 chs_nil)) hk (by simp) (Or.inr ⟨hn0, rfl⟩)).mono (by decide) (by decide)
        · intro _
          refine Wk.new (q := 158) at_155 rfl (hw _ (List.mem_of_getElem? (i := 2) rfl)) (hw _ (List.mem_of_getElem? (i := 3) rfl)) (hw _ (List.mem_of_getElem? (i := 4) rfl)) (layS_ok hw) layS_dv (by first | decide | (dsimp only; omega) | omega) (by first | decide | (dsimp only; omega) | omega) ?_
          intro s
          refine Wk.dup (q := 159) at_158 rfl rfl ?_
          refine Wk.aload (q := 161) at_159 rfl rfl (by first | rfl | assumption) ?_
          refine Wk.special (q := 164) [_] _ 1 at_161 rfl rfl (hw _ (List.mem_of_getElem? (i := 5) rfl)) (hw _ (List.mem_of_getElem? (i := 6) rfl)) (hw _ (List.mem_of_getElem? (i := 4) rfl)) (hw _ (List.mem_of_getElem? (i := 7) rfl)) ar_13 (by decide) rfl rfl rfl rfl (ct_strInitA hw hE F hU (cs := [x0]) (chs_cons h0 chs_nil) 9 (by simp) (by simp) (by repeat (first | exact List.mem_cons_self | assumption | refine List.mem_cons_of_mem _ ?_))) (by first | decide | (dsimp only; omega) | omega) (by first | decide | (dsimp only; omega) | omega) (by first | decide | (dsimp only; omega) | omega) (by first | decide | (dsimp only; omega) | omega) (k0 ?_)
          rintro _ ⟨b, fb, k, hk, rfl⟩
          refine Wk.sub (.cons_cons _ (.cons_cons _ (List.nil_sublist _))) ?_
          refine Wk.astore (q := 166) at_164 rfl (by first | rfl | assumption) (LS1.there (LS1.there (LS1.there (LS1.there (LS1.there (LS1.there (LS1.there (LS1.there (LS1.there (LS1.there (LS1.there (LS1.there (LS1.there (LS1.there (LS1.there (LS1.here (by first | exact One.u | exact One.val rfl | assumption))))))))))))))))) ?_
          refine Wk.goto (q := 200) at_166 (by decide) (by decide) ?_
          exact (join200 fa x0 x1 x2 A0 A1 A2 A3 s b fb k _ (chs_cons h0 chs_nil) hk (by simp) (Or.inr ⟨hn0, rfl⟩)).mono (by decide) (by decide)
      · intro (hn0 : n = 0)
        refine Wk.new (q := 138) at_135 rfl (hw _ (List.mem_of_getElem? (i := 2) rfl)) (hw _ (List.mem_of_getElem? (i := 3) rfl)) (hw _ (List.mem_of_getElem? (i := 4) rfl)) (layS_ok hw) layS_dv (by first | decide | (dsimp only; omega) | omega) (by first | decide | (dsimp only; omega) | omega) ?_
        intro s
        refine Wk.dup (q := 139) at_138 rfl rfl ?_
        refine Wk.aload (q := 141) at_139 rfl rfl (by first | rfl | assumption) ?_
        refine Wk.special (q := 144) [_] _ 1 at_141 rfl rfl (hw _ (List.mem_of_getElem? (i := 5) rfl)) (hw _ (List.mem_of_getElem? (i := 6) rfl)) (hw _ (List.mem_of_getElem? (i := 4) rfl)) (hw _ (List.mem_of_getElem? (i := 7) rfl)) ar_13 (by decide) rfl rfl rfl rfl (ct_strInitA hw hE F hU (cs := []) chs_nil 9 (by simp) (by simp) (by repeat (first | exact List.mem_cons_self | assumption | refine List.mem_cons_of_mem _ ?_))) (by first | decide | (dsimp only; omega) | omega) (by first | decide | (dsimp only; omega) | omega) (by first | decide | (dsimp only; omega) | omega) (by first | decide | (dsimp only; omega) | omega) (k0 ?_)
        rintro _ ⟨b, fb, k, hk, rfl⟩
        refine Wk.sub (.cons_cons _ (.cons_cons _ (List.nil_sublist _))) ?_
        refine Wk.astore (q := 146) at_144 rfl (by first | rfl | assumption) (LS1.there (LS1.there (LS1.there (LS1.there (LS1.there (LS1.there (LS1.there (LS1.there (LS1.there (LS1.there (LS1.there (LS1.there (LS1.there (LS1.there (LS1.there (LS1.here (by first | exact One.u | exact One.val rfl | assumption))))))))))))))))) ?_
        refine Wk.goto (q := 200) at_146 (by decide) (by decide) ?_
        exact (join200 fa x0 x1 x2 A0 A1 A2 A3 s b fb k _ chs_nil hk (by simp) (Or.inl ⟨hn0, rfl⟩)).mono (by decide) (by decide)
    · refine Wk.if_f (q := 124) at_121 rfl (by decide) ?_
      refine Wk.aconst_null (q := 125) at_124 rfl ?_
      refine Wk.astore (q := 127) at_125 rfl (by first | rfl | assumption) (LS1.there (LS1.there (LS1.there (LS1.there (LS1.there (LS1.there (LS1.there (LS1.there (LS1.there (LS1.there (LS1.there (LS1.there (LS1.there (LS1.there (LS1.there (LS1.here (by first | exact One.u | exact One.val rfl | assumption))))))))))))))))) ?_
      refine Wk.goto (q := 200) at_127 (by decide) (by decide) ?_
      refine Wk.iload (q := 202) at_200 rfl rfl ?_
      refine Wk.if_f (q := 205) at_202 rfl (by decide) ?_
      refine Wk.iconst (q := 206) (0) at_205 rfl (by decide) ?_
      refine Wk.istore (q := 208) at_206 rfl (LS1.there (LS1.there (LS1.there (LS1.there (LS1.there (LS1.there (LS1.there (LS1.there (LS1.there (LS1.there (LS1.there (LS1.there (LS1.there (LS1.there (LS1.there (LS1.there (LS1.here (by first | exact One.u | exact One.val rfl | assumption)))))))))))))))))) ?_
      refine Wk.goto (q := 236) at_208 (by decide) (by decide) ?_
      refine Wk.aload (q := 238) at_236 rfl rfl (by first | rfl | assumption) ?_
      refine Wk.static (q := 241) [_] _ 0 at_238 rfl (hw _ (List.mem_of_getElem? (i := 23) rfl)) (hw _ (List.mem_of_getElem? (i := 24) rfl)) (hw _ (List.mem_of_getElem? (i := 25) rfl)) (hw _ (List.mem_of_getElem? (i := 26) rfl)) ar_12 (by decide) rfl rfl rfl rfl (ct_isFac0 hw hE) (by first | decide | (dsimp only; omega) | omega) (by first | decide | (dsimp only; omega) | omega) (by first | decide | (dsimp only; omega) | omega) (by first | decide | (dsimp only; omega) | omega) (kv ?_)
      rintro _ M rfl
      exact fin 1 fa x0 x1 x2 0 A0 A1 A2 A3 .null M _ _
  have join38 : ∀ (nl fa : Int32), (nl = 0 ∨ nl = 1) → (fa = 0 ∨ fa = 1) → Wk l Z a0 EL0 x code 17 (some .boolean) room_1 (RV fun u M => u = .int 1) [] 24 400 38 [.val (.int i0), .val (.int i1), .val (.int i2), .val (.int i3), .val (.int kd), .val (.int n), .val (.int nl), .val (.int fa), .unset, .unset, .unset, .unset, .unset, .unset, .unset, .unset, .unset] [] := by
    intro nl fa hnl hfa
    refine Wk.iload (q := 40) at_38 rfl rfl ?_
    rcases hfa with rfl | rfl
    · refine Wk.if_t (q := 48) at_40 (by decide) (by decide) (by decide) ?_
      refine Wk.iload_n (q := 49) at_48 rfl rfl ?_
      refine Wk.ldc_int (q := 51) at_49 rfl (hw _ (List.mem_of_getElem? (i := 0) rfl)) ?_
      refine Wk.iand (q := 52) at_51 rfl ?_
      refine Wk.i2c (q := 53) at_52 rfl ?_
      exact join53 nl 0 _ hnl (ch16 _)
    · refine Wk.if_f (q := 43) at_40 rfl (by decide) ?_
      refine Wk.bipush (q := 45) (38) at_43 rfl (by decide) ?_
      refine Wk.goto (q := 53) at_45 (by decide) (by decide) ?_
      exact join53 nl 1 38 hnl (by decide)
  have join25 : ∀ (nl : Int32), (nl = 0 ∨ nl = 1) → Wk l Z a0 EL0 x code 17 (some .boolean) room_1 (RV fun u M => u = .int 1) [] 24 400 25 [.val (.int i0), .val (.int i1), .val (.int i2), .val (.int i3), .val (.int kd), .val (.int n), .val (.int nl), .unset, .unset, .unset, .unset, .unset, .unset, .unset, .unset, .unset, .unset] [] := by
    intro nl hnl
    refine Wk.iload (q := 27) at_25 rfl rfl ?_
    refine Wk.iconst (q := 28) (1) at_27 rfl (by decide) ?_
    refine Wk.icmp_s (q := 35) (q' := 31) at_28 (by decide) (by decide) rfl ?_ ?_
    · intro _
      refine Wk.iconst (q := 36) (0) at_35 rfl (by decide) ?_
      refine Wk.istore (q := 38) at_36 rfl (LS1.there (LS1.there (LS1.there (LS1.there (LS1.there (LS1.there (LS1.there (LS1.here (by first | exact One.u | exact One.val rfl | assumption))))))))) ?_
      exact join38 nl 0 hnl (Or.inl rfl)
    · intro _
      refine Wk.iconst (q := 32) (1) at_31 rfl (by decide) ?_
      refine Wk.goto (q := 36) at_32 (by decide) (by decide) ?_
      refine Wk.istore (q := 38) at_36 rfl (LS1.there (LS1.there (LS1.there (LS1.there (LS1.there (LS1.there (LS1.there (LS1.here (by first | exact One.u | exact One.val rfl | assumption))))))))) ?_
      exact join38 nl 1 hnl (Or.inr rfl)
  refine Wk.istore (q := 12) at_10 rfl (LS1.there (LS1.there (LS1.there (LS1.there (LS1.there (LS1.here (by first | exact One.u | exact One.val rfl | assumption))))))) ?_
  refine Wk.iload (q := 14) at_12 rfl rfl ?_
  refine Wk.iconst (q := 15) (3) at_14 rfl (by decide) ?_
  refine Wk.icmp_s (q := 22) (q' := 18) at_15 (by decide) (by decide) rfl ?_ ?_
  · intro _
    refine Wk.iconst (q := 23) (0) at_22 rfl (by decide) ?_
    refine Wk.istore (q := 25) at_23 rfl (LS1.there (LS1.there (LS1.there (LS1.there (LS1.there (LS1.there (LS1.here (by first | exact One.u | exact One.val rfl | assumption)))))))) ?_
    exact (join25 0 (Or.inl rfl)).mono (by decide) (by decide)
  · intro _
    refine Wk.iconst (q := 19) (1) at_18 rfl (by decide) ?_
    refine Wk.goto (q := 23) at_19 (by decide) (by decide) ?_
    refine Wk.istore (q := 25) at_23 rfl (LS1.there (LS1.there (LS1.there (LS1.there (LS1.there (LS1.there (LS1.here (by first | exact One.u | exact One.val rfl | assumption)))))))) ?_
    exact (join25 1 (Or.inr rfl)).mono (by decide) (by decide)
set_option maxRecDepth 65536 in
set_option maxHeartbeats 4000000 in
theorem comes_1 {Post : Tables → Env → Array Value → State → Outcome → State → Prop} (hpost : ∀ tb e args s v u, (limb_1_1.after args s (.returned v) u = true ∧ limb_1_2.after args s (.returned v) u = true) → ReturnedEndW s (.returned v) u (Jvm.fieldLocs frame_1_writes args s ++ Jvm.arrayLocs frame_1_arrays args s ++ Jvm.staticLocs frame_1_statics s) 32 2176 → Post tb e args s (.returned v) u) :
    ArmFor flags0 classFile x code maxLocals ret World_1 tables_1 room_1 Calls_1 rest_1 Pre_1 Post := by
  intro l hfl _ _ p e ha hc hk s m args below hf hA hF happ hP
  obtain ⟨hcalls, hrest, hpre⟩ := hP
  obtain ⟨-, -, -, hnamed, -, -, -, hat⟩ := (Spec.applies_iff hf).mp happ
  obtain ⟨hg, hn⟩ := and_e (Cond.before_iff.mp (show (Jvm.Cond.and given_1 narrow_1).before args s = true from hpre))
  obtain ⟨g_n, gr⟩ := and_e hg
  obtain ⟨g0, gr⟩ := and_e gr
  obtain ⟨g1, gr⟩ := and_e gr
  obtain ⟨g2, gr⟩ := and_e gr
  have g3 := gr
  obtain ⟨w0, w1, w2, w3, rfl⟩ : ∃ w0 w1 w2 w3 : Value, args = #[w0, w1, w2, w3] := by
    have hs : args.size = 4 := by simpa [Cond.value, given_1] using g_n
    obtain ⟨L⟩ := args
    match L, hs with
    | [w0, w1, w2, w3], _ => exact ⟨w0, w1, w2, w3, rfl⟩
  obtain ⟨i0, ei0⟩ := is_v g0
  obtain rfl : w0 = (.int i0) := Option.some.inj ei0
  obtain ⟨i1, ei1⟩ := is_v g1
  obtain rfl : w1 = (.int i1) := Option.some.inj ei1
  obtain ⟨i2, ei2⟩ := is_v g2
  obtain rfl : w2 = (.int i2) := Option.some.inj ei2
  obtain ⟨i3, ei3⟩ := is_v g3
  obtain rfl : w3 = (.int i3) := Option.some.inj ei3
  have hw := fun d (hd : d ∈ tables_1) => atoms_spec (ws := Jvm.Cond.code x code maxLocals ret :: tables_1) hat d (List.mem_cons_of_mem _ hd)
  obtain ⟨hsets, hown0⟩ := atoms_of _ (rest_1_c_eq ▸ (show rest_1_c.before _ s = true from hrest))
  have F := compact (hsets _ (List.mem_of_getElem? (i := 0) rfl)) (hsets _ (List.mem_of_getElem? (i := 1) rfl)) (hsets _ (List.mem_of_getElem? (i := 2) rfl))
  have hE : EW s _ EL0 := (EW.cons (hw _ (List.mem_of_getElem? (i := 27) rfl)) (by decide +kernel) (EW.cons (hw _ (List.mem_of_getElem? (i := 15) rfl)) (by decide +kernel) EW.nil))
  have hheld : constsHeld consts_1 s := hcalls.1
  have hCH : CHv s EL0 s.vm s.heap := CHv.start hE (fun p hp => hheld p hp) (hsets _ (List.mem_of_getElem? (i := 2) rfl)) (hw _ (List.mem_of_getElem? (i := 16) rfl)) (hw _ (List.mem_of_getElem? (i := 3) rfl))
  have hI : Inv s EL0 s.vm s.heap [] := ⟨⟨Nat.le_refl _, fun _ _ q => q⟩, hCH, (fun o ho => nomatch ho), (fun o ho => nomatch ho), List.Pairwise.nil⟩
  have hU : FU s := FU_of (hsets _ (List.mem_of_getElem? (i := 11) rfl)) (hsets _ (List.mem_of_getElem? (i := 12) rfl)) (hsets _ (List.mem_of_getElem? (i := 14) rfl)) (hsets _ (List.mem_of_getElem? (i := 15) rfl)) (hsets _ (List.mem_of_getElem? (i := 17) rfl)) (hsets _ (List.mem_of_getElem? (i := 18) rfl))
  obtain ⟨n, o, h1, h2, h3, v, Lc, L', rfl, ⟨u, rfl, rfl⟩, -, N, hq⟩ := ct_law hw hE F hU i0 i1 i2 i3 tables_1 p e ha hc hk s m _ below hf ((Spec.applies_iff_loose hf).mp happ).1 ⟨rfl, State.Warmed39.refl s, hI⟩ trivial
  exact ⟨n, _, h1, h2, h3, hpost _ _ _ _ _ _ ⟨Cond.after_iff.mpr rfl, Cond.after_iff.mpr (eq_i res_at (Term.int_eval (1)) rfl)⟩ ⟨hq.1, hq.2.1, hq.2.2.1, (hq.2.2.2.sift fun y hy => Or.inr (N y hy)).mono (by decide) (by decide)⟩⟩
theorem main_1_1 : Claimed_1_1 := comes_1 fun _ _ _ _ _ _ h hF => ⟨h.1, hF⟩
theorem main_1_2 : Claimed_1_2 := comes_1 fun _ _ _ _ _ _ h hF => ⟨h.2, hF⟩

end Jvm.Pilot.@@N@@
namespace Jvm.Pilot.@@N@@
open Jvm Jvm.ClassFile Sem Op Lib Jvm.Free Jvm.Stand Jvm.Pilot.@@N@@.Jvm.D
/-! MADE BY PROGRAM (witnessworld.py) out of the Statement's table words and the real class files: 20 classes; the members and pool entries that the words name. The judged class is class 1, her method 1. -/
namespace start1
open Jvm.ClassFile
def u (s : String) : CpInfo := .utf8 (stringToUtf16 s)
/-- a pool by its gaps: so many unusable entries, then the entry; so many at the end -/
def gap : Nat → List CpInfo → List CpInfo
  | 0, r => r
  | n + 1, r => .unusable :: gap n r
def poolList (es : List (Nat × CpInfo)) (last : Nat) : List CpInfo := es.foldr (fun e r => gap e.1 (e.2 :: r)) (gap last [])
def pool (es : List (Nat × CpInfo)) (last : Nat) : Array CpInfo := ⟨poolList es last⟩
def fileOf (pool : Array CpInfo) (this : Nat) (attrs : Array Attribute := #[]) (ms : Array MethodInfo := #[]) (fl : Nat := 33) (sup : Nat := 0) (ifs : Array Nat := #[]) (fds : Array FieldInfo := #[]) : ClassFile where
  minorVersion := 0
  majorVersion := 65
  constantPool := pool
  accessFlags := fl
  thisClass := this
  superClass := sup
  interfaces := ifs
  fields := fds
  methods := ms
  attributes := attrs
def plain (name : String) (sup : Option ClassId) : Class where
  name := name
  kind := .ordinary
  loader := none
  accessFlags := 33
  super := sup
  interfaces := #[]
  cf := none
  fields := #[]
  methods := #[]
  instanceTypes := #[]
  staticTypes := #[]
  resolved := #[]
  callSites := []
  init := .initialized
  statics := none
  mirror := none

def pool0 : Array CpInfo := pool [(5, u "<init>"), (0, u "()V"), (1, .class_ 10), (1, u "java/lang/Object")] 113

def k0c0 : Code := { maxStack := 0, maxLocals := 1, code := object_method_1_code, exceptionTable := #[], attributes := #[] }
def k0m0 : Method := { name := "<init>", desc := "()V", sig := { parameters := [], returnType := none }, accessFlags := 1, code := some k0c0 }
/-- java/lang/Object -/
def k0 : Class := { plain "java/lang/Object" none with
  accessFlags := 33
  interfaces := #[]
  cf := some (fileOf pool0 8 #[] #[{ accessFlags := 1, nameIndex := 5, descriptorIndex := 6, attributes := #[] }] 33 0 #[] #[])
  fields := #[]
  methods := #[k0m0]
  instanceTypes := #[]
  staticTypes := #[]
  resolved := Array.replicate 124 none
  statics := none }

def pool1 : Array CpInfo := pool [(2, .class_ 4), (1, u "java/lang/Object"), (0, u "<init>"), (0, u "()V"), (0, .integer 65535), (0, .class_ 9), (0, u "java/lang/String"), (0, .methodref 8 11), (0, .nameAndType 5 12), (0, u "([C)V"), (0, .methodref 14 15), (0, .class_ 16), (0, .nameAndType 17 18), (0, u "com/example/tendril/tendril/FactoryBeans"), (0, u "isFactoryName"), (0, u "(Ljava/lang/String;)Z"), (0, .class_ 20), (0, u "com/example/tendril/tendril/FactoryBeansIsFactoryNamePinLaw"), (2, u "law"), (0, u "(IIII)Z")] 5

def k1m0 : Method := { name := "<init>", desc := "()V", sig := { parameters := [], returnType := none }, accessFlags := 2, code := none }
def k1c1 : Code := { maxStack := 4, maxLocals := 17, code := code, exceptionTable := #[], attributes := #[] }
def k1m1 : Method := { name := "law", desc := "(IIII)Z", sig := { parameters := [.int, .int, .int, .int], returnType := some .boolean }, accessFlags := 9, code := some k1c1 }
/-- com/example/tendril/tendril/FactoryBeansIsFactoryNamePinLaw -/
def k1 : Class := { plain "com/example/tendril/tendril/FactoryBeansIsFactoryNamePinLaw" (some 0) with
  accessFlags := 49
  interfaces := #[]
  cf := some (fileOf pool1 19 #[] #[{ accessFlags := 2, nameIndex := 5, descriptorIndex := 6, attributes := #[] }, { accessFlags := 9, nameIndex := 23, descriptorIndex := 24, attributes := #[] }] 49 2 #[] #[])
  fields := #[]
  methods := #[k1m0, k1m1]
  instanceTypes := #[]
  staticTypes := #[]
  resolved := Array.replicate 30 none
  statics := none }

def pool2 : Array CpInfo := pool [(1, .class_ 2), (0, u "java/io/Serializable"), (0, .class_ 4), (0, u "java/lang/Object")] 2

/-- java/io/Serializable -/
def k2 : Class := { plain "java/io/Serializable" (some 0) with
  accessFlags := 1537
  interfaces := #[]
  cf := some (fileOf pool2 1 #[] #[] 1537 3 #[] #[])
  fields := #[]
  methods := #[]
  instanceTypes := #[]
  staticTypes := #[]
  resolved := Array.replicate 7 none
  statics := none }

def pool3 : Array CpInfo := pool [(1, .class_ 2), (0, u "java/lang/Comparable"), (0, .class_ 4), (0, u "java/lang/Object")] 7

/-- java/lang/Comparable -/
def k3 : Class := { plain "java/lang/Comparable" (some 0) with
  accessFlags := 1537
  interfaces := #[]
  cf := some (fileOf pool3 1 #[] #[] 1537 3 #[] #[])
  fields := #[]
  methods := #[]
  instanceTypes := #[]
  staticTypes := #[]
  resolved := Array.replicate 12 none
  statics := none }

def pool4 : Array CpInfo := pool [(2, .class_ 4), (1, u "java/lang/CharSequence"), (42, .class_ 48), (0, u "java/lang/CharSequence$1CodePointIterator"), (10, .class_ 60), (0, u "java/lang/CharSequence$1CharIterator"), (5, .class_ 67), (0, u "java/lang/Object")] 63

/-- java/lang/CharSequence -/
def k4 : Class := { plain "java/lang/CharSequence" (some 0) with
  accessFlags := 1537
  interfaces := #[]
  cf := some (fileOf pool4 2 #[.nestMembers #[47, 59]] #[] 1537 66 #[] #[])
  fields := #[]
  methods := #[]
  instanceTypes := #[]
  staticTypes := #[]
  resolved := Array.replicate 131 none
  statics := none }

def pool5 : Array CpInfo := pool [(1, .class_ 2), (0, u "java/lang/constant/Constable"), (0, .class_ 4), (0, u "java/lang/Object")] 6

/-- java/lang/constant/Constable -/
def k5 : Class := { plain "java/lang/constant/Constable" (some 0) with
  accessFlags := 1537
  interfaces := #[]
  cf := some (fileOf pool5 1 #[] #[] 1537 3 #[] #[])
  fields := #[]
  methods := #[]
  instanceTypes := #[]
  staticTypes := #[]
  resolved := Array.replicate 11 none
  statics := none }

def pool6 : Array CpInfo := pool [(1, .class_ 2), (0, u "java/lang/constant/ConstantDesc"), (0, .class_ 4), (0, u "java/lang/Object")] 32

/-- java/lang/constant/ConstantDesc -/
def k6 : Class := { plain "java/lang/constant/ConstantDesc" (some 0) with
  accessFlags := 1537
  interfaces := #[]
  cf := some (fileOf pool6 1 #[] #[] 1537 3 #[] #[])
  fields := #[]
  methods := #[]
  instanceTypes := #[]
  staticTypes := #[]
  resolved := Array.replicate 37 none
  statics := none }

def pool7 : Array CpInfo := pool [(1, .methodref 2 3), (0, .class_ 4), (0, .nameAndType 5 6), (0, u "java/lang/Object"), (0, u "<init>"), (0, u "()V"), (0, .string 8), (0, u ""), (0, .fieldref 10 11), (0, .class_ 12), (0, .nameAndType 13 14), (0, u "java/lang/String"), (0, u "value"), (0, u "[B"), (0, .fieldref 10 16), (0, .nameAndType 17 18), (0, u "coder"), (0, u "B"), (2, u "hash"), (0, u "I"), (2, u "hashIsZero"), (0, u "Z"), (0, .methodref 10 28), (0, .nameAndType 5 29), (0, u "([CIILjava/lang/Void;)V"), (8, .fieldref 10 39), (0, .nameAndType 40 26), (0, u "COMPACT_STRINGS"), (1, .class_ 44), (1, u "java/lang/StringUTF16"), (0, u "compress"), (1, .methodref 42 48), (0, .nameAndType 49 50), (0, u "coderFromArrayLen"), (0, u "([BI)B"), (126, .methodref 42 178), (0, .nameAndType 45 179), (0, u "([CII)[B"), (154, u "()I"), (0, .methodref 10 336), (0, .nameAndType 17 337), (0, u "()B"), (22, .methodref 42 361), (0, .nameAndType 362 363), (0, u "getChar"), (0, u "([BI)C"), (12, u "([BI[BII)I"), (128, .methodref 10 506), (0, .nameAndType 507 334), (0, u "length"), (51, .class_ 561), (1, u "jdk/internal/util/ArraysSupport"), (0, u "mismatch"), (12, .class_ 576), (0, u "java/lang/CharSequence"), (22, u "CASE_INSENSITIVE_ORDER"), (0, u "Ljava/util/Comparator;"), (6, .methodref 559 608), (0, .nameAndType 562 376), (15, .methodref 10 625), (0, .nameAndType 626 627), (0, u "startsWith"), (0, u "(Ljava/lang/String;I)Z"), (382, u "([C)V"), (90, u "serialPersistentFields"), (0, u "[Ljava/io/ObjectStreamField;"), (0, .class_ 1104), (0, u "java/lang/String$CaseInsensitiveComparator"), (1, .class_ 1107), (0, u "java/io/Serializable"), (0, .class_ 1109), (0, u "java/lang/Comparable"), (0, .class_ 1111), (0, u "java/lang/constant/Constable"), (0, .class_ 1113), (0, u "java/lang/constant/ConstantDesc"), (2, u "serialVersionUID"), (0, u "J"), (3, u "REPL"), (0, u "C"), (2, u "LATIN1"), (1, u "UTF16"), (129, u "(Ljava/lang/String;)Z")] 193

def k7m0 : Method := { name := "<init>", desc := "()V", sig := { parameters := [], returnType := none }, accessFlags := 1, code := none }
def k7c1 : Code := { maxStack := 5, maxLocals := 2, code := jdk_42_method_3_code, exceptionTable := #[], attributes := #[] }
def k7m1 : Method := { name := "<init>", desc := "([C)V", sig := { parameters := [(.array .char)], returnType := none }, accessFlags := 1, code := some k7c1 }
def k7c2 : Code := { maxStack := 2, maxLocals := 1, code := jdk_42_method_54_code, exceptionTable := #[], attributes := #[] }
def k7m2 : Method := { name := "length", desc := "()I", sig := { parameters := [], returnType := some .int }, accessFlags := 1, code := some k7c2 }
def k7c3 : Code := { maxStack := 5, maxLocals := 8, code := jdk_42_method_75_code, exceptionTable := #[], attributes := #[] }
def k7m3 : Method := { name := "startsWith", desc := "(Ljava/lang/String;I)Z", sig := { parameters := [(.object "java/lang/String"), .int], returnType := some .boolean }, accessFlags := 1, code := some k7c3 }
def k7c4 : Code := { maxStack := 3, maxLocals := 2, code := jdk_42_method_76_code, exceptionTable := #[], attributes := #[] }
def k7m4 : Method := { name := "startsWith", desc := "(Ljava/lang/String;)Z", sig := { parameters := [(.object "java/lang/String")], returnType := some .boolean }, accessFlags := 1, code := some k7c4 }
def k7c5 : Code := { maxStack := 4, maxLocals := 6, code := jdk_42_method_149_code, exceptionTable := #[], attributes := #[] }
def k7m5 : Method := { name := "<init>", desc := "([CIILjava/lang/Void;)V", sig := { parameters := [(.array .char), .int, .int, (.object "java/lang/Void")], returnType := none }, accessFlags := 2, code := some k7c5 }
def k7c6 : Code := { maxStack := 1, maxLocals := 1, code := jdk_42_method_152_code, exceptionTable := #[], attributes := #[] }
def k7m6 : Method := { name := "coder", desc := "()B", sig := { parameters := [], returnType := some .byte }, accessFlags := 0, code := some k7c6 }
/-- java/lang/String -/
def k7 : Class := { plain "java/lang/String" (some 0) with
  accessFlags := 49
  interfaces := #[2, 3, 4, 5, 6]
  cf := some (fileOf pool7 10 #[.nestMembers #[1103]] #[{ accessFlags := 1, nameIndex := 5, descriptorIndex := 6, attributes := #[] }, { accessFlags := 1, nameIndex := 5, descriptorIndex := 1010, attributes := #[] }, { accessFlags := 1, nameIndex := 507, descriptorIndex := 334, attributes := #[] }, { accessFlags := 1, nameIndex := 626, descriptorIndex := 627, attributes := #[] }, { accessFlags := 1, nameIndex := 626, descriptorIndex := 1257, attributes := #[] }, { accessFlags := 2, nameIndex := 5, descriptorIndex := 29, attributes := #[] }, { accessFlags := 0, nameIndex := 17, descriptorIndex := 337, attributes := #[] }] 49 2 #[1106, 1108, 575, 1110, 1112] #[{ accessFlags := 18, nameIndex := 13, descriptorIndex := 14, attributes := #[] }, { accessFlags := 18, nameIndex := 17, descriptorIndex := 18, attributes := #[] }, { accessFlags := 2, nameIndex := 21, descriptorIndex := 22, attributes := #[] }, { accessFlags := 2, nameIndex := 25, descriptorIndex := 26, attributes := #[] }, { accessFlags := 26, nameIndex := 1116, descriptorIndex := 1117, attributes := #[] }, { accessFlags := 24, nameIndex := 40, descriptorIndex := 26, attributes := #[] }, { accessFlags := 26, nameIndex := 1101, descriptorIndex := 1102, attributes := #[] }, { accessFlags := 26, nameIndex := 1121, descriptorIndex := 1122, attributes := #[] }, { accessFlags := 25, nameIndex := 599, descriptorIndex := 600, attributes := #[] }, { accessFlags := 24, nameIndex := 1125, descriptorIndex := 18, attributes := #[] }, { accessFlags := 24, nameIndex := 1127, descriptorIndex := 18, attributes := #[] }])
  fields := #[{ name := "value", type := (.array .byte), accessFlags := 18, slot := 0, constantValue := 0 }, { name := "coder", type := .byte, accessFlags := 18, slot := 1, constantValue := 0 }, { name := "hash", type := .int, accessFlags := 2, slot := 2, constantValue := 0 }, { name := "hashIsZero", type := .boolean, accessFlags := 2, slot := 3, constantValue := 0 }, { name := "serialVersionUID", type := .long, accessFlags := 26, slot := 0, constantValue := 0 }, { name := "COMPACT_STRINGS", type := .boolean, accessFlags := 24, slot := 1, constantValue := 0 }, { name := "serialPersistentFields", type := (.array (.object "java/io/ObjectStreamField")), accessFlags := 26, slot := 2, constantValue := 0 }, { name := "REPL", type := .char, accessFlags := 26, slot := 3, constantValue := 0 }, { name := "CASE_INSENSITIVE_ORDER", type := (.object "java/util/Comparator"), accessFlags := 25, slot := 4, constantValue := 0 }, { name := "LATIN1", type := .byte, accessFlags := 24, slot := 5, constantValue := 0 }, { name := "UTF16", type := .byte, accessFlags := 24, slot := 6, constantValue := 0 }]
  methods := #[k7m0, k7m1, k7m2, k7m3, k7m4, k7m5, k7m6]
  instanceTypes := #[(.array .byte), .byte, .int, .boolean]
  staticTypes := #[.long, .boolean, (.array (.object "java/io/ObjectStreamField")), .char, (.object "java/util/Comparator"), .byte, .byte]
  resolved := Array.replicate 1451 none
  statics := some 0 }

def pool8 : Array CpInfo := pool [(2, .class_ 4), (1, u "java/lang/Object"), (0, u "<init>"), (0, u "()V"), (1, .class_ 10), (1, u "com/example/tendril/tendril/FactoryBeans"), (0, u "isFactoryName"), (0, u "(Ljava/lang/String;)Z"), (0, .string 14), (0, u "&"), (1, .class_ 18), (1, u "java/lang/String"), (18, .methodref 16 38), (0, .nameAndType 39 12), (0, u "startsWith"), (94, u "PREFIX"), (0, u "Ljava/lang/String;")] 69

def k8m0 : Method := { name := "<init>", desc := "()V", sig := { parameters := [], returnType := none }, accessFlags := 2, code := none }
def k8c1 : Code := { maxStack := 2, maxLocals := 1, code := prog_21_method_4_code, exceptionTable := #[], attributes := #[] }
def k8m1 : Method := { name := "isFactoryName", desc := "(Ljava/lang/String;)Z", sig := { parameters := [(.object "java/lang/String")], returnType := some .boolean }, accessFlags := 8, code := some k8c1 }
/-- com/example/tendril/tendril/FactoryBeans -/
def k8 : Class := { plain "com/example/tendril/tendril/FactoryBeans" (some 0) with
  accessFlags := 48
  interfaces := #[]
  cf := some (fileOf pool8 8 #[] #[{ accessFlags := 2, nameIndex := 5, descriptorIndex := 6, attributes := #[] }, { accessFlags := 8, nameIndex := 11, descriptorIndex := 12, attributes := #[] }] 48 2 #[] #[{ accessFlags := 24, nameIndex := 134, descriptorIndex := 135, attributes := #[] }])
  fields := #[{ name := "PREFIX", type := (.object "java/lang/String"), accessFlags := 24, slot := 0, constantValue := 0 }]
  methods := #[k8m0, k8m1]
  instanceTypes := #[]
  staticTypes := #[(.object "java/lang/String")]
  resolved := Array.replicate 205 none
  statics := none }

def pool9 : Array CpInfo := pool [(6, .class_ 8), (1, u "java/lang/Object"), (0, u "<init>"), (0, u "()V"), (0, .methodref 12 13), (0, .class_ 14), (0, .nameAndType 15 16), (0, u "java/lang/StringUTF16"), (0, u "newBytesLength"), (0, u "(I)I"), (3, .integer 1073741823), (23, .fieldref 12 45), (0, .nameAndType 46 47), (0, u "$assertionsDisabled"), (0, u "Z"), (11, .fieldref 12 60), (0, .nameAndType 61 62), (0, u "HI_BYTE_SHIFT"), (0, u "I"), (0, .fieldref 12 64), (0, .nameAndType 65 62), (0, u "LO_BYTE_SHIFT"), (5, .methodref 12 72), (0, .nameAndType 73 74), (0, u "getChar"), (0, u "([BI)C"), (32, .methodref 12 108), (0, .nameAndType 109 110), (0, u "newBytesFor"), (0, u "(I)[B"), (0, .methodref 12 112), (0, .nameAndType 113 114), (0, u "putChar"), (0, u "([BII)V"), (0, .methodref 12 116), (0, .nameAndType 117 118), (0, u "compress"), (0, u "([CI[BII)I"), (0, .methodref 12 120), (0, .nameAndType 121 122), (0, u "toBytes"), (0, u "([CII)[B"), (138, u "coderFromArrayLen"), (0, u "([BI)B"), (106, .class_ 371), (1, u "java/lang/StringUTF16$LinesSpliterator"), (58, u "MAX_LENGTH"), (196, .class_ 628), (0, u "java/lang/StringUTF16$CodePointsSpliterator"), (0, .class_ 630), (0, u "java/lang/StringUTF16$CharsSpliterator")] 4

def k9m0 : Method := { name := "<init>", desc := "()V", sig := { parameters := [], returnType := none }, accessFlags := 0, code := none }
def k9c1 : Code := { maxStack := 1, maxLocals := 1, code := jdk_52_method_2_code, exceptionTable := #[], attributes := #[] }
def k9m1 : Method := { name := "newBytesFor", desc := "(I)[B", sig := { parameters := [.int], returnType := some (.array .byte) }, accessFlags := 9, code := some k9c1 }
def k9c2 : Code := { maxStack := 4, maxLocals := 1, code := jdk_52_method_3_code, exceptionTable := #[], attributes := #[] }
def k9m2 : Method := { name := "newBytesLength", desc := "(I)I", sig := { parameters := [.int], returnType := some .int }, accessFlags := 9, code := some k9c2 }
def k9c3 : Code := { maxStack := 4, maxLocals := 3, code := jdk_52_method_4_code, exceptionTable := #[], attributes := #[] }
def k9m3 : Method := { name := "putChar", desc := "([BII)V", sig := { parameters := [(.array .byte), .int, .int], returnType := none }, accessFlags := 8, code := some k9c3 }
def k9c4 : Code := { maxStack := 3, maxLocals := 2, code := jdk_52_method_5_code, exceptionTable := #[], attributes := #[] }
def k9m4 : Method := { name := "getChar", desc := "([BI)C", sig := { parameters := [(.array .byte), .int], returnType := some .char }, accessFlags := 8, code := some k9c4 }
def k9c5 : Code := { maxStack := 4, maxLocals := 5, code := jdk_52_method_14_code, exceptionTable := #[], attributes := #[] }
def k9m5 : Method := { name := "toBytes", desc := "([CII)[B", sig := { parameters := [(.array .char), .int, .int], returnType := some (.array .byte) }, accessFlags := 9, code := some k9c5 }
def k9c6 : Code := { maxStack := 2, maxLocals := 2, code := jdk_52_method_15_code, exceptionTable := #[], attributes := #[] }
def k9m6 : Method := { name := "coderFromArrayLen", desc := "([BI)B", sig := { parameters := [(.array .byte), .int], returnType := some .byte }, accessFlags := 8, code := some k9c6 }
def k9c7 : Code := { maxStack := 5, maxLocals := 6, code := jdk_52_method_16_code, exceptionTable := #[], attributes := #[] }
def k9m7 : Method := { name := "compress", desc := "([CII)[B", sig := { parameters := [(.array .char), .int, .int], returnType := some (.array .byte) }, accessFlags := 9, code := some k9c7 }
def k9c8 : Code := { maxStack := 3, maxLocals := 7, code := jdk_52_method_21_code, exceptionTable := #[], attributes := #[] }
def k9m8 : Method := { name := "compress", desc := "([CI[BII)I", sig := { parameters := [(.array .char), .int, (.array .byte), .int, .int], returnType := some .int }, accessFlags := 9, code := some k9c8 }
/-- java/lang/StringUTF16 -/
def k9 : Class := { plain "java/lang/StringUTF16" (some 0) with
  accessFlags := 48
  interfaces := #[]
  cf := some (fileOf pool9 12 #[.nestMembers #[627, 629, 369]] #[{ accessFlags := 0, nameIndex := 9, descriptorIndex := 10, attributes := #[] }, { accessFlags := 9, nameIndex := 109, descriptorIndex := 110, attributes := #[] }, { accessFlags := 9, nameIndex := 15, descriptorIndex := 16, attributes := #[] }, { accessFlags := 8, nameIndex := 113, descriptorIndex := 114, attributes := #[] }, { accessFlags := 8, nameIndex := 73, descriptorIndex := 74, attributes := #[] }, { accessFlags := 9, nameIndex := 121, descriptorIndex := 122, attributes := #[] }, { accessFlags := 8, nameIndex := 261, descriptorIndex := 262, attributes := #[] }, { accessFlags := 9, nameIndex := 117, descriptorIndex := 122, attributes := #[] }, { accessFlags := 9, nameIndex := 117, descriptorIndex := 118, attributes := #[] }] 48 6 #[] #[{ accessFlags := 26, nameIndex := 61, descriptorIndex := 62, attributes := #[] }, { accessFlags := 26, nameIndex := 65, descriptorIndex := 62, attributes := #[] }, { accessFlags := 24, nameIndex := 430, descriptorIndex := 62, attributes := #[] }, { accessFlags := 4120, nameIndex := 46, descriptorIndex := 47, attributes := #[] }])
  fields := #[{ name := "HI_BYTE_SHIFT", type := .int, accessFlags := 26, slot := 0, constantValue := 0 }, { name := "LO_BYTE_SHIFT", type := .int, accessFlags := 26, slot := 1, constantValue := 0 }, { name := "MAX_LENGTH", type := .int, accessFlags := 24, slot := 2, constantValue := 0 }, { name := "$assertionsDisabled", type := .boolean, accessFlags := 4120, slot := 3, constantValue := 0 }]
  methods := #[k9m0, k9m1, k9m2, k9m3, k9m4, k9m5, k9m6, k9m7, k9m8]
  instanceTypes := #[]
  staticTypes := #[.int, .int, .int, .boolean]
  resolved := Array.replicate 635 none
  statics := some 1 }

def pool10 : Array CpInfo := pool [(9, u "<init>"), (6, .class_ 18), (1, u "java/lang/Object"), (0, u "()V"), (1, .class_ 23), (1, u "jdk/internal/util/ArraysSupport"), (0, u "LOG2_ARRAY_LONG_INDEX_SCALE"), (0, u "I"), (2, u "U"), (0, u "Ljdk/internal/misc/Unsafe;"), (8, u "BIG_ENDIAN"), (0, u "Z"), (8, u "LOG2_BYTE_BIT_SIZE"), (4, u "LOG2_ARRAY_INT_INDEX_SCALE"), (54, u "JLA"), (0, u "Ljdk/internal/access/JavaLangAccess;"), (11, u "LOG2_ARRAY_BOOLEAN_INDEX_SCALE"), (9, u "LOG2_ARRAY_BYTE_INDEX_SCALE"), (5, u "LOG2_ARRAY_CHAR_INDEX_SCALE"), (5, u "LOG2_ARRAY_SHORT_INDEX_SCALE"), (5, u "mismatch"), (12, u "LOG2_ARRAY_FLOAT_INDEX_SCALE"), (24, u "LOG2_ARRAY_DOUBLE_INDEX_SCALE"), (89, u "T_BOOLEAN"), (2, u "T_CHAR"), (1, u "T_FLOAT"), (1, u "T_DOUBLE"), (1, u "T_BYTE"), (1, u "T_SHORT"), (1, u "T_INT"), (1, u "T_LONG"), (1, u "SOFT_MAX_ARRAY_LENGTH"), (42, u "([BI[BII)I")] 40

def k10m0 : Method := { name := "<init>", desc := "()V", sig := { parameters := [], returnType := none }, accessFlags := 2, code := none }
def k10c1 : Code := { maxStack := 8, maxLocals := 8, code := jdk_48_method_14_code, exceptionTable := #[], attributes := #[] }
def k10m1 : Method := { name := "mismatch", desc := "([BI[BII)I", sig := { parameters := [(.array .byte), .int, (.array .byte), .int, .int], returnType := some .int }, accessFlags := 9, code := some k10c1 }
/-- jdk/internal/util/ArraysSupport -/
def k10 : Class := { plain "jdk/internal/util/ArraysSupport" (some 0) with
  accessFlags := 33
  interfaces := #[]
  cf := some (fileOf pool10 21 #[] #[{ accessFlags := 2, nameIndex := 9, descriptorIndex := 19, attributes := #[] }, { accessFlags := 9, nameIndex := 149, descriptorIndex := 337, attributes := #[] }] 33 16 #[] #[{ accessFlags := 24, nameIndex := 28, descriptorIndex := 29, attributes := #[] }, { accessFlags := 26, nameIndex := 38, descriptorIndex := 39, attributes := #[] }, { accessFlags := 25, nameIndex := 121, descriptorIndex := 25, attributes := #[] }, { accessFlags := 25, nameIndex := 131, descriptorIndex := 25, attributes := #[] }, { accessFlags := 25, nameIndex := 137, descriptorIndex := 25, attributes := #[] }, { accessFlags := 25, nameIndex := 143, descriptorIndex := 25, attributes := #[] }, { accessFlags := 25, nameIndex := 53, descriptorIndex := 25, attributes := #[] }, { accessFlags := 25, nameIndex := 24, descriptorIndex := 25, attributes := #[] }, { accessFlags := 25, nameIndex := 162, descriptorIndex := 25, attributes := #[] }, { accessFlags := 25, nameIndex := 187, descriptorIndex := 25, attributes := #[] }, { accessFlags := 26, nameIndex := 48, descriptorIndex := 25, attributes := #[] }, { accessFlags := 25, nameIndex := 277, descriptorIndex := 25, attributes := #[] }, { accessFlags := 25, nameIndex := 280, descriptorIndex := 25, attributes := #[] }, { accessFlags := 25, nameIndex := 282, descriptorIndex := 25, attributes := #[] }, { accessFlags := 25, nameIndex := 284, descriptorIndex := 25, attributes := #[] }, { accessFlags := 25, nameIndex := 286, descriptorIndex := 25, attributes := #[] }, { accessFlags := 25, nameIndex := 288, descriptorIndex := 25, attributes := #[] }, { accessFlags := 25, nameIndex := 290, descriptorIndex := 25, attributes := #[] }, { accessFlags := 25, nameIndex := 292, descriptorIndex := 25, attributes := #[] }, { accessFlags := 26, nameIndex := 108, descriptorIndex := 109, attributes := #[] }, { accessFlags := 25, nameIndex := 294, descriptorIndex := 25, attributes := #[] }])
  fields := #[{ name := "U", type := (.object "jdk/internal/misc/Unsafe"), accessFlags := 24, slot := 0, constantValue := 0 }, { name := "BIG_ENDIAN", type := .boolean, accessFlags := 26, slot := 1, constantValue := 0 }, { name := "LOG2_ARRAY_BOOLEAN_INDEX_SCALE", type := .int, accessFlags := 25, slot := 2, constantValue := 0 }, { name := "LOG2_ARRAY_BYTE_INDEX_SCALE", type := .int, accessFlags := 25, slot := 3, constantValue := 0 }, { name := "LOG2_ARRAY_CHAR_INDEX_SCALE", type := .int, accessFlags := 25, slot := 4, constantValue := 0 }, { name := "LOG2_ARRAY_SHORT_INDEX_SCALE", type := .int, accessFlags := 25, slot := 5, constantValue := 0 }, { name := "LOG2_ARRAY_INT_INDEX_SCALE", type := .int, accessFlags := 25, slot := 6, constantValue := 0 }, { name := "LOG2_ARRAY_LONG_INDEX_SCALE", type := .int, accessFlags := 25, slot := 7, constantValue := 0 }, { name := "LOG2_ARRAY_FLOAT_INDEX_SCALE", type := .int, accessFlags := 25, slot := 8, constantValue := 0 }, { name := "LOG2_ARRAY_DOUBLE_INDEX_SCALE", type := .int, accessFlags := 25, slot := 9, constantValue := 0 }, { name := "LOG2_BYTE_BIT_SIZE", type := .int, accessFlags := 26, slot := 10, constantValue := 0 }, { name := "T_BOOLEAN", type := .int, accessFlags := 25, slot := 11, constantValue := 0 }, { name := "T_CHAR", type := .int, accessFlags := 25, slot := 12, constantValue := 0 }, { name := "T_FLOAT", type := .int, accessFlags := 25, slot := 13, constantValue := 0 }, { name := "T_DOUBLE", type := .int, accessFlags := 25, slot := 14, constantValue := 0 }, { name := "T_BYTE", type := .int, accessFlags := 25, slot := 15, constantValue := 0 }, { name := "T_SHORT", type := .int, accessFlags := 25, slot := 16, constantValue := 0 }, { name := "T_INT", type := .int, accessFlags := 25, slot := 17, constantValue := 0 }, { name := "T_LONG", type := .int, accessFlags := 25, slot := 18, constantValue := 0 }, { name := "JLA", type := (.object "jdk/internal/access/JavaLangAccess"), accessFlags := 26, slot := 19, constantValue := 0 }, { name := "SOFT_MAX_ARRAY_LENGTH", type := .int, accessFlags := 25, slot := 20, constantValue := 0 }]
  methods := #[k10m0, k10m1]
  instanceTypes := #[]
  staticTypes := #[(.object "jdk/internal/misc/Unsafe"), .boolean, .int, .int, .int, .int, .int, .int, .int, .int, .int, .int, .int, .int, .int, .int, .int, .int, .int, (.object "jdk/internal/access/JavaLangAccess"), .int]
  resolved := Array.replicate 378 none
  statics := none }

def pool11 : Array CpInfo := pool [(4, .class_ 6), (1, u "java/lang/Object"), (0, u "<init>"), (0, u "()V"), (5, .class_ 16), (1, u "java/lang/StringLatin1"), (104, u "$assertionsDisabled"), (0, u "Z"), (98, .class_ 223), (1, u "java/lang/StringLatin1$LinesSpliterator"), (166, .class_ 391), (0, u "java/lang/StringLatin1$CharsSpliterator")] 3

def k11m0 : Method := { name := "<init>", desc := "()V", sig := { parameters := [], returnType := none }, accessFlags := 0, code := none }
/-- java/lang/StringLatin1 -/
def k11 : Class := { plain "java/lang/StringLatin1" (some 0) with
  accessFlags := 48
  interfaces := #[]
  cf := some (fileOf pool11 14 #[.nestMembers #[390, 221]] #[{ accessFlags := 0, nameIndex := 7, descriptorIndex := 8, attributes := #[] }] 48 4 #[] #[{ accessFlags := 4120, nameIndex := 121, descriptorIndex := 122, attributes := #[] }])
  fields := #[{ name := "$assertionsDisabled", type := .boolean, accessFlags := 4120, slot := 0, constantValue := 0 }]
  methods := #[k11m0]
  instanceTypes := #[]
  staticTypes := #[.boolean]
  resolved := Array.replicate 395 none
  statics := none }

def pool12 : Array CpInfo := pool [(2, .class_ 4), (1, u "java/lang/Object"), (0, u "<init>"), (0, u "()V"), (17, .class_ 26), (1, u "jdk/internal/util/Preconditions"), (28, .class_ 56), (0, u "jdk/internal/util/Preconditions$4"), (57, .class_ 115), (0, u "jdk/internal/util/Preconditions$1"), (7, u "SIOOBE_FORMATTER"), (0, u "Ljava/util/function/BiFunction;"), (0, .class_ 126), (0, u "jdk/internal/util/Preconditions$2"), (3, u "AIOOBE_FORMATTER"), (0, .class_ 132), (0, u "jdk/internal/util/Preconditions$3"), (3, u "IOOBE_FORMATTER")] 57

def k12m0 : Method := { name := "<init>", desc := "()V", sig := { parameters := [], returnType := none }, accessFlags := 1, code := none }
/-- jdk/internal/util/Preconditions -/
def k12 : Class := { plain "jdk/internal/util/Preconditions" (some 0) with
  accessFlags := 33
  interfaces := #[]
  cf := some (fileOf pool12 24 #[.nestMembers #[55, 131, 125, 114]] #[{ accessFlags := 1, nameIndex := 5, descriptorIndex := 6, attributes := #[] }] 33 2 #[] #[{ accessFlags := 25, nameIndex := 123, descriptorIndex := 124, attributes := #[] }, { accessFlags := 25, nameIndex := 130, descriptorIndex := 124, attributes := #[] }, { accessFlags := 25, nameIndex := 136, descriptorIndex := 124, attributes := #[] }])
  fields := #[{ name := "SIOOBE_FORMATTER", type := (.object "java/util/function/BiFunction"), accessFlags := 25, slot := 0, constantValue := 0 }, { name := "AIOOBE_FORMATTER", type := (.object "java/util/function/BiFunction"), accessFlags := 25, slot := 1, constantValue := 0 }, { name := "IOOBE_FORMATTER", type := (.object "java/util/function/BiFunction"), accessFlags := 25, slot := 2, constantValue := 0 }]
  methods := #[k12m0]
  instanceTypes := #[]
  staticTypes := #[(.object "java/util/function/BiFunction"), (.object "java/util/function/BiFunction"), (.object "java/util/function/BiFunction")]
  resolved := Array.replicate 194 none
  statics := some 2 }

def pool13 : Array CpInfo := pool [(1, u "java/lang/Cloneable"), (0, .class_ 1), (0, u "java/lang/Object"), (0, .class_ 3)] 3

/-- java/lang/Cloneable -/
def k13 : Class := { plain "java/lang/Cloneable" (some 0) with
  accessFlags := 1537
  interfaces := #[]
  cf := some (fileOf pool13 2 #[] #[] 1537 4 #[] #[])
  fields := #[]
  methods := #[]
  instanceTypes := #[]
  staticTypes := #[]
  resolved := Array.replicate 8 none
  statics := none }

/-- the primitive byte -/
def k14 : Class := { plain "byte" none with kind := .primitive 'B', accessFlags := 0x411 }
/-- [B -/
def k15 : Class := { plain "[B" (some 0) with kind := .array 14 .byte, interfaces := #[13, 2], accessFlags := 1041 }

/-- the primitive char -/
def k16 : Class := { plain "char" none with kind := .primitive 'C', accessFlags := 0x411 }
/-- [C -/
def k17 : Class := { plain "[C" (some 0) with kind := .array 16 .char, interfaces := #[13, 2], accessFlags := 1041 }

/-- the primitive int -/
def k18 : Class := { plain "int" none with kind := .primitive 'I', accessFlags := 0x411 }
/-- [I -/
def k19 : Class := { plain "[I" (some 0) with kind := .array 18 .int, interfaces := #[13, 2], accessFlags := 1041 }

def heap : Heap := #[{ cls := 7, slots := #[.long 0, .int 1, .null, .int 0, .null, .int 0, .int 0], vm := .statics 7 },
  { cls := 9, slots := #[.int 0, .int 8, .int 0, .int 1], vm := .statics 9 },
  { cls := 12, slots := #[.null, .null, .null], vm := .statics 12 }]
def classes : Array Class := #[k0, k1, k2, k3, k4, k5, k6, k7, k8, k9, k10, k11, k12, k13, k14, k15, k16, k17, k18, k19]
def interned : List (Array UInt16 × Addr) := []
def slotsUsed : Nat := 14
def theMethod : MethodId := ⟨1, 1⟩
def args0 : Array Value := #[.int 5, .int 65, .int 66, .int 67]
def aboutOver (below : List Frame) : State where
  vm := { classes := classes, interned := interned.toArray }
  heap := heap
  slotsUsed := slotsUsed
  threads := #[{ frames := .invoking theMethod args0 :: below }]
def below0 : List Frame := [.native { method := ⟨0, 0⟩, args := #[] }]
def about1 : State := aboutOver below0
def p0 : Program := .bare "" "" ""
def e0 : Env := launch0.env 0 0 0
theorem w_frames : about1.frames = Frame.invoking theMethod args0 :: below0 := rfl
set_option maxRecDepth 65536 in
theorem w_args : argsFit about1.vm theMethod args0 = true := by decide +kernel
set_option maxRecDepth 65536 in
theorem w_heap : heapFits about1 = true := by decide +kernel
set_option maxRecDepth 65536 in
theorem w_runnable : about1.curStatus? = some .runnable := by decide +kernel
set_option maxRecDepth 65536 in
theorem w_alone : about1.alone = true := by decide +kernel
set_option maxRecDepth 65536 in
theorem w_named : about1.methodNamed? x = some theMethod := by decide +kernel
set_option maxRecDepth 65536 in
theorem w_hears : about1.hears theMethod below0 = true := by decide +kernel
set_option maxRecDepth 65536 in
theorem w_ripe : about1.ripe theMethod args0 below0 = true := by decide +kernel
theorem w_running : about1.status = .running := rfl
set_option maxRecDepth 65536 in
theorem w_room : about1.hasRoom e0.platform room_1 = true :=
  launch0.hasRoom_least _ room_1 (by decide +kernel) (by decide +kernel) (by decide +kernel) (by decide +kernel) (by decide +kernel) (by decide +kernel)
theorem allAtoms_all (ts : List Jvm.Cond) (a : Array Jvm.Value) (st : Jvm.State) : (allAtoms ts).before a st = ts.all (fun c => c.before a st) := by
  induction ts with
  | nil => rfl
  | cons c t ih =>
    show (Jvm.Cond.and c (allAtoms t)).before a st = _
    rw [Jvm.Cond.before_and, ih, List.all_cons]
def words1 : List Jvm.Cond := Jvm.Cond.code x code maxLocals ret :: tables_1
/-- a 'code' word, met by the world's own term for the bytes: nothing is compared byte by byte -/
theorem code_word {y : MethodName} {bytes : ByteArray} {mx : Nat} {rt : Option FieldType} {a : Array Value} {s : State} {m : MethodId} {meth : Method} {c : Code} (h1 : s.methodNamed? y = some m) (h2 : s.vm.method? m = some meth) (h3 : meth.code = some c) (h4 : c.code = bytes)
    (h5 : (c.maxLocals == mx && c.exceptionTable.isEmpty && decide (c.maxStack ≤ mostOperands) && decide (meth.sig.returnType = rt) && !meth.locks && decide (parseMethodDescriptor y.desc = some meth.sig)) = true) : (Jvm.Cond.code y bytes mx rt).before a s = true := by
  simp only [Bool.and_eq_true, beq_iff_eq, Bool.not_eq_true', decide_eq_true_eq] at h5
  obtain ⟨⟨⟨⟨⟨g1, g2⟩, g3⟩, g4⟩, g5⟩, g6⟩ := h5
  simp [Cond.before, Cond.holds, Cond.value, h1, h2, h3, h4, g1, g2, g3, g4, g5, g6]
def isCode : Jvm.Cond → Bool
  | .code _ _ _ _ => true
  | _ => false
theorem all_split {L : List Jvm.Cond} {P : Jvm.Cond → Bool} (h1 : L.all (fun c => isCode c || P c) = true) (h2 : ∀ c ∈ L.filter isCode, P c = true) : L.all P = true := by
  refine List.all_eq_true.mpr fun c hc => ?_
  have h := List.all_eq_true.mp h1 c hc
  rcases Bool.eq_false_or_eq_true (isCode c) with hi | hi
  · exact h2 c (List.mem_filter.mpr ⟨hc, hi⟩)
  · simpa [hi] using h
set_option maxRecDepth 65536 in
theorem w_c0 : (Jvm.Cond.code x code maxLocals ret).before args0 about1 = true := code_word (m := ⟨1, 1⟩) (meth := k1m1) (c := k1c1) (by decide +kernel) rfl rfl rfl (by decide +kernel)
set_option maxRecDepth 65536 in
theorem w_c1 : (Jvm.Cond.code ({ cls := "java/lang/String", name := "<init>", desc := "([C)V" } : Jvm.MethodName) jdk_42_method_3_code (2 : Nat) (Option.none : Option Jvm.ClassFile.FieldType)).before args0 about1 = true := code_word (m := ⟨7, 1⟩) (meth := k7m1) (c := k7c1) (by decide +kernel) rfl rfl rfl (by decide +kernel)
set_option maxRecDepth 65536 in
theorem w_c2 : (Jvm.Cond.code ({ cls := "java/lang/String", name := "<init>", desc := "([CIILjava/lang/Void;)V" } : Jvm.MethodName) jdk_42_method_149_code (6 : Nat) (Option.none : Option Jvm.ClassFile.FieldType)).before args0 about1 = true := code_word (m := ⟨7, 5⟩) (meth := k7m5) (c := k7c5) (by decide +kernel) rfl rfl rfl (by decide +kernel)
set_option maxRecDepth 65536 in
theorem w_c3 : (Jvm.Cond.code ({ cls := "java/lang/Object", name := "<init>", desc := "()V" } : Jvm.MethodName) object_method_1_code (1 : Nat) (Option.none : Option Jvm.ClassFile.FieldType)).before args0 about1 = true := code_word (m := ⟨0, 0⟩) (meth := k0m0) (c := k0c0) (by decide +kernel) rfl rfl rfl (by decide +kernel)
set_option maxRecDepth 65536 in
theorem w_c4 : (Jvm.Cond.code ({ cls := "com/example/tendril/tendril/FactoryBeans", name := "isFactoryName", desc := "(Ljava/lang/String;)Z" } : Jvm.MethodName) prog_21_method_4_code (1 : Nat) (Option.some Jvm.ClassFile.FieldType.boolean)).before args0 about1 = true := code_word (m := ⟨8, 1⟩) (meth := k8m1) (c := k8c1) (by decide +kernel) rfl rfl rfl (by decide +kernel)
set_option maxRecDepth 65536 in
theorem w_c5 : (Jvm.Cond.code ({ cls := "java/lang/String", name := "startsWith", desc := "(Ljava/lang/String;)Z" } : Jvm.MethodName) jdk_42_method_76_code (2 : Nat) (Option.some Jvm.ClassFile.FieldType.boolean)).before args0 about1 = true := code_word (m := ⟨7, 4⟩) (meth := k7m4) (c := k7c4) (by decide +kernel) rfl rfl rfl (by decide +kernel)
set_option maxRecDepth 65536 in
theorem w_c6 : (Jvm.Cond.code ({ cls := "java/lang/String", name := "startsWith", desc := "(Ljava/lang/String;I)Z" } : Jvm.MethodName) jdk_42_method_75_code (8 : Nat) (Option.some Jvm.ClassFile.FieldType.boolean)).before args0 about1 = true := code_word (m := ⟨7, 3⟩) (meth := k7m3) (c := k7c3) (by decide +kernel) rfl rfl rfl (by decide +kernel)
set_option maxRecDepth 65536 in
theorem w_c7 : (Jvm.Cond.code ({ cls := "java/lang/String", name := "length", desc := "()I" } : Jvm.MethodName) jdk_42_method_54_code (1 : Nat) (Option.some Jvm.ClassFile.FieldType.int)).before args0 about1 = true := code_word (m := ⟨7, 2⟩) (meth := k7m2) (c := k7c2) (by decide +kernel) rfl rfl rfl (by decide +kernel)
set_option maxRecDepth 65536 in
theorem w_c8 : (Jvm.Cond.code ({ cls := "java/lang/String", name := "coder", desc := "()B" } : Jvm.MethodName) jdk_42_method_152_code (1 : Nat) (Option.some Jvm.ClassFile.FieldType.byte)).before args0 about1 = true := code_word (m := ⟨7, 6⟩) (meth := k7m6) (c := k7c6) (by decide +kernel) rfl rfl rfl (by decide +kernel)
set_option maxRecDepth 65536 in
theorem w_c9 : (Jvm.Cond.code ({ cls := "java/lang/StringUTF16", name := "compress", desc := "([CII)[B" } : Jvm.MethodName) jdk_52_method_16_code (6 : Nat) (Option.some (Jvm.ClassFile.FieldType.array Jvm.ClassFile.FieldType.byte))).before args0 about1 = true := code_word (m := ⟨9, 7⟩) (meth := k9m7) (c := k9c7) (by decide +kernel) rfl rfl rfl (by decide +kernel)
set_option maxRecDepth 65536 in
theorem w_c10 : (Jvm.Cond.code ({ cls := "java/lang/StringUTF16", name := "compress", desc := "([CI[BII)I" } : Jvm.MethodName) jdk_52_method_21_code (7 : Nat) (Option.some Jvm.ClassFile.FieldType.int)).before args0 about1 = true := code_word (m := ⟨9, 8⟩) (meth := k9m8) (c := k9c8) (by decide +kernel) rfl rfl rfl (by decide +kernel)
set_option maxRecDepth 65536 in
theorem w_c11 : (Jvm.Cond.code ({ cls := "java/lang/StringUTF16", name := "coderFromArrayLen", desc := "([BI)B" } : Jvm.MethodName) jdk_52_method_15_code (2 : Nat) (Option.some Jvm.ClassFile.FieldType.byte)).before args0 about1 = true := code_word (m := ⟨9, 6⟩) (meth := k9m6) (c := k9c6) (by decide +kernel) rfl rfl rfl (by decide +kernel)
set_option maxRecDepth 65536 in
theorem w_c12 : (Jvm.Cond.code ({ cls := "jdk/internal/util/ArraysSupport", name := "mismatch", desc := "([BI[BII)I" } : Jvm.MethodName) jdk_48_method_14_code (8 : Nat) (Option.some Jvm.ClassFile.FieldType.int)).before args0 about1 = true := code_word (m := ⟨10, 1⟩) (meth := k10m1) (c := k10c1) (by decide +kernel) rfl rfl rfl (by decide +kernel)
set_option maxRecDepth 65536 in
theorem w_c13 : (Jvm.Cond.code ({ cls := "java/lang/StringUTF16", name := "toBytes", desc := "([CII)[B" } : Jvm.MethodName) jdk_52_method_14_code (5 : Nat) (Option.some (Jvm.ClassFile.FieldType.array Jvm.ClassFile.FieldType.byte))).before args0 about1 = true := code_word (m := ⟨9, 5⟩) (meth := k9m5) (c := k9c5) (by decide +kernel) rfl rfl rfl (by decide +kernel)
set_option maxRecDepth 65536 in
theorem w_c14 : (Jvm.Cond.code ({ cls := "java/lang/StringUTF16", name := "newBytesFor", desc := "(I)[B" } : Jvm.MethodName) jdk_52_method_2_code (1 : Nat) (Option.some (Jvm.ClassFile.FieldType.array Jvm.ClassFile.FieldType.byte))).before args0 about1 = true := code_word (m := ⟨9, 1⟩) (meth := k9m1) (c := k9c1) (by decide +kernel) rfl rfl rfl (by decide +kernel)
set_option maxRecDepth 65536 in
theorem w_c15 : (Jvm.Cond.code ({ cls := "java/lang/StringUTF16", name := "newBytesLength", desc := "(I)I" } : Jvm.MethodName) jdk_52_method_3_code (1 : Nat) (Option.some Jvm.ClassFile.FieldType.int)).before args0 about1 = true := code_word (m := ⟨9, 2⟩) (meth := k9m2) (c := k9c2) (by decide +kernel) rfl rfl rfl (by decide +kernel)
set_option maxRecDepth 65536 in
theorem w_c16 : (Jvm.Cond.code ({ cls := "java/lang/StringUTF16", name := "putChar", desc := "([BII)V" } : Jvm.MethodName) jdk_52_method_4_code (3 : Nat) (Option.none : Option Jvm.ClassFile.FieldType)).before args0 about1 = true := code_word (m := ⟨9, 3⟩) (meth := k9m3) (c := k9c3) (by decide +kernel) rfl rfl rfl (by decide +kernel)
set_option maxRecDepth 65536 in
theorem w_c17 : (Jvm.Cond.code ({ cls := "java/lang/StringUTF16", name := "getChar", desc := "([BI)C" } : Jvm.MethodName) jdk_52_method_5_code (2 : Nat) (Option.some Jvm.ClassFile.FieldType.char)).before args0 about1 = true := code_word (m := ⟨9, 4⟩) (meth := k9m4) (c := k9c4) (by decide +kernel) rfl rfl rfl (by decide +kernel)
def codes1 : List Jvm.Cond := [Jvm.Cond.code x code maxLocals ret, Jvm.Cond.code ({ cls := "java/lang/String", name := "<init>", desc := "([C)V" } : Jvm.MethodName) jdk_42_method_3_code (2 : Nat) (Option.none : Option Jvm.ClassFile.FieldType), Jvm.Cond.code ({ cls := "java/lang/String", name := "<init>", desc := "([CIILjava/lang/Void;)V" } : Jvm.MethodName) jdk_42_method_149_code (6 : Nat) (Option.none : Option Jvm.ClassFile.FieldType), Jvm.Cond.code ({ cls := "java/lang/Object", name := "<init>", desc := "()V" } : Jvm.MethodName) object_method_1_code (1 : Nat) (Option.none : Option Jvm.ClassFile.FieldType), Jvm.Cond.code ({ cls := "com/example/tendril/tendril/FactoryBeans", name := "isFactoryName", desc := "(Ljava/lang/String;)Z" } : Jvm.MethodName) prog_21_method_4_code (1 : Nat) (Option.some Jvm.ClassFile.FieldType.boolean), Jvm.Cond.code ({ cls := "java/lang/String", name := "startsWith", desc := "(Ljava/lang/String;)Z" } : Jvm.MethodName) jdk_42_method_76_code (2 : Nat) (Option.some Jvm.ClassFile.FieldType.boolean), Jvm.Cond.code ({ cls := "java/lang/String", name := "startsWith", desc := "(Ljava/lang/String;I)Z" } : Jvm.MethodName) jdk_42_method_75_code (8 : Nat) (Option.some Jvm.ClassFile.FieldType.boolean), Jvm.Cond.code ({ cls := "java/lang/String", name := "length", desc := "()I" } : Jvm.MethodName) jdk_42_method_54_code (1 : Nat) (Option.some Jvm.ClassFile.FieldType.int), Jvm.Cond.code ({ cls := "java/lang/String", name := "coder", desc := "()B" } : Jvm.MethodName) jdk_42_method_152_code (1 : Nat) (Option.some Jvm.ClassFile.FieldType.byte), Jvm.Cond.code ({ cls := "java/lang/StringUTF16", name := "compress", desc := "([CII)[B" } : Jvm.MethodName) jdk_52_method_16_code (6 : Nat) (Option.some (Jvm.ClassFile.FieldType.array Jvm.ClassFile.FieldType.byte)), Jvm.Cond.code ({ cls := "java/lang/StringUTF16", name := "compress", desc := "([CI[BII)I" } : Jvm.MethodName) jdk_52_method_21_code (7 : Nat) (Option.some Jvm.ClassFile.FieldType.int), Jvm.Cond.code ({ cls := "java/lang/StringUTF16", name := "coderFromArrayLen", desc := "([BI)B" } : Jvm.MethodName) jdk_52_method_15_code (2 : Nat) (Option.some Jvm.ClassFile.FieldType.byte), Jvm.Cond.code ({ cls := "jdk/internal/util/ArraysSupport", name := "mismatch", desc := "([BI[BII)I" } : Jvm.MethodName) jdk_48_method_14_code (8 : Nat) (Option.some Jvm.ClassFile.FieldType.int), Jvm.Cond.code ({ cls := "java/lang/StringUTF16", name := "toBytes", desc := "([CII)[B" } : Jvm.MethodName) jdk_52_method_14_code (5 : Nat) (Option.some (Jvm.ClassFile.FieldType.array Jvm.ClassFile.FieldType.byte)), Jvm.Cond.code ({ cls := "java/lang/StringUTF16", name := "newBytesFor", desc := "(I)[B" } : Jvm.MethodName) jdk_52_method_2_code (1 : Nat) (Option.some (Jvm.ClassFile.FieldType.array Jvm.ClassFile.FieldType.byte)), Jvm.Cond.code ({ cls := "java/lang/StringUTF16", name := "newBytesLength", desc := "(I)I" } : Jvm.MethodName) jdk_52_method_3_code (1 : Nat) (Option.some Jvm.ClassFile.FieldType.int), Jvm.Cond.code ({ cls := "java/lang/StringUTF16", name := "putChar", desc := "([BII)V" } : Jvm.MethodName) jdk_52_method_4_code (3 : Nat) (Option.none : Option Jvm.ClassFile.FieldType), Jvm.Cond.code ({ cls := "java/lang/StringUTF16", name := "getChar", desc := "([BI)C" } : Jvm.MethodName) jdk_52_method_5_code (2 : Nat) (Option.some Jvm.ClassFile.FieldType.char)]
set_option maxRecDepth 65536 in
theorem codes_eq : words1.filter isCode = codes1 := rfl
theorem w_codes : ∀ c ∈ words1.filter isCode, c.before args0 about1 = true := by
  rw [codes_eq]
  intro c hc
  simp only [codes1, List.mem_cons, List.not_mem_nil, or_false] at hc
  rcases hc with rfl | rfl | rfl | rfl | rfl | rfl | rfl | rfl | rfl | rfl | rfl | rfl | rfl | rfl | rfl | rfl | rfl | rfl
  · exact w_c0
  · exact w_c1
  · exact w_c2
  · exact w_c3
  · exact w_c4
  · exact w_c5
  · exact w_c6
  · exact w_c7
  · exact w_c8
  · exact w_c9
  · exact w_c10
  · exact w_c11
  · exact w_c12
  · exact w_c13
  · exact w_c14
  · exact w_c15
  · exact w_c16
  · exact w_c17
set_option maxRecDepth 65536 in
theorem w_t1 : (words1.take 24).all (fun c => isCode c || c.before args0 about1) = true := by decide +kernel
set_option maxRecDepth 65536 in
theorem w_t2 : ((words1.drop 24).take 24).all (fun c => isCode c || c.before args0 about1) = true := by decide +kernel
set_option maxRecDepth 65536 in
theorem w_t3 : (((words1.drop 24).drop 24).take 24).all (fun c => isCode c || c.before args0 about1) = true := by decide +kernel
set_option maxRecDepth 65536 in
theorem w_t4 : (((words1.drop 24).drop 24).drop 24).all (fun c => isCode c || c.before args0 about1) = true := by decide +kernel
theorem w_tables : (allAtoms (Jvm.Cond.code x code maxLocals ret :: tables_1)).before args0 about1 = true := by
  rw [allAtoms_all]
  show words1.all (fun c => c.before args0 about1) = true
  refine all_split ?_ w_codes
  rw [← List.take_append_drop 24 words1, List.all_append, w_t1, ← List.take_append_drop 24 (words1.drop 24), List.all_append, w_t2, ← List.take_append_drop 24 ((words1.drop 24).drop 24), List.all_append, w_t3, w_t4]
  rfl
set_option maxRecDepth 65536 in
theorem w_rest : rest_1_c.before args0 about1 = true := by decide +kernel
set_option maxRecDepth 65536 in
theorem w_case : (Jvm.Cond.and given_1 narrow_1).before args0 about1 = true := by decide +kernel
set_option maxRecDepth 65536 in
theorem w_consts : constsHeld consts_1 about1 := Jvm.Lit.constsHeldB_iff.mp (by decide +kernel)
theorem w_applies : (headSpec (Jvm.Cond.code x code maxLocals ret :: tables_1) room_1).applies x e0.platform about1 = true :=
  (Spec.applies_iff w_frames).mpr ⟨w_running, w_runnable, w_alone, w_named, w_hears, w_ripe, w_room, w_tables⟩
theorem atStart : AtStart classFile x code maxLocals ret World_1 tables_1 room_1 Calls_1 rest_1 Pre_1 launch0 p0 e0 about1 theMethod args0 below0 :=
  ⟨lists_1, trivial, launch0.admits_env _ _ _, launch0.least_env, fairChoices_fair.cas, fairChoices_fair.clock, w_frames, w_args, w_heap, w_applies, ⟨w_consts, trivial⟩, w_rest, w_case⟩
end start1
theorem witness_1 : WitnessClaimed_1 := ⟨start1.p0, start1.e0, start1.about1, start1.theMethod, start1.args0, start1.below0, start1.atStart⟩
end Jvm.Pilot.@@N@@
