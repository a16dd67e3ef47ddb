import JvmDerived
import JvmDerived.Pilot.@@N@@Statement
import JvmDerived.Pilot.@@N@@Code
set_option linter.unusedVariables false
set_option linter.unusedSimpArgs false
namespace Jvm.OwnW
open Jvm Jvm.ClassFile Sem Op Lib Jvm.Free Jvm.Stand Jvm.LawKit Jvm.RoadKit
/-! A small logic of walks of its own: a store L (what is known of single cells), one rule an instruction. -/
abbrev Ent : Type := Addr × Bool × (Cell → Prop)
abbrev Store : Type := List Ent
abbrev Lay : Type := List (String × String × String)
def FldC (Z : State) (C n d : String) (v : Value) (cell : Cell) : Prop := ∃ (cf : ClassId) (k : Class) (i : Nat) (f : Field), Z.fieldFound? C n d = some (cf, k, i, f) ∧ f.isStatic = false ∧ cell.vm ≠ .unknown ∧ cell.vm.isStatics = false ∧ Z.vm.assignable cell.cls cf = true ∧ cell.slots[f.slot]? = some v
def ExaC (Z : State) (C : String) (cell : Cell) : Prop := ∃ k : Class, Z.vm.findClass C = some cell.cls ∧ Z.vm.classes[cell.cls]? = some k ∧ cell.vm.isStatics = false ∧ (k.kind = .ordinary → cell.slots.size = k.instanceTypes.size)
/-- an object of exactly the class C, the fields of lay hold vs -/
def OB (Z : State) (C : String) (lay : Lay) (vs : List Value) (c : Cell) : Prop := ExaC Z C c ∧ ∀ (j : Nat) (f : String × String × String) (v : Value), lay[j]? = some f → vs[j]? = some v → FldC Z f.1 f.2.1 f.2.2 v c
/-- an array of ty that holds vs -/
def AR (Z : State) (ty : FieldType) (vs : List Value) (c : Cell) : Prop := Z.isArrayOf c ty ∧ c.vm ≠ .unknown ∧ c.slots.toList = vs ∧ vs.length < 2 ^ 31
/-- an array of references over the class C -/
def RA (Z : State) (C : String) (vs : List Value) (c : Cell) : Prop := AR Z (.object C) vs c ∧ Ovr Z c.cls C
def Inv (Z : State) (EL : List (String × Nat)) (vm : Vm) (h : Heap) (L : Store) : Prop :=
  Ext Z.heap h ∧ CHv Z EL vm h ∧ (∀ o ∈ L, ∃ c : Cell, h[o.1]? = some c ∧ o.2.2 c) ∧ (∀ o ∈ L, o.2.1 = true → Z.heap.size ≤ o.1 ∧ Safe Z EL vm h o.1) ∧ L.Pairwise (fun o o' => (o.2.1 = true ∨ o'.2.1 = true) → o.1 ≠ o'.1)
section Facts
variable {Z : State} {EL : List (String × Nat)} {vm vm' : Vm} {h h' : Heap} {L L' L0 : Store} {a b : Addr} {C n d : String} {v w : Value} {c c' : Cell} {P P' : Cell → Prop} {lay : Lay} {vs : List Value} {j sl : Nat} {ty : FieldType} {a0 : Array Value} {fl : Bool}
theorem fld_of (hc : h[a]? = some c) (F : FldC Z C n d v c) : Fld Z h a C n d v := by obtain ⟨cf, k, i, f, r⟩ := F; exact ⟨c, cf, k, i, f, hc, r⟩
theorem of_fld (hc : h[a]? = some c) (F : Fld Z h a C n d v) : FldC Z C n d v c := by
  obtain ⟨c1, cf, k, i, f, h1, r⟩ := F
  cases hc.symm.trans h1
  exact ⟨cf, k, i, f, r⟩
theorem exa_of (hc : h[a]? = some c) (F : ExaC Z C c) : Exa Z h a C := by obtain ⟨k, r⟩ := F; exact ⟨c, k, hc, r⟩
theorem of_exa (hc : h[a]? = some c) (F : Exa Z h a C) : ExaC Z C c := by
  obtain ⟨c1, k, h1, r⟩ := F
  cases hc.symm.trans h1
  exact ⟨k, r⟩
theorem OB.exa (F : OB Z C lay vs c) (hc : h[a]? = some c) : Exa Z h a C := exa_of hc F.1
theorem OB.fld {f : String × String × String} (F : OB Z C lay vs c) (hc : h[a]? = some c) (hj : lay[j]? = some f) (hv : vs[j]? = some v) : Fld Z h a f.1 f.2.1 f.2.2 v := fld_of hc (F.2 j f v hj hv)
theorem AR.arr (F : AR Z ty vs c) (hc : h[a]? = some c) : Arr Z h a c ty := ⟨hc, F.1, F.2.1⟩
theorem AR.size (F : AR Z ty vs c) : c.slots.size = vs.length := by rw [← F.2.2.1]; simp
theorem AR.get (F : AR Z ty vs c) (hv : vs[j]? = some v) : c.slots[j]? = some v := by rw [← F.2.2.1] at hv; simpa using hv
theorem AR.set (F : AR Z ty vs c) (j : Nat) (v : Value) : AR Z ty (vs.set j v) (c.setSlot j v) :=
  ⟨F.1, F.2.1, by rw [← F.2.2.1]; simp [Cell.setSlot], by rw [List.length_set]; exact F.2.2.2⟩
theorem Inv.at_ (I : Inv Z EL vm h L) (m : (a, fl, P) ∈ L) : ∃ c : Cell, h[a]? = some c ∧ P c := I.2.2.1 _ m
theorem Inv.perm (p : L.Perm L') (I : Inv Z EL vm h L) : Inv Z EL vm h L' :=
  ⟨I.1, I.2.1, fun o ho => I.2.2.1 o (p.symm.subset ho), fun o ho => I.2.2.2.1 o (p.symm.subset ho), (p.pairwise_iff (fun {x y} q r => (q r.symm).symm)).mp I.2.2.2.2⟩
theorem Inv.sub (p : L'.Sublist L) (I : Inv Z EL vm h L) : Inv Z EL vm h L' :=
  ⟨I.1, I.2.1, fun o ho => I.2.2.1 o (p.subset ho), fun o ho => I.2.2.2.1 o (p.subset ho), I.2.2.2.2.sublist p⟩
theorem Inv.weak (hP : ∀ c, P c → P' c) (I : Inv Z EL vm h ((a, fl, P) :: L)) : Inv Z EL vm h ((a, fl, P') :: L) := by
  obtain ⟨h1, h2, h3, h4, h5⟩ := I
  rw [List.pairwise_cons] at h5
  refine ⟨h1, h2, fun o ho => ?_, fun o ho => ?_, List.pairwise_cons.mpr ⟨fun o ho q => h5.1 o ho q, h5.2⟩⟩
  · rcases List.mem_cons.mp ho with rfl | ho
    · obtain ⟨c, e1, e2⟩ := h3 (a, fl, P) (List.mem_cons_self ..); exact ⟨c, e1, hP c e2⟩
    · exact h3 o (List.mem_cons_of_mem _ ho)
  · rcases List.mem_cons.mp ho with rfl | ho
    · exact h4 (a, fl, P) (List.mem_cons_self ..)
    · exact h4 o (List.mem_cons_of_mem _ ho)
theorem Inv.lt (I : Inv Z EL vm h L) {o : Ent} (m : o ∈ L) : o.1 < h.size := by obtain ⟨c, e, -⟩ := I.2.2.1 o m; exact (Array.getElem?_eq_some_iff.mp e).1
/-- a new cell -/
theorem Inv.new (I : Inv Z EL vm h L) (E : Ext h h') (hc : h'[h.size]? = some c) (hP : P c) : Inv Z EL vm h' ((h.size, true, P) :: L) := by
  have I0 := I
  obtain ⟨h1, h2, h3, h4, h5⟩ := I
  refine ⟨⟨Nat.le_trans h1.1 E.1, fun x c q => E.2 x c (h1.2 x c q)⟩, h2.ext E, fun o ho => ?_, fun o ho q => ?_, List.pairwise_cons.mpr ⟨fun o ho _ q => ?_, h5⟩⟩
  · rcases List.mem_cons.mp ho with rfl | ho
    · exact ⟨c, hc, hP⟩
    · obtain ⟨c1, e1, e2⟩ := h3 o ho; exact ⟨c1, E.2 _ _ e1, e2⟩
  · rcases List.mem_cons.mp ho with rfl | ho
    · exact ⟨h1.1, Safe.ext E h2 (Safe.new (Nat.le_refl _))⟩
    · exact ⟨(h4 o ho q).1, Safe.ext E h2 (h4 o ho q).2⟩
  · have := I0.lt ho
    exact absurd q (Nat.ne_of_gt this)
/-- a write to the first -/
theorem Inv.wr (I : Inv Z EL vm h ((a, true, P) :: L)) (W : Wr h h' a sl v) (hP : ∀ c, h[a]? = some c → P c → P' (c.setSlot sl v)) : Inv Z EL vm h' ((a, true, P') :: L) := by
  have I0 := I
  obtain ⟨h1, h2, h3, h4, h5⟩ := I
  have hs := (h4 _ (List.mem_cons_self ..) rfl)
  rw [List.pairwise_cons] at h5
  have W0 := W
  obtain ⟨cell, e1, e2, e3, rfl⟩ := W
  refine ⟨⟨by simpa using h1.1, fun x c q => ?_⟩, h2.wr W0 hs.2, fun o ho => ?_, fun o ho q => ?_, List.pairwise_cons.mpr ⟨fun o ho q => h5.1 o ho q, h5.2⟩⟩
  · have hx : x < Z.heap.size := (Array.getElem?_eq_some_iff.mp q).1
    have hne : a ≠ x := fun e => by have := hs.1; rw [e] at this; exact absurd hx (Nat.not_lt.mpr this)
    rw [Array.getElem?_setIfInBounds_ne hne]; exact h1.2 x c q
  · rcases List.mem_cons.mp ho with rfl | ho
    · obtain ⟨c1, q1, q2⟩ := h3 (a, true, P) (List.mem_cons_self ..)
      cases e1.symm.trans q1
      exact ⟨_, Array.getElem?_setIfInBounds_self_of_lt (Array.getElem?_eq_some_iff.mp e1).1, hP _ e1 q2⟩
    · obtain ⟨c1, q1, q2⟩ := h3 o (List.mem_cons_of_mem _ ho)
      have hne : a ≠ o.1 := h5.1 o ho (Or.inl rfl)
      exact ⟨c1, by rw [Array.getElem?_setIfInBounds_ne hne]; exact q1, q2⟩
  · rcases List.mem_cons.mp ho with rfl | ho
    · exact ⟨hs.1, Safe.wr W0 hs.2 h2 hs.2⟩
    · have q2 := h4 o (List.mem_cons_of_mem _ ho) q
      exact ⟨q2.1, Safe.wr W0 hs.2 h2 q2.2⟩
/-- the tables go on -/
theorem Inv.later (I : Inv Z EL vm h L) (E : Ext h h') (A : CHr Z EL vm h vm' h') : Inv Z EL vm' h' L := by
  have I0 := I
  obtain ⟨h1, h2, h3, h4, h5⟩ := I
  refine ⟨⟨Nat.le_trans h1.1 E.1, fun x c q => E.2 x c (h1.2 x c q)⟩, A.1, fun o ho => ?_, fun o ho q => ?_, h5⟩
  · obtain ⟨c1, e1, e2⟩ := h3 o ho; exact ⟨c1, E.2 _ _ e1, e2⟩
  · exact ⟨(h4 o ho q).1, A.safe (I0.lt ho) (h4 o ho q).2⟩
/-- a cell that isn't written -/
theorem Inv.old (I : Inv Z EL vm h L) (hc : h[a]? = some c) (hP : P c) (hne : ∀ x, Z.heap.size ≤ x → Safe Z EL vm h x → x ≠ a) : Inv Z EL vm h ((a, false, P) :: L) := by
  obtain ⟨h1, h2, h3, h4, h5⟩ := I
  refine ⟨h1, h2, fun o ho => ?_, fun o ho q => ?_, List.pairwise_cons.mpr ⟨fun o ho q r => ?_, h5⟩⟩
  · rcases List.mem_cons.mp ho with rfl | ho
    · exact ⟨c, hc, hP⟩
    · exact h3 o ho
  · rcases List.mem_cons.mp ho with rfl | ho
    · cases q
    · exact h4 o ho q
  · rcases q with q | q
    · cases q
    · exact hne o.1 (h4 o ho q).1 (h4 o ho q).2 r.symm
theorem Inv.ne {o o' : Ent} (I : Inv Z EL vm h L) {i j : Nat} (hi : L[i]? = some o) (hj : L[j]? = some o') (hij : i < j) (hf : o.2.1 = true ∨ o'.2.1 = true) : o.1 ≠ o'.1 := by
  obtain ⟨h1, e1⟩ := List.getElem?_eq_some_iff.mp hi
  obtain ⟨h2, e2⟩ := List.getElem?_eq_some_iff.mp hj
  have := List.pairwise_iff_getElem.mp I.2.2.2.2 i j h1 h2 hij
  rw [e1, e2] at this
  exact this hf
/-- the slots of a layout are unlike -/
def LayOk (Z : State) (a0 : Array Value) (C : String) (lay : Lay) : Prop := (∀ f ∈ lay, Laid Z a0 C f.1 f.2.1 f.2.2) ∧ (lay.map (·.2.1)).Nodup ∧ ∀ f ∈ lay, ∃ t, parseFieldDescriptor f.2.2 = some t
theorem LayOk.ne {f f' : String × String × String} {j' : Nat} (K : LayOk Z a0 C lay) (hj : lay[j]? = some f) (hj' : lay[j']? = some f') (hne : j ≠ j') : RoadKit.slotOf Z f.1 f.2.1 f.2.2 ≠ RoadKit.slotOf Z f'.1 f'.2.1 f'.2.2 := by
  have m1 := List.mem_of_getElem? hj
  have m2 := List.mem_of_getElem? hj'
  obtain ⟨t1, q1⟩ := K.2.2 f m1
  obtain ⟨t2, q2⟩ := K.2.2 f' m2
  refine slot_ne (K.1 f m1) (K.1 f' m2) (fun e => ?_) q1 q2
  have n1 : (lay.map (·.2.1))[j]? = some f.2.1 := by simp [hj]
  have n2 : (lay.map (·.2.1))[j']? = some f'.2.1 := by simp [hj']
  obtain ⟨l1, g1⟩ := List.getElem?_eq_some_iff.mp n1
  obtain ⟨l2, g2⟩ := List.getElem?_eq_some_iff.mp n2
  have := List.pairwise_iff_getElem.mp (show (lay.map (·.2.1)).Pairwise (· ≠ ·) from K.2.1)
  rcases Nat.lt_or_gt_of_ne hne with q | q
  · exact this j j' l1 l2 q (by rw [g1, g2]; exact e)
  · exact this j' j l2 l1 q (by rw [g1, g2]; exact e.symm)
theorem OB.set {f : String × String × String} (K : LayOk Z a0 C lay) (F : OB Z C lay vs c) (hj : lay[j]? = some f) (hv : vs[j]? = some w) (v : Value) : OB Z C lay (vs.set j v) (c.setSlot (RoadKit.slotOf Z f.1 f.2.1 f.2.2) v) := by
  obtain ⟨⟨k, x1, x2, x3, x4⟩, F2⟩ := F
  have Fj := F2 j f w hj hv
  obtain ⟨cf, kf, i, fi, y1, y2, y3, y4, y5, y6⟩ := Fj
  have es : RoadKit.slotOf Z f.1 f.2.1 f.2.2 = fi.slot := by simp [RoadKit.slotOf, y1]
  refine ⟨⟨k, x1, x2, x3, fun q => by rw [sz_set]; exact x4 q⟩, fun j' f' v' h1 h2 => ?_⟩
  by_cases e : j = j'
  · subst e
    cases hj.symm.trans h1
    have hlt : j < vs.length := (List.getElem?_eq_some_iff.mp hv).1
    have : v' = v := by rw [List.getElem?_set_self hlt] at h2; exact (Option.some.inj h2).symm
    subst this
    have hsl := (Array.getElem?_eq_some_iff.mp y6).1
    exact ⟨cf, kf, i, fi, y1, y2, y3, y4, y5, by rw [es]; simp [Cell.setSlot, hsl]⟩
  · rw [List.getElem?_set_ne e] at h2
    obtain ⟨cf', kf', i', fi', z1, z2, z3, z4, z5, z6⟩ := F2 j' f' v' h1 h2
    have es' : RoadKit.slotOf Z f'.1 f'.2.1 f'.2.2 = fi'.slot := by simp [RoadKit.slotOf, z1]
    have hne := K.ne hj h1 e
    rw [es, es'] at hne
    exact ⟨cf', kf', i', fi', z1, z2, z3, z4, z5, by rw [es]; simp only [Cell.setSlot]; rw [Array.getElem?_setIfInBounds_ne hne]; exact z6⟩
end Facts
/-- the store with the entry o taken out -/
def Ex (L : Store) (o : Ent) (L0 : Store) : Prop := L.Perm (o :: L0)
theorem Ex.here {o : Ent} {L : Store} : Ex (o :: L) o L := List.Perm.refl _
theorem Ex.there {o x : Ent} {L L0 : Store} (h : Ex L o L0) : Ex (x :: L) o (x :: L0) := (List.Perm.cons x h).trans (List.Perm.swap o x L0)
/-- a local is written over -/
def LS1 (k : Nat) (v : Value) (Ls Ls' : List Slot) : Prop := v.category = 1 → storeLocals ⟨Ls⟩ k v = some ⟨Ls'⟩ ∧ ∃ o, Ls[k]? = some o ∧ One o ∧ Ls' = Ls.set k (.val v)
theorem LS1.of {Ls : List Slot} {i : Nat} {v : Value} {o : Slot} (hold : Ls[i]? = some o) (ho : One o) : LS1 i v Ls (Ls.set i (.val v)) := fun hv => by
  have q := XS.store1 (l := ⟨Ls⟩) (i := i) (v := v) (o := o) (by simpa using hold) ho hv
  exact ⟨by simpa using q, o, hold, ho, rfl⟩
theorem LS1.here {v : Value} {o : Slot} {Ls : List Slot} (ho : One o) : LS1 0 v (o :: Ls) (.val v :: Ls) := LS1.of (Ls := o :: Ls) (i := 0) rfl ho
theorem LS1.there {k : Nat} {v : Value} {x : Slot} {Ls Ls' : List Slot} (h : LS1 k v Ls Ls') : LS1 (k + 1) v (x :: Ls) (x :: Ls') := fun hv => by
  obtain ⟨-, o, h1, h2, rfl⟩ := h hv
  exact LS1.of (Ls := x :: Ls) (i := k + 1) (by simpa using h1) h2 hv
def LS2 (k : Nat) (v : Int64) (Ls Ls' : List Slot) : Prop := ∃ (A B : List Slot) (o1 o2 : Slot), Ls = A ++ o1 :: o2 :: B ∧ A.length = k ∧ ((One o1 ∧ One o2) ∨ ∃ x, o1 = .val (.long x) ∧ o2 = .second) ∧ Ls' = A ++ .val (.long v) :: .second :: B
theorem LS2.here {v : Int64} {o1 o2 : Slot} {Ls : List Slot} (ho : (One o1 ∧ One o2) ∨ ∃ x, o1 = .val (.long x) ∧ o2 = .second) : LS2 0 v (o1 :: o2 :: Ls) (.val (.long v) :: .second :: Ls) := ⟨[], Ls, o1, o2, rfl, rfl, ho, rfl⟩
theorem LS2.there {k : Nat} {v : Int64} {x : Slot} {Ls Ls' : List Slot} (h : LS2 k v Ls Ls') : LS2 (k + 1) v (x :: Ls) (x :: Ls') := by
  obtain ⟨A, B, o1, o2, rfl, h2, h3, rfl⟩ := h
  exact ⟨x :: A, B, o1, o2, rfl, by simp [h2], h3, rfl⟩
theorem LS2.store {k : Nat} {v : Int64} {Ls Ls' : List Slot} (h : LS2 k v Ls Ls') : storeLocals ⟨Ls⟩ k (.long v) = some ⟨Ls'⟩ := by
  obtain ⟨A, B, o1, o2, rfl, rfl, h3, rfl⟩ := h
  have hv : (Value.long v).category = 2 := rfl
  rcases h3 with ⟨h1 | ⟨w1, h1, g1⟩, h2 | ⟨w2, h2, g2⟩⟩ | ⟨x, h1, h2⟩
  · subst h1 h2; simp [storeLocals, storeSelf, setAt, hv]
  · subst h1 h2; simp [storeLocals, storeSelf, setAt, hv, g2]
  · subst h1 h2; simp [storeLocals, storeSelf, setAt, hv, g1]
  · subst h1 h2; simp [storeLocals, storeSelf, setAt, hv, g1, g2]
  · have hx : (Value.long x).category = 2 := rfl
    subst h1 h2; simp [storeLocals, storeSelf, setAt, hv, hx]
/-- THE WALK: from pc with these locals and this stack, the store L, cb cells and sb slots yet to be made, the body comes to its return, and Q holds there -/
def Wk (l : Launch) (Z : State) (a0 : Array Value) (EL : List (String × Nat)) (y : MethodName) (bytes : ByteArray) (mx : Nat) (ret : Option FieldType) (R : Room) (Q : Option Value → Store → Prop) (L : Store) (cb sb pc : Nat) (Ls : List Slot) (St : List Value) : Prop :=
  ∀ (p : Program) (e : Env) (s : State) (m : MethodId) (args : Array Value) (below : List Frame) (meth : Method) (c : Code) (T : State) (vm0 : Vm) (k0 : Nat) (locs : List Loc) (cells slots : Nat),
    p.tables.exec = Jvm.exec → c.code = bytes → c.maxLocals = mx → meth.sig.returnType = ret → meth.locks = false → meth.name = y.name → vm0.findClass y.cls = some m.cls →
    Stand p l e R (s.setVm vm0) m args below meth c T locs cells slots → s.Since vm0 k0 → k0 ≤ T.heap.size → Z.Warmed39 vm0 → EW Z a0 EL → Inv Z EL vm0 T.heap L → Fr Z.heap.size locs → cells + cb ≤ R.cells → slots + sb ≤ R.slots →
    ∃ (fin : State) (v : Option Value) (Lc : List Loc) (L' : Store), Steps p.tables e below (T.setTop (mkF m pc ⟨Ls⟩ St)) fin ∧ fin.status = .running ∧ Ended fin below (.returned v) ∧ Q v L' ∧ Inv Z EL fin.vm fin.heap L' ∧ Fr Z.heap.size Lc ∧ ReturnedEndW s (.returned v) fin Lc R.cells R.slots
/-- THE CONTRACT of a body -/
def Ct (l : Launch) (Z : State) (EL : List (String × Nat)) (y : MethodName) (bytes : ByteArray) (mx : Nat) (ret : Option FieldType) (R : Room) (as' : Array Value) (L : Store) (Q : Option Value → Store → Prop) : Prop :=
  ∀ ws : List Jvm.Cond, MetFree l y (head1 (Jvm.Cond.code y bytes mx ret :: ws) R) (fun a U => a = as' ∧ Z.Warmed39 U.vm ∧ Inv Z EL U.vm U.heap L) (fun _ _ _ _ _ => True) (fun _ U o U' => ∃ v Lc L', o = .returned v ∧ Q v L' ∧ Inv Z EL U'.vm U'.heap L' ∧ Fr Z.heap.size Lc ∧ ReturnedEndW U o U' Lc R.cells R.slots)
theorem endMono {s t : State} {o : Outcome} {L : List Loc} {k n k' n' : Nat} (h : ReturnedEndW s o t L k n) (hk : k ≤ k') (hn : n ≤ n') : ReturnedEndW s o t L k' n' := ⟨h.1, h.2.1, h.2.2.1, h.2.2.2.mono hk hn⟩
section Rules
variable {l : Launch} {Z : State} {a0 : Array Value} {EL : List (String × Nat)} {y : MethodName} {bytes : ByteArray} {mx : Nat} {ret : Option FieldType} {R : Room} {Q Q' : Option Value → Store → Prop} {L L0 L' : Store} {cb sb pc q : Nat} {Ls Ls' : List Slot} {St rest : List Value}
theorem Wk.mono (k : Wk l Z a0 EL y bytes mx ret R Q L cb sb pc Ls St) {cb' sb' : Nat} (h1 : cb ≤ cb') (h2 : sb ≤ sb') : Wk l Z a0 EL y bytes mx ret R Q L cb' sb' pc Ls St := by
  intro p e s m args below meth c T vm0 k0 locs cells slots hx hby hmx hret hlk hnm hown X hS hk hZ hE hI hF hc hs
  exact k p e s m args below meth c T vm0 k0 locs cells slots hx hby hmx hret hlk hnm hown X hS hk hZ hE hI hF (Nat.le_trans (Nat.add_le_add_left h1 _) hc) (Nat.le_trans (Nat.add_le_add_left h2 _) hs)
theorem Wk.imp (hq : ∀ v L, Q v L → Q' v L) (k : Wk l Z a0 EL y bytes mx ret R Q L cb sb pc Ls St) : Wk l Z a0 EL y bytes mx ret R Q' L cb sb pc Ls St := by
  intro p e s m args below meth c T vm0 k0 locs cells slots hx hby hmx hret hlk hnm hown X hS hk hZ hE hI hF hc hs
  obtain ⟨fin, v, Lc, L', h1, h2, h3, h4, r⟩ := k p e s m args below meth c T vm0 k0 locs cells slots hx hby hmx hret hlk hnm hown X hS hk hZ hE hI hF hc hs
  exact ⟨fin, v, Lc, L', h1, h2, h3, hq _ _ h4, r⟩
theorem Wk.inv (hi : ∀ vm h, Inv Z EL vm h L → Inv Z EL vm h L') (k : Wk l Z a0 EL y bytes mx ret R Q L' cb sb pc Ls St) : Wk l Z a0 EL y bytes mx ret R Q L cb sb pc Ls St := by
  intro p e s m args below meth c T vm0 k0 locs cells slots hx hby hmx hret hlk hnm hown X hS hk hZ hE hI hF hc hs
  exact k p e s m args below meth c T vm0 k0 locs cells slots hx hby hmx hret hlk hnm hown X hS hk hZ hE (hi _ _ hI) hF hc hs
/-- the entry o comes to the front -/
theorem Wk.pull {o : Ent} (h : Ex L o L0) (k : Wk l Z a0 EL y bytes mx ret R Q (o :: L0) cb sb pc Ls St) : Wk l Z a0 EL y bytes mx ret R Q L cb sb pc Ls St := Wk.inv (fun _ _ I => I.perm h) k
theorem Wk.perm (h : L.Perm L') (k : Wk l Z a0 EL y bytes mx ret R Q L' cb sb pc Ls St) : Wk l Z a0 EL y bytes mx ret R Q L cb sb pc Ls St := Wk.inv (fun _ _ I => I.perm h) k
theorem Wk.sub (h : L'.Sublist L) (k : Wk l Z a0 EL y bytes mx ret R Q L' cb sb pc Ls St) : Wk l Z a0 EL y bytes mx ret R Q L cb sb pc Ls St := Wk.inv (fun _ _ I => I.sub h) k
theorem Wk.distinct {i j : Nat} {o o' : Ent} (hi : L[i]? = some o) (hj : L[j]? = some o') (hij : i < j) (hf : o.2.1 = true ∨ o'.2.1 = true) (k : o.1 ≠ o'.1 → Wk l Z a0 EL y bytes mx ret R Q L cb sb pc Ls St) : Wk l Z a0 EL y bytes mx ret R Q L cb sb pc Ls St := by
  intro p e s m args below meth c T vm0 k0 locs cells slots hx hby hmx hret hlk hnm hown X hS hk hZ hE hI hF hc hs
  exact k (hI.ne hi hj hij hf) p e s m args below meth c T vm0 k0 locs cells slots hx hby hmx hret hlk hnm hown X hS hk hZ hE hI hF hc hs
/-- an old object, known at the start -/
theorem Wk.old {a : Addr} {c0 : Cell} {P : Cell → Prop} (h0 : Z.heap[a]? = some c0) (hP : P c0) (k : Wk l Z a0 EL y bytes mx ret R Q ((a, false, P) :: L) cb sb pc Ls St) : Wk l Z a0 EL y bytes mx ret R Q L cb sb pc Ls St := by
  refine Wk.inv (fun vm h I => I.old (I.1.2 _ _ h0) hP fun x hx _ e => ?_) k
  subst e
  exact absurd (Array.getElem?_eq_some_iff.mp h0).1 (Nat.not_lt.mpr hx)
/-- one plain step -/
theorem Wk.pure {q : Nat} {Ls' : List Slot} {St' : List Value} (st : ∀ {p : Program} {e : Env} {below : List Frame} {T : State} {m : MethodId} {c : Code} {target : State}, At T m c below → p.tables.exec = Jvm.exec → c.code = bytes → Steps p.tables e below (T.setTop (mkF m q ⟨Ls'⟩ St')) target → Steps p.tables e below (T.setTop (mkF m pc ⟨Ls⟩ St)) target)
    (k : Wk l Z a0 EL y bytes mx ret R Q L cb sb q Ls' St') : Wk l Z a0 EL y bytes mx ret R Q L cb sb pc Ls St := by
  intro p e s m args below meth c T vm0 k0 locs cells slots hx hby hmx hret hlk hnm hown X hS hk hZ hE hI hF hc hs
  obtain ⟨fin, v, Lc, L', h1, r⟩ := k p e s m args below meth c T vm0 k0 locs cells slots hx hby hmx hret hlk hnm hown X hS hk hZ hE hI hF hc hs
  exact ⟨fin, v, Lc, L', st X.here hx hby h1, r⟩
theorem getL {k : Nat} {o : Slot} (h : Ls[k]? = some o) : (⟨Ls⟩ : Array Slot)[k]? = some o := by simpa using h
theorem Wk.iload_n {i : Fin 4} {u : Int32} (hd : decode bytes pc = .ok (.iload_n i, 1)) (hq : pc + 1 = q) (hl : Ls[i.val]? = some (.val (.int u))) (k : Wk l Z a0 EL y bytes mx ret R Q L cb sb q Ls (.int u :: St)) : Wk l Z a0 EL y bytes mx ret R Q L cb sb pc Ls (St) := by
  subst hq; exact Wk.pure (fun X hx hby r => XS.iloadN X hx rfl (hb hby hd) (getL hl) r) k
theorem Wk.iload {i : Nat} {u : Int32} (hd : decode bytes pc = .ok (.iload i, 2)) (hq : pc + 2 = q) (hl : Ls[i]? = some (.val (.int u))) (k : Wk l Z a0 EL y bytes mx ret R Q L cb sb q Ls (.int u :: St)) : Wk l Z a0 EL y bytes mx ret R Q L cb sb pc Ls (St) := by
  subst hq; exact Wk.pure (fun X hx hby r => XS.iload X hx rfl (hb hby hd) (getL hl) r) k
theorem Wk.aload_n {i : Fin 4} {u : Value} (hd : decode bytes pc = .ok (.aload_n i, 1)) (hq : pc + 1 = q) (hl : Ls[i.val]? = some (.val u)) (hr : u.isRef = true) (k : Wk l Z a0 EL y bytes mx ret R Q L cb sb q Ls (u :: St)) : Wk l Z a0 EL y bytes mx ret R Q L cb sb pc Ls (St) := by
  subst hq; exact Wk.pure (fun X hx hby r => XS.aloadN X hx rfl (hb hby hd) (getL hl) hr r) k
theorem Wk.aload {i : Nat} {u : Value} (hd : decode bytes pc = .ok (.aload i, 2)) (hq : pc + 2 = q) (hl : Ls[i]? = some (.val u)) (hr : u.isRef = true) (k : Wk l Z a0 EL y bytes mx ret R Q L cb sb q Ls (u :: St)) : Wk l Z a0 EL y bytes mx ret R Q L cb sb pc Ls (St) := by
  subst hq; exact Wk.pure (fun X hx hby r => XS.aload X hx rfl (hb hby hd) (getL hl) hr r) k
theorem Wk.lload_n {i : Fin 4} {u : Int64} (hd : decode bytes pc = .ok (.lload_n i, 1)) (hq : pc + 1 = q) (hl : Ls[i.val]? = some (.val (.long u))) (k : Wk l Z a0 EL y bytes mx ret R Q L cb sb q Ls (.long u :: St)) : Wk l Z a0 EL y bytes mx ret R Q L cb sb pc Ls (St) := by
  subst hq; exact Wk.pure (fun X hx hby r => XT.lloadN X hx rfl (hb hby hd) (getL hl) r) k
theorem Wk.lload {i : Nat} {u : Int64} (hd : decode bytes pc = .ok (.lload i, 2)) (hq : pc + 2 = q) (hl : Ls[i]? = some (.val (.long u))) (k : Wk l Z a0 EL y bytes mx ret R Q L cb sb q Ls (.long u :: St)) : Wk l Z a0 EL y bytes mx ret R Q L cb sb pc Ls (St) := by
  subst hq; exact Wk.pure (fun X hx hby r => XT.lload X hx rfl (hb hby hd) (getL hl) r) k
theorem Wk.istore_n {i : Fin 4} {u : Int32} (hd : decode bytes pc = .ok (.istore_n i, 1)) (hq : pc + 1 = q) (hl : LS1 i.val (.int u) Ls Ls') (k : Wk l Z a0 EL y bytes mx ret R Q L cb sb q Ls' (St)) : Wk l Z a0 EL y bytes mx ret R Q L cb sb pc Ls (.int u :: St) := by
  subst hq; exact Wk.pure (fun X hx hby r => XS.istoreN X hx rfl (hb hby hd) rfl (hl rfl).1 r) k
theorem Wk.istore {i : Nat} {u : Int32} (hd : decode bytes pc = .ok (.istore i, 2)) (hq : pc + 2 = q) (hl : LS1 i (.int u) Ls Ls') (k : Wk l Z a0 EL y bytes mx ret R Q L cb sb q Ls' (St)) : Wk l Z a0 EL y bytes mx ret R Q L cb sb pc Ls (.int u :: St) := by
  subst hq; exact Wk.pure (fun X hx hby r => XS.istore X hx rfl (hb hby hd) rfl (hl rfl).1 r) k
theorem Wk.astore_n {i : Fin 4} {u : Value} (hd : decode bytes pc = .ok (.astore_n i, 1)) (hq : pc + 1 = q) (hr : u.isRef = true) (hl : LS1 i.val u Ls Ls') (k : Wk l Z a0 EL y bytes mx ret R Q L cb sb q Ls' (St)) : Wk l Z a0 EL y bytes mx ret R Q L cb sb pc Ls (u :: St) := by
  subst hq; exact Wk.pure (fun X hx hby r => XS.astoreN X hx rfl (hb hby hd) rfl hr (hl (XT.cat1 hr)).1 r) k
theorem Wk.astore {i : Nat} {u : Value} (hd : decode bytes pc = .ok (.astore i, 2)) (hq : pc + 2 = q) (hr : u.isRef = true) (hl : LS1 i u Ls Ls') (k : Wk l Z a0 EL y bytes mx ret R Q L cb sb q Ls' (St)) : Wk l Z a0 EL y bytes mx ret R Q L cb sb pc Ls (u :: St) := by
  subst hq; exact Wk.pure (fun X hx hby r => XS.astore X hx rfl (hb hby hd) rfl hr (hl (XT.cat1 hr)).1 r) k
theorem Wk.lstore_n {i : Fin 4} {u : Int64} (hd : decode bytes pc = .ok (.lstore_n i, 1)) (hq : pc + 1 = q) (hl : LS2 i.val u Ls Ls') (k : Wk l Z a0 EL y bytes mx ret R Q L cb sb q Ls' (St)) : Wk l Z a0 EL y bytes mx ret R Q L cb sb pc Ls (.long u :: St) := by
  subst hq; exact Wk.pure (fun X hx hby r => XT.lstoreN X hx rfl (hb hby hd) rfl hl.store r) k
theorem Wk.lstore {i : Nat} {u : Int64} (hd : decode bytes pc = .ok (.lstore i, 2)) (hq : pc + 2 = q) (hl : LS2 i u Ls Ls') (k : Wk l Z a0 EL y bytes mx ret R Q L cb sb q Ls' (St)) : Wk l Z a0 EL y bytes mx ret R Q L cb sb pc Ls (.long u :: St) := by
  subst hq; exact Wk.pure (fun X hx hby r => XT.lstore X hx rfl (hb hby hd) rfl hl.store r) k
theorem Wk.iconst {i : Int} (u : Int32) (hd : decode bytes pc = .ok (.iconst i, 1)) (hq : pc + 1 = q) (hu : Int32.ofInt i = u) (k : Wk l Z a0 EL y bytes mx ret R Q L cb sb q Ls (.int u :: St)) : Wk l Z a0 EL y bytes mx ret R Q L cb sb pc Ls (St) := by
  subst hq; exact Wk.pure (fun X hx hby r => XS.iconst X hx rfl (hb hby hd) (by rw [hu]; exact r)) k
theorem Wk.bipush {i : Int} (u : Int32) (hd : decode bytes pc = .ok (.bipush i, 2)) (hq : pc + 2 = q) (hu : (Int8.ofInt i).toInt32 = u) (k : Wk l Z a0 EL y bytes mx ret R Q L cb sb q Ls (.int u :: St)) : Wk l Z a0 EL y bytes mx ret R Q L cb sb pc Ls (St) := by
  subst hq; exact Wk.pure (fun X hx hby r => XS.bipush X hx rfl (hb hby hd) (by rw [hu]; exact r)) k
theorem Wk.sipush {i : Int} (u : Int32) (hd : decode bytes pc = .ok (.sipush i, 3)) (hq : pc + 3 = q) (hu : (Int16.ofInt i).toInt32 = u) (k : Wk l Z a0 EL y bytes mx ret R Q L cb sb q Ls (.int u :: St)) : Wk l Z a0 EL y bytes mx ret R Q L cb sb pc Ls (St) := by
  subst hq; exact Wk.pure (fun X hx hby r => XS.sipush X hx rfl (hb hby hd) (by rw [hu]; exact r)) k
theorem Wk.lconst {i : Fin 2} (u : Int64) (hd : decode bytes pc = .ok (.lconst i, 1)) (hq : pc + 1 = q) (hu : Int64.ofNat i = u) (k : Wk l Z a0 EL y bytes mx ret R Q L cb sb q Ls (.long u :: St)) : Wk l Z a0 EL y bytes mx ret R Q L cb sb pc Ls (St) := by
  subst hq; exact Wk.pure (fun X hx hby r => XT.lconst X hx rfl (hb hby hd) (by rw [hu]; exact r)) k
theorem Wk.aconst_null  (hd : decode bytes pc = .ok (.aconst_null, 1)) (hq : pc + 1 = q) (k : Wk l Z a0 EL y bytes mx ret R Q L cb sb q Ls (.null :: St)) : Wk l Z a0 EL y bytes mx ret R Q L cb sb pc Ls (St) := by
  subst hq; exact Wk.pure (fun X hx hby r => XS.aconstNull X hx rfl (hb hby hd)  r) k
theorem Wk.iadd {u w : Int32} (hd : decode bytes pc = .ok (.iadd, 1)) (hq : pc + 1 = q) (k : Wk l Z a0 EL y bytes mx ret R Q L cb sb q Ls (.int (u + w) :: St)) : Wk l Z a0 EL y bytes mx ret R Q L cb sb pc Ls (.int w :: .int u :: St) := by
  subst hq; exact Wk.pure (fun X hx hby r => XS.iadd X hx rfl (hb hby hd) rfl r) k
theorem Wk.isub {u w : Int32} (hd : decode bytes pc = .ok (.isub, 1)) (hq : pc + 1 = q) (k : Wk l Z a0 EL y bytes mx ret R Q L cb sb q Ls (.int (u - w) :: St)) : Wk l Z a0 EL y bytes mx ret R Q L cb sb pc Ls (.int w :: .int u :: St) := by
  subst hq; exact Wk.pure (fun X hx hby r => XS.isub X hx rfl (hb hby hd) rfl r) k
theorem Wk.imul {u w : Int32} (hd : decode bytes pc = .ok (.imul, 1)) (hq : pc + 1 = q) (k : Wk l Z a0 EL y bytes mx ret R Q L cb sb q Ls (.int (u * w) :: St)) : Wk l Z a0 EL y bytes mx ret R Q L cb sb pc Ls (.int w :: .int u :: St) := by
  subst hq; exact Wk.pure (fun X hx hby r => XS.imul X hx rfl (hb hby hd) rfl r) k
theorem Wk.iand {u w : Int32} (hd : decode bytes pc = .ok (.iand, 1)) (hq : pc + 1 = q) (k : Wk l Z a0 EL y bytes mx ret R Q L cb sb q Ls (.int (u &&& w) :: St)) : Wk l Z a0 EL y bytes mx ret R Q L cb sb pc Ls (.int w :: .int u :: St) := by
  subst hq; exact Wk.pure (fun X hx hby r => XS.iand X hx rfl (hb hby hd) rfl r) k
theorem Wk.irem {u w : Int32} (hd : decode bytes pc = .ok (.irem, 1)) (hq : pc + 1 = q) (hy : w ≠ 0) (k : Wk l Z a0 EL y bytes mx ret R Q L cb sb q Ls (.int (u % w) :: St)) : Wk l Z a0 EL y bytes mx ret R Q L cb sb pc Ls (.int w :: .int u :: St) := by
  subst hq; exact Wk.pure (fun X hx hby r => XS.irem X hx rfl (hb hby hd) rfl hy (by rw [show u - u / w * w = u % w from irem_eq_mod u w]; exact r)) k
theorem Wk.idiv {u w : Int32} (hd : decode bytes pc = .ok (.idiv, 1)) (hq : pc + 1 = q) (hy : w ≠ 0) (k : Wk l Z a0 EL y bytes mx ret R Q L cb sb q Ls (.int (u / w) :: St)) : Wk l Z a0 EL y bytes mx ret R Q L cb sb pc Ls (.int w :: .int u :: St) := by
  subst hq; exact Wk.pure (fun X hx hby r => XS.idiv X hx rfl (hb hby hd) rfl hy r) k
theorem Wk.ineg {u : Int32} (hd : decode bytes pc = .ok (.ineg, 1)) (hq : pc + 1 = q) (k : Wk l Z a0 EL y bytes mx ret R Q L cb sb q Ls (.int (-u) :: St)) : Wk l Z a0 EL y bytes mx ret R Q L cb sb pc Ls (.int u :: St) := by
  subst hq; exact Wk.pure (fun X hx hby r => XS.ineg X hx rfl (hb hby hd) rfl r) k
theorem Wk.ior {u w : Int32} (hd : decode bytes pc = .ok (.ior, 1)) (hq : pc + 1 = q) (k : Wk l Z a0 EL y bytes mx ret R Q L cb sb q Ls (.int (u ||| w) :: St)) : Wk l Z a0 EL y bytes mx ret R Q L cb sb pc Ls (.int w :: .int u :: St) := by
  subst hq; exact Wk.pure (fun X hx hby r => XT.ior X hx rfl (hb hby hd) rfl r) k
theorem Wk.ixor {u w : Int32} (hd : decode bytes pc = .ok (.ixor, 1)) (hq : pc + 1 = q) (k : Wk l Z a0 EL y bytes mx ret R Q L cb sb q Ls (.int (u ^^^ w) :: St)) : Wk l Z a0 EL y bytes mx ret R Q L cb sb pc Ls (.int w :: .int u :: St) := by
  subst hq; exact Wk.pure (fun X hx hby r => XT.ixor X hx rfl (hb hby hd) rfl r) k
theorem Wk.ishl {u w : Int32} (hd : decode bytes pc = .ok (.ishl, 1)) (hq : pc + 1 = q) (k : Wk l Z a0 EL y bytes mx ret R Q L cb sb q Ls (.int (u <<< (w &&& 31)) :: St)) : Wk l Z a0 EL y bytes mx ret R Q L cb sb pc Ls (.int w :: .int u :: St) := by
  subst hq; exact Wk.pure (fun X hx hby r => XT.ishl X hx rfl (hb hby hd) rfl r) k
theorem Wk.ishr {u w : Int32} (hd : decode bytes pc = .ok (.ishr, 1)) (hq : pc + 1 = q) (k : Wk l Z a0 EL y bytes mx ret R Q L cb sb q Ls (.int (u >>> (w &&& 31)) :: St)) : Wk l Z a0 EL y bytes mx ret R Q L cb sb pc Ls (.int w :: .int u :: St) := by
  subst hq; exact Wk.pure (fun X hx hby r => XT.ishr X hx rfl (hb hby hd) rfl r) k
theorem Wk.iushr {u w : Int32} (hd : decode bytes pc = .ok (.iushr, 1)) (hq : pc + 1 = q) (k : Wk l Z a0 EL y bytes mx ret R Q L cb sb q Ls (.int (XT.ushr u w) :: St)) : Wk l Z a0 EL y bytes mx ret R Q L cb sb pc Ls (.int w :: .int u :: St) := by
  subst hq; exact Wk.pure (fun X hx hby r => XT.iushr X hx rfl (hb hby hd) rfl r) k
theorem Wk.ladd {u w : Int64} (hd : decode bytes pc = .ok (.ladd, 1)) (hq : pc + 1 = q) (k : Wk l Z a0 EL y bytes mx ret R Q L cb sb q Ls (.long (u + w) :: St)) : Wk l Z a0 EL y bytes mx ret R Q L cb sb pc Ls (.long w :: .long u :: St) := by
  subst hq; exact Wk.pure (fun X hx hby r => XT.ladd X hx rfl (hb hby hd) rfl r) k
theorem Wk.lsub {u w : Int64} (hd : decode bytes pc = .ok (.lsub, 1)) (hq : pc + 1 = q) (k : Wk l Z a0 EL y bytes mx ret R Q L cb sb q Ls (.long (u - w) :: St)) : Wk l Z a0 EL y bytes mx ret R Q L cb sb pc Ls (.long w :: .long u :: St) := by
  subst hq; exact Wk.pure (fun X hx hby r => XT.lsub X hx rfl (hb hby hd) rfl r) k
theorem Wk.lmul {u w : Int64} (hd : decode bytes pc = .ok (.lmul, 1)) (hq : pc + 1 = q) (k : Wk l Z a0 EL y bytes mx ret R Q L cb sb q Ls (.long (u * w) :: St)) : Wk l Z a0 EL y bytes mx ret R Q L cb sb pc Ls (.long w :: .long u :: St) := by
  subst hq; exact Wk.pure (fun X hx hby r => XT.lmul X hx rfl (hb hby hd) rfl r) k
theorem Wk.land {u w : Int64} (hd : decode bytes pc = .ok (.land, 1)) (hq : pc + 1 = q) (k : Wk l Z a0 EL y bytes mx ret R Q L cb sb q Ls (.long (u &&& w) :: St)) : Wk l Z a0 EL y bytes mx ret R Q L cb sb pc Ls (.long w :: .long u :: St) := by
  subst hq; exact Wk.pure (fun X hx hby r => XT.land X hx rfl (hb hby hd) rfl r) k
theorem Wk.ldiv {u w : Int64} (hd : decode bytes pc = .ok (.ldiv, 1)) (hq : pc + 1 = q) (hy : w ≠ 0) (k : Wk l Z a0 EL y bytes mx ret R Q L cb sb q Ls (.long (u / w) :: St)) : Wk l Z a0 EL y bytes mx ret R Q L cb sb pc Ls (.long w :: .long u :: St) := by
  subst hq; exact Wk.pure (fun X hx hby r => XT.ldiv X hx rfl (hb hby hd) rfl hy r) k
theorem Wk.lrem {u w : Int64} (hd : decode bytes pc = .ok (.lrem, 1)) (hq : pc + 1 = q) (hy : w ≠ 0) (k : Wk l Z a0 EL y bytes mx ret R Q L cb sb q Ls (.long (u % w) :: St)) : Wk l Z a0 EL y bytes mx ret R Q L cb sb pc Ls (.long w :: .long u :: St) := by
  subst hq; exact Wk.pure (fun X hx hby r => XT.lrem X hx rfl (hb hby hd) rfl hy (by rw [show u - u / w * w = u % w from lrem_mod u w]; exact r)) k
theorem Wk.i2l {u : Int32} (hd : decode bytes pc = .ok (.i2l, 1)) (hq : pc + 1 = q) (k : Wk l Z a0 EL y bytes mx ret R Q L cb sb q Ls (.long u.toInt64 :: St)) : Wk l Z a0 EL y bytes mx ret R Q L cb sb pc Ls (.int u :: St) := by
  subst hq; exact Wk.pure (fun X hx hby r => XT.i2l X hx rfl (hb hby hd) rfl r) k
theorem Wk.l2i {u : Int64} (hd : decode bytes pc = .ok (.l2i, 1)) (hq : pc + 1 = q) (k : Wk l Z a0 EL y bytes mx ret R Q L cb sb q Ls (.int u.toInt32 :: St)) : Wk l Z a0 EL y bytes mx ret R Q L cb sb pc Ls (.long u :: St) := by
  subst hq; exact Wk.pure (fun X hx hby r => XT.l2i X hx rfl (hb hby hd) rfl r) k
theorem Wk.i2b {u : Int32} (hd : decode bytes pc = .ok (.i2b, 1)) (hq : pc + 1 = q) (k : Wk l Z a0 EL y bytes mx ret R Q L cb sb q Ls (.int u.toInt8.toInt32 :: St)) : Wk l Z a0 EL y bytes mx ret R Q L cb sb pc Ls (.int u :: St) := by
  subst hq; exact Wk.pure (fun X hx hby r => XT.i2b X hx rfl (hb hby hd) rfl r) k
theorem Wk.i2c {u : Int32} (hd : decode bytes pc = .ok (.i2c, 1)) (hq : pc + 1 = q) (k : Wk l Z a0 EL y bytes mx ret R Q L cb sb q Ls (.int u.toUInt32.toUInt16.toUInt32.toInt32 :: St)) : Wk l Z a0 EL y bytes mx ret R Q L cb sb pc Ls (.int u :: St) := by
  subst hq; exact Wk.pure (fun X hx hby r => XT.i2c X hx rfl (hb hby hd) rfl r) k
theorem Wk.lcmp {u w : Int64} (hd : decode bytes pc = .ok (.lcmp, 1)) (hq : pc + 1 = q) (k : Wk l Z a0 EL y bytes mx ret R Q L cb sb q Ls (.int (XT.cmpL u w) :: St)) : Wk l Z a0 EL y bytes mx ret R Q L cb sb pc Ls (.long w :: .long u :: St) := by
  subst hq; exact Wk.pure (fun X hx hby r => XT.lcmp X hx rfl (hb hby hd) rfl r) k
theorem Wk.dup {u : Value} (hd : decode bytes pc = .ok (.dup, 1)) (hq : pc + 1 = q) (hc : u.category = 1) (k : Wk l Z a0 EL y bytes mx ret R Q L cb sb q Ls (u :: u :: St)) : Wk l Z a0 EL y bytes mx ret R Q L cb sb pc Ls (u :: St) := by
  subst hq; exact Wk.pure (fun X hx hby r => XS.dup X hx rfl (hb hby hd) rfl hc r) k
theorem Wk.pop {u : Value} (hd : decode bytes pc = .ok (.pop, 1)) (hq : pc + 1 = q) (hc : u.category = 1) (k : Wk l Z a0 EL y bytes mx ret R Q L cb sb q Ls (St)) : Wk l Z a0 EL y bytes mx ret R Q L cb sb pc Ls (u :: St) := by
  subst hq; exact Wk.pure (fun X hx hby r => XT.pop X hx rfl (hb hby hd) rfl hc r) k
theorem Wk.dup_x1 {u w : Value} (hd : decode bytes pc = .ok (.dup_x1, 1)) (hq : pc + 1 = q) (hc : u.category = 1) (hc' : w.category = 1) (k : Wk l Z a0 EL y bytes mx ret R Q L cb sb q Ls (u :: w :: u :: St)) : Wk l Z a0 EL y bytes mx ret R Q L cb sb pc Ls (u :: w :: St) := by
  subst hq; exact Wk.pure (fun X hx hby r => XT.dupX1 X hx rfl (hb hby hd) rfl hc hc' r) k
theorem Wk.iinc {i : Nat} {cst : Int} {u : Int32} (w : Int32) (hd : decode bytes pc = .ok (.iinc i cst, 3)) (hq : pc + 3 = q) (hu : Int32.ofInt cst = w) (hl : Ls[i]? = some (.val (.int u))) (hl' : LS1 i (.int (u + w)) Ls Ls') (k : Wk l Z a0 EL y bytes mx ret R Q L cb sb q Ls' (St)) : Wk l Z a0 EL y bytes mx ret R Q L cb sb pc Ls (St) := by
  subst hq; exact Wk.pure (fun X hx hby r => XS.iinc X hx rfl (hb hby hd) (getL hl) (by rw [hu]; exact (hl' rfl).1) r) k
theorem Wk.goto  {o : Int} (hd : decode bytes pc = .ok (.goto o, 3)) (ho : 0 ≤ (pc : Int) + o) (hq : ((pc : Int) + o).toNat = q) (k : Wk l Z a0 EL y bytes mx ret R Q L cb sb q Ls (St)) : Wk l Z a0 EL y bytes mx ret R Q L cb sb pc Ls (St) :=
  Wk.pure (fun X hx hby r => XS.goto X hx rfl rfl (hb hby hd)  ho hq r) k
theorem Wk.if_t {cd : ClassFile.Cond} {u : Int32} {o : Int} (hd : decode bytes pc = .ok (.ifCond cd o, 3)) (ho : 0 ≤ (pc : Int) + o) (hq : ((pc : Int) + o).toNat = q) (hc : ifCond.holds cd u = true) (k : Wk l Z a0 EL y bytes mx ret R Q L cb sb q Ls (St)) : Wk l Z a0 EL y bytes mx ret R Q L cb sb pc Ls (.int u :: St) :=
  Wk.pure (fun X hx hby r => XS.ifYes X hx rfl rfl (hb hby hd) rfl hc ho hq r) k
theorem Wk.if_f {cd : ClassFile.Cond} {o : Int} {u : Int32} (hd : decode bytes pc = .ok (.ifCond cd o, 3)) (hq : pc + 3 = q) (hc : ifCond.holds cd u = false) (k : Wk l Z a0 EL y bytes mx ret R Q L cb sb q Ls (St)) : Wk l Z a0 EL y bytes mx ret R Q L cb sb pc Ls (.int u :: St) := by
  subst hq; exact Wk.pure (fun X hx hby r => XS.ifNo X hx rfl (hb hby hd) rfl hc r) k
theorem Wk.icmp_t {cd : ClassFile.Cond} {u w : Int32} {o : Int} (hd : decode bytes pc = .ok (.if_icmp cd o, 3)) (ho : 0 ≤ (pc : Int) + o) (hq : ((pc : Int) + o).toNat = q) (hc : if_icmp.holds cd u w = true) (k : Wk l Z a0 EL y bytes mx ret R Q L cb sb q Ls (St)) : Wk l Z a0 EL y bytes mx ret R Q L cb sb pc Ls (.int w :: .int u :: St) :=
  Wk.pure (fun X hx hby r => XS.icmpYes X hx rfl rfl (hb hby hd) rfl hc ho hq r) k
theorem Wk.icmp_f {cd : ClassFile.Cond} {o : Int} {u w : Int32} (hd : decode bytes pc = .ok (.if_icmp cd o, 3)) (hq : pc + 3 = q) (hc : if_icmp.holds cd u w = false) (k : Wk l Z a0 EL y bytes mx ret R Q L cb sb q Ls (St)) : Wk l Z a0 EL y bytes mx ret R Q L cb sb pc Ls (.int w :: .int u :: St) := by
  subst hq; exact Wk.pure (fun X hx hby r => XS.icmpNo X hx rfl (hb hby hd) rfl hc r) k
theorem Wk.null_t  {o : Int} (hd : decode bytes pc = .ok (.ifnull o, 3)) (ho : 0 ≤ (pc : Int) + o) (hq : ((pc : Int) + o).toNat = q) (k : Wk l Z a0 EL y bytes mx ret R Q L cb sb q Ls (St)) : Wk l Z a0 EL y bytes mx ret R Q L cb sb pc Ls (.null :: St) :=
  Wk.pure (fun X hx hby r => XS.ifnullYes X hx rfl rfl (hb hby hd) rfl ho hq r) k
theorem Wk.null_f {o : Int} {u : Addr} (hd : decode bytes pc = .ok (.ifnull o, 3)) (hq : pc + 3 = q) (k : Wk l Z a0 EL y bytes mx ret R Q L cb sb q Ls (St)) : Wk l Z a0 EL y bytes mx ret R Q L cb sb pc Ls (.ref u :: St) := by
  subst hq; exact Wk.pure (fun X hx hby r => XS.ifnullNo X hx rfl (hb hby hd) rfl r) k
theorem Wk.nonnull_t {u : Addr} {o : Int} (hd : decode bytes pc = .ok (.ifnonnull o, 3)) (ho : 0 ≤ (pc : Int) + o) (hq : ((pc : Int) + o).toNat = q) (k : Wk l Z a0 EL y bytes mx ret R Q L cb sb q Ls (St)) : Wk l Z a0 EL y bytes mx ret R Q L cb sb pc Ls (.ref u :: St) :=
  Wk.pure (fun X hx hby r => XT.ifnonnullYes X hx rfl rfl (hb hby hd) rfl ho hq r) k
theorem Wk.nonnull_f {o : Int} (hd : decode bytes pc = .ok (.ifnonnull o, 3)) (hq : pc + 3 = q) (k : Wk l Z a0 EL y bytes mx ret R Q L cb sb q Ls (St)) : Wk l Z a0 EL y bytes mx ret R Q L cb sb pc Ls (.null :: St) := by
  subst hq; exact Wk.pure (fun X hx hby r => XT.ifnonnullNo X hx rfl (hb hby hd) rfl r) k
theorem Wk.acmp_t {cd : ClassFile.ACond} {u w : Value} {o : Int} (hd : decode bytes pc = .ok (.if_acmp cd o, 3)) (ho : 0 ≤ (pc : Int) + o) (hq : ((pc : Int) + o).toNat = q) (h1 : u.isRef = true) (h2 : w.isRef = true) (hc : XT.acmp cd u w = true) (k : Wk l Z a0 EL y bytes mx ret R Q L cb sb q Ls (St)) : Wk l Z a0 EL y bytes mx ret R Q L cb sb pc Ls (w :: u :: St) :=
  Wk.pure (fun X hx hby r => XT.acmpYes X hx rfl rfl (hb hby hd) rfl h1 h2 hc ho hq r) k
theorem Wk.acmp_f {cd : ClassFile.ACond} {o : Int} {u w : Value} (hd : decode bytes pc = .ok (.if_acmp cd o, 3)) (hq : pc + 3 = q) (h1 : u.isRef = true) (h2 : w.isRef = true) (hc : XT.acmp cd u w = false) (k : Wk l Z a0 EL y bytes mx ret R Q L cb sb q Ls (St)) : Wk l Z a0 EL y bytes mx ret R Q L cb sb pc Ls (w :: u :: St) := by
  subst hq; exact Wk.pure (fun X hx hby r => XT.acmpNo X hx rfl (hb hby hd) rfl h1 h2 hc r) k

/-- a step that reads the tables or the heap and leaves the heap -/
theorem Wk.same {Ls' : List Slot} {St' : List Value} (st : ∀ {p : Program} {e : Env} {s : State} {m : MethodId} {args : Array Value} {below : List Frame} {meth : Method} {c : Code} {T : State} {vm0 : Vm} {locs : List Loc} {cells slots : Nat}, p.tables.exec = Jvm.exec → c.code = bytes → c.maxLocals = mx → vm0.findClass y.cls = some m.cls → Z.Warmed39 vm0 → Inv Z EL vm0 T.heap L →
      Stand p l e R (s.setVm vm0) m args below meth c T locs cells slots → ∃ T', Stand p l e R (s.setVm vm0) m args below meth c T' locs cells slots ∧ T'.heap = T.heap ∧ ∀ target, Steps p.tables e below (T'.setTop (mkF m q ⟨Ls'⟩ St')) target → Steps p.tables e below (T.setTop (mkF m pc ⟨Ls⟩ St)) target)
    (k : Wk l Z a0 EL y bytes mx ret R Q L cb sb q Ls' St') : Wk l Z a0 EL y bytes mx ret R Q L cb sb pc Ls St := by
  intro p e s m args below meth c T vm0 k0 locs cells slots hx hby hmx hret hlk hnm hown X hS hk hZ hE hI hF hc hs
  obtain ⟨T', X', e', st'⟩ := st hx hby hmx hown hZ hI X
  obtain ⟨fin, v, Lc, L', h1, r⟩ := k p e s m args below meth c T' vm0 k0 locs cells slots hx hby hmx hret hlk hnm hown X' hS (by rw [e']; exact hk) hZ hE (by rw [e']; exact hI) hF hc hs
  exact ⟨fin, v, Lc, L', st' _ h1, r⟩
theorem Wk.getfield {i : Nat} (j : Nat) {a : Addr} {fl : Bool} {C R0 O n d : String} {lay : Lay} {vs : List Value} {v : Value} (hd : decode bytes pc = .ok (.getfield i, 3)) (hq : pc + 3 = q) (w : (Jvm.Cond.fieldLink y.cls i R0 n d).before a0 Z = true) (via : Via Z R0 O n d)
    (hm : (a, fl, OB Z C lay vs) ∈ L) (hj : lay[j]? = some (O, n, d)) (hv : vs[j]? = some v) (k : Wk l Z a0 EL y bytes mx ret R Q L cb sb q Ls (v :: St)) : Wk l Z a0 EL y bytes mx ret R Q L cb sb pc Ls (.ref a :: St) := by
  subst hq
  refine Wk.same (fun {p e s m args below meth c T vm0 locs cells slots} hx hby hmx hown hZ hI X => ?_) k
  obtain ⟨cl, e1, e2⟩ := hI.at_ hm
  exact getF X hx hZ hown (host := "") (Or.inl w) via rfl (e2.fld e1 hj hv) (g := mkF m pc ⟨Ls⟩ (.ref a :: St)) rfl rfl (hb hby hd)
theorem Wk.getstatic {i : Nat} {R0 O n d : String} {v : Value} (hd : decode bytes pc = .ok (.getstatic i, 3)) (hq : pc + 3 = q) (w : (Jvm.Cond.fieldLink y.cls i R0 n d).before a0 Z = true) (via : Via Z R0 O n d) (F : Sta Z Z.heap O n d v)
    (k : Wk l Z a0 EL y bytes mx ret R Q L cb sb q Ls (v :: St)) : Wk l Z a0 EL y bytes mx ret R Q L cb sb pc Ls St := by
  subst hq
  refine Wk.same (fun {p e s m args below meth c T vm0 locs cells slots} hx hby hmx hown hZ hI X => ?_) k
  exact getS (host := "") X hx hZ hown w via rfl (F.ext hI.1) (g := mkF m pc ⟨Ls⟩ St) rfl (hb hby hd)
theorem Wk.checkcast {i : Nat} {a : Addr} {fl : Bool} {C K : String} {lay : Lay} {vs : List Value} (hd : decode bytes pc = .ok (.checkcast i, 3)) (hq : pc + 3 = q) (w : (Jvm.Cond.classLink y.cls i K).before a0 Z = true) (hm : (a, fl, OB Z C lay vs) ∈ L) (wc : (Jvm.Cond.castable C K).before a0 Z = true)
    (k : Wk l Z a0 EL y bytes mx ret R Q L cb sb q Ls (.ref a :: St)) : Wk l Z a0 EL y bytes mx ret R Q L cb sb pc Ls (.ref a :: St) := by
  subst hq
  refine Wk.same (fun {p e s m args below meth c T vm0 locs cells slots} hx hby hmx hown hZ hI X => ?_) k
  obtain ⟨cl, e1, e2⟩ := hI.at_ hm
  exact castY X hx hZ hown w rfl (Ins.of_exa (e2.exa e1) wc) (g := mkF m pc ⟨Ls⟩ (.ref a :: St)) rfl rfl (hb hby hd)
theorem Wk.instanceof_t {i : Nat} {a : Addr} {fl : Bool} {C K : String} {lay : Lay} {vs : List Value} (hd : decode bytes pc = .ok (.instanceof i, 3)) (hq : pc + 3 = q) (w : (Jvm.Cond.classLink y.cls i K).before a0 Z = true) (hm : (a, fl, OB Z C lay vs) ∈ L) (wc : (Jvm.Cond.castable C K).before a0 Z = true)
    (k : Wk l Z a0 EL y bytes mx ret R Q L cb sb q Ls (.int 1 :: St)) : Wk l Z a0 EL y bytes mx ret R Q L cb sb pc Ls (.ref a :: St) := by
  subst hq
  refine Wk.same (fun {p e s m args below meth c T vm0 locs cells slots} hx hby hmx hown hZ hI X => ?_) k
  obtain ⟨cl, e1, e2⟩ := hI.at_ hm
  exact instY X hx hZ hown w rfl (Ins.of_exa (e2.exa e1) wc) (g := mkF m pc ⟨Ls⟩ (.ref a :: St)) rfl rfl (hb hby hd)
theorem Wk.instanceof_f {i : Nat} {a : Addr} {fl : Bool} {C K : String} {lay : Lay} {vs : List Value} (hd : decode bytes pc = .ok (.instanceof i, 3)) (hq : pc + 3 = q) (w : (Jvm.Cond.classLink y.cls i K).before a0 Z = true) (hm : (a, fl, OB Z C lay vs) ∈ L) (F : ∃ c t, Z.vm.findClass C = some c ∧ Z.vm.findClass K = some t ∧ Z.vm.assignable c t = false)
    (k : Wk l Z a0 EL y bytes mx ret R Q L cb sb q Ls (.int 0 :: St)) : Wk l Z a0 EL y bytes mx ret R Q L cb sb pc Ls (.ref a :: St) := by
  subst hq
  refine Wk.same (fun {p e s m args below meth c T vm0 locs cells slots} hx hby hmx hown hZ hI X => ?_) k
  obtain ⟨cl, e1, e2⟩ := hI.at_ hm
  exact instNo X hx hZ hown w rfl (e2.exa e1) F (g := mkF m pc ⟨Ls⟩ (.ref a :: St)) rfl rfl (hb hby hd)
theorem Wk.ldc_int {i : Nat} {u : Int32} (hd : decode bytes pc = .ok (.ldc i, 2)) (hq : pc + 2 = q) (w : (Jvm.Cond.constant y.cls i u).before a0 Z = true) (k : Wk l Z a0 EL y bytes mx ret R Q L cb sb q Ls (.int u :: St)) : Wk l Z a0 EL y bytes mx ret R Q L cb sb pc Ls St := by
  subst hq
  refine Wk.same (fun {p e s m args below meth c T vm0 locs cells slots} hx hby hmx hown hZ hI X => ?_) k
  exact ⟨T, X, rfl, fun target r => ldcI X hx hown (mv (s := s.setVm vm0) hZ w) (g := mkF m pc ⟨Ls⟩ St) rfl (hb hby hd) r⟩
theorem Wk.ldc2_w {i : Nat} {u : Int64} (hd : decode bytes pc = .ok (.ldc2_w i, 3)) (hq : pc + 3 = q) (w : (Jvm.Cond.constantLong y.cls i u).before a0 Z = true) (k : Wk l Z a0 EL y bytes mx ret R Q L cb sb q Ls (.long u :: St)) : Wk l Z a0 EL y bytes mx ret R Q L cb sb pc Ls St := by
  subst hq
  refine Wk.same (fun {p e s m args below meth c T vm0 locs cells slots} hx hby hmx hown hZ hI X => ?_) k
  exact ⟨T, X, rfl, fun target r => ldc2J X hx hown (mv (s := s.setVm vm0) hZ w) (g := mkF m pc ⟨Ls⟩ St) rfl (hb hby hd) r⟩
theorem Wk.objinit {i : Nat} {a : Addr} (W : Nat) (hd : decode bytes pc = .ok (.invokespecial i, 3)) (hq : pc + 3 = q) (w1 : (Jvm.Cond.methodLink y.cls i Lib.objectInit).before a0 Z = true) (w2 : (Jvm.Cond.instanceMethod Lib.objectInit).before a0 Z = true) (w3 : (Jvm.Cond.code Lib.objectInit ⟨#[0xb1]⟩ 1 none).before a0 Z = true)
    (hz : Ls.length = mx) (hf : 1 ≤ R.frames) (hW : (St.map fun v => v.category).sum = W) (hl : W + 12 ≤ R.locals) (k : Wk l Z a0 EL y bytes mx ret R Q L cb sb q Ls St) : Wk l Z a0 EL y bytes mx ret R Q L cb sb pc Ls (.ref a :: St) := by
  subst hq
  refine Wk.same (fun {p e s m args below meth c T vm0 locs cells slots} hx hby hmx hown hZ hI X => ?_) k
  exact initO X hx hZ hown w1 w2 w3 rfl (g := mkF m pc ⟨Ls⟩ (.ref a :: St)) rfl (by rw [hmx]; simpa using hz) rfl (hb hby hd) hf (W := W) (by show 2 * 0 + _ ≤ _; rw [hW]; omega) hl
theorem Wk.arraylength {a : Addr} {fl : Bool} {ty : FieldType} {vs : List Value} {u : Int32} (hd : decode bytes pc = .ok (.arraylength, 1)) (hq : pc + 1 = q) (hm : (a, fl, AR Z ty vs) ∈ L) (hu : vs.length.toInt32 = u) (k : Wk l Z a0 EL y bytes mx ret R Q L cb sb q Ls (.int u :: St)) : Wk l Z a0 EL y bytes mx ret R Q L cb sb pc Ls (.ref a :: St) := by
  subst hq
  refine Wk.same (fun {p e s m args below meth c T vm0 locs cells slots} hx hby hmx hown hZ hI X => ?_) k
  obtain ⟨cl, e1, e2⟩ := hI.at_ hm
  exact ⟨T, X, rfl, fun target r => X.arraylength hx e1 (State.isArrayOf_alike (T := s.setVm vm0) hZ.alike e2.1) (g := mkF m pc ⟨Ls⟩ (.ref a :: St)) rfl rfl (hb hby hd) target (by rw [e2.size, hu]; exact r)⟩
theorem inside {Z : State} {ty : FieldType} {vs : List Value} {c : Cell} {j : Int32} {i : Nat} {v : Value} (F : AR Z ty vs c) (hj : ¬ j < 0) (hi : j.toNatClampNeg = i) (hv : vs[i]? = some v) : ¬ (j < 0 ∨ c.slots.size ≤ j.toNatClampNeg) := by
  have := (List.getElem?_eq_some_iff.mp hv).1
  rw [F.size, hi]
  rintro (q | q)
  · exact hj q
  · omega
theorem Wk.caload {a : Addr} {fl : Bool} {vs : List Value} {j : Int32} (i : Nat) {v : Value} (hd : decode bytes pc = .ok (.caload, 1)) (hq : pc + 1 = q) (hm : (a, fl, AR Z .char vs) ∈ L) (hj : ¬ j < 0) (hi : j.toNatClampNeg = i) (hv : vs[i]? = some v) (k : Wk l Z a0 EL y bytes mx ret R Q L cb sb q Ls (v :: St)) : Wk l Z a0 EL y bytes mx ret R Q L cb sb pc Ls (.int j :: .ref a :: St) := by
  subst hq
  refine Wk.same (fun {p e s m args below meth c T vm0 locs cells slots} hx hby hmx hown hZ hI X => ?_) k
  obtain ⟨cl, e1, e2⟩ := hI.at_ hm
  exact ⟨T, X, rfl, fun target r => X.caload hx e1 (State.isArrayOf_alike (T := s.setVm vm0) hZ.alike e2.1) e2.2.1 (inside e2 hj hi hv) (by rw [hi]; exact e2.get hv) (g := mkF m pc ⟨Ls⟩ (.int j :: .ref a :: St)) rfl rfl (hb hby hd) target r⟩
theorem Wk.baload {a : Addr} {fl : Bool} {vs : List Value} {j : Int32} (i : Nat) {v : Value} (hd : decode bytes pc = .ok (.baload, 1)) (hq : pc + 1 = q) (hm : (a, fl, AR Z .byte vs) ∈ L) (hj : ¬ j < 0) (hi : j.toNatClampNeg = i) (hv : vs[i]? = some v) (k : Wk l Z a0 EL y bytes mx ret R Q L cb sb q Ls (v :: St)) : Wk l Z a0 EL y bytes mx ret R Q L cb sb pc Ls (.int j :: .ref a :: St) := by
  subst hq
  refine Wk.same (fun {p e s m args below meth c T vm0 locs cells slots} hx hby hmx hown hZ hI X => ?_) k
  obtain ⟨cl, e1, e2⟩ := hI.at_ hm
  exact ⟨T, X, rfl, fun target r => X.baloadBytes hx e1 (State.isArrayOf_alike (T := s.setVm vm0) hZ.alike e2.1) e2.2.1 (inside e2 hj hi hv) (by rw [hi]; exact e2.get hv) (g := mkF m pc ⟨Ls⟩ (.int j :: .ref a :: St)) rfl rfl (hb hby hd) target r⟩
theorem Wk.aaload {a : Addr} {fl : Bool} {C : String} {vs : List Value} {j : Int32} (i : Nat) {v : Value} (hd : decode bytes pc = .ok (.aaload, 1)) (hq : pc + 1 = q) (hm : (a, fl, RA Z C vs) ∈ L) (hj : ¬ j < 0) (hi : j.toNatClampNeg = i) (hv : vs[i]? = some v) (k : Wk l Z a0 EL y bytes mx ret R Q L cb sb q Ls (v :: St)) : Wk l Z a0 EL y bytes mx ret R Q L cb sb pc Ls (.int j :: .ref a :: St) := by
  subst hq
  refine Wk.same (fun {p e s m args below meth c T vm0 locs cells slots} hx hby hmx hown hZ hI X => ?_) k
  obtain ⟨cl, e1, e2⟩ := hI.at_ hm
  exact ⟨T, X, rfl, fun target r => X.aaload hx e1 (State.isArrayOf_alike (T := s.setVm vm0) hZ.alike e2.1.1) rfl e2.1.2.1 (inside e2.1 hj hi hv) (by rw [hi]; exact e2.1.get hv) (g := mkF m pc ⟨Ls⟩ (.int j :: .ref a :: St)) rfl rfl (hb hby hd) target r⟩
/-- a list with one place written over -/
def VS (j : Nat) (v : Value) (vs vs' : List Value) : Prop := vs.set j v = vs' ∧ j < vs.length
theorem VS.here {v o : Value} {vs : List Value} : VS 0 v (o :: vs) (v :: vs) := ⟨rfl, Nat.succ_pos _⟩
theorem VS.there {j : Nat} {v o : Value} {vs vs' : List Value} (h : VS j v vs vs') : VS (j + 1) v (o :: vs) (o :: vs') := ⟨by rw [List.set_cons_succ, h.1], Nat.succ_lt_succ h.2⟩
theorem VS.of {j : Nat} {v : Value} {vs : List Value} (h : j < vs.length) : VS j v vs (vs.set j v) := ⟨rfl, h⟩
/-- a step that writes a place of the entry a -/
theorem Wk.write {a : Addr} {P P' : Cell → Prop} {St' : List Value} (hm : Ex L (a, true, P) L0)
    (st : ∀ {p : Program} {e : Env} {s : State} {m : MethodId} {args : Array Value} {below : List Frame} {meth : Method} {c : Code} {T : State} {vm0 : Vm} {locs : List Loc} {cells slots : Nat}, p.tables.exec = Jvm.exec → c.code = bytes → c.maxLocals = mx → meth.name = y.name → vm0.findClass y.cls = some m.cls → Z.Warmed39 vm0 → Inv Z EL vm0 T.heap ((a, true, P) :: L0) →
      Stand p l e R (s.setVm vm0) m args below meth c T locs cells slots → ∃ T' h' sl v, Stand p l e R (s.setVm vm0) m args below meth c T' (locs ++ [⟨a, sl⟩]) cells slots ∧ T'.heap = h' ∧ Wr T.heap h' a sl v ∧ (∀ cl, T.heap[a]? = some cl → P cl → P' (cl.setSlot sl v)) ∧ ∀ target, Steps p.tables e below (T'.setTop (mkF m q ⟨Ls⟩ St')) target → Steps p.tables e below (T.setTop (mkF m pc ⟨Ls⟩ St)) target)
    (k : Wk l Z a0 EL y bytes mx ret R Q ((a, true, P') :: L0) cb sb q Ls St') : Wk l Z a0 EL y bytes mx ret R Q L cb sb pc Ls St := by
  refine Wk.pull hm ?_
  intro p e s m args below meth c T vm0 k0 locs cells slots hx hby hmx hret hlk hnm hown X hS hk hZ hE hI hF hc hs
  obtain ⟨T', h', sl, v, X', rfl, W, hP, st'⟩ := st hx hby hmx hnm hown hZ hI X
  obtain ⟨fin, v, Lc, L', h1, r⟩ := k p e s m args below meth c T' vm0 k0 _ cells slots hx hby hmx hret hlk hnm hown X' hS (by rw [W.size]; exact hk) hZ hE (hI.wr W hP) (Fr.snoc X' hF (hI.2.2.2.1 _ (List.mem_cons_self ..) rfl).1) hc hs
  exact ⟨fin, v, Lc, L', st' _ h1, r⟩
theorem Wk.putfield {i : Nat} (j : Nat) {kk : Nat} {a : Addr} {C R0 O n d : String} {lay : Lay} {vs vs' : List Value} {v : Value} {ty : FieldType} (hd : decode bytes pc = .ok (.putfield i, 3)) (hq : pc + 3 = q) (w : (Jvm.Cond.fieldLink y.cls i R0 n d).before a0 Z = true) (via : Via Z R0 O n d)
    (K : LayOk Z a0 C lay) (wi : (Jvm.Cond.instantiable C kk).before a0 Z = true) (hl : (Jvm.Cond.lays C O n d).before a0 Z = true ∨ ((Jvm.Cond.laysFinal C O n d).before a0 Z = true ∧ y.cls = O ∧ y.name = "<init>")) (hj : lay[j]? = some (O, n, d)) (hty : parseFieldDescriptor d = some ty) (hm : Ex L (a, true, OB Z C lay vs) L0) (hvs : VS j v vs vs') (hn : narrow ty v = v) (hf : fits ty v = true)
    (k : Wk l Z a0 EL y bytes mx ret R Q ((a, true, OB Z C lay vs') :: L0) cb sb q Ls St) : Wk l Z a0 EL y bytes mx ret R Q L cb sb pc Ls (v :: .ref a :: St) := by
  subst hq
  obtain ⟨rfl, hlt⟩ := hvs
  have hv : vs[j]? = some vs[j] := List.getElem?_eq_getElem hlt
  refine Wk.write hm (fun {p e s m args below meth c T vm0 locs cells slots} hx hby hmx hnm hown hZ hI X => ?_) k
  obtain ⟨cl, e1, e2⟩ := hI.at_ (List.mem_cons_self ..)
  obtain ⟨T', h', X', eh, W, st⟩ := putF X hx hZ hown (host := "") (Or.inl w) via rfl (e2.fld e1 hj hv) (e2.exa e1) (hl.imp id fun h => ⟨h.1, h.2.1, hnm.trans h.2.2⟩) wi hty hn hf (g := mkF m pc ⟨Ls⟩ (v :: .ref a :: St)) rfl rfl (hb hby hd)
  exact ⟨T', h', _, v, X', eh, W, fun cl' e3 e4 => OB.set K e4 hj hv v, st⟩
theorem Wk.castore {a : Addr} {vs vs' : List Value} {j u u' : Int32} (i : Nat) (hd : decode bytes pc = .ok (.castore, 1)) (hq : pc + 1 = q) (hm : Ex L (a, true, AR Z .char vs) L0) (hj : ¬ j < 0) (hi : j.toNatClampNeg = i) (hu : nar .char u = u') (hvs : VS i (.int u') vs vs')
    (k : Wk l Z a0 EL y bytes mx ret R Q ((a, true, AR Z .char vs') :: L0) cb sb q Ls St) : Wk l Z a0 EL y bytes mx ret R Q L cb sb pc Ls (.int u :: .int j :: .ref a :: St) := by
  subst hq hu
  obtain ⟨rfl, hlt⟩ := hvs
  refine Wk.write hm (fun {p e s m args below meth c T vm0 locs cells slots} hx hby hmx hnm hown hZ hI X => ?_) k
  obtain ⟨cl, e1, e2⟩ := hI.at_ (List.mem_cons_self ..)
  obtain ⟨T', h', X', eh, W, st⟩ := stC X hx hZ rfl (e2.arr e1) (inside e2 hj hi (List.getElem?_eq_getElem hlt)) (g := mkF m pc ⟨Ls⟩ (.int u :: .int j :: .ref a :: St)) rfl rfl (hb hby hd)
  exact ⟨T', h', _, _, X', eh, W, fun cl' e3 e4 => by rw [hi]; exact e4.set _ _, st⟩
theorem Wk.bastore {a : Addr} {vs vs' : List Value} {j u u' : Int32} (i : Nat) (hd : decode bytes pc = .ok (.bastore, 1)) (hq : pc + 1 = q) (hm : Ex L (a, true, AR Z .byte vs) L0) (hj : ¬ j < 0) (hi : j.toNatClampNeg = i) (hu : nar .byte u = u') (hvs : VS i (.int u') vs vs')
    (k : Wk l Z a0 EL y bytes mx ret R Q ((a, true, AR Z .byte vs') :: L0) cb sb q Ls St) : Wk l Z a0 EL y bytes mx ret R Q L cb sb pc Ls (.int u :: .int j :: .ref a :: St) := by
  subst hq hu
  obtain ⟨rfl, hlt⟩ := hvs
  refine Wk.write hm (fun {p e s m args below meth c T vm0 locs cells slots} hx hby hmx hnm hown hZ hI X => ?_) k
  obtain ⟨cl, e1, e2⟩ := hI.at_ (List.mem_cons_self ..)
  obtain ⟨T', h', X', eh, W, st⟩ := stB X hx hZ rfl (e2.arr e1) (inside e2 hj hi (List.getElem?_eq_getElem hlt)) (g := mkF m pc ⟨Ls⟩ (.int u :: .int j :: .ref a :: St)) rfl rfl (hb hby hd)
  exact ⟨T', h', _, _, X', eh, W, fun cl' e3 e4 => by rw [hi]; exact e4.set _ _, st⟩
theorem Wk.aastore {a b : Addr} {fl : Bool} {C D : String} {lay : Lay} {ws : List Value} {vs vs' : List Value} {j : Int32} (i : Nat) (hd : decode bytes pc = .ok (.aastore, 1)) (hq : pc + 1 = q) (hm : Ex L (a, true, RA Z C vs) L0) (ho : (b, fl, OB Z D lay ws) ∈ L0) (wc : (Jvm.Cond.castable D C).before a0 Z = true) (hj : ¬ j < 0) (hi : j.toNatClampNeg = i) (hvs : VS i (.ref b) vs vs')
    (k : Wk l Z a0 EL y bytes mx ret R Q ((a, true, RA Z C vs') :: L0) cb sb q Ls St) : Wk l Z a0 EL y bytes mx ret R Q L cb sb pc Ls (.ref b :: .int j :: .ref a :: St) := by
  subst hq
  obtain ⟨rfl, hlt⟩ := hvs
  refine Wk.write hm (fun {p e s m args below meth c T vm0 locs cells slots} hx hby hmx hnm hown hZ hI X => ?_) k
  obtain ⟨cl, e1, e2⟩ := hI.at_ (List.mem_cons_self ..)
  obtain ⟨cb, f1, f2⟩ := hI.at_ (List.mem_cons_of_mem _ ho)
  obtain ⟨T', h', X', eh, W, st⟩ := stR X hx hZ rfl (e2.1.arr e1) (inside e2.1 hj hi (List.getElem?_eq_getElem hlt)) rfl (Sto.of (e2.1.arr e1) e2.2 (Ins.of_exa (f2.exa f1) wc)) (g := mkF m pc ⟨Ls⟩ (.ref b :: .int j :: .ref a :: St)) rfl rfl (hb hby hd)
  exact ⟨T', h', _, _, X', eh, W, fun cl' e3 e4 => by rw [hi]; exact ⟨e4.1.set _ _, e4.2⟩, st⟩
/-- the first values of a layout's fields -/
abbrev Dv (lay : Lay) (dv : List Value) : Prop := lay.map (fun f => (parseFieldDescriptor f.2.2).map defaultValue) = dv.map some
theorem Wk.new {i n : Nat} {C : String} {lay : Lay} {dv : List Value} (hd : decode bytes pc = .ok (.new i, 3)) (hq : pc + 3 = q) (w : (Jvm.Cond.classLink y.cls i C).before a0 Z = true) (wi : (Jvm.Cond.instantiable C n).before a0 Z = true) (wz : (Jvm.Cond.initialized C).before a0 Z = true) (K : LayOk Z a0 C lay) (hdv : Dv lay dv)
    (hcb : 1 ≤ cb) (hsb : n ≤ sb) (k : ∀ a : Addr, Wk l Z a0 EL y bytes mx ret R Q ((a, true, OB Z C lay dv) :: L) (cb - 1) (sb - n) q Ls (.ref a :: St)) : Wk l Z a0 EL y bytes mx ret R Q L cb sb pc Ls St := by
  subst hq
  intro p e s m args below meth c T vm0 k0 locs cells slots hx hby hmx hret hlk hnm hown X hS hk hZ hE hI hF hc hs
  obtain ⟨T', h', X', rfl, E, A, D, -, st⟩ := newO X hx hZ hown w wi wz rfl (g := mkF m pc ⟨Ls⟩ St) rfl (hb hby hd) (by omega) (by omega)
  obtain ⟨cl, kc, e1, e2⟩ := A
  have hP : OB Z C lay dv cl := by
    refine ⟨⟨kc, e2⟩, fun j f v h1 h2 => of_fld e1 ?_⟩
    have q1 : (lay.map (fun f => (parseFieldDescriptor f.2.2).map defaultValue))[j]? = some ((parseFieldDescriptor f.2.2).map defaultValue) := by simp [h1]
    rw [show lay.map (fun f => (parseFieldDescriptor f.2.2).map defaultValue) = dv.map some from hdv] at q1
    simp only [List.getElem?_map, h2, Option.map_some, Option.some.injEq] at q1
    cases hp : parseFieldDescriptor f.2.2 with
    | none => rw [hp] at q1; cases q1
    | some t =>
      rw [hp] at q1
      simp only [Option.map_some, Option.some.injEq] at q1
      rw [q1]
      exact D (K.1 f (List.mem_of_getElem? h1)) hp
  obtain ⟨fin, v, Lc, L', h1, r⟩ := k T.heap.size p e s m args below meth c T' vm0 k0 locs (cells + 1) (slots + n) hx hby hmx hret hlk hnm hown X' hS (Nat.le_trans hk E.1) hZ hE (hI.new E e1 hP) hF (by omega) (by omega)
  exact ⟨fin, v, Lc, L', st _ h1, r⟩
theorem Wk.newarray {aty : ArrayType} {u : Int32} (ty : FieldType) (N : Nat) (vs0 : List Value) (hd : decode bytes pc = .ok (.newarray aty, 2)) (hq : pc + 2 = q) (hty : newarray.typeOf aty = ty) (h0 : List.replicate N (defaultValue ty) = vs0) (w : (Jvm.Cond.arrayClass ty).before a0 Z = true) (hu : ¬ u < 0) (hN : u.toNatClampNeg = N) (hbig : N ≤ 67108864) (hcb : 1 ≤ cb) (hsb : N ≤ sb)
    (k : ∀ a : Addr, Wk l Z a0 EL y bytes mx ret R Q ((a, true, AR Z ty vs0) :: L) (cb - 1) (sb - N) q Ls (.ref a :: St)) : Wk l Z a0 EL y bytes mx ret R Q L cb sb pc Ls (.int u :: St) := by
  subst hq hty h0
  intro p e s m args below meth c T vm0 k0 locs cells slots hx hby hmx hret hlk hnm hown X hS hk hZ hE hI hF hc hs
  obtain ⟨T', h', cA, X', rfl, E, A, st⟩ := newP X hx hZ w rfl (g := mkF m pc ⟨Ls⟩ (.int u :: St)) rfl (hb hby hd) rfl hu (cap := N) (Nat.le_of_eq hN) (by omega) (by omega) (by omega)
  have hP : AR Z (newarray.typeOf aty) (List.replicate N (defaultValue (newarray.typeOf aty))) (newA cA (newarray.typeOf aty) u) := ⟨A.2.1, A.2.2, by simp [newA, hN], by simp; omega⟩
  obtain ⟨fin, v, Lc, L', h1, r⟩ := k T.heap.size p e s m args below meth c T' vm0 k0 locs (cells + 1) (slots + N) hx hby hmx hret hlk hnm hown X' hS (Nat.le_trans hk E.1) hZ hE (hI.new E A.1 hP) hF (by omega) (by omega)
  exact ⟨fin, v, Lc, L', st _ h1, r⟩
theorem Wk.anewarray {i : Nat} {C : String} {u : Int32} (N : Nat) (vs0 : List Value) (hd : decode bytes pc = .ok (.anewarray i, 3)) (hq : pc + 3 = q) (w1 : (Jvm.Cond.classLink y.cls i C).before a0 Z = true) (h0 : List.replicate N Value.null = vs0) (w2 : (Jvm.Cond.arrayOver (.object C)).before a0 Z = true) (hu : ¬ u < 0) (hN : u.toNatClampNeg = N) (hbig : N ≤ 67108864) (hcb : 1 ≤ cb) (hsb : N ≤ sb)
    (k : ∀ a : Addr, Wk l Z a0 EL y bytes mx ret R Q ((a, true, RA Z C vs0) :: L) (cb - 1) (sb - N) q Ls (.ref a :: St)) : Wk l Z a0 EL y bytes mx ret R Q L cb sb pc Ls (.int u :: St) := by
  subst hq h0
  intro p e s m args below meth c T vm0 k0 locs cells slots hx hby hmx hret hlk hnm hown X hS hk hZ hE hI hF hc hs
  obtain ⟨T', h', cA, X', rfl, E, A, O, st⟩ := newR X hx hZ hown w1 w2 rfl (g := mkF m pc ⟨Ls⟩ (.int u :: St)) rfl (hb hby hd) rfl hu (cap := N) (Nat.le_of_eq hN) (by omega) (by omega) (by omega)
  have hP : RA Z C (List.replicate N .null) (newA cA (.object C) u) := ⟨⟨A.2.1, A.2.2, by simp [newA, hN, defaultValue], by simp; omega⟩, O⟩
  obtain ⟨fin, v, Lc, L', h1, r⟩ := k T.heap.size p e s m args below meth c T' vm0 k0 locs (cells + 1) (slots + N) hx hby hmx hret hlk hnm hown X' hS (Nat.le_trans hk E.1) hZ hE (hI.new E A.1 hP) hF (by omega) (by omega)
  exact ⟨fin, v, Lc, L', st _ h1, r⟩
/-- a String constant, opaque -/
theorem Wk.ldcO {i : Nat} {text : String} (n : Nat) (hd : decode bytes pc = .ok (.ldc i, 2)) (hq : pc + 2 = q) (w : (Jvm.Cond.stringLink y.cls i text).before a0 Z = true) (wS : ∀ a ∈ Bundle.stringAtoms, a.before a0 Z = true) (hn : 4 * text.toList.length ≤ n) (hbig : n ≤ 536870912) (hcb : 2 ≤ cb) (hsb : n + 4 ≤ sb)
    (k : ∀ a : Addr, Wk l Z a0 EL y bytes mx ret R Q L (cb - 2) (sb - (n + 4)) q Ls (.ref a :: St)) : Wk l Z a0 EL y bytes mx ret R Q L cb sb pc Ls St := by
  subst hq
  intro p e s m args below meth c T vm0 k0 locs cells slots hx hby hmx hret hlk hnm hown X hS hk hZ hE hI hF hc hs
  obtain ⟨a, T', h', k1, X', rfl, E, hS', hk', hW', hown', hC, -, st⟩ := ldcOH X hx hZ hown w wS rfl hS hk hE hI.2.1 (g := mkF m pc ⟨Ls⟩ St) rfl (hb hby hd) hn hbig (by omega) (by omega)
  obtain ⟨fin, v, Lc, L', h1, r⟩ := k a p e s m args below meth c T' T'.vm k1 locs (cells + 2) (slots + (n + 4)) hx hby hmx hret hlk hnm hown' X' hS' hk' hW' hE (hI.later E hC) hF (by omega) (by omega)
  exact ⟨fin, v, Lc, L', st _ h1, r⟩
def layS : Lay := [("java/lang/String", "value", "[B"), ("java/lang/String", "coder", "B")]
theorem ar_of_arv {Z : State} {h : Heap} {a : Addr} {k : ClassId} {ty : FieldType} {z : Int32} {vs : List Value} {d : Value} (A : Arv Z h a k ty z vs d) (hz : z.toNatClampNeg = vs.length) : ∃ c : Cell, h[a]? = some c ∧ AR Z ty vs c := by
  obtain ⟨c, A, -, h2, h3, H, -⟩ := A
  refine ⟨c, A.1, A.2.1, A.2.2, ?_, ?_⟩
  · apply List.ext_getElem?
    intro i
    rw [hz] at h2
    by_cases q : i < c.slots.size
    · have := H i q
      rw [Array.getElem?_toList, this]
      have q' : i < vs.length := by omega
      simp [List.getD, List.getElem?_eq_getElem q']
    · rw [Array.getElem?_toList, Array.getElem?_eq_none (by omega), List.getElem?_eq_none (by omega)]
  · rw [← hz]; exact (back32 h3).2
/-- a String constant, read -/
theorem Wk.ldcS {i : Nat} {text : String} (n : Nat) (vs : List Value) (z : Int32) (hd : decode bytes pc = .ok (.ldc i, 2)) (hq : pc + 2 = q) (w : (Jvm.Cond.stringLink y.cls i text).before a0 Z = true) (wS : ∀ a ∈ Bundle.stringAtoms, a.before a0 Z = true) (hmem : (y.cls, i) ∈ EL)
    (ht : (∀ c ∈ text.toList, c.toNat < 256) ∧ text.toList.map (fun c => Value.int (Jvm.Lit.byteI c.toNat.toUInt16)) = vs) (hz : ¬ z < 0) (hz' : z.toNatClampNeg = vs.length) (hn : 4 * text.toList.length ≤ n) (hbig : n ≤ 536870912) (hcb : 2 ≤ cb) (hsb : n + 4 ≤ sb)
    (k : ∀ a b : Addr, Wk l Z a0 EL y bytes mx ret R Q ((a, false, OB Z "java/lang/String" layS [.ref b, .int 0]) :: (b, false, AR Z .byte vs) :: L) (cb - 2) (sb - (n + 4)) q Ls (.ref a :: St)) : Wk l Z a0 EL y bytes mx ret R Q L cb sb pc Ls St := by
  subst hq
  intro p e s m args below meth c T vm0 k0 locs cells slots hx hby hmx hret hlk hnm hown X hS hk hZ hE hI hF hc hs
  obtain ⟨a, T', h', k1, b, kb, X', rfl, E, hS', hk', hW', hown', x1, x2, x3, x4, -, -, hC, -, hne, st⟩ := ldcCH X hx hZ hown w wS rfl hS hk hE hmem hI.2.1 ht hz hz' (g := mkF m pc ⟨Ls⟩ St) rfl (hb hby hd) hn hbig (by omega) (by omega)
  have I1 := hI.later E hC
  obtain ⟨cB, b1, b2⟩ := ar_of_arv x4 hz'
  have I2 := I1.old b1 b2 (fun x _ hs => (hne x hs).2)
  obtain ⟨cl, kc, e1, e2⟩ := x1
  have I3 := I2.old (P := OB Z "java/lang/String" layS [.ref b, .int 0]) e1 ⟨⟨kc, e2⟩, fun j f v h1 h2 => by
    match j, h1, h2 with
    | 0, h1, h2 => cases h1; cases h2; exact of_fld e1 x3
    | 1, h1, h2 => cases h1; cases h2; exact of_fld e1 x2
    | j + 2, h1, _ => cases h1⟩ (fun x _ hs => (hne x hs).1)
  obtain ⟨fin, v, Lc, L', h1, r⟩ := k a b p e s m args below meth c T' T'.vm k1 locs (cells + 2) (slots + (n + 4)) hx hby hmx hret hlk hnm hown' X' hS' hk' hW' hE I3 hF (by omega) (by omega)
  exact ⟨fin, v, Lc, L', st _ h1, r⟩
/-- what a value that is returned says; what a body that returns nothing says -/
def RV (Q : Value → Store → Prop) : Option Value → Store → Prop := fun v L => ∃ u, v = some u ∧ Q u L
def R0 (Q : Store → Prop) : Option Value → Store → Prop := fun v L => v = none ∧ Q L
theorem Wk.leave (v : Option Value) (hv : ret = none → v = none) (hQ : Q v L)
    (st : ∀ {p : Program} {e : Env} {s : State} {m : MethodId} {args : Array Value} {below : List Frame} {meth : Method} {c : Code} {T : State} {vm0 : Vm} {locs : List Loc} {cells slots : Nat} {fs : List Frame}, p.tables.exec = Jvm.exec → c.code = bytes → meth.sig.returnType = ret → Stand p l e R (s.setVm vm0) m args below meth c T locs cells slots →
      (∀ (f : JFrame) (acts : List Action), f.method = m → f.locked = none → f.entered = [] → (doReturn e (T.setTop f) acts v).1 = T.setFrames fs) → Steps p.tables e below (T.setTop (mkF m pc ⟨Ls⟩ St)) (T.setFrames fs)) : Wk l Z a0 EL y bytes mx ret R Q L cb sb pc Ls St := by
  intro p e s m args below meth c T vm0 k0 locs cells slots hx hby hmx hret hlk hnm hown X hS hk hZ hE hI hF hc hs
  obtain ⟨fs, hr, hrun, hended, hW⟩ := X.leaveW hS hk (v := v) (fun h => hv (hret ▸ h)) hlk
  have A : CHr Z EL vm0 T.heap T.vm T.heap := CHv.at X hZ hE hI.2.1
  have I' : Inv Z EL T.vm T.heap L := hI.later ⟨Nat.le_refl _, fun _ _ q => q⟩ A
  exact ⟨T.setFrames fs, v, locs, L, st hx hby hret X hr, hrun, hended, hQ, I', hF, endMono hW (by omega) (by omega)⟩
theorem Wk.return_ (hd : decode bytes pc = .ok (.return_, 1)) (hr : ret = none) (hQ : Q none L) : Wk l Z a0 EL y bytes mx ret R Q L cb sb pc Ls [] :=
  Wk.leave none (fun _ => rfl) hQ fun hx hby hret X hl => X.returnOut hx (hret.trans hr) (hb hby hd) hl
theorem Wk.ireturn {t : FieldType} {u : Int32} (hd : decode bytes pc = .ok (.ireturn, 1)) (hr : ret = some t) (ht : t = .int ∨ t = .boolean ∨ t = .byte ∨ t = .char ∨ t = .short) (hn : narrow t (.int u) = .int u) (hQ : Q (some (.int u)) L) : Wk l Z a0 EL y bytes mx ret R Q L cb sb pc Ls (.int u :: St) :=
  Wk.leave (some (.int u)) (fun h => by rw [hr] at h; cases h) hQ fun hx hby hret X hl => retOut X hx (hret.trans hr) hn (Or.inl ⟨rfl, ht, u, rfl⟩) (hb hby hd) hl
theorem Wk.lreturn {u : Int64} (hd : decode bytes pc = .ok (.lreturn, 1)) (hr : ret = some .long) (hQ : Q (some (.long u)) L) : Wk l Z a0 EL y bytes mx ret R Q L cb sb pc Ls (.long u :: St) :=
  Wk.leave (some (.long u)) (fun h => by rw [hr] at h; cases h) hQ fun hx hby hret X hl => retOut X hx (hret.trans hr) rfl (Or.inr (Or.inl ⟨rfl, rfl, u, rfl⟩)) (hb hby hd) hl
theorem Wk.areturn {t : FieldType} {u : Value} (hd : decode bytes pc = .ok (.areturn, 1)) (hr : ret = some t) (ht : t.isReference = true) (hn : narrow t u = u) (hu : u.isRef = true) (hQ : Q (some u) L) : Wk l Z a0 EL y bytes mx ret R Q L cb sb pc Ls (u :: St) :=
  Wk.leave (some u) (fun h => by rw [hr] at h; cases h) hQ fun hx hby hret X hl => retOut X hx (hret.trans hr) hn (Or.inr (Or.inr (Or.inr (Or.inr ⟨rfl, ht, hu⟩)))) (hb hby hd) hl
theorem Ct.of {as' : Array Value} (hp : plainFor y = true) (he : ∀ m, entryFrame m as' mx = mkF m 0 ⟨Ls⟩ []) (hE : EW Z a0 EL) (k : Wk l Z a0 EL y bytes mx ret R Q L R.cells R.slots 0 Ls []) : Ct l Z EL y bytes mx ret R as' L Q := by
  intro ws
  refine MetFree.of_bodySF hp hisR ?_
  intro p e s m args below meth c s₁ Bd hml0 hP hK
  obtain ⟨rfl, hZ, hI⟩ := hP
  have hheap : s₁.heap = s.heap := by rw [Bd.state]; rfl
  have X0 : Stand p l e R (s.setVm s.vm) m args below meth c s₁ [] 0 0 := Stand.of_body Bd
  obtain ⟨fin, v, Lc, L', h1, h2, h3, h4, h5, h6, h7⟩ := k p e s m args below meth c s₁ s.vm s.heap.size [] 0 0 Bd.exec Bd.bytes hml0 Bd.returns Bd.notSynchronized (name_of_methodNamed Bd.named Bd.method).1 (findClass_of_methodNamed Bd.named) X0 ((State.WarmedH.refl s).since _) (by rw [hheap]; exact Nat.le_refl _) hZ hE (by rw [hheap]; exact hI) (Fr.nil _) (by omega) (by omega)
  exact ⟨fin, .returned v, castTop (he m) h1, h2, h3, v, Lc, L', rfl, h4, h5, h6, h7⟩
theorem Ct.imp {as' : Array Value} (hq : ∀ v L, Q v L → Q' v L) (h : Ct l Z EL y bytes mx ret R as' L Q) : Ct l Z EL y bytes mx ret R as' L Q' := by
  intro ws p e ha hc hk s m args below hf happ hP hK
  obtain ⟨n, o, h1, h2, h3, v, Lc, L', h4, h5, h6⟩ := h ws p e ha hc hk s m args below hf happ hP hK
  exact ⟨n, o, h1, h2, h3, v, Lc, L', h4, hq _ _ h5, h6⟩
theorem Ct.perm {as' : Array Value} (hp : L.Perm L') (h : Ct l Z EL y bytes mx ret R as' L' Q) : Ct l Z EL y bytes mx ret R as' L Q := by
  intro ws p e ha hc hk s m args below hf happ hP hK
  exact h ws p e ha hc hk s m args below hf happ ⟨hP.1, hP.2.1, hP.2.2.perm hp⟩ hK
section Call
variable {y' : MethodName} {b' : ByteArray} {mx' : Nat} {ret' : Option FieldType} {rm : Room} {as' : Array Value} {W len : Nat} {h : Heap} {p : Program} {e : Env} {below : List Frame} {s : State} {args : Array Value} {vm0 : Vm}
theorem Ct.back (hC : Ct l Z EL y' b' mx' ret' rm as' L Q') (hZ : Z.Warmed39 vm0) (hE : EW Z a0 EL) (hI : Inv Z EL vm0 h L) (wc : (Jvm.Cond.code y' b' mx' ret').before a0 Z = true) (wz : (Jvm.Cond.initialized y'.cls).before a0 Z = true) (hf : rm.frames + 1 ≤ R.frames) (hl : W + (mx' + 11) + rm.locals ≤ R.locals) :
    BackS l R p e below (s.setVm vm0) args y' len W (fun A a => a = as' ∧ A.U.heap = h ∧ A.cells + rm.cells ≤ R.cells ∧ A.slots + rm.slots ≤ R.slots)
      (fun A _ v B => ∃ Lc L', Q' v L' ∧ Inv Z EL B.U.vm B.U.heap L' ∧ Fr Z.heap.size Lc ∧ B.locs = A.locs ++ Lc ∧ B.cells = A.cells + rm.cells ∧ B.slots = A.slots + rm.slots) :=
  BackS.of_freeW (bytes := b') (maxL := mx') (ret := ret') (E := fun _ _ o t Lc k n => k = rm.cells ∧ n = rm.slots ∧ Fr Z.heap.size Lc ∧ ∃ v L', o = .returned v ∧ Q' v L' ∧ Inv Z EL t.vm t.heap L') (hC []) hf hl
    (fun m meth c A a Y hp => have hU : Z.Warmed39 A.U.vm := wtrans (s := s.setVm vm0) hZ Y.warmed
      ⟨by show (Jvm.Cond.and _ .tt).before a A.U = true; rw [Cond.before_and, mv hU wc]; rfl, mv hU wc, mv hU wz, hp.2.2.1, hp.2.2.2⟩)
    (fun m meth c A a g mk Y hp => ⟨hp.1, wtrans (s := s.setVm vm0) hZ Y.warmed, by
      show Inv Z EL A.U.vm A.U.heap L
      rw [hp.2.1]; exact hI.later ⟨Nat.le_refl _, fun _ _ q => q⟩ (CHv.at Y hZ hE hI.2.1)⟩) (fun _ _ _ _ _ _ _ _ _ => trivial)
    (fun _ _ _ _ ⟨v, Lc, L', h1, h2, h3, h4, h5⟩ => ⟨Lc, _, _, h5, rfl, rfl, h4, v, L', h1, h2, h3⟩)
    (fun m meth c A a g mk v t Lc k n Y hp _ _ ⟨e1, e2, e3, v', L', e4, e5, e6⟩ => by
      cases e4; subst e1 e2
      exact ⟨Lc, L', e5, e6, e3, rfl, rfl, rfl⟩)
/-- A CALL, whichever -/
theorem Wk.call {St' : List Value} (hC : Ct l Z EL y' b' mx' ret' rm as' L Q') (wc : (Jvm.Cond.code y' b' mx' ret').before a0 Z = true) (wz : (Jvm.Cond.initialized y'.cls).before a0 Z = true) (hf : rm.frames + 1 ≤ R.frames) (hl : W + (mx' + 11) + rm.locals ≤ R.locals) (hcb : rm.cells ≤ cb) (hsb : rm.slots ≤ sb)
    (go : ∀ {p : Program} {e : Env} {s : State} {m : MethodId} {args : Array Value} {below : List Frame} {meth : Method} {c : Code} {T : State} {vm0 : Vm} {locs : List Loc} {cells slots : Nat} {Pre : Pt → Array Value → Prop} {Post : Pt → Array Value → Option Value → Pt → Prop}, p.tables.exec = Jvm.exec → c.code = bytes → c.maxLocals = mx → vm0.findClass y.cls = some m.cls → Z.Warmed39 vm0 → Inv Z EL vm0 T.heap L →
      Stand p l e R (s.setVm vm0) m args below meth c T locs cells slots → BackS l R p e below (s.setVm vm0) args y' len W Pre Post → (∀ vm₁, (s.setVm vm0).WarmedH vm₁ → Pre ⟨T.setVm vm₁, locs, cells, slots⟩ as') →
      ∃ (v : Option Value) (vm₁ : Vm) (B : Pt), (s.setVm vm0).WarmedH vm₁ ∧ Stand p l e R ((s.setVm vm0).setVm B.U.vm) m args below meth c B.U B.locs B.cells B.slots ∧ (s.setVm vm0).Since B.U.vm B.U.heap.size ∧ T.heap.size ≤ B.U.heap.size ∧ Post ⟨T.setVm vm₁, locs, cells, slots⟩ as' v B ∧ Steps p.tables e below (T.setTop (mkF m pc ⟨Ls⟩ St)) (B.U.setTop (mkF m q ⟨Ls⟩ (v.toList ++ St'))))
    (k : ∀ v L', Q' v L' → Wk l Z a0 EL y bytes mx ret R Q L' (cb - rm.cells) (sb - rm.slots) q Ls (v.toList ++ St')) : Wk l Z a0 EL y bytes mx ret R Q L cb sb pc Ls St := by
  intro p e s m args below meth c T vm0 k0 locs cells slots hx hby hmx hret hlk hnm hown X hS hk hZ hE hI hF hc hs
  obtain ⟨v, vm₁, B, -, X', hS', hgr, ⟨Lc, L', q1, q2, q3, q4, q5, q6⟩, st⟩ := go hx hby hmx hown hZ hI X (Ct.back (len := len) hC hZ hE hI wc wz hf hl) (fun vm₁ _ => ⟨rfl, rfl, by show cells + _ ≤ _; omega, by show slots + _ ≤ _; omega⟩)
  obtain ⟨U, Lx, cx, sx⟩ := B
  dsimp only [Pt.U, Pt.locs, Pt.cells, Pt.slots] at X' hS' hgr q2 q4 q5 q6 st
  subst q4 q5 q6
  obtain ⟨fin, v, Lc', L'', h1, r⟩ := k v L' q1 p e s m args below meth c U U.vm U.heap.size _ _ _ hx hby hmx hret hlk hnm (by rw [hS'.1.alike.findClass]; exact hown) X' (hS.trans hS' (Nat.le_trans hk hgr)) (Nat.le_refl _) (State.Warmed39.trans (t := s.setVm vm0) hZ hS'.1) hE q2 (hF.app q3) (by omega) (by omega)
  exact ⟨fin, v, Lc', L'', st.trans h1, r⟩
end Call
section Calls
variable {y' : MethodName} {b' : ByteArray} {mx' : Nat} {ret' : Option FieldType} {rm : Room} {i : Nat}
theorem Wk.static (argsL rest : List Value) (W : Nat) {na : Nat} (hd : decode bytes pc = .ok (.invokestatic i, 3)) (hq : pc + 3 = q) (w1 : (Jvm.Cond.methodLink y.cls i y').before a0 Z = true) (w2 : (Jvm.Cond.static y').before a0 Z = true) (wz : (Jvm.Cond.initialized y'.cls).before a0 Z = true) (wc : (Jvm.Cond.code y' b' mx' ret').before a0 Z = true) (har : XT.arity y'.desc = some na) (hy : y'.cls ≠ "java/lang/invoke/MethodHandle" ∧ y'.cls ≠ "java/lang/invoke/VarHandle")
    (hst : St = argsL.reverse ++ rest) (hna : argsL.length = na) (hW : (rest.map fun v => v.category).sum = W) (hz : Ls.length = mx) (hC : Ct l Z EL y' b' mx' ret' rm argsL.toArray L Q') (hf : rm.frames + 1 ≤ R.frames) (hl : W + (mx' + 11) + rm.locals ≤ R.locals) (hcb : rm.cells ≤ cb) (hsb : rm.slots ≤ sb)
    (k : ∀ v L', Q' v L' → Wk l Z a0 EL y bytes mx ret R Q L' (cb - rm.cells) (sb - rm.slots) q Ls (v.toList ++ rest)) : Wk l Z a0 EL y bytes mx ret R Q L cb sb pc Ls St := by
  subst hq hst
  refine Wk.call (len := 3) hC wc wz hf hl hcb hsb (fun {p e s m args below meth c T vm0 locs cells slots Pre Post} hx hby hmx hown hZ hI X hK hpre => ?_) k
  exact callSS X hx hown (mv (s := s.setVm vm0) hZ w1) (mv (s := s.setVm vm0) hZ w2) (mv (s := s.setVm vm0) hZ wz) (mv (s := s.setVm vm0) hZ wc) hy hK (g := mkF m pc ⟨Ls⟩ (argsL.reverse ++ rest)) rfl (by rw [hmx]; simpa using hz) (XT.arity_len har hna) rfl (by show 2 * 0 + _ ≤ _; rw [hW]; omega) (hb hby hd) hpre
theorem Wk.special {a : Addr} (argsL rest : List Value) (W : Nat) {na : Nat} (hd : decode bytes pc = .ok (.invokespecial i, 3)) (hq : pc + 3 = q) (hy1 : y'.name = "<init>") (w1 : (Jvm.Cond.methodLink y.cls i y').before a0 Z = true) (w2 : (Jvm.Cond.instanceMethod y').before a0 Z = true) (wz : (Jvm.Cond.initialized y'.cls).before a0 Z = true) (wc : (Jvm.Cond.code y' b' mx' none).before a0 Z = true) (har : XT.arity y'.desc = some na) (hy : y'.cls ≠ "java/lang/invoke/MethodHandle" ∧ y'.cls ≠ "java/lang/invoke/VarHandle")
    (hst : St = argsL.reverse ++ .ref a :: rest) (hna : argsL.length = na) (hW : (rest.map fun v => v.category).sum = W) (hz : Ls.length = mx) (hC : Ct l Z EL y' b' mx' none rm (.ref a :: argsL).toArray L Q') (hf : rm.frames + 1 ≤ R.frames) (hl : W + (mx' + 11) + rm.locals ≤ R.locals) (hcb : rm.cells ≤ cb) (hsb : rm.slots ≤ sb)
    (k : ∀ v L', Q' v L' → Wk l Z a0 EL y bytes mx ret R Q L' (cb - rm.cells) (sb - rm.slots) q Ls (v.toList ++ rest)) : Wk l Z a0 EL y bytes mx ret R Q L cb sb pc Ls St := by
  subst hq hst
  refine Wk.call (len := 3) hC wc wz hf hl hcb hsb (fun {p e s m args below meth c T vm0 locs cells slots Pre Post} hx hby hmx hown hZ hI X hK hpre => ?_) k
  exact X.specialBackS hx hy1 hown (mv (s := s.setVm vm0) hZ w1) (mv (s := s.setVm vm0) hZ w2) (mv (s := s.setVm vm0) hZ wc) hy hK (g := mkF m pc ⟨Ls⟩ (argsL.reverse ++ .ref a :: rest)) rfl (by rw [hmx]; simpa using hz) (Steps.refl _) (XT.arity_len har hna) rfl (by show 2 * 0 + _ ≤ _; rw [hW]; omega) (hb hby hd) hpre
theorem nfSel {y0 : MethodName} {C : String} (w : (Jvm.Cond.selects C y0 y0).before a0 Z = true) : ∀ s : State, Z.Warmed39 s.vm → NotFace s y0 := fun s hZ => notFace_of_selects (args := #[]) (mv hZ w)
theorem nfSup {y0 : MethodName} {S : String} (w : (Jvm.Cond.superclass y0.cls S).before a0 Z = true) : ∀ s : State, Z.Warmed39 s.vm → NotFace s y0 := fun s hZ => nf_super (args := #[]) (mv hZ w)
theorem nfTop {y0 : MethodName} (w : (Jvm.Cond.noSuperclass y0.cls).before a0 Z = true) : ∀ s : State, Z.Warmed39 s.vm → NotFace s y0 := fun s hZ => nf_top (args := #[]) (mv hZ w)
theorem Wk.virtual {a : Addr} {fl : Bool} {C : String} {lay : Lay} {vs : List Value} {y0 : MethodName} (argsL rest : List Value) (W : Nat) {na : Nat} (hd : decode bytes pc = .ok (.invokevirtual i, 3)) (hq : pc + 3 = q) (w1 : (Jvm.Cond.methodLink y.cls i y0).before a0 Z = true) (w2 : (Jvm.Cond.declares y0).before a0 Z = true) (w3 : (Jvm.Cond.selects C y0 y').before a0 Z = true) (w4 : (Jvm.Cond.instanceMethod y').before a0 Z = true) (wz : (Jvm.Cond.initialized y'.cls).before a0 Z = true) (wc : (Jvm.Cond.code y' b' mx' ret').before a0 Z = true)
    (har : XT.arity y0.desc = some na) (hy : y0.cls ≠ "java/lang/invoke/MethodHandle" ∧ y0.cls ≠ "java/lang/invoke/VarHandle") (nf : ∀ s : State, Z.Warmed39 s.vm → NotFace s y0) (hm : (a, fl, OB Z C lay vs) ∈ L)
    (hst : St = argsL.reverse ++ .ref a :: rest) (hna : argsL.length = na) (hW : (rest.map fun v => v.category).sum = W) (hz : Ls.length = mx) (hC : Ct l Z EL y' b' mx' ret' rm (.ref a :: argsL).toArray L Q') (hf : rm.frames + 1 ≤ R.frames) (hl : W + (mx' + 11) + rm.locals ≤ R.locals) (hcb : rm.cells ≤ cb) (hsb : rm.slots ≤ sb)
    (k : ∀ v L', Q' v L' → Wk l Z a0 EL y bytes mx ret R Q L' (cb - rm.cells) (sb - rm.slots) q Ls (v.toList ++ rest)) : Wk l Z a0 EL y bytes mx ret R Q L cb sb pc Ls St := by
  subst hq hst
  refine Wk.call (len := 3) hC wc wz hf hl hcb hsb (fun {p e s m args below meth c T vm0 locs cells slots Pre Post} hx hby hmx hown hZ hI X hK hpre => ?_) k
  obtain ⟨cl, e1, e2⟩ := hI.at_ hm
  obtain ⟨cq, kq, q1, -, q3⟩ := isOf (T := T) (s := s.setVm vm0) hZ rfl (e2.exa e1)
  exact X.virtualBackS hx hown (mv (s := s.setVm vm0) hZ w1) (mv (s := s.setVm vm0) hZ w2) (nf (s.setVm vm0) hZ) (mv (s := s.setVm vm0) hZ w3) (mv (s := s.setVm vm0) hZ w4) hy hK q1 q3 (g := mkF m pc ⟨Ls⟩ (argsL.reverse ++ .ref a :: rest)) rfl (by rw [hmx]; simpa using hz) (Steps.refl _) (XT.arity_len har hna) rfl (by show 2 * 0 + _ ≤ _; rw [hW]; omega) (hb hby hd) hpre
theorem Wk.interface {a : Addr} {fl : Bool} {C : String} {lay : Lay} {vs : List Value} {y0 : MethodName} {cnt : Nat} (argsL rest : List Value) (W : Nat) {na : Nat} (hd : decode bytes pc = .ok (.invokeinterface i cnt, 5)) (hq : pc + 5 = q) (w1 : (Jvm.Cond.methodLink y.cls i y0).before a0 Z = true) (w2 : (Jvm.Cond.declares y0).before a0 Z = true) (w5 : (Jvm.Cond.interfaceMethod y0.cls y0.cls y0.name y0.desc).before a0 Z = true) (hd5 : ((Jvm.Cond.interfaceMethod y0.cls y0.cls y0.name y0.desc).onTables && (Jvm.Cond.interfaceMethod y0.cls y0.cls y0.name y0.desc).keepsFace) = true) (w3 : (Jvm.Cond.selects C y0 y').before a0 Z = true) (w4 : (Jvm.Cond.instanceMethod y').before a0 Z = true) (w6 : (Jvm.Cond.publicMethod y').before a0 Z = true) (w7 : (Jvm.Cond.unhidden C y0.name y0.desc).before a0 Z = true) (w8 : (Jvm.Cond.castable C y0.cls).before a0 Z = true) (wz : (Jvm.Cond.initialized y'.cls).before a0 Z = true) (wc : (Jvm.Cond.code y' b' mx' ret').before a0 Z = true)
    (har : XT.arity y0.desc = some na) (hy : y0.cls ≠ "java/lang/invoke/MethodHandle" ∧ y0.cls ≠ "java/lang/invoke/VarHandle") (hm : (a, fl, OB Z C lay vs) ∈ L)
    (hst : St = argsL.reverse ++ .ref a :: rest) (hna : argsL.length = na) (hW : (rest.map fun v => v.category).sum = W) (hz : Ls.length = mx) (hC : Ct l Z EL y' b' mx' ret' rm (.ref a :: argsL).toArray L Q') (hf : rm.frames + 1 ≤ R.frames) (hl : W + (mx' + 11) + rm.locals ≤ R.locals) (hcb : rm.cells ≤ cb) (hsb : rm.slots ≤ sb)
    (k : ∀ v L', Q' v L' → Wk l Z a0 EL y bytes mx ret R Q L' (cb - rm.cells) (sb - rm.slots) q Ls (v.toList ++ rest)) : Wk l Z a0 EL y bytes mx ret R Q L cb sb pc Ls St := by
  subst hq hst
  refine Wk.call (len := 5) hC wc wz hf hl hcb hsb (fun {p e s m args below meth c T vm0 locs cells slots Pre Post} hx hby hmx hown hZ hI X hK hpre => ?_) k
  obtain ⟨cl, e1, e2⟩ := hI.at_ hm
  obtain ⟨cq, kq, q1, q2, q3⟩ := isOf (T := T) (s := s.setVm vm0) hZ rfl (e2.exa e1)
  exact X.interfaceBackS hx hown (mv (s := s.setVm vm0) hZ w1) (mv (s := s.setVm vm0) hZ w2) (mv (s := s.setVm vm0) hZ w5 hd5) (mv (s := s.setVm vm0) hZ w3) (mv (s := s.setVm vm0) hZ w4) (mv (s := s.setVm vm0) hZ w6) (mv (s := s.setVm vm0) hZ w7) (mv (s := s.setVm vm0) hZ w8) hy hK q1 q2 q3 (g := mkF m pc ⟨Ls⟩ (argsL.reverse ++ .ref a :: rest)) rfl (by rw [hmx]; simpa using hz) (Steps.refl _) (XT.arity_len har hna) rfl (by show 2 * 0 + _ ≤ _; rw [hW]; omega) (hb hby hd) hpre
end Calls
theorem kv {Q0 : Value → Store → Prop} (k : ∀ u L', Q0 u L' → Wk l Z a0 EL y bytes mx ret R Q L' cb sb q Ls (u :: rest)) : ∀ v L', RV Q0 v L' → Wk l Z a0 EL y bytes mx ret R Q L' cb sb q Ls (v.toList ++ rest) := by
  rintro _ L' ⟨u, rfl, h⟩; exact k u L' h
theorem k0 {Q0 : Store → Prop} (k : ∀ L', Q0 L' → Wk l Z a0 EL y bytes mx ret R Q L' cb sb q Ls rest) : ∀ v L', R0 Q0 v L' → Wk l Z a0 EL y bytes mx ret R Q L' cb sb q Ls (v.toList ++ rest) := by
  rintro _ L' ⟨rfl, h⟩; exact k L' h
end Rules
/-- a branch both ways -/
def cP : ClassFile.Cond → Int32 → Int32 → Prop
  | .eq, u, w => u = w
  | .ne, u, w => ¬ u = w
  | .lt, u, w => u < w
  | .ge, u, w => ¬ u < w
  | .gt, u, w => w < u
  | .le, u, w => ¬ w < u
def cneg : ClassFile.Cond → ClassFile.Cond
  | .eq => .ne
  | .ne => .eq
  | .lt => .ge
  | .ge => .lt
  | .gt => .le
  | .le => .gt
theorem icmp_of {cd : ClassFile.Cond} {u w : Int32} : (cP cd u w ∧ if_icmp.holds cd u w = true) ∨ (cP (cneg cd) u w ∧ if_icmp.holds cd u w = false) := by
  cases cd
  · by_cases h : u = w
    · exact Or.inl ⟨h, XT.ii_eq_t h⟩
    · exact Or.inr ⟨h, XT.ii_eq_f h⟩
  · by_cases h : u = w
    · exact Or.inr ⟨h, XT.ii_ne_f h⟩
    · exact Or.inl ⟨h, XT.ii_ne_t h⟩
  · by_cases h : u < w
    · exact Or.inl ⟨h, XT.ii_lt_t h⟩
    · exact Or.inr ⟨h, XT.ii_lt_f h⟩
  · by_cases h : u < w
    · exact Or.inr ⟨h, XT.ii_ge_f h⟩
    · exact Or.inl ⟨h, XT.ii_ge_t h⟩
  · by_cases h : w < u
    · exact Or.inl ⟨h, XT.ii_gt_t h⟩
    · exact Or.inr ⟨h, XT.ii_gt_f h⟩
  · by_cases h : w < u
    · exact Or.inr ⟨h, XT.ii_le_f h⟩
    · exact Or.inl ⟨h, XT.ii_le_t h⟩
theorem if_of {cd : ClassFile.Cond} {u : Int32} : (cP cd u 0 ∧ ifCond.holds cd u = true) ∨ (cP (cneg cd) u 0 ∧ ifCond.holds cd u = false) := by
  cases cd
  · by_cases h : u = 0
    · exact Or.inl ⟨h, XT.i0_eq_t h⟩
    · exact Or.inr ⟨h, XT.i0_eq_f h⟩
  · by_cases h : u = 0
    · exact Or.inr ⟨h, XT.i0_ne_f h⟩
    · exact Or.inl ⟨h, XT.i0_ne_t h⟩
  · by_cases h : u < 0
    · exact Or.inl ⟨h, XT.i0_lt_t h⟩
    · exact Or.inr ⟨h, XT.i0_lt_f h⟩
  · by_cases h : u < 0
    · exact Or.inr ⟨h, XT.i0_ge_f h⟩
    · exact Or.inl ⟨h, XT.i0_ge_t h⟩
  · by_cases h : 0 < u
    · exact Or.inl ⟨h, XT.i0_gt_t h⟩
    · exact Or.inr ⟨h, XT.i0_gt_f h⟩
  · by_cases h : 0 < u
    · exact Or.inr ⟨h, XT.i0_le_f h⟩
    · exact Or.inl ⟨h, XT.i0_le_t h⟩
section Rules2
variable {l : Launch} {Z : State} {a0 : Array Value} {EL : List (String × Nat)} {y : MethodName} {bytes : ByteArray} {mx : Nat} {ret : Option FieldType} {R : Room} {Q Q' : Option Value → Store → Prop} {L L0 L' : Store} {cb sb pc q q' : Nat} {Ls Ls' : List Slot} {St rest : List Value}
theorem Wk.icmp_s {cd : ClassFile.Cond} {u w : Int32} {o : Int} (hd : decode bytes pc = .ok (.if_icmp cd o, 3)) (ho : 0 ≤ (pc : Int) + o) (hq : ((pc : Int) + o).toNat = q) (hq' : pc + 3 = q') (k1 : cP cd u w → Wk l Z a0 EL y bytes mx ret R Q L cb sb q Ls St) (k2 : cP (cneg cd) u w → Wk l Z a0 EL y bytes mx ret R Q L cb sb q' Ls St) : Wk l Z a0 EL y bytes mx ret R Q L cb sb pc Ls (.int w :: .int u :: St) := by
  rcases icmp_of (cd := cd) (u := u) (w := w) with ⟨h, h'⟩ | ⟨h, h'⟩
  · exact Wk.icmp_t hd ho hq h' (k1 h)
  · exact Wk.icmp_f hd hq' h' (k2 h)
theorem Wk.if_s {cd : ClassFile.Cond} {u : Int32} {o : Int} (hd : decode bytes pc = .ok (.ifCond cd o, 3)) (ho : 0 ≤ (pc : Int) + o) (hq : ((pc : Int) + o).toNat = q) (hq' : pc + 3 = q') (k1 : cP cd u 0 → Wk l Z a0 EL y bytes mx ret R Q L cb sb q Ls St) (k2 : cP (cneg cd) u 0 → Wk l Z a0 EL y bytes mx ret R Q L cb sb q' Ls St) : Wk l Z a0 EL y bytes mx ret R Q L cb sb pc Ls (.int u :: St) := by
  rcases if_of (cd := cd) (u := u) with ⟨h, h'⟩ | ⟨h, h'⟩
  · exact Wk.if_t hd ho hq h' (k1 h)
  · exact Wk.if_f hd hq' h' (k2 h)
end Rules2
theorem Wk.know {l : Launch} {Z : State} {a0 : Array Value} {EL : List (String × Nat)} {y : MethodName} {bytes : ByteArray} {mx : Nat} {ret : Option FieldType} {R : Room} {Q : Option Value → Store → Prop} {L : Store} {cb sb pc : Nat} {Ls : List Slot} {St : List Value} {P : Prop} (hp : ∀ vm h, Inv Z EL vm h L → P) (k : P → Wk l Z a0 EL y bytes mx ret R Q L cb sb pc Ls St) : Wk l Z a0 EL y bytes mx ret R Q L cb sb pc Ls St := by
  intro p e s m args below meth c T vm0 k0 locs cells slots hx hby hmx hret hlk hnm hown X hS hk hZ hE hI hF hc hs
  exact k (hp _ _ hI) p e s m args below meth c T vm0 k0 locs cells slots hx hby hmx hret hlk hnm hown X hS hk hZ hE hI hF hc hs
theorem Inv.sameObj {Z : State} {EL : List (String × Nat)} {vm : Vm} {h : Heap} {L : Store} {a : Addr} {f f' : Bool} {C C' : String} {lay : Lay} {vs vs' : List Value} {j : Nat} {g : String × String × String} {v v' : Value} (I : Inv Z EL vm h L) (h1 : (a, f, OB Z C lay vs) ∈ L) (h2 : (a, f', OB Z C' lay vs') ∈ L) (hj : lay[j]? = some g) (hv : vs[j]? = some v) (hv' : vs'[j]? = some v') : v = v' := by
  obtain ⟨c, e1, e2⟩ := I.at_ h1
  obtain ⟨c', g1, g2⟩ := I.at_ h2
  cases e1.symm.trans g1
  obtain ⟨_, _, _, fi, x1, -, -, -, -, x6⟩ := e2.2 j g v hj hv
  obtain ⟨_, _, _, fi', y1, -, -, -, -, y6⟩ := g2.2 j g v' hj hv'
  cases x1.symm.trans y1
  exact Option.some.inj (x6.symm.trans y6)
theorem Inv.sameArr {Z : State} {EL : List (String × Nat)} {vm : Vm} {h : Heap} {L : Store} {a : Addr} {f f' : Bool} {ty ty' : FieldType} {vs vs' : List Value} (I : Inv Z EL vm h L) (h1 : (a, f, AR Z ty vs) ∈ L) (h2 : (a, f', AR Z ty' vs') ∈ L) : vs = vs' := by
  obtain ⟨c, e1, e2⟩ := I.at_ h1
  obtain ⟨c', g1, g2⟩ := I.at_ h2
  cases e1.symm.trans g1
  exact e2.2.2.1.symm.trans g2.2.2.1
theorem map_int_inj {xs ys : List Int32} (h : xs.map Value.int = ys.map Value.int) : xs = ys := (List.map_inj_right (fun a b e => by injection e)).mp h
theorem efOf {m : MethodId} {args : Array Value} {n : Nat} {Ls : List Slot} (h : Jvm.Sym.laidSlots args.toList ++ List.replicate (n - (Jvm.Sym.laidSlots args.toList).length) .unset = Ls) : entryFrame m args n = mkF m 0 ⟨Ls⟩ [] := by
  have : argsToLocals args n = ⟨Ls⟩ := Array.toList_inj.mp (by rw [Jvm.Sym.argsToLocals_toList]; exact h)
  unfold entryFrame
  rw [this]
theorem fitO {c : String} {v : Value} (h : v.isRef = true) : fits (.object c) v = true := by cases v <;> first | rfl | exact Bool.noConfusion h
theorem fitA {c : FieldType} {v : Value} (h : v.isRef = true) : fits (.array c) v = true := by cases v <;> first | rfl | exact Bool.noConfusion h
theorem narO {c : String} {v : Value} : narrow (.object c) v = v := by cases v <;> rfl
theorem narA {c : FieldType} {v : Value} : narrow (.array c) v = v := by cases v <;> rfl
theorem staOf {Z : State} {args a0 : Array Value} {C n d K : String} (h : (Jvm.Cond.exactly (Term.static C n d) K).value args Z none Z [] = some true) (hi : (Jvm.Cond.initialized C).before a0 Z = true) (hl : (Jvm.Cond.laysStatic C n d).before a0 Z = true) : ∃ a : Addr, Sta Z Z.heap C n d (.ref a) ∧ Exa Z Z.heap a K := by
  obtain ⟨a, ev⟩ := exa_v h
  exact ⟨a, Sta.start (args := args) ev (Or.inr ⟨hi, hl⟩), Exa.start ev h⟩
theorem compact {Z : State} {args : Array Value} (h1 : (Jvm.Cond.initializedFor "java/lang/String" "COMPACT_STRINGS" "Z").before args Z = true) (h2 : (Jvm.Cond.isInt (Term.static "java/lang/String" "COMPACT_STRINGS" "Z")).before args Z = true) (h3 : (Jvm.Cond.not (Jvm.Cond.eq (Term.static "java/lang/String" "COMPACT_STRINGS" "Z") (.int 0))).before args Z = true) : ∃ z, z ≠ (0 : Int32) ∧ Sta Z Z.heap "java/lang/String" "COMPACT_STRINGS" "Z" (.int z) := by
  obtain ⟨z, ev⟩ := is_v (Cond.before_iff.mp h2)
  refine ⟨z, fun e => ?_, Sta.start (args := args) ev (Or.inl h1)⟩
  have h := not_v (Cond.before_iff.mp h3)
  rw [eq_i ev (Term.int_eval 0) (by rw [e])] at h
  cases h
theorem staI {Z : State} {args : Array Value} {C n d : String} {z : Int32} (h1 : (Jvm.Cond.initializedFor C n d).before args Z = true) (h2 : (Jvm.Cond.eq (Term.static C n d) (.int z)).before args Z = true) : Sta Z Z.heap C n d (.int z) := by
  have h := Cond.before_iff.mp h2
  obtain ⟨x, y, ex, ey, kx, -⟩ := cmp_v (Or.inl h)
  cases (Term.int_eval z).symm.trans ey
  have e : x = .int z := by
    have q := h
    cases x with
    | int w =>
      simp only [Jvm.Cond.value, ex, Term.int_eval, Option.some.injEq, decide_eq_true_eq] at q
      rw [q]
    | long _ => obtain ⟨_, kx⟩ := kx; cases kx
    | float _ => obtain ⟨_, kx⟩ := kx; cases kx
    | double _ => obtain ⟨_, kx⟩ := kx; cases kx
    | _ => exact Bool.noConfusion kx.2
  subst e
  exact Sta.start (args := args) ex (Or.inl h1)
theorem nar8 (x : Int32) : nar .byte x.toInt8.toInt32 = x.toInt8.toInt32 := by simp [nar]
/-! numbers -/
theorem nchar_mask (x : Int32) : nar .char (x &&& 255) = x &&& 255 := i2c_mask x
theorem mask_lat (x : Int32) : 0 ≤ (x &&& 255).toInt ∧ (x &&& 255).toInt < 256 := by
  have := c_and x 255 (by decide)
  have e : (255 : Int32).toInt = 255 := by decide
  omega
theorem remR (x : Int32) (k : Int32) (d : Int) (hx : 0 ≤ x.toInt) (hd : k.toInt = d) (hk : 0 < d) : 0 ≤ (x % k).toInt ∧ (x % k).toInt < d := by
  have := (c_iremV x k).1 hx (by omega)
  omega
theorem maskR (x : Int32) : 0 ≤ (x &&& 2147483647).toInt := (c_and x 2147483647 (by decide)).1
theorem lit32 {x : Int32} {n : Int} (h : x.toInt = n) (m : Int32) (hm : m.toInt = n) : x = m := Int32.toInt_inj.mp (h.trans hm.symm)
theorem rem4 (x : Int32) : (x &&& 2147483647) % 4 = 0 ∨ (x &&& 2147483647) % 4 = 1 ∨ (x &&& 2147483647) % 4 = 2 ∨ (x &&& 2147483647) % 4 = 3 := by
  have h := remR (x &&& 2147483647) 4 4 (maskR x) (by decide) (by decide)
  generalize (x &&& 2147483647) % 4 = r at *
  have h4 : r.toInt = 0 ∨ r.toInt = 1 ∨ r.toInt = 2 ∨ r.toInt = 3 := by omega
  rcases h4 with h | h | h | h
  · exact Or.inl (lit32 h 0 (by decide))
  · exact Or.inr (Or.inl (lit32 h 1 (by decide)))
  · exact Or.inr (Or.inr (Or.inl (lit32 h 2 (by decide))))
  · exact Or.inr (Or.inr (Or.inr (lit32 h 3 (by decide))))
theorem pw0 : ((2 ^ 0 : Nat) : Int) = 1 := rfl
theorem pw1 : ((2 ^ 1 : Nat) : Int) = 2 := rfl
theorem pw8 : ((2 ^ 8 : Nat) : Int) = 256 := rfl
theorem pw31 : ((2 ^ 31 : Nat) : Int) = 2147483648 := rfl
theorem n32 {n : Nat} (h : n < 2 ^ 31) : n.toInt32.toInt = n := len_toInt h
theorem n32_nn {n : Nat} (h : n < 2 ^ 31) : ¬ n.toInt32 < 0 := by rw [Int32.lt_iff_toInt_lt, n32 h]; show ¬ (n : Int) < 0; omega
theorem n32_nat {n : Nat} (h : n < 2 ^ 31) : n.toInt32.toNatClampNeg = n := by simp only [Int32.toNatClampNeg, n32 h]; rfl
theorem n32_lt {i n : Nat} (hi : i < 2 ^ 31) (hn : n < 2 ^ 31) : i.toInt32 < n.toInt32 ↔ i < n := by rw [Int32.lt_iff_toInt_lt, n32 hi, n32 hn]; omega
theorem n32_inj {i n : Nat} (hi : i < 2 ^ 31) (hn : n < 2 ^ 31) : i.toInt32 = n.toInt32 ↔ i = n := by rw [← Int32.toInt_inj, n32 hi, n32 hn]; omega
theorem n32_succ (i : Nat) : i.toInt32 + 1 = (i + 1).toInt32 := (Int32.ofNat_add i 1).symm
end Jvm.OwnW
namespace Jvm.OwnW
open Jvm Jvm.ClassFile Sem Op Lib Jvm.Free Jvm.Stand Jvm.LawKit Jvm.RoadKit
theorem Inv.keep {Z : State} {EL : List (String × Nat)} {vm : Vm} {h h' : Heap} {L : Store} {b : Addr} {P P' : Cell → Prop} {c : Cell} (I : Inv Z EL vm h ((b, true, P) :: L)) (K : Keep h h' [b]) (hc : h'[b]? = some c) (hP : P' c) : Inv Z EL vm h' ((b, true, P') :: L) := by
  obtain ⟨h1, h2, h3, h4, h5⟩ := I
  have hs := (h4 _ (List.mem_cons_self ..) rfl)
  have hsafe : ∀ x ∈ [b], Safe Z EL vm h x := fun x hx => by cases List.mem_singleton.mp hx; exact hs.2
  rw [List.pairwise_cons] at h5
  refine ⟨⟨Nat.le_trans h1.1 K.1, fun x c q => K.2.1 x c (h1.2 x c q) fun hx => ?_⟩, h2.keep K hsafe, fun o ho => ?_, fun o ho q => ?_, List.pairwise_cons.mpr ⟨fun o ho q => h5.1 o ho q, h5.2⟩⟩
  · cases List.mem_singleton.mp hx
    exact absurd (Array.getElem?_eq_some_iff.mp q).1 (Nat.not_lt.mpr hs.1)
  · rcases List.mem_cons.mp ho with rfl | ho
    · exact ⟨c, hc, hP⟩
    · obtain ⟨c1, q1, q2⟩ := h3 o (List.mem_cons_of_mem _ ho)
      exact ⟨c1, K.2.1 _ _ q1 fun hx => h5.1 o ho (Or.inl rfl) (List.mem_singleton.mp hx).symm, q2⟩
  · rcases List.mem_cons.mp ho with rfl | ho
    · exact ⟨hs.1, Safe.keep K hsafe h2 hs.2⟩
    · have q2 := h4 o (List.mem_cons_of_mem _ ho) q
      exact ⟨q2.1, Safe.keep K hsafe h2 q2.2⟩
theorem arv_of_ar {Z : State} {h : Heap} {a : Addr} {ty : FieldType} {vs : List Value} {c : Cell} (d : Value) (hc : h[a]? = some c) (A : AR Z ty vs c) (hf : ∀ v ∈ vs, fits ty v = true) : Arv Z h a c.cls ty vs.length.toInt32 vs d := by
  refine ⟨c, A.arr hc, rfl, by rw [A.size, n32_nat A.2.2.2], n32_nn A.2.2.2, fun k hk => ?_, fun i hi => ?_⟩
  · rw [A.size] at hk
    rw [A.get (List.getElem?_eq_getElem hk), List.getD_eq_getElem?_getD, List.getElem?_eq_getElem hk]; rfl
  · rw [A.size] at hi
    rw [List.getD_eq_getElem?_getD, List.getElem?_eq_getElem hi]
    exact hf _ (List.getElem_mem hi)
theorem range_take {vs : List Value} {s n : Nat} {d : Value} (h : s + n ≤ vs.length) : ((List.range n).map fun i => vs.getD (s + i) d) = (vs.drop s).take n := by
  apply List.ext_getElem
  · simp; omega
  · intro i h1 h2
    simp only [List.length_map, List.length_range] at h1
    have : s + i < vs.length := by omega
    simp [List.getD_eq_getElem?_getD, List.getElem?_eq_getElem this]
section Rules4
variable {l : Launch} {Z : State} {a0 : Array Value} {EL : List (String × Nat)} {y : MethodName} {bytes : ByteArray} {mx : Nat} {ret : Option FieldType} {R : Room} {Q Q' : Option Value → Store → Prop} {L L0 L' : Store} {cb sb pc q q' : Nat} {Ls Ls' : List Slot} {St rest : List Value}
/-- System.arraycopy between two byte arrays -/
theorem Wk.arraycopyB {i : Nat} (W sN dN nN : Nat) (vs' : List Value) {sp dp nn : Int32} {a b : Addr} {fa : Bool} {va vd : List Value} (hd : decode bytes pc = .ok (.invokestatic i, 3)) (hq : pc + 3 = q) (w1 : (Jvm.Cond.methodLink y.cls i Jvm.Stand.acN).before a0 Z = true) (w2 : (Jvm.Cond.native Jvm.Stand.acN).before a0 Z = true) (w3 : (Jvm.Cond.static Jvm.Stand.acN).before a0 Z = true) (w4 : (Jvm.Cond.initialized "java/lang/System").before a0 Z = true)
    (hm : Ex L (b, true, AR Z .byte vd) L0) (ha : (a, fa, AR Z .byte va) ∈ L0) (hfa : ∀ v ∈ va, fits .byte v = true) (hfd : ∀ v ∈ vd, fits .byte v = true) (h1 : ¬ sp < 0 ∧ sp.toNatClampNeg = sN) (h2 : ¬ dp < 0 ∧ dp.toNatClampNeg = dN) (h3 : ¬ nn < 0 ∧ nn.toNatClampNeg = nN) (h4 : sN + nN ≤ va.length) (h5 : dN + nN ≤ vd.length) (hv : vd.take dN ++ (va.drop sN).take nN ++ vd.drop (dN + nN) = vs')
    (hz : Ls.length = mx) (hf : 1 ≤ R.frames) (hW : (St.map fun v => v.category).sum = W) (hlo : W + (nativeFrameWords "java/lang/System" "arraycopy" 5 + 11) ≤ R.locals) (k : Wk l Z a0 EL y bytes mx ret R Q ((b, true, AR Z .byte vs') :: L0) cb sb q Ls St) : Wk l Z a0 EL y bytes mx ret R Q L cb sb pc Ls (.int nn :: .int dp :: .ref b :: .int sp :: .ref a :: St) := by
  subst hq hv
  obtain ⟨h1, rfl⟩ := h1
  obtain ⟨h2, rfl⟩ := h2
  obtain ⟨h3, rfl⟩ := h3
  refine Wk.pull hm ?_
  intro p e s m args below meth c T vm0 k0 locs cells slots hx hby hmx hret hlk hnm hown X hS hk hZ hE hI hF hc hs
  obtain ⟨cd, d1, d2⟩ := hI.at_ (List.mem_cons_self ..)
  obtain ⟨cs, s1, s2⟩ := hI.at_ (List.mem_cons_of_mem _ ha)
  have A := arv_of_ar (.int 0) s1 s2 hfa
  have B := arv_of_ar (.int 0) d1 d2 hfd
  have la := n32_nat s2.2.2.2
  have ld := n32_nat d2.2.2.2
  obtain ⟨T', h', L2, X', rfl, N, K, B', st⟩ := cpA X hx hZ hown w1 w2 w3 w4 rfl A B (Or.inl ⟨rfl, rfl⟩) h1 h2 h3 (by rw [la]; exact h4) (by rw [ld]; exact h5) (range_take h4).symm h5 hF (hI.2.2.2.1 _ (List.mem_cons_self ..) rfl).1 (g := mkF m pc ⟨Ls⟩ (.int nn :: .int dp :: .ref b :: .int sp :: .ref a :: St)) rfl (by rw [hmx]; simpa using hz) rfl (hb hby hd) hf (W := W) (by show 2 * 0 + _ ≤ _; rw [hW]; omega) hlo
  obtain ⟨c', e1, e2⟩ := ar_of_arv B' (by rw [ld]; simp; omega)
  obtain ⟨fin, v, Lc, L', q1, r⟩ := k p e s m args below meth c T' vm0 k0 L2 cells slots hx hby hmx hret hlk hnm hown X' hS (Nat.le_trans hk K.1) hZ hE (hI.keep K e1 e2) N hc hs
  exact ⟨fin, v, Lc, L', st _ q1, r⟩
end Rules4
end Jvm.OwnW
namespace Jvm.Pilot.@@N@@
open Jvm Jvm.ClassFile Sem Op Lib Jvm.Free Jvm.Stand Jvm.LawKit Jvm.RoadKit Jvm.OwnW Bundle Jvm.Pilot.@@N@@.Jvm.D
abbrev EL0 : List (String × Nat) := consts_1
theorem wS {Z : State} {a0 : Array Value} (hw : ∀ d ∈ tables_1, d.before a0 Z = true) : ∀ a ∈ Bundle.stringAtoms, a.before a0 Z = true := by
  intro a ha
  simp only [Bundle.stringAtoms, Bundle.sN, List.mem_cons, List.not_mem_nil, or_false] at ha
  rcases ha with rfl | rfl | rfl | rfl | rfl | rfl | rfl
  · exact (hw _ (List.mem_of_getElem? (i := 12) rfl))
  · exact (hw _ (List.mem_of_getElem? (i := 11) rfl))
  · exact (hw _ (List.mem_of_getElem? (i := 25) rfl))
  · exact (hw _ (List.mem_of_getElem? (i := 26) rfl))
  · exact (hw _ (List.mem_of_getElem? (i := 27) rfl))
  · exact (hw _ (List.mem_of_getElem? (i := 28) rfl))
  · exact (hw _ (List.mem_of_getElem? (i := 29) rfl))
theorem d0_3 : decode jdk_52_method_21_code 3 = .ok (.iload 5, 2) := by decide +kernel
theorem d0_5 : decode jdk_52_method_21_code 5 = .ok (.iload 4, 2) := by decide +kernel
theorem d0_7 : decode jdk_52_method_21_code 7 = .ok (.if_icmp .ge 37, 3) := by decide +kernel
theorem d0_44 : decode jdk_52_method_21_code 44 = .ok (.iload 4, 2) := by decide +kernel
theorem d0_46 : decode jdk_52_method_21_code 46 = .ok (.ireturn, 1) := by decide +kernel
theorem d0_10 : decode jdk_52_method_21_code 10 = .ok (.aload_n 0, 1) := by decide +kernel
theorem d0_11 : decode jdk_52_method_21_code 11 = .ok (.iload_n 1, 1) := by decide +kernel
theorem d0_12 : decode jdk_52_method_21_code 12 = .ok (.caload, 1) := by decide +kernel
theorem d0_13 : decode jdk_52_method_21_code 13 = .ok (.istore 6, 2) := by decide +kernel
theorem d0_15 : decode jdk_52_method_21_code 15 = .ok (.iload 6, 2) := by decide +kernel
theorem d0_17 : decode jdk_52_method_21_code 17 = .ok (.sipush 255, 3) := by decide +kernel
theorem d0_20 : decode jdk_52_method_21_code 20 = .ok (.if_icmp .le 6, 3) := by decide +kernel
theorem d0_26 : decode jdk_52_method_21_code 26 = .ok (.aload_n 2, 1) := by decide +kernel
theorem d0_27 : decode jdk_52_method_21_code 27 = .ok (.iload_n 3, 1) := by decide +kernel
theorem d0_28 : decode jdk_52_method_21_code 28 = .ok (.iload 6, 2) := by decide +kernel
theorem d0_30 : decode jdk_52_method_21_code 30 = .ok (.i2b, 1) := by decide +kernel
theorem d0_31 : decode jdk_52_method_21_code 31 = .ok (.bastore, 1) := by decide +kernel
theorem d0_32 : decode jdk_52_method_21_code 32 = .ok (.iinc 1 1, 3) := by decide +kernel
theorem d0_35 : decode jdk_52_method_21_code 35 = .ok (.iinc 3 1, 3) := by decide +kernel
theorem d0_38 : decode jdk_52_method_21_code 38 = .ok (.iinc 5 1, 3) := by decide +kernel
theorem d0_41 : decode jdk_52_method_21_code 41 = .ok (.goto (-38), 3) := by decide +kernel
theorem ef_ririi_7 (m : MethodId) (x0 : Addr) (x1 : Int32) (x2 : Addr) (x3 : Int32) (x4 : Int32) : entryFrame m #[(.ref x0), (.int x1), (.ref x2), (.int x3), (.int x4)] 7 = mkF m 0 ⟨[.val (.ref x0), .val (.int x1), .val (.ref x2), .val (.int x3), .val (.int x4), .unset, .unset]⟩ [] := by exact efOf rfl
theorem pn_0 : plainName "java/lang/StringUTF16" = true := by first | (simp [plainName, overriddenIn]; done) | decide +kernel
theorem d0_0 : decode jdk_52_method_21_code 0 = .ok (.iconst 0, 1) := by decide +kernel
theorem d0_1 : decode jdk_52_method_21_code 1 = .ok (.istore 5, 2) := by decide +kernel
theorem ef_ri_2 (m : MethodId) (x0 : Addr) (x1 : Int32) : entryFrame m #[(.ref x0), (.int x1)] 2 = mkF m 0 ⟨[.val (.ref x0), .val (.int x1)]⟩ [] := by exact efOf rfl
theorem d1_0 : decode jdk_52_method_15_code 0 = .ok (.iload_n 1, 1) := by decide +kernel
theorem d1_1 : decode jdk_52_method_15_code 1 = .ok (.aload_n 0, 1) := by decide +kernel
theorem d1_2 : decode jdk_52_method_15_code 2 = .ok (.arraylength, 1) := by decide +kernel
theorem d1_3 : decode jdk_52_method_15_code 3 = .ok (.isub, 1) := by decide +kernel
theorem d1_4 : decode jdk_52_method_15_code 4 = .ok (.bipush 31, 2) := by decide +kernel
theorem d1_6 : decode jdk_52_method_15_code 6 = .ok (.iushr, 1) := by decide +kernel
theorem d1_7 : decode jdk_52_method_15_code 7 = .ok (.i2b, 1) := by decide +kernel
theorem d1_8 : decode jdk_52_method_15_code 8 = .ok (.ireturn, 1) := by decide +kernel
theorem ef_rii_6 (m : MethodId) (x0 : Addr) (x1 : Int32) (x2 : Int32) : entryFrame m #[(.ref x0), (.int x1), (.int x2)] 6 = mkF m 0 ⟨[.val (.ref x0), .val (.int x1), .val (.int x2), .unset, .unset, .unset]⟩ [] := by exact efOf rfl
theorem d2_0 : decode jdk_52_method_16_code 0 = .ok (.iload_n 2, 1) := by decide +kernel
theorem d2_1 : decode jdk_52_method_16_code 1 = .ok (.newarray .byte, 2) := by decide +kernel
theorem d2_3 : decode jdk_52_method_16_code 3 = .ok (.astore_n 3, 1) := by decide +kernel
theorem d2_4 : decode jdk_52_method_16_code 4 = .ok (.aload_n 0, 1) := by decide +kernel
theorem d2_5 : decode jdk_52_method_16_code 5 = .ok (.iload_n 1, 1) := by decide +kernel
theorem d2_6 : decode jdk_52_method_16_code 6 = .ok (.aload_n 3, 1) := by decide +kernel
theorem d2_7 : decode jdk_52_method_16_code 7 = .ok (.iconst 0, 1) := by decide +kernel
theorem d2_8 : decode jdk_52_method_16_code 8 = .ok (.iload_n 2, 1) := by decide +kernel
theorem d2_9 : decode jdk_52_method_16_code 9 = .ok (.invokestatic 115, 3) := by decide +kernel
theorem ar_0 : XT.arity "([CI[BII)I" = some 5 := by decide +kernel
theorem d2_12 : decode jdk_52_method_16_code 12 = .ok (.istore 4, 2) := by decide +kernel
theorem d2_14 : decode jdk_52_method_16_code 14 = .ok (.iload 4, 2) := by decide +kernel
theorem d2_16 : decode jdk_52_method_16_code 16 = .ok (.iload_n 2, 1) := by decide +kernel
theorem d2_17 : decode jdk_52_method_16_code 17 = .ok (.if_icmp .eq 40, 3) := by decide +kernel
theorem d2_57 : decode jdk_52_method_16_code 57 = .ok (.aload_n 3, 1) := by decide +kernel
theorem d2_58 : decode jdk_52_method_16_code 58 = .ok (.areturn, 1) := by decide +kernel
theorem ef_rriin_6 (m : MethodId) (x0 : Addr) (x1 : Addr) (x2 : Int32) (x3 : Int32) : entryFrame m #[(.ref x0), (.ref x1), (.int x2), (.int x3), .null] 6 = mkF m 0 ⟨[.val (.ref x0), .val (.ref x1), .val (.int x2), .val (.int x3), .val .null, .unset]⟩ [] := by exact efOf rfl
theorem pn_1 : plainName "java/lang/String" = true := by first | (simp [plainName, overriddenIn]; done) | decide +kernel
theorem d3_0 : decode jdk_42_method_149_code 0 = .ok (.aload_n 0, 1) := by decide +kernel
theorem d3_1 : decode jdk_42_method_149_code 1 = .ok (.invokespecial 1, 3) := by decide +kernel
theorem d3_4 : decode jdk_42_method_149_code 4 = .ok (.iload_n 3, 1) := by decide +kernel
theorem d3_5 : decode jdk_42_method_149_code 5 = .ok (.ifCond .ne 22, 3) := by decide +kernel
theorem d3_27 : decode jdk_42_method_149_code 27 = .ok (.getstatic 38, 3) := by decide +kernel
theorem d3_30 : decode jdk_42_method_149_code 30 = .ok (.ifCond .eq 28, 3) := by decide +kernel
theorem d3_33 : decode jdk_42_method_149_code 33 = .ok (.aload_n 1, 1) := by decide +kernel
theorem d3_34 : decode jdk_42_method_149_code 34 = .ok (.iload_n 2, 1) := by decide +kernel
theorem d3_35 : decode jdk_42_method_149_code 35 = .ok (.iload_n 3, 1) := by decide +kernel
theorem d3_36 : decode jdk_42_method_149_code 36 = .ok (.invokestatic 177, 3) := by decide +kernel
theorem ar_1 : XT.arity "([CII)[B" = some 3 := by decide +kernel
theorem d3_39 : decode jdk_42_method_149_code 39 = .ok (.astore 5, 2) := by decide +kernel
theorem d3_41 : decode jdk_42_method_149_code 41 = .ok (.aload_n 0, 1) := by decide +kernel
theorem d3_42 : decode jdk_42_method_149_code 42 = .ok (.aload 5, 2) := by decide +kernel
theorem d3_44 : decode jdk_42_method_149_code 44 = .ok (.iload_n 3, 1) := by decide +kernel
theorem d3_45 : decode jdk_42_method_149_code 45 = .ok (.invokestatic 47, 3) := by decide +kernel
theorem ar_2 : XT.arity "([BI)B" = some 2 := by decide +kernel
theorem d3_48 : decode jdk_42_method_149_code 48 = .ok (.putfield 15, 3) := by decide +kernel
theorem d3_51 : decode jdk_42_method_149_code 51 = .ok (.aload_n 0, 1) := by decide +kernel
theorem d3_52 : decode jdk_42_method_149_code 52 = .ok (.aload 5, 2) := by decide +kernel
theorem d3_54 : decode jdk_42_method_149_code 54 = .ok (.putfield 9, 3) := by decide +kernel
theorem d3_57 : decode jdk_42_method_149_code 57 = .ok (.return_, 1) := by decide +kernel
theorem ef_rr_2 (m : MethodId) (x0 : Addr) (x1 : Addr) : entryFrame m #[(.ref x0), (.ref x1)] 2 = mkF m 0 ⟨[.val (.ref x0), .val (.ref x1)]⟩ [] := by exact efOf rfl
theorem d4_0 : decode jdk_42_method_3_code 0 = .ok (.aload_n 0, 1) := by decide +kernel
theorem d4_1 : decode jdk_42_method_3_code 1 = .ok (.aload_n 1, 1) := by decide +kernel
theorem d4_2 : decode jdk_42_method_3_code 2 = .ok (.iconst 0, 1) := by decide +kernel
theorem d4_3 : decode jdk_42_method_3_code 3 = .ok (.aload_n 1, 1) := by decide +kernel
theorem d4_4 : decode jdk_42_method_3_code 4 = .ok (.arraylength, 1) := by decide +kernel
theorem d4_5 : decode jdk_42_method_3_code 5 = .ok (.aconst_null, 1) := by decide +kernel
theorem d4_6 : decode jdk_42_method_3_code 6 = .ok (.invokespecial 27, 3) := by decide +kernel
theorem ar_3 : XT.arity "([CIILjava/lang/Void;)V" = some 4 := by decide +kernel
theorem d4_9 : decode jdk_42_method_3_code 9 = .ok (.return_, 1) := by decide +kernel
theorem d3_8 : decode jdk_42_method_149_code 8 = .ok (.aload_n 0, 1) := by decide +kernel
theorem d3_9 : decode jdk_42_method_149_code 9 = .ok (.ldc 7, 2) := by decide +kernel
theorem d3_11 : decode jdk_42_method_149_code 11 = .ok (.getfield 9, 3) := by decide +kernel
theorem d3_14 : decode jdk_42_method_149_code 14 = .ok (.putfield 9, 3) := by decide +kernel
theorem d3_17 : decode jdk_42_method_149_code 17 = .ok (.aload_n 0, 1) := by decide +kernel
theorem d3_18 : decode jdk_42_method_149_code 18 = .ok (.ldc 7, 2) := by decide +kernel
theorem d3_20 : decode jdk_42_method_149_code 20 = .ok (.getfield 15, 3) := by decide +kernel
theorem d3_23 : decode jdk_42_method_149_code 23 = .ok (.putfield 15, 3) := by decide +kernel
theorem d3_26 : decode jdk_42_method_149_code 26 = .ok (.return_, 1) := by decide +kernel
theorem ef_r_1 (m : MethodId) (x0 : Addr) : entryFrame m #[(.ref x0)] 1 = mkF m 0 ⟨[.val (.ref x0)]⟩ [] := by exact efOf rfl
theorem d5_0 : decode jdk_42_method_152_code 0 = .ok (.getstatic 38, 3) := by decide +kernel
theorem d5_3 : decode jdk_42_method_152_code 3 = .ok (.ifCond .eq 10, 3) := by decide +kernel
theorem d5_6 : decode jdk_42_method_152_code 6 = .ok (.aload_n 0, 1) := by decide +kernel
theorem d5_7 : decode jdk_42_method_152_code 7 = .ok (.getfield 15, 3) := by decide +kernel
theorem d5_10 : decode jdk_42_method_152_code 10 = .ok (.goto 4, 3) := by decide +kernel
theorem d5_14 : decode jdk_42_method_152_code 14 = .ok (.ireturn, 1) := by decide +kernel
theorem d6_0 : decode jdk_42_method_54_code 0 = .ok (.aload_n 0, 1) := by decide +kernel
theorem d6_1 : decode jdk_42_method_54_code 1 = .ok (.getfield 9, 3) := by decide +kernel
theorem d6_4 : decode jdk_42_method_54_code 4 = .ok (.arraylength, 1) := by decide +kernel
theorem d6_5 : decode jdk_42_method_54_code 5 = .ok (.aload_n 0, 1) := by decide +kernel
theorem d6_6 : decode jdk_42_method_54_code 6 = .ok (.invokevirtual 335, 3) := by decide +kernel
theorem ar_4 : XT.arity "()B" = some 0 := by decide +kernel
theorem d6_9 : decode jdk_42_method_54_code 9 = .ok (.ishr, 1) := by decide +kernel
theorem d6_10 : decode jdk_42_method_54_code 10 = .ok (.ireturn, 1) := by decide +kernel
theorem d7_0 : decode jdk_42_method_154_code 0 = .ok (.getstatic 38, 3) := by decide +kernel
theorem d7_3 : decode jdk_42_method_154_code 3 = .ok (.ifCond .eq 14, 3) := by decide +kernel
theorem d7_6 : decode jdk_42_method_154_code 6 = .ok (.aload_n 0, 1) := by decide +kernel
theorem d7_7 : decode jdk_42_method_154_code 7 = .ok (.getfield 15, 3) := by decide +kernel
theorem d7_10 : decode jdk_42_method_154_code 10 = .ok (.ifCond .ne 7, 3) := by decide +kernel
theorem d7_13 : decode jdk_42_method_154_code 13 = .ok (.iconst 1, 1) := by decide +kernel
theorem d7_14 : decode jdk_42_method_154_code 14 = .ok (.goto 4, 3) := by decide +kernel
theorem d7_18 : decode jdk_42_method_154_code 18 = .ok (.ireturn, 1) := by decide +kernel
theorem d7_17 : decode jdk_42_method_154_code 17 = .ok (.iconst 0, 1) := by decide +kernel
theorem ef_iiv_3 (m : MethodId) (x0 : Int32) (x1 : Int32) (x2 : Value) (h2 : x2.isRef = true) : entryFrame m #[(.int x0), (.int x1), x2] 3 = mkF m 0 ⟨[.val (.int x0), .val (.int x1), .val x2]⟩ [] := by rcases XT.refc h2 with rfl | ⟨_, rfl⟩ <;> exact efOf rfl
theorem pn_2 : plainName "jdk/internal/util/Preconditions" = true := by first | (simp [plainName, overriddenIn]; done) | decide +kernel
theorem d8_0 : decode jdk_41_method_11_code 0 = .ok (.iload_n 0, 1) := by decide +kernel
theorem d8_1 : decode jdk_41_method_11_code 1 = .ok (.ifCond .lt 8, 3) := by decide +kernel
theorem d8_4 : decode jdk_41_method_11_code 4 = .ok (.iload_n 0, 1) := by decide +kernel
theorem d8_5 : decode jdk_41_method_11_code 5 = .ok (.iload_n 1, 1) := by decide +kernel
theorem d8_6 : decode jdk_41_method_11_code 6 = .ok (.if_icmp .lt 10, 3) := by decide +kernel
theorem d8_16 : decode jdk_41_method_11_code 16 = .ok (.iload_n 0, 1) := by decide +kernel
theorem d8_17 : decode jdk_41_method_11_code 17 = .ok (.ireturn, 1) := by decide +kernel
theorem ef_ii_2 (m : MethodId) (x0 : Int32) (x1 : Int32) : entryFrame m #[(.int x0), (.int x1)] 2 = mkF m 0 ⟨[.val (.int x0), .val (.int x1)]⟩ [] := by exact efOf rfl
theorem d9_0 : decode jdk_42_method_155_code 0 = .ok (.iload_n 0, 1) := by decide +kernel
theorem d9_1 : decode jdk_42_method_155_code 1 = .ok (.iload_n 1, 1) := by decide +kernel
theorem d9_2 : decode jdk_42_method_155_code 2 = .ok (.getstatic 1053, 3) := by decide +kernel
theorem d9_5 : decode jdk_42_method_155_code 5 = .ok (.invokestatic 1059, 3) := by decide +kernel
theorem ar_5 : XT.arity "(IILjava/util/function/BiFunction;)I" = some 3 := by decide +kernel
theorem d9_8 : decode jdk_42_method_155_code 8 = .ok (.pop, 1) := by decide +kernel
theorem d9_9 : decode jdk_42_method_155_code 9 = .ok (.return_, 1) := by decide +kernel
theorem pn_3 : plainName "java/lang/StringLatin1" = true := by first | (simp [plainName, overriddenIn]; done) | decide +kernel
theorem d10_0 : decode jdk_43_method_2_code 0 = .ok (.iload_n 1, 1) := by decide +kernel
theorem d10_1 : decode jdk_43_method_2_code 1 = .ok (.aload_n 0, 1) := by decide +kernel
theorem d10_2 : decode jdk_43_method_2_code 2 = .ok (.arraylength, 1) := by decide +kernel
theorem d10_3 : decode jdk_43_method_2_code 3 = .ok (.invokestatic 9, 3) := by decide +kernel
theorem ar_6 : XT.arity "(II)V" = some 2 := by decide +kernel
theorem d10_6 : decode jdk_43_method_2_code 6 = .ok (.aload_n 0, 1) := by decide +kernel
theorem d10_7 : decode jdk_43_method_2_code 7 = .ok (.iload_n 1, 1) := by decide +kernel
theorem d10_8 : decode jdk_43_method_2_code 8 = .ok (.baload, 1) := by decide +kernel
theorem d10_9 : decode jdk_43_method_2_code 9 = .ok (.sipush 255, 3) := by decide +kernel
theorem d10_12 : decode jdk_43_method_2_code 12 = .ok (.iand, 1) := by decide +kernel
theorem d10_13 : decode jdk_43_method_2_code 13 = .ok (.i2c, 1) := by decide +kernel
theorem d10_14 : decode jdk_43_method_2_code 14 = .ok (.ireturn, 1) := by decide +kernel
theorem d11_0 : decode jdk_42_method_56_code 0 = .ok (.aload_n 0, 1) := by decide +kernel
theorem d11_1 : decode jdk_42_method_56_code 1 = .ok (.invokevirtual 492, 3) := by decide +kernel
theorem ar_7 : XT.arity "()Z" = some 0 := by decide +kernel
theorem d11_4 : decode jdk_42_method_56_code 4 = .ok (.ifCond .eq 12, 3) := by decide +kernel
theorem d11_7 : decode jdk_42_method_56_code 7 = .ok (.aload_n 0, 1) := by decide +kernel
theorem d11_8 : decode jdk_42_method_56_code 8 = .ok (.getfield 9, 3) := by decide +kernel
theorem d11_11 : decode jdk_42_method_56_code 11 = .ok (.iload_n 1, 1) := by decide +kernel
theorem d11_12 : decode jdk_42_method_56_code 12 = .ok (.invokestatic 495, 3) := by decide +kernel
theorem ar_8 : XT.arity "([BI)C" = some 2 := by decide +kernel
theorem d11_15 : decode jdk_42_method_56_code 15 = .ok (.ireturn, 1) := by decide +kernel
theorem d12_0 : decode jdk_42_method_55_code 0 = .ok (.aload_n 0, 1) := by decide +kernel
theorem d12_1 : decode jdk_42_method_55_code 1 = .ok (.getfield 9, 3) := by decide +kernel
theorem d12_4 : decode jdk_42_method_55_code 4 = .ok (.arraylength, 1) := by decide +kernel
theorem d12_5 : decode jdk_42_method_55_code 5 = .ok (.ifCond .ne 7, 3) := by decide +kernel
theorem d12_8 : decode jdk_42_method_55_code 8 = .ok (.iconst 1, 1) := by decide +kernel
theorem d12_9 : decode jdk_42_method_55_code 9 = .ok (.goto 4, 3) := by decide +kernel
theorem d12_13 : decode jdk_42_method_55_code 13 = .ok (.ireturn, 1) := by decide +kernel
theorem d12_12 : decode jdk_42_method_55_code 12 = .ok (.iconst 0, 1) := by decide +kernel
theorem d13_15 : decode prog_1_method_5_code 15 = .ok (.iload_n 3, 1) := by decide +kernel
theorem d13_16 : decode prog_1_method_5_code 16 = .ok (.aload_n 0, 1) := by decide +kernel
theorem d13_17 : decode prog_1_method_5_code 17 = .ok (.invokevirtual 28, 3) := by decide +kernel
theorem ar_9 : XT.arity "()I" = some 0 := by decide +kernel
theorem d13_20 : decode prog_1_method_5_code 20 = .ok (.if_icmp .ge 61, 3) := by decide +kernel
theorem d13_81 : decode prog_1_method_5_code 81 = .ok (.lload_n 1, 1) := by decide +kernel
theorem d13_82 : decode prog_1_method_5_code 82 = .ok (.lreturn, 1) := by decide +kernel
theorem d13_61 : decode prog_1_method_5_code 61 = .ok (.ldc2_w 79, 3) := by decide +kernel
theorem d13_64 : decode prog_1_method_5_code 64 = .ok (.lreturn, 1) := by decide +kernel
theorem d13_23 : decode prog_1_method_5_code 23 = .ok (.aload_n 0, 1) := by decide +kernel
theorem d13_24 : decode prog_1_method_5_code 24 = .ok (.iload_n 3, 1) := by decide +kernel
theorem d13_25 : decode prog_1_method_5_code 25 = .ok (.invokevirtual 36, 3) := by decide +kernel
theorem ar_10 : XT.arity "(I)C" = some 1 := by decide +kernel
theorem d13_28 : decode prog_1_method_5_code 28 = .ok (.bipush 48, 2) := by decide +kernel
theorem d13_30 : decode prog_1_method_5_code 30 = .ok (.isub, 1) := by decide +kernel
theorem d13_31 : decode prog_1_method_5_code 31 = .ok (.istore 4, 2) := by decide +kernel
theorem d13_33 : decode prog_1_method_5_code 33 = .ok (.iload 4, 2) := by decide +kernel
theorem d13_35 : decode prog_1_method_5_code 35 = .ok (.ifCond .lt 26, 3) := by decide +kernel
theorem d13_38 : decode prog_1_method_5_code 38 = .ok (.iload 4, 2) := by decide +kernel
theorem d13_40 : decode prog_1_method_5_code 40 = .ok (.bipush 9, 2) := by decide +kernel
theorem d13_42 : decode prog_1_method_5_code 42 = .ok (.if_icmp .gt 19, 3) := by decide +kernel
theorem d13_45 : decode prog_1_method_5_code 45 = .ok (.lload_n 1, 1) := by decide +kernel
theorem d13_46 : decode prog_1_method_5_code 46 = .ok (.ldc2_w 83, 3) := by decide +kernel
theorem d13_49 : decode prog_1_method_5_code 49 = .ok (.iload 4, 2) := by decide +kernel
theorem d13_51 : decode prog_1_method_5_code 51 = .ok (.i2l, 1) := by decide +kernel
theorem d13_52 : decode prog_1_method_5_code 52 = .ok (.lsub, 1) := by decide +kernel
theorem d13_53 : decode prog_1_method_5_code 53 = .ok (.ldc2_w 85, 3) := by decide +kernel
theorem d13_56 : decode prog_1_method_5_code 56 = .ok (.ldiv, 1) := by decide +kernel
theorem d13_57 : decode prog_1_method_5_code 57 = .ok (.lcmp, 1) := by decide +kernel
theorem d13_58 : decode prog_1_method_5_code 58 = .ok (.ifCond .le 7, 3) := by decide +kernel
theorem d13_65 : decode prog_1_method_5_code 65 = .ok (.lload_n 1, 1) := by decide +kernel
theorem d13_66 : decode prog_1_method_5_code 66 = .ok (.ldc2_w 85, 3) := by decide +kernel
theorem d13_69 : decode prog_1_method_5_code 69 = .ok (.lmul, 1) := by decide +kernel
theorem d13_70 : decode prog_1_method_5_code 70 = .ok (.iload 4, 2) := by decide +kernel
theorem d13_72 : decode prog_1_method_5_code 72 = .ok (.i2l, 1) := by decide +kernel
theorem d13_73 : decode prog_1_method_5_code 73 = .ok (.ladd, 1) := by decide +kernel
theorem d13_74 : decode prog_1_method_5_code 74 = .ok (.lstore_n 1, 1) := by decide +kernel
theorem d13_75 : decode prog_1_method_5_code 75 = .ok (.iinc 3 1, 3) := by decide +kernel
theorem d13_78 : decode prog_1_method_5_code 78 = .ok (.goto (-63), 3) := by decide +kernel
theorem ef_r_5 (m : MethodId) (x0 : Addr) : entryFrame m #[(.ref x0)] 5 = mkF m 0 ⟨[.val (.ref x0), .unset, .unset, .unset, .unset]⟩ [] := by exact efOf rfl
theorem pn_4 : plainName "com/example/webhook_signature_check/webhooksignaturecheck/HeaderElements" = true := by first | (simp [plainName, overriddenIn]; done) | decide +kernel
theorem d13_0 : decode prog_1_method_5_code 0 = .ok (.aload_n 0, 1) := by decide +kernel
theorem d13_1 : decode prog_1_method_5_code 1 = .ok (.invokevirtual 75, 3) := by decide +kernel
theorem d13_4 : decode prog_1_method_5_code 4 = .ok (.ifCond .eq 7, 3) := by decide +kernel
theorem d13_7 : decode prog_1_method_5_code 7 = .ok (.ldc2_w 79, 3) := by decide +kernel
theorem d13_10 : decode prog_1_method_5_code 10 = .ok (.lreturn, 1) := by decide +kernel
theorem d13_11 : decode prog_1_method_5_code 11 = .ok (.lconst 0, 1) := by decide +kernel
theorem d13_12 : decode prog_1_method_5_code 12 = .ok (.lstore_n 1, 1) := by decide +kernel
theorem d13_13 : decode prog_1_method_5_code 13 = .ok (.iconst 0, 1) := by decide +kernel
theorem d13_14 : decode prog_1_method_5_code 14 = .ok (.istore_n 3, 1) := by decide +kernel
theorem ef_i_1 (m : MethodId) (x0 : Int32) : entryFrame m #[(.int x0)] 1 = mkF m 0 ⟨[.val (.int x0)]⟩ [] := by exact efOf rfl
theorem pn_5 : plainName "com/example/webhook_signature_check/webhooksignaturecheck/HeaderElementsUnixSecondsPinLaw" = true := by first | (simp [plainName, overriddenIn]; done) | decide +kernel
theorem d14_0 : decode method_3_code 0 = .ok (.iload_n 0, 1) := by decide +kernel
theorem d14_1 : decode method_3_code 1 = .ok (.bipush 48, 2) := by decide +kernel
theorem d14_3 : decode method_3_code 3 = .ok (.if_icmp .lt 13, 3) := by decide +kernel
theorem d14_16 : decode method_3_code 16 = .ok (.iconst 0, 1) := by decide +kernel
theorem d14_17 : decode method_3_code 17 = .ok (.ireturn, 1) := by decide +kernel
theorem d14_6 : decode method_3_code 6 = .ok (.iload_n 0, 1) := by decide +kernel
theorem d14_7 : decode method_3_code 7 = .ok (.bipush 57, 2) := by decide +kernel
theorem d14_9 : decode method_3_code 9 = .ok (.if_icmp .gt 7, 3) := by decide +kernel
theorem d14_12 : decode method_3_code 12 = .ok (.iconst 1, 1) := by decide +kernel
theorem d14_13 : decode method_3_code 13 = .ok (.goto 4, 3) := by decide +kernel
theorem d15_0 : decode method_4_code 0 = .ok (.iload_n 0, 1) := by decide +kernel
theorem d15_1 : decode method_4_code 1 = .ok (.sipush 256, 3) := by decide +kernel
theorem d15_4 : decode method_4_code 4 = .ok (.iand, 1) := by decide +kernel
theorem d15_5 : decode method_4_code 5 = .ok (.ifCond .eq 16, 3) := by decide +kernel
theorem d15_21 : decode method_4_code 21 = .ok (.iload_n 0, 1) := by decide +kernel
theorem d15_22 : decode method_4_code 22 = .ok (.sipush 255, 3) := by decide +kernel
theorem d15_25 : decode method_4_code 25 = .ok (.iand, 1) := by decide +kernel
theorem d15_26 : decode method_4_code 26 = .ok (.i2c, 1) := by decide +kernel
theorem d15_27 : decode method_4_code 27 = .ok (.ireturn, 1) := by decide +kernel
theorem d15_8 : decode method_4_code 8 = .ok (.bipush 48, 2) := by decide +kernel
theorem d15_10 : decode method_4_code 10 = .ok (.iload_n 0, 1) := by decide +kernel
theorem d15_11 : decode method_4_code 11 = .ok (.sipush 255, 3) := by decide +kernel
theorem d15_14 : decode method_4_code 14 = .ok (.iand, 1) := by decide +kernel
theorem d15_15 : decode method_4_code 15 = .ok (.bipush 10, 2) := by decide +kernel
theorem d15_17 : decode method_4_code 17 = .ok (.irem, 1) := by decide +kernel
theorem d15_18 : decode method_4_code 18 = .ok (.iadd, 1) := by decide +kernel
theorem d15_19 : decode method_4_code 19 = .ok (.i2c, 1) := by decide +kernel
theorem d15_20 : decode method_4_code 20 = .ok (.ireturn, 1) := by decide +kernel
theorem ef_jj_4 (m : MethodId) (x0 : Int64) (x1 : Int64) : entryFrame m #[(.long x0), (.long x1)] 4 = mkF m 0 ⟨[.val (.long x0), .second, .val (.long x1), .second]⟩ [] := by exact efOf rfl
theorem d16_0 : decode method_5_code 0 = .ok (.bipush 48, 2) := by decide +kernel
theorem d16_2 : decode method_5_code 2 = .ok (.lload_n 0, 1) := by decide +kernel
theorem d16_3 : decode method_5_code 3 = .ok (.lload_n 2, 1) := by decide +kernel
theorem d16_4 : decode method_5_code 4 = .ok (.ldiv, 1) := by decide +kernel
theorem d16_5 : decode method_5_code 5 = .ok (.ldc2_w 17, 3) := by decide +kernel
theorem d16_8 : decode method_5_code 8 = .ok (.lrem, 1) := by decide +kernel
theorem d16_9 : decode method_5_code 9 = .ok (.l2i, 1) := by decide +kernel
theorem d16_10 : decode method_5_code 10 = .ok (.iadd, 1) := by decide +kernel
theorem d16_11 : decode method_5_code 11 = .ok (.i2c, 1) := by decide +kernel
theorem d16_12 : decode method_5_code 12 = .ok (.ireturn, 1) := by decide +kernel
theorem ef_iiiiii_6 (m : MethodId) (x0 : Int32) (x1 : Int32) (x2 : Int32) (x3 : Int32) (x4 : Int32) (x5 : Int32) : entryFrame m #[(.int x0), (.int x1), (.int x2), (.int x3), (.int x4), (.int x5)] 6 = mkF m 0 ⟨[.val (.int x0), .val (.int x1), .val (.int x2), .val (.int x3), .val (.int x4), .val (.int x5)]⟩ [] := by exact efOf rfl
theorem d17_0 : decode method_6_code 0 = .ok (.iload_n 0, 1) := by decide +kernel
theorem d17_1 : decode method_6_code 1 = .ok (.ifCond .ne 14, 3) := by decide +kernel
theorem d17_4 : decode method_6_code 4 = .ok (.new 19, 3) := by decide +kernel
theorem d17_7 : decode method_6_code 7 = .ok (.dup, 1) := by decide +kernel
theorem d17_8 : decode method_6_code 8 = .ok (.iconst 0, 1) := by decide +kernel
theorem d17_9 : decode method_6_code 9 = .ok (.newarray .char, 2) := by decide +kernel
theorem d17_11 : decode method_6_code 11 = .ok (.invokespecial 21, 3) := by decide +kernel
theorem ar_11 : XT.arity "([C)V" = some 1 := by decide +kernel
theorem d17_14 : decode method_6_code 14 = .ok (.areturn, 1) := by decide +kernel
theorem d17_15 : decode method_6_code 15 = .ok (.iload_n 0, 1) := by decide +kernel
theorem d17_16 : decode method_6_code 16 = .ok (.iconst 1, 1) := by decide +kernel
theorem d17_17 : decode method_6_code 17 = .ok (.if_icmp .ne 18, 3) := by decide +kernel
theorem d17_20 : decode method_6_code 20 = .ok (.new 19, 3) := by decide +kernel
theorem d17_23 : decode method_6_code 23 = .ok (.dup, 1) := by decide +kernel
theorem d17_24 : decode method_6_code 24 = .ok (.iconst 1, 1) := by decide +kernel
theorem d17_25 : decode method_6_code 25 = .ok (.newarray .char, 2) := by decide +kernel
theorem d17_27 : decode method_6_code 27 = .ok (.dup, 1) := by decide +kernel
theorem d17_28 : decode method_6_code 28 = .ok (.iconst 0, 1) := by decide +kernel
theorem d17_29 : decode method_6_code 29 = .ok (.iload_n 1, 1) := by decide +kernel
theorem d17_30 : decode method_6_code 30 = .ok (.castore, 1) := by decide +kernel
theorem d17_31 : decode method_6_code 31 = .ok (.invokespecial 21, 3) := by decide +kernel
theorem d17_34 : decode method_6_code 34 = .ok (.areturn, 1) := by decide +kernel
theorem d17_35 : decode method_6_code 35 = .ok (.iload_n 0, 1) := by decide +kernel
theorem d17_36 : decode method_6_code 36 = .ok (.iconst 2, 1) := by decide +kernel
theorem d17_37 : decode method_6_code 37 = .ok (.if_icmp .ne 22, 3) := by decide +kernel
theorem d17_40 : decode method_6_code 40 = .ok (.new 19, 3) := by decide +kernel
theorem d17_43 : decode method_6_code 43 = .ok (.dup, 1) := by decide +kernel
theorem d17_44 : decode method_6_code 44 = .ok (.iconst 2, 1) := by decide +kernel
theorem d17_45 : decode method_6_code 45 = .ok (.newarray .char, 2) := by decide +kernel
theorem d17_47 : decode method_6_code 47 = .ok (.dup, 1) := by decide +kernel
theorem d17_48 : decode method_6_code 48 = .ok (.iconst 0, 1) := by decide +kernel
theorem d17_49 : decode method_6_code 49 = .ok (.iload_n 1, 1) := by decide +kernel
theorem d17_50 : decode method_6_code 50 = .ok (.castore, 1) := by decide +kernel
theorem d17_51 : decode method_6_code 51 = .ok (.dup, 1) := by decide +kernel
theorem d17_52 : decode method_6_code 52 = .ok (.iconst 1, 1) := by decide +kernel
theorem d17_53 : decode method_6_code 53 = .ok (.iload_n 2, 1) := by decide +kernel
theorem d17_54 : decode method_6_code 54 = .ok (.castore, 1) := by decide +kernel
theorem d17_55 : decode method_6_code 55 = .ok (.invokespecial 21, 3) := by decide +kernel
theorem d17_58 : decode method_6_code 58 = .ok (.areturn, 1) := by decide +kernel
theorem d17_59 : decode method_6_code 59 = .ok (.iload_n 0, 1) := by decide +kernel
theorem d17_60 : decode method_6_code 60 = .ok (.iconst 3, 1) := by decide +kernel
theorem d17_61 : decode method_6_code 61 = .ok (.if_icmp .ne 26, 3) := by decide +kernel
theorem d17_64 : decode method_6_code 64 = .ok (.new 19, 3) := by decide +kernel
theorem d17_67 : decode method_6_code 67 = .ok (.dup, 1) := by decide +kernel
theorem d17_68 : decode method_6_code 68 = .ok (.iconst 3, 1) := by decide +kernel
theorem d17_69 : decode method_6_code 69 = .ok (.newarray .char, 2) := by decide +kernel
theorem d17_71 : decode method_6_code 71 = .ok (.dup, 1) := by decide +kernel
theorem d17_72 : decode method_6_code 72 = .ok (.iconst 0, 1) := by decide +kernel
theorem d17_73 : decode method_6_code 73 = .ok (.iload_n 1, 1) := by decide +kernel
theorem d17_74 : decode method_6_code 74 = .ok (.castore, 1) := by decide +kernel
theorem d17_75 : decode method_6_code 75 = .ok (.dup, 1) := by decide +kernel
theorem d17_76 : decode method_6_code 76 = .ok (.iconst 1, 1) := by decide +kernel
theorem d17_77 : decode method_6_code 77 = .ok (.iload_n 2, 1) := by decide +kernel
theorem d17_78 : decode method_6_code 78 = .ok (.castore, 1) := by decide +kernel
theorem d17_79 : decode method_6_code 79 = .ok (.dup, 1) := by decide +kernel
theorem d17_80 : decode method_6_code 80 = .ok (.iconst 2, 1) := by decide +kernel
theorem d17_81 : decode method_6_code 81 = .ok (.iload_n 3, 1) := by decide +kernel
theorem d17_82 : decode method_6_code 82 = .ok (.castore, 1) := by decide +kernel
theorem d17_83 : decode method_6_code 83 = .ok (.invokespecial 21, 3) := by decide +kernel
theorem d17_86 : decode method_6_code 86 = .ok (.areturn, 1) := by decide +kernel
theorem d17_87 : decode method_6_code 87 = .ok (.iload_n 0, 1) := by decide +kernel
theorem d17_88 : decode method_6_code 88 = .ok (.iconst 4, 1) := by decide +kernel
theorem d17_89 : decode method_6_code 89 = .ok (.if_icmp .ne 31, 3) := by decide +kernel
theorem d17_92 : decode method_6_code 92 = .ok (.new 19, 3) := by decide +kernel
theorem d17_95 : decode method_6_code 95 = .ok (.dup, 1) := by decide +kernel
theorem d17_96 : decode method_6_code 96 = .ok (.iconst 4, 1) := by decide +kernel
theorem d17_97 : decode method_6_code 97 = .ok (.newarray .char, 2) := by decide +kernel
theorem d17_99 : decode method_6_code 99 = .ok (.dup, 1) := by decide +kernel
theorem d17_100 : decode method_6_code 100 = .ok (.iconst 0, 1) := by decide +kernel
theorem d17_101 : decode method_6_code 101 = .ok (.iload_n 1, 1) := by decide +kernel
theorem d17_102 : decode method_6_code 102 = .ok (.castore, 1) := by decide +kernel
theorem d17_103 : decode method_6_code 103 = .ok (.dup, 1) := by decide +kernel
theorem d17_104 : decode method_6_code 104 = .ok (.iconst 1, 1) := by decide +kernel
theorem d17_105 : decode method_6_code 105 = .ok (.iload_n 2, 1) := by decide +kernel
theorem d17_106 : decode method_6_code 106 = .ok (.castore, 1) := by decide +kernel
theorem d17_107 : decode method_6_code 107 = .ok (.dup, 1) := by decide +kernel
theorem d17_108 : decode method_6_code 108 = .ok (.iconst 2, 1) := by decide +kernel
theorem d17_109 : decode method_6_code 109 = .ok (.iload_n 3, 1) := by decide +kernel
theorem d17_110 : decode method_6_code 110 = .ok (.castore, 1) := by decide +kernel
theorem d17_111 : decode method_6_code 111 = .ok (.dup, 1) := by decide +kernel
theorem d17_112 : decode method_6_code 112 = .ok (.iconst 3, 1) := by decide +kernel
theorem d17_113 : decode method_6_code 113 = .ok (.iload 4, 2) := by decide +kernel
theorem d17_115 : decode method_6_code 115 = .ok (.castore, 1) := by decide +kernel
theorem d17_116 : decode method_6_code 116 = .ok (.invokespecial 21, 3) := by decide +kernel
theorem d17_119 : decode method_6_code 119 = .ok (.areturn, 1) := by decide +kernel
theorem d17_120 : decode method_6_code 120 = .ok (.new 19, 3) := by decide +kernel
theorem d17_123 : decode method_6_code 123 = .ok (.dup, 1) := by decide +kernel
theorem d17_124 : decode method_6_code 124 = .ok (.iconst 5, 1) := by decide +kernel
theorem d17_125 : decode method_6_code 125 = .ok (.newarray .char, 2) := by decide +kernel
theorem d17_127 : decode method_6_code 127 = .ok (.dup, 1) := by decide +kernel
theorem d17_128 : decode method_6_code 128 = .ok (.iconst 0, 1) := by decide +kernel
theorem d17_129 : decode method_6_code 129 = .ok (.iload_n 1, 1) := by decide +kernel
theorem d17_130 : decode method_6_code 130 = .ok (.castore, 1) := by decide +kernel
theorem d17_131 : decode method_6_code 131 = .ok (.dup, 1) := by decide +kernel
theorem d17_132 : decode method_6_code 132 = .ok (.iconst 1, 1) := by decide +kernel
theorem d17_133 : decode method_6_code 133 = .ok (.iload_n 2, 1) := by decide +kernel
theorem d17_134 : decode method_6_code 134 = .ok (.castore, 1) := by decide +kernel
theorem d17_135 : decode method_6_code 135 = .ok (.dup, 1) := by decide +kernel
theorem d17_136 : decode method_6_code 136 = .ok (.iconst 2, 1) := by decide +kernel
theorem d17_137 : decode method_6_code 137 = .ok (.iload_n 3, 1) := by decide +kernel
theorem d17_138 : decode method_6_code 138 = .ok (.castore, 1) := by decide +kernel
theorem d17_139 : decode method_6_code 139 = .ok (.dup, 1) := by decide +kernel
theorem d17_140 : decode method_6_code 140 = .ok (.iconst 3, 1) := by decide +kernel
theorem d17_141 : decode method_6_code 141 = .ok (.iload 4, 2) := by decide +kernel
theorem d17_143 : decode method_6_code 143 = .ok (.castore, 1) := by decide +kernel
theorem d17_144 : decode method_6_code 144 = .ok (.dup, 1) := by decide +kernel
theorem d17_145 : decode method_6_code 145 = .ok (.iconst 4, 1) := by decide +kernel
theorem d17_146 : decode method_6_code 146 = .ok (.iload 5, 2) := by decide +kernel
theorem d17_148 : decode method_6_code 148 = .ok (.castore, 1) := by decide +kernel
theorem d17_149 : decode method_6_code 149 = .ok (.invokespecial 21, 3) := by decide +kernel
theorem d17_152 : decode method_6_code 152 = .ok (.areturn, 1) := by decide +kernel
theorem ef_iii_17 (m : MethodId) (x0 : Int32) (x1 : Int32) (x2 : Int32) : entryFrame m #[(.int x0), (.int x1), (.int x2)] 17 = mkF m 0 ⟨[.val (.int x0), .val (.int x1), .val (.int x2), .unset, .unset, .unset, .unset, .unset, .unset, .unset, .unset, .unset, .unset, .unset, .unset, .unset, .unset]⟩ [] := by exact efOf rfl
theorem d18_0 : decode method_7_code 0 = .ok (.iload_n 0, 1) := by decide +kernel
theorem d18_1 : decode method_7_code 1 = .ok (.iconst 1, 1) := by decide +kernel
theorem d18_2 : decode method_7_code 2 = .ok (.iushr, 1) := by decide +kernel
theorem d18_3 : decode method_7_code 3 = .ok (.bipush 6, 2) := by decide +kernel
theorem d18_5 : decode method_7_code 5 = .ok (.irem, 1) := by decide +kernel
theorem d18_6 : decode method_7_code 6 = .ok (.istore_n 3, 1) := by decide +kernel
theorem d18_7 : decode method_7_code 7 = .ok (.iload_n 1, 1) := by decide +kernel
theorem d18_8 : decode method_7_code 8 = .ok (.sipush 511, 3) := by decide +kernel
theorem d18_11 : decode method_7_code 11 = .ok (.iand, 1) := by decide +kernel
theorem d18_12 : decode method_7_code 12 = .ok (.invokestatic 24, 3) := by decide +kernel
theorem d18_15 : decode method_7_code 15 = .ok (.istore 4, 2) := by decide +kernel
theorem d18_17 : decode method_7_code 17 = .ok (.iload_n 1, 1) := by decide +kernel
theorem d18_18 : decode method_7_code 18 = .ok (.bipush 9, 2) := by decide +kernel
theorem d18_20 : decode method_7_code 20 = .ok (.iushr, 1) := by decide +kernel
theorem d18_21 : decode method_7_code 21 = .ok (.sipush 511, 3) := by decide +kernel
theorem d18_24 : decode method_7_code 24 = .ok (.iand, 1) := by decide +kernel
theorem d18_25 : decode method_7_code 25 = .ok (.invokestatic 24, 3) := by decide +kernel
theorem d18_28 : decode method_7_code 28 = .ok (.istore 5, 2) := by decide +kernel
theorem d18_30 : decode method_7_code 30 = .ok (.iload_n 1, 1) := by decide +kernel
theorem d18_31 : decode method_7_code 31 = .ok (.bipush 18, 2) := by decide +kernel
theorem d18_33 : decode method_7_code 33 = .ok (.iushr, 1) := by decide +kernel
theorem d18_34 : decode method_7_code 34 = .ok (.sipush 511, 3) := by decide +kernel
theorem d18_37 : decode method_7_code 37 = .ok (.iand, 1) := by decide +kernel
theorem d18_38 : decode method_7_code 38 = .ok (.invokestatic 24, 3) := by decide +kernel
theorem d18_41 : decode method_7_code 41 = .ok (.istore 6, 2) := by decide +kernel
theorem d18_43 : decode method_7_code 43 = .ok (.iload_n 2, 1) := by decide +kernel
theorem d18_44 : decode method_7_code 44 = .ok (.sipush 511, 3) := by decide +kernel
theorem d18_47 : decode method_7_code 47 = .ok (.iand, 1) := by decide +kernel
theorem d18_48 : decode method_7_code 48 = .ok (.invokestatic 24, 3) := by decide +kernel
theorem d18_51 : decode method_7_code 51 = .ok (.istore 7, 2) := by decide +kernel
theorem d18_53 : decode method_7_code 53 = .ok (.iload_n 2, 1) := by decide +kernel
theorem d18_54 : decode method_7_code 54 = .ok (.bipush 9, 2) := by decide +kernel
theorem d18_56 : decode method_7_code 56 = .ok (.iushr, 1) := by decide +kernel
theorem d18_57 : decode method_7_code 57 = .ok (.sipush 511, 3) := by decide +kernel
theorem d18_60 : decode method_7_code 60 = .ok (.iand, 1) := by decide +kernel
theorem d18_61 : decode method_7_code 61 = .ok (.invokestatic 24, 3) := by decide +kernel
theorem d18_64 : decode method_7_code 64 = .ok (.istore 8, 2) := by decide +kernel
theorem d18_66 : decode method_7_code 66 = .ok (.iload_n 3, 1) := by decide +kernel
theorem d18_67 : decode method_7_code 67 = .ok (.iload 4, 2) := by decide +kernel
theorem d18_69 : decode method_7_code 69 = .ok (.iload 5, 2) := by decide +kernel
theorem d18_71 : decode method_7_code 71 = .ok (.iload 6, 2) := by decide +kernel
theorem d18_73 : decode method_7_code 73 = .ok (.iload 7, 2) := by decide +kernel
theorem d18_75 : decode method_7_code 75 = .ok (.iload 8, 2) := by decide +kernel
theorem d18_77 : decode method_7_code 77 = .ok (.invokestatic 28, 3) := by decide +kernel
theorem ar_12 : XT.arity "(ICCCCC)Ljava/lang/String;" = some 6 := by decide +kernel
theorem d18_80 : decode method_7_code 80 = .ok (.astore 9, 2) := by decide +kernel
theorem d18_82 : decode method_7_code 82 = .ok (.aload 9, 2) := by decide +kernel
theorem d18_84 : decode method_7_code 84 = .ok (.invokestatic 32, 3) := by decide +kernel
theorem ar_13 : XT.arity "(Ljava/lang/String;)J" = some 1 := by decide +kernel
theorem d18_87 : decode method_7_code 87 = .ok (.lstore 10, 2) := by decide +kernel
theorem d18_89 : decode method_7_code 89 = .ok (.iload_n 3, 1) := by decide +kernel
theorem d18_273 : decode method_7_code 273 = .ok (.lload 10, 2) := by decide +kernel
theorem d18_275 : decode method_7_code 275 = .ok (.lload 12, 2) := by decide +kernel
theorem d18_277 : decode method_7_code 277 = .ok (.lcmp, 1) := by decide +kernel
theorem d18_278 : decode method_7_code 278 = .ok (.ifCond .ne 7, 3) := by decide +kernel
theorem d18_281 : decode method_7_code 281 = .ok (.iconst 1, 1) := by decide +kernel
theorem d18_282 : decode method_7_code 282 = .ok (.goto 4, 3) := by decide +kernel
theorem d18_286 : decode method_7_code 286 = .ok (.ireturn, 1) := by decide +kernel
theorem d18_165 : decode method_7_code 165 = .ok (.iconst 0, 1) := by decide +kernel
theorem d18_166 : decode method_7_code 166 = .ok (.istore 14, 2) := by decide +kernel
theorem d18_168 : decode method_7_code 168 = .ok (.iload 14, 2) := by decide +kernel
theorem d18_170 : decode method_7_code 170 = .ok (.ifCond .ne 11, 3) := by decide +kernel
theorem d18_173 : decode method_7_code 173 = .ok (.ldc2_w 38, 3) := by decide +kernel
theorem d18_176 : decode method_7_code 176 = .ok (.lstore 12, 2) := by decide +kernel
theorem d18_178 : decode method_7_code 178 = .ok (.goto 95, 3) := by decide +kernel
theorem d18_90 : decode method_7_code 90 = .ok (.ifCond .ne 11, 3) := by decide +kernel
theorem d18_93 : decode method_7_code 93 = .ok (.ldc2_w 38, 3) := by decide +kernel
theorem d18_96 : decode method_7_code 96 = .ok (.lstore 12, 2) := by decide +kernel
theorem d18_98 : decode method_7_code 98 = .ok (.goto 175, 3) := by decide +kernel
theorem d18_101 : decode method_7_code 101 = .ok (.iload 4, 2) := by decide +kernel
theorem d18_103 : decode method_7_code 103 = .ok (.invokestatic 40, 3) := by decide +kernel
theorem ar_14 : XT.arity "(C)Z" = some 1 := by decide +kernel
theorem d18_106 : decode method_7_code 106 = .ok (.ifCond .eq 59, 3) := by decide +kernel
theorem d18_109 : decode method_7_code 109 = .ok (.iload_n 3, 1) := by decide +kernel
theorem d18_110 : decode method_7_code 110 = .ok (.iconst 2, 1) := by decide +kernel
theorem d18_111 : decode method_7_code 111 = .ok (.if_icmp .lt 11, 3) := by decide +kernel
theorem d18_122 : decode method_7_code 122 = .ok (.iload_n 3, 1) := by decide +kernel
theorem d18_123 : decode method_7_code 123 = .ok (.iconst 3, 1) := by decide +kernel
theorem d18_124 : decode method_7_code 124 = .ok (.if_icmp .lt 11, 3) := by decide +kernel
theorem d18_135 : decode method_7_code 135 = .ok (.iload_n 3, 1) := by decide +kernel
theorem d18_136 : decode method_7_code 136 = .ok (.iconst 4, 1) := by decide +kernel
theorem d18_137 : decode method_7_code 137 = .ok (.if_icmp .lt 11, 3) := by decide +kernel
theorem d18_148 : decode method_7_code 148 = .ok (.iload_n 3, 1) := by decide +kernel
theorem d18_149 : decode method_7_code 149 = .ok (.iconst 5, 1) := by decide +kernel
theorem d18_150 : decode method_7_code 150 = .ok (.if_icmp .lt 11, 3) := by decide +kernel
theorem d18_161 : decode method_7_code 161 = .ok (.iconst 1, 1) := by decide +kernel
theorem d18_162 : decode method_7_code 162 = .ok (.goto 4, 3) := by decide +kernel
theorem d18_181 : decode method_7_code 181 = .ok (.iload 4, 2) := by decide +kernel
theorem d18_183 : decode method_7_code 183 = .ok (.bipush 48, 2) := by decide +kernel
theorem d18_185 : decode method_7_code 185 = .ok (.isub, 1) := by decide +kernel
theorem d18_186 : decode method_7_code 186 = .ok (.i2l, 1) := by decide +kernel
theorem d18_187 : decode method_7_code 187 = .ok (.lstore 15, 2) := by decide +kernel
theorem d18_189 : decode method_7_code 189 = .ok (.iload_n 3, 1) := by decide +kernel
theorem d18_190 : decode method_7_code 190 = .ok (.iconst 2, 1) := by decide +kernel
theorem d18_191 : decode method_7_code 191 = .ok (.if_icmp .lt 18, 3) := by decide +kernel
theorem d18_209 : decode method_7_code 209 = .ok (.iload_n 3, 1) := by decide +kernel
theorem d18_210 : decode method_7_code 210 = .ok (.iconst 3, 1) := by decide +kernel
theorem d18_211 : decode method_7_code 211 = .ok (.if_icmp .lt 18, 3) := by decide +kernel
theorem d18_229 : decode method_7_code 229 = .ok (.iload_n 3, 1) := by decide +kernel
theorem d18_230 : decode method_7_code 230 = .ok (.iconst 4, 1) := by decide +kernel
theorem d18_231 : decode method_7_code 231 = .ok (.if_icmp .lt 18, 3) := by decide +kernel
theorem d18_249 : decode method_7_code 249 = .ok (.iload_n 3, 1) := by decide +kernel
theorem d18_250 : decode method_7_code 250 = .ok (.iconst 5, 1) := by decide +kernel
theorem d18_251 : decode method_7_code 251 = .ok (.if_icmp .lt 18, 3) := by decide +kernel
theorem d18_269 : decode method_7_code 269 = .ok (.lload 15, 2) := by decide +kernel
theorem d18_271 : decode method_7_code 271 = .ok (.lstore 12, 2) := by decide +kernel
theorem d18_114 : decode method_7_code 114 = .ok (.iload 5, 2) := by decide +kernel
theorem d18_116 : decode method_7_code 116 = .ok (.invokestatic 40, 3) := by decide +kernel
theorem d18_119 : decode method_7_code 119 = .ok (.ifCond .eq 46, 3) := by decide +kernel
theorem d18_194 : decode method_7_code 194 = .ok (.lload 15, 2) := by decide +kernel
theorem d18_196 : decode method_7_code 196 = .ok (.ldc2_w 17, 3) := by decide +kernel
theorem d18_199 : decode method_7_code 199 = .ok (.lmul, 1) := by decide +kernel
theorem d18_200 : decode method_7_code 200 = .ok (.iload 5, 2) := by decide +kernel
theorem d18_202 : decode method_7_code 202 = .ok (.bipush 48, 2) := by decide +kernel
theorem d18_204 : decode method_7_code 204 = .ok (.isub, 1) := by decide +kernel
theorem d18_205 : decode method_7_code 205 = .ok (.i2l, 1) := by decide +kernel
theorem d18_206 : decode method_7_code 206 = .ok (.ladd, 1) := by decide +kernel
theorem d18_207 : decode method_7_code 207 = .ok (.lstore 15, 2) := by decide +kernel
theorem d18_127 : decode method_7_code 127 = .ok (.iload 6, 2) := by decide +kernel
theorem d18_129 : decode method_7_code 129 = .ok (.invokestatic 40, 3) := by decide +kernel
theorem d18_132 : decode method_7_code 132 = .ok (.ifCond .eq 33, 3) := by decide +kernel
theorem d18_214 : decode method_7_code 214 = .ok (.lload 15, 2) := by decide +kernel
theorem d18_216 : decode method_7_code 216 = .ok (.ldc2_w 17, 3) := by decide +kernel
theorem d18_219 : decode method_7_code 219 = .ok (.lmul, 1) := by decide +kernel
theorem d18_220 : decode method_7_code 220 = .ok (.iload 6, 2) := by decide +kernel
theorem d18_222 : decode method_7_code 222 = .ok (.bipush 48, 2) := by decide +kernel
theorem d18_224 : decode method_7_code 224 = .ok (.isub, 1) := by decide +kernel
theorem d18_225 : decode method_7_code 225 = .ok (.i2l, 1) := by decide +kernel
theorem d18_226 : decode method_7_code 226 = .ok (.ladd, 1) := by decide +kernel
theorem d18_227 : decode method_7_code 227 = .ok (.lstore 15, 2) := by decide +kernel
theorem d18_140 : decode method_7_code 140 = .ok (.iload 7, 2) := by decide +kernel
theorem d18_142 : decode method_7_code 142 = .ok (.invokestatic 40, 3) := by decide +kernel
theorem d18_145 : decode method_7_code 145 = .ok (.ifCond .eq 20, 3) := by decide +kernel
theorem d18_234 : decode method_7_code 234 = .ok (.lload 15, 2) := by decide +kernel
theorem d18_236 : decode method_7_code 236 = .ok (.ldc2_w 17, 3) := by decide +kernel
theorem d18_239 : decode method_7_code 239 = .ok (.lmul, 1) := by decide +kernel
theorem d18_240 : decode method_7_code 240 = .ok (.iload 7, 2) := by decide +kernel
theorem d18_242 : decode method_7_code 242 = .ok (.bipush 48, 2) := by decide +kernel
theorem d18_244 : decode method_7_code 244 = .ok (.isub, 1) := by decide +kernel
theorem d18_245 : decode method_7_code 245 = .ok (.i2l, 1) := by decide +kernel
theorem d18_246 : decode method_7_code 246 = .ok (.ladd, 1) := by decide +kernel
theorem d18_247 : decode method_7_code 247 = .ok (.lstore 15, 2) := by decide +kernel
theorem d18_153 : decode method_7_code 153 = .ok (.iload 8, 2) := by decide +kernel
theorem d18_155 : decode method_7_code 155 = .ok (.invokestatic 40, 3) := by decide +kernel
theorem d18_158 : decode method_7_code 158 = .ok (.ifCond .eq 7, 3) := by decide +kernel
theorem d18_254 : decode method_7_code 254 = .ok (.lload 15, 2) := by decide +kernel
theorem d18_256 : decode method_7_code 256 = .ok (.ldc2_w 17, 3) := by decide +kernel
theorem d18_259 : decode method_7_code 259 = .ok (.lmul, 1) := by decide +kernel
theorem d18_260 : decode method_7_code 260 = .ok (.iload 8, 2) := by decide +kernel
theorem d18_262 : decode method_7_code 262 = .ok (.bipush 48, 2) := by decide +kernel
theorem d18_264 : decode method_7_code 264 = .ok (.isub, 1) := by decide +kernel
theorem d18_265 : decode method_7_code 265 = .ok (.i2l, 1) := by decide +kernel
theorem d18_266 : decode method_7_code 266 = .ok (.ladd, 1) := by decide +kernel
theorem d18_267 : decode method_7_code 267 = .ok (.lstore 15, 2) := by decide +kernel
theorem ef_iji_18 (m : MethodId) (x0 : Int32) (x1 : Int64) (x2 : Int32) : entryFrame m #[(.int x0), (.long x1), (.int x2)] 18 = mkF m 0 ⟨[.val (.int x0), .val (.long x1), .second, .val (.int x2), .unset, .unset, .unset, .unset, .unset, .unset, .unset, .unset, .unset, .unset, .unset, .unset, .unset, .unset]⟩ [] := by exact efOf rfl
theorem d19_0 : decode method_8_code 0 = .ok (.lload_n 1, 1) := by decide +kernel
theorem d19_1 : decode method_8_code 1 = .ok (.ldc2_w 46, 3) := by decide +kernel
theorem d19_4 : decode method_8_code 4 = .ok (.land, 1) := by decide +kernel
theorem d19_5 : decode method_8_code 5 = .ok (.lstore 4, 2) := by decide +kernel
theorem d19_7 : decode method_8_code 7 = .ok (.iload_n 0, 1) := by decide +kernel
theorem d19_8 : decode method_8_code 8 = .ok (.iconst 2, 1) := by decide +kernel
theorem d19_9 : decode method_8_code 9 = .ok (.iand, 1) := by decide +kernel
theorem d19_31 : decode method_8_code 31 = .ok (.istore 7, 2) := by decide +kernel
theorem d19_33 : decode method_8_code 33 = .ok (.iload_n 0, 1) := by decide +kernel
theorem d19_34 : decode method_8_code 34 = .ok (.iconst 3, 1) := by decide +kernel
theorem d19_35 : decode method_8_code 35 = .ok (.iushr, 1) := by decide +kernel
theorem d19_36 : decode method_8_code 36 = .ok (.bipush 20, 2) := by decide +kernel
theorem d19_38 : decode method_8_code 38 = .ok (.irem, 1) := by decide +kernel
theorem d19_39 : decode method_8_code 39 = .ok (.istore 8, 2) := by decide +kernel
theorem d19_41 : decode method_8_code 41 = .ok (.iload_n 3, 1) := by decide +kernel
theorem d19_42 : decode method_8_code 42 = .ok (.ldc 48, 2) := by decide +kernel
theorem d19_44 : decode method_8_code 44 = .ok (.iand, 1) := by decide +kernel
theorem d19_45 : decode method_8_code 45 = .ok (.bipush 10, 2) := by decide +kernel
theorem d19_47 : decode method_8_code 47 = .ok (.irem, 1) := by decide +kernel
theorem d19_48 : decode method_8_code 48 = .ok (.istore 9, 2) := by decide +kernel
theorem d19_50 : decode method_8_code 50 = .ok (.iload_n 3, 1) := by decide +kernel
theorem d19_51 : decode method_8_code 51 = .ok (.bipush 16, 2) := by decide +kernel
theorem d19_53 : decode method_8_code 53 = .ok (.iushr, 1) := by decide +kernel
theorem d19_54 : decode method_8_code 54 = .ok (.sipush 255, 3) := by decide +kernel
theorem d19_57 : decode method_8_code 57 = .ok (.iand, 1) := by decide +kernel
theorem d19_58 : decode method_8_code 58 = .ok (.i2c, 1) := by decide +kernel
theorem d19_59 : decode method_8_code 59 = .ok (.istore 10, 2) := by decide +kernel
theorem d19_61 : decode method_8_code 61 = .ok (.iload 6, 2) := by decide +kernel
theorem d19_516 : decode method_8_code 516 = .ok (.lload 14, 2) := by decide +kernel
theorem d19_518 : decode method_8_code 518 = .ok (.lload 16, 2) := by decide +kernel
theorem d19_520 : decode method_8_code 520 = .ok (.lcmp, 1) := by decide +kernel
theorem d19_521 : decode method_8_code 521 = .ok (.ifCond .ne 7, 3) := by decide +kernel
theorem d19_524 : decode method_8_code 524 = .ok (.iconst 1, 1) := by decide +kernel
theorem d19_525 : decode method_8_code 525 = .ok (.goto 4, 3) := by decide +kernel
theorem d19_529 : decode method_8_code 529 = .ok (.ireturn, 1) := by decide +kernel
theorem d19_432 : decode method_8_code 432 = .ok (.new 19, 3) := by decide +kernel
theorem d19_435 : decode method_8_code 435 = .ok (.dup, 1) := by decide +kernel
theorem d19_436 : decode method_8_code 436 = .ok (.aload 12, 2) := by decide +kernel
theorem d19_438 : decode method_8_code 438 = .ok (.invokespecial 21, 3) := by decide +kernel
theorem d19_441 : decode method_8_code 441 = .ok (.invokestatic 32, 3) := by decide +kernel
theorem d19_444 : decode method_8_code 444 = .ok (.lstore 14, 2) := by decide +kernel
theorem d19_446 : decode method_8_code 446 = .ok (.iload 13, 2) := by decide +kernel
theorem d19_448 : decode method_8_code 448 = .ok (.ifCond .eq 11, 3) := by decide +kernel
theorem d19_451 : decode method_8_code 451 = .ok (.ldc2_w 38, 3) := by decide +kernel
theorem d19_454 : decode method_8_code 454 = .ok (.lstore 16, 2) := by decide +kernel
theorem d19_456 : decode method_8_code 456 = .ok (.goto 60, 3) := by decide +kernel
theorem d19_459 : decode method_8_code 459 = .ok (.iload 6, 2) := by decide +kernel
theorem d19_461 : decode method_8_code 461 = .ok (.ifCond .ne 10, 3) := by decide +kernel
theorem d19_464 : decode method_8_code 464 = .ok (.lload 4, 2) := by decide +kernel
theorem d19_466 : decode method_8_code 466 = .ok (.lstore 16, 2) := by decide +kernel
theorem d19_468 : decode method_8_code 468 = .ok (.goto 48, 3) := by decide +kernel
theorem d19_471 : decode method_8_code 471 = .ok (.lload 4, 2) := by decide +kernel
theorem d19_473 : decode method_8_code 473 = .ok (.ldc2_w 87, 3) := by decide +kernel
theorem d19_476 : decode method_8_code 476 = .ok (.lcmp, 1) := by decide +kernel
theorem d19_477 : decode method_8_code 477 = .ok (.ifCond .lt 19, 3) := by decide +kernel
theorem d19_496 : decode method_8_code 496 = .ok (.lload 4, 2) := by decide +kernel
theorem d19_498 : decode method_8_code 498 = .ok (.ldc2_w 17, 3) := by decide +kernel
theorem d19_501 : decode method_8_code 501 = .ok (.lmul, 1) := by decide +kernel
theorem d19_502 : decode method_8_code 502 = .ok (.iload 9, 2) := by decide +kernel
theorem d19_504 : decode method_8_code 504 = .ok (.i2l, 1) := by decide +kernel
theorem d19_505 : decode method_8_code 505 = .ok (.ladd, 1) := by decide +kernel
theorem d19_506 : decode method_8_code 506 = .ok (.lstore 16, 2) := by decide +kernel
theorem d19_508 : decode method_8_code 508 = .ok (.goto 8, 3) := by decide +kernel
theorem d19_480 : decode method_8_code 480 = .ok (.lload 4, 2) := by decide +kernel
theorem d19_482 : decode method_8_code 482 = .ok (.ldc2_w 87, 3) := by decide +kernel
theorem d19_485 : decode method_8_code 485 = .ok (.lcmp, 1) := by decide +kernel
theorem d19_486 : decode method_8_code 486 = .ok (.ifCond .ne 25, 3) := by decide +kernel
theorem d19_489 : decode method_8_code 489 = .ok (.iload 9, 2) := by decide +kernel
theorem d19_491 : decode method_8_code 491 = .ok (.bipush 7, 2) := by decide +kernel
theorem d19_493 : decode method_8_code 493 = .ok (.if_icmp .gt 18, 3) := by decide +kernel
theorem d19_511 : decode method_8_code 511 = .ok (.ldc2_w 38, 3) := by decide +kernel
theorem d19_514 : decode method_8_code 514 = .ok (.lstore 16, 2) := by decide +kernel
theorem d19_418 : decode method_8_code 418 = .ok (.istore 13, 2) := by decide +kernel
theorem d19_420 : decode method_8_code 420 = .ok (.iload 13, 2) := by decide +kernel
theorem d19_422 : decode method_8_code 422 = .ok (.ifCond .eq 10, 3) := by decide +kernel
theorem d19_425 : decode method_8_code 425 = .ok (.aload 12, 2) := by decide +kernel
theorem d19_427 : decode method_8_code 427 = .ok (.iload 8, 2) := by decide +kernel
theorem d19_429 : decode method_8_code 429 = .ok (.iload 10, 2) := by decide +kernel
theorem d19_431 : decode method_8_code 431 = .ok (.castore, 1) := by decide +kernel
theorem d19_400 : decode method_8_code 400 = .ok (.iload 7, 2) := by decide +kernel
theorem d19_402 : decode method_8_code 402 = .ok (.ifCond .eq 15, 3) := by decide +kernel
theorem d19_417 : decode method_8_code 417 = .ok (.iconst 0, 1) := by decide +kernel
theorem d19_405 : decode method_8_code 405 = .ok (.iload 10, 2) := by decide +kernel
theorem d19_407 : decode method_8_code 407 = .ok (.invokestatic 40, 3) := by decide +kernel
theorem d19_410 : decode method_8_code 410 = .ok (.ifCond .ne 7, 3) := by decide +kernel
theorem d19_413 : decode method_8_code 413 = .ok (.iconst 1, 1) := by decide +kernel
theorem d19_414 : decode method_8_code 414 = .ok (.goto 4, 3) := by decide +kernel
theorem d19_104 : decode method_8_code 104 = .ok (.aload 12, 2) := by decide +kernel
theorem d19_106 : decode method_8_code 106 = .ok (.iload 11, 2) := by decide +kernel
theorem d19_108 : decode method_8_code 108 = .ok (.iconst 0, 1) := by decide +kernel
theorem d19_109 : decode method_8_code 109 = .ok (.iadd, 1) := by decide +kernel
theorem d19_110 : decode method_8_code 110 = .ok (.lload 4, 2) := by decide +kernel
theorem d19_112 : decode method_8_code 112 = .ok (.ldc2_w 49, 3) := by decide +kernel
theorem d19_115 : decode method_8_code 115 = .ok (.invokestatic 51, 3) := by decide +kernel
theorem ar_15 : XT.arity "(JJ)C" = some 2 := by decide +kernel
theorem d19_118 : decode method_8_code 118 = .ok (.castore, 1) := by decide +kernel
theorem d19_119 : decode method_8_code 119 = .ok (.aload 12, 2) := by decide +kernel
theorem d19_121 : decode method_8_code 121 = .ok (.iload 11, 2) := by decide +kernel
theorem d19_123 : decode method_8_code 123 = .ok (.iconst 1, 1) := by decide +kernel
theorem d19_124 : decode method_8_code 124 = .ok (.iadd, 1) := by decide +kernel
theorem d19_125 : decode method_8_code 125 = .ok (.lload 4, 2) := by decide +kernel
theorem d19_127 : decode method_8_code 127 = .ok (.ldc2_w 55, 3) := by decide +kernel
theorem d19_130 : decode method_8_code 130 = .ok (.invokestatic 51, 3) := by decide +kernel
theorem d19_133 : decode method_8_code 133 = .ok (.castore, 1) := by decide +kernel
theorem d19_134 : decode method_8_code 134 = .ok (.aload 12, 2) := by decide +kernel
theorem d19_136 : decode method_8_code 136 = .ok (.iload 11, 2) := by decide +kernel
theorem d19_138 : decode method_8_code 138 = .ok (.iconst 2, 1) := by decide +kernel
theorem d19_139 : decode method_8_code 139 = .ok (.iadd, 1) := by decide +kernel
theorem d19_140 : decode method_8_code 140 = .ok (.lload 4, 2) := by decide +kernel
theorem d19_142 : decode method_8_code 142 = .ok (.ldc2_w 57, 3) := by decide +kernel
theorem d19_145 : decode method_8_code 145 = .ok (.invokestatic 51, 3) := by decide +kernel
theorem d19_148 : decode method_8_code 148 = .ok (.castore, 1) := by decide +kernel
theorem d19_149 : decode method_8_code 149 = .ok (.aload 12, 2) := by decide +kernel
theorem d19_151 : decode method_8_code 151 = .ok (.iload 11, 2) := by decide +kernel
theorem d19_153 : decode method_8_code 153 = .ok (.iconst 3, 1) := by decide +kernel
theorem d19_154 : decode method_8_code 154 = .ok (.iadd, 1) := by decide +kernel
theorem d19_155 : decode method_8_code 155 = .ok (.lload 4, 2) := by decide +kernel
theorem d19_157 : decode method_8_code 157 = .ok (.ldc2_w 59, 3) := by decide +kernel
theorem d19_160 : decode method_8_code 160 = .ok (.invokestatic 51, 3) := by decide +kernel
theorem d19_163 : decode method_8_code 163 = .ok (.castore, 1) := by decide +kernel
theorem d19_164 : decode method_8_code 164 = .ok (.aload 12, 2) := by decide +kernel
theorem d19_166 : decode method_8_code 166 = .ok (.iload 11, 2) := by decide +kernel
theorem d19_168 : decode method_8_code 168 = .ok (.iconst 4, 1) := by decide +kernel
theorem d19_169 : decode method_8_code 169 = .ok (.iadd, 1) := by decide +kernel
theorem d19_170 : decode method_8_code 170 = .ok (.lload 4, 2) := by decide +kernel
theorem d19_172 : decode method_8_code 172 = .ok (.ldc2_w 61, 3) := by decide +kernel
theorem d19_175 : decode method_8_code 175 = .ok (.invokestatic 51, 3) := by decide +kernel
theorem d19_178 : decode method_8_code 178 = .ok (.castore, 1) := by decide +kernel
theorem d19_179 : decode method_8_code 179 = .ok (.aload 12, 2) := by decide +kernel
theorem d19_181 : decode method_8_code 181 = .ok (.iload 11, 2) := by decide +kernel
theorem d19_183 : decode method_8_code 183 = .ok (.iconst 5, 1) := by decide +kernel
theorem d19_184 : decode method_8_code 184 = .ok (.iadd, 1) := by decide +kernel
theorem d19_185 : decode method_8_code 185 = .ok (.lload 4, 2) := by decide +kernel
theorem d19_187 : decode method_8_code 187 = .ok (.ldc2_w 63, 3) := by decide +kernel
theorem d19_190 : decode method_8_code 190 = .ok (.invokestatic 51, 3) := by decide +kernel
theorem d19_193 : decode method_8_code 193 = .ok (.castore, 1) := by decide +kernel
theorem d19_194 : decode method_8_code 194 = .ok (.aload 12, 2) := by decide +kernel
theorem d19_196 : decode method_8_code 196 = .ok (.iload 11, 2) := by decide +kernel
theorem d19_198 : decode method_8_code 198 = .ok (.bipush 6, 2) := by decide +kernel
theorem d19_200 : decode method_8_code 200 = .ok (.iadd, 1) := by decide +kernel
theorem d19_201 : decode method_8_code 201 = .ok (.lload 4, 2) := by decide +kernel
theorem d19_203 : decode method_8_code 203 = .ok (.ldc2_w 65, 3) := by decide +kernel
theorem d19_206 : decode method_8_code 206 = .ok (.invokestatic 51, 3) := by decide +kernel
theorem d19_209 : decode method_8_code 209 = .ok (.castore, 1) := by decide +kernel
theorem d19_210 : decode method_8_code 210 = .ok (.aload 12, 2) := by decide +kernel
theorem d19_212 : decode method_8_code 212 = .ok (.iload 11, 2) := by decide +kernel
theorem d19_214 : decode method_8_code 214 = .ok (.bipush 7, 2) := by decide +kernel
theorem d19_216 : decode method_8_code 216 = .ok (.iadd, 1) := by decide +kernel
theorem d19_217 : decode method_8_code 217 = .ok (.lload 4, 2) := by decide +kernel
theorem d19_219 : decode method_8_code 219 = .ok (.ldc2_w 67, 3) := by decide +kernel
theorem d19_222 : decode method_8_code 222 = .ok (.invokestatic 51, 3) := by decide +kernel
theorem d19_225 : decode method_8_code 225 = .ok (.castore, 1) := by decide +kernel
theorem d19_226 : decode method_8_code 226 = .ok (.aload 12, 2) := by decide +kernel
theorem d19_228 : decode method_8_code 228 = .ok (.iload 11, 2) := by decide +kernel
theorem d19_230 : decode method_8_code 230 = .ok (.bipush 8, 2) := by decide +kernel
theorem d19_232 : decode method_8_code 232 = .ok (.iadd, 1) := by decide +kernel
theorem d19_233 : decode method_8_code 233 = .ok (.lload 4, 2) := by decide +kernel
theorem d19_235 : decode method_8_code 235 = .ok (.ldc2_w 69, 3) := by decide +kernel
theorem d19_238 : decode method_8_code 238 = .ok (.invokestatic 51, 3) := by decide +kernel
theorem d19_241 : decode method_8_code 241 = .ok (.castore, 1) := by decide +kernel
theorem d19_242 : decode method_8_code 242 = .ok (.aload 12, 2) := by decide +kernel
theorem d19_244 : decode method_8_code 244 = .ok (.iload 11, 2) := by decide +kernel
theorem d19_246 : decode method_8_code 246 = .ok (.bipush 9, 2) := by decide +kernel
theorem d19_248 : decode method_8_code 248 = .ok (.iadd, 1) := by decide +kernel
theorem d19_249 : decode method_8_code 249 = .ok (.lload 4, 2) := by decide +kernel
theorem d19_251 : decode method_8_code 251 = .ok (.ldc2_w 71, 3) := by decide +kernel
theorem d19_254 : decode method_8_code 254 = .ok (.invokestatic 51, 3) := by decide +kernel
theorem d19_257 : decode method_8_code 257 = .ok (.castore, 1) := by decide +kernel
theorem d19_258 : decode method_8_code 258 = .ok (.aload 12, 2) := by decide +kernel
theorem d19_260 : decode method_8_code 260 = .ok (.iload 11, 2) := by decide +kernel
theorem d19_262 : decode method_8_code 262 = .ok (.bipush 10, 2) := by decide +kernel
theorem d19_264 : decode method_8_code 264 = .ok (.iadd, 1) := by decide +kernel
theorem d19_265 : decode method_8_code 265 = .ok (.lload 4, 2) := by decide +kernel
theorem d19_267 : decode method_8_code 267 = .ok (.ldc2_w 73, 3) := by decide +kernel
theorem d19_270 : decode method_8_code 270 = .ok (.invokestatic 51, 3) := by decide +kernel
theorem d19_273 : decode method_8_code 273 = .ok (.castore, 1) := by decide +kernel
theorem d19_274 : decode method_8_code 274 = .ok (.aload 12, 2) := by decide +kernel
theorem d19_276 : decode method_8_code 276 = .ok (.iload 11, 2) := by decide +kernel
theorem d19_278 : decode method_8_code 278 = .ok (.bipush 11, 2) := by decide +kernel
theorem d19_280 : decode method_8_code 280 = .ok (.iadd, 1) := by decide +kernel
theorem d19_281 : decode method_8_code 281 = .ok (.lload 4, 2) := by decide +kernel
theorem d19_283 : decode method_8_code 283 = .ok (.ldc2_w 75, 3) := by decide +kernel
theorem d19_286 : decode method_8_code 286 = .ok (.invokestatic 51, 3) := by decide +kernel
theorem d19_289 : decode method_8_code 289 = .ok (.castore, 1) := by decide +kernel
theorem d19_290 : decode method_8_code 290 = .ok (.aload 12, 2) := by decide +kernel
theorem d19_292 : decode method_8_code 292 = .ok (.iload 11, 2) := by decide +kernel
theorem d19_294 : decode method_8_code 294 = .ok (.bipush 12, 2) := by decide +kernel
theorem d19_296 : decode method_8_code 296 = .ok (.iadd, 1) := by decide +kernel
theorem d19_297 : decode method_8_code 297 = .ok (.lload 4, 2) := by decide +kernel
theorem d19_299 : decode method_8_code 299 = .ok (.ldc2_w 77, 3) := by decide +kernel
theorem d19_302 : decode method_8_code 302 = .ok (.invokestatic 51, 3) := by decide +kernel
theorem d19_305 : decode method_8_code 305 = .ok (.castore, 1) := by decide +kernel
theorem d19_306 : decode method_8_code 306 = .ok (.aload 12, 2) := by decide +kernel
theorem d19_308 : decode method_8_code 308 = .ok (.iload 11, 2) := by decide +kernel
theorem d19_310 : decode method_8_code 310 = .ok (.bipush 13, 2) := by decide +kernel
theorem d19_312 : decode method_8_code 312 = .ok (.iadd, 1) := by decide +kernel
theorem d19_313 : decode method_8_code 313 = .ok (.lload 4, 2) := by decide +kernel
theorem d19_315 : decode method_8_code 315 = .ok (.ldc2_w 79, 3) := by decide +kernel
theorem d19_318 : decode method_8_code 318 = .ok (.invokestatic 51, 3) := by decide +kernel
theorem d19_321 : decode method_8_code 321 = .ok (.castore, 1) := by decide +kernel
theorem d19_322 : decode method_8_code 322 = .ok (.aload 12, 2) := by decide +kernel
theorem d19_324 : decode method_8_code 324 = .ok (.iload 11, 2) := by decide +kernel
theorem d19_326 : decode method_8_code 326 = .ok (.bipush 14, 2) := by decide +kernel
theorem d19_328 : decode method_8_code 328 = .ok (.iadd, 1) := by decide +kernel
theorem d19_329 : decode method_8_code 329 = .ok (.lload 4, 2) := by decide +kernel
theorem d19_331 : decode method_8_code 331 = .ok (.ldc2_w 81, 3) := by decide +kernel
theorem d19_334 : decode method_8_code 334 = .ok (.invokestatic 51, 3) := by decide +kernel
theorem d19_337 : decode method_8_code 337 = .ok (.castore, 1) := by decide +kernel
theorem d19_338 : decode method_8_code 338 = .ok (.aload 12, 2) := by decide +kernel
theorem d19_340 : decode method_8_code 340 = .ok (.iload 11, 2) := by decide +kernel
theorem d19_342 : decode method_8_code 342 = .ok (.bipush 15, 2) := by decide +kernel
theorem d19_344 : decode method_8_code 344 = .ok (.iadd, 1) := by decide +kernel
theorem d19_345 : decode method_8_code 345 = .ok (.lload 4, 2) := by decide +kernel
theorem d19_347 : decode method_8_code 347 = .ok (.ldc2_w 83, 3) := by decide +kernel
theorem d19_350 : decode method_8_code 350 = .ok (.invokestatic 51, 3) := by decide +kernel
theorem d19_353 : decode method_8_code 353 = .ok (.castore, 1) := by decide +kernel
theorem d19_354 : decode method_8_code 354 = .ok (.aload 12, 2) := by decide +kernel
theorem d19_356 : decode method_8_code 356 = .ok (.iload 11, 2) := by decide +kernel
theorem d19_358 : decode method_8_code 358 = .ok (.bipush 16, 2) := by decide +kernel
theorem d19_360 : decode method_8_code 360 = .ok (.iadd, 1) := by decide +kernel
theorem d19_361 : decode method_8_code 361 = .ok (.lload 4, 2) := by decide +kernel
theorem d19_363 : decode method_8_code 363 = .ok (.ldc2_w 85, 3) := by decide +kernel
theorem d19_366 : decode method_8_code 366 = .ok (.invokestatic 51, 3) := by decide +kernel
theorem d19_369 : decode method_8_code 369 = .ok (.castore, 1) := by decide +kernel
theorem d19_370 : decode method_8_code 370 = .ok (.aload 12, 2) := by decide +kernel
theorem d19_372 : decode method_8_code 372 = .ok (.iload 11, 2) := by decide +kernel
theorem d19_374 : decode method_8_code 374 = .ok (.bipush 17, 2) := by decide +kernel
theorem d19_376 : decode method_8_code 376 = .ok (.iadd, 1) := by decide +kernel
theorem d19_377 : decode method_8_code 377 = .ok (.lload 4, 2) := by decide +kernel
theorem d19_379 : decode method_8_code 379 = .ok (.ldc2_w 17, 3) := by decide +kernel
theorem d19_382 : decode method_8_code 382 = .ok (.invokestatic 51, 3) := by decide +kernel
theorem d19_385 : decode method_8_code 385 = .ok (.castore, 1) := by decide +kernel
theorem d19_386 : decode method_8_code 386 = .ok (.aload 12, 2) := by decide +kernel
theorem d19_388 : decode method_8_code 388 = .ok (.iload 11, 2) := by decide +kernel
theorem d19_390 : decode method_8_code 390 = .ok (.bipush 18, 2) := by decide +kernel
theorem d19_392 : decode method_8_code 392 = .ok (.iadd, 1) := by decide +kernel
theorem d19_393 : decode method_8_code 393 = .ok (.lload 4, 2) := by decide +kernel
theorem d19_395 : decode method_8_code 395 = .ok (.lconst 1, 1) := by decide +kernel
theorem d19_396 : decode method_8_code 396 = .ok (.invokestatic 51, 3) := by decide +kernel
theorem d19_399 : decode method_8_code 399 = .ok (.castore, 1) := by decide +kernel
theorem d19_63 : decode method_8_code 63 = .ok (.ifCond .eq 7, 3) := by decide +kernel
theorem d19_70 : decode method_8_code 70 = .ok (.iconst 1, 1) := by decide +kernel
theorem d19_71 : decode method_8_code 71 = .ok (.istore 11, 2) := by decide +kernel
theorem d19_73 : decode method_8_code 73 = .ok (.bipush 20, 2) := by decide +kernel
theorem d19_75 : decode method_8_code 75 = .ok (.newarray .char, 2) := by decide +kernel
theorem d19_77 : decode method_8_code 77 = .ok (.astore 12, 2) := by decide +kernel
theorem d19_79 : decode method_8_code 79 = .ok (.iload 6, 2) := by decide +kernel
theorem d19_81 : decode method_8_code 81 = .ok (.ifCond .eq 17, 3) := by decide +kernel
theorem d19_98 : decode method_8_code 98 = .ok (.aload 12, 2) := by decide +kernel
theorem d19_100 : decode method_8_code 100 = .ok (.iconst 0, 1) := by decide +kernel
theorem d19_101 : decode method_8_code 101 = .ok (.bipush 48, 2) := by decide +kernel
theorem d19_103 : decode method_8_code 103 = .ok (.castore, 1) := by decide +kernel
theorem d19_66 : decode method_8_code 66 = .ok (.iconst 0, 1) := by decide +kernel
theorem d19_67 : decode method_8_code 67 = .ok (.goto 4, 3) := by decide +kernel
theorem d19_84 : decode method_8_code 84 = .ok (.aload 12, 2) := by decide +kernel
theorem d19_86 : decode method_8_code 86 = .ok (.bipush 19, 2) := by decide +kernel
theorem d19_88 : decode method_8_code 88 = .ok (.bipush 48, 2) := by decide +kernel
theorem d19_90 : decode method_8_code 90 = .ok (.iload 9, 2) := by decide +kernel
theorem d19_92 : decode method_8_code 92 = .ok (.iadd, 1) := by decide +kernel
theorem d19_93 : decode method_8_code 93 = .ok (.i2c, 1) := by decide +kernel
theorem d19_94 : decode method_8_code 94 = .ok (.castore, 1) := by decide +kernel
theorem d19_95 : decode method_8_code 95 = .ok (.goto 9, 3) := by decide +kernel
theorem d19_18 : decode method_8_code 18 = .ok (.istore 6, 2) := by decide +kernel
theorem d19_20 : decode method_8_code 20 = .ok (.iload_n 0, 1) := by decide +kernel
theorem d19_21 : decode method_8_code 21 = .ok (.iconst 4, 1) := by decide +kernel
theorem d19_22 : decode method_8_code 22 = .ok (.iand, 1) := by decide +kernel
theorem d19_23 : decode method_8_code 23 = .ok (.ifCond .eq 7, 3) := by decide +kernel
theorem d19_30 : decode method_8_code 30 = .ok (.iconst 0, 1) := by decide +kernel
theorem d19_26 : decode method_8_code 26 = .ok (.iconst 1, 1) := by decide +kernel
theorem d19_27 : decode method_8_code 27 = .ok (.goto 4, 3) := by decide +kernel
theorem d19_10 : decode method_8_code 10 = .ok (.ifCond .eq 7, 3) := by decide +kernel
theorem d19_17 : decode method_8_code 17 = .ok (.iconst 0, 1) := by decide +kernel
theorem d19_13 : decode method_8_code 13 = .ok (.iconst 1, 1) := by decide +kernel
theorem d19_14 : decode method_8_code 14 = .ok (.goto 4, 3) := by decide +kernel
theorem ef_iiiji_6 (m : MethodId) (x0 : Int32) (x1 : Int32) (x2 : Int32) (x3 : Int64) (x4 : Int32) : entryFrame m #[(.int x0), (.int x1), (.int x2), (.long x3), (.int x4)] 6 = mkF m 0 ⟨[.val (.int x0), .val (.int x1), .val (.int x2), .val (.long x3), .second, .val (.int x4)]⟩ [] := by exact efOf rfl
theorem ar_16 : XT.arity "(IJI)Z" = some 3 := by decide +kernel
theorem ar_17 : XT.arity "(III)Z" = some 3 := by decide +kernel
theorem layS_ok {Z : State} {a0 : Array Value} (hw : ∀ d ∈ tables_1, d.before a0 Z = true) : LayOk Z a0 "java/lang/String" layS := by
  refine ⟨fun f hf => ?_, by decide +kernel, fun f hf => ?_⟩
  all_goals simp only [layS, List.mem_cons, List.not_mem_nil, or_false] at hf
  all_goals rcases hf with rfl | rfl
  · exact Or.inr (hw _ (List.mem_of_getElem? (i := 26) rfl))
  · exact Or.inr (hw _ (List.mem_of_getElem? (i := 27) rfl))
  · exact ⟨(.array .byte), by decide +kernel⟩
  · exact ⟨.byte, by decide +kernel⟩
theorem layS_dv : Dv layS [.null, (.int 0)] := by decide +kernel
/-- the byte of a sign -/
def b8 (c : Int32) : Int32 := c.toInt8.toInt32
def toB (c : Int32) : Value := .int (b8 c)
theorem toB_eq (cs : List Int32) : cs.map toB = (cs.map b8).map .int := by rw [List.map_map]; rfl
def Lat (cs : List Int32) : Prop := ∀ c ∈ cs, 0 ≤ c.toInt ∧ c.toInt < 256
theorem lat_nil : Lat [] := fun _ h => nomatch h
theorem lat_cons {c : Int32} {cs : List Int32} (h : 0 ≤ c.toInt ∧ c.toInt < 256) (t : Lat cs) : Lat (c :: cs) := fun x hx => (List.mem_cons.mp hx).elim (fun e => e ▸ h) (t x)
theorem lat_le {c : Int32} (h : 0 ≤ c.toInt ∧ c.toInt < 256) : ¬ (255 : Int32) < c := by rw [Int32.lt_iff_toInt_lt]; show ¬ (255 : Int) < _; omega
theorem toB_nar (c : Int32) : nar .byte c.toInt8.toInt32 = c.toInt8.toInt32 := by simp [nar]
theorem set_mid (cs : List Int32) (i : Nat) (h : i < cs.length) : ((cs.take i).map toB ++ List.replicate (cs.length - i) (Value.int 0)).set i (toB cs[i]) = (cs.take (i + 1)).map toB ++ List.replicate (cs.length - (i + 1)) (Value.int 0) := by
  have h1 : ((cs.take i).map toB).length = i := by simp; omega
  rw [List.set_append_right _ _ (by omega), h1, Nat.sub_self, show cs.length - i = (cs.length - (i + 1)) + 1 by omega, List.replicate_succ, List.set_cons_zero, List.take_succ_eq_append_getElem h, List.map_append, List.append_assoc]
  rfl
theorem nchar_lat {c : Int32} (h : 0 ≤ c.toInt ∧ c.toInt < 256) : nar .char c = c := by
  apply Int32.toInt_inj.mp
  have q := c_i2c c
  show c.toUInt32.toUInt16.toUInt32.toInt32.toInt = c.toInt
  omega
theorem b8_toInt {c : Int32} (h : 0 ≤ c.toInt ∧ c.toInt < 256) : (b8 c).toInt = if c.toInt < 128 then c.toInt else c.toInt - 256 := by
  have q := c_i2b c
  show c.toInt8.toInt32.toInt = _
  split <;> omega
theorem b8_iff {c d e : Int32} (h : 0 ≤ c.toInt ∧ c.toInt < 256) (h' : 0 ≤ d.toInt ∧ d.toInt < 256) (he : b8 d = e) : b8 c = e ↔ c = d := by
  subst he
  refine ⟨fun q => Int32.toInt_inj.mp ?_, fun q => by rw [q]⟩
  have := congrArg Int32.toInt q
  rw [b8_toInt h, b8_toInt h'] at this
  split at this <;> split at this <;> omega
set_option maxHeartbeats 4000000 in
theorem wk_compressL {l : Launch} {Z : State} {a0 : Array Value} (hw : ∀ d ∈ tables_1, d.before a0 Z = true) (hE : EW Z a0 EL0) {L : Store} {ca b : Addr} {fa : Bool} {cs : List Int32} (hc : Lat cs) (hl : cs.length < 2 ^ 31) (hm : (ca, fa, AR Z .char (cs.map .int)) ∈ L) {cb sb : Nat} : ∀ (k i : Nat) (o : Slot), i + k = cs.length → One o →
    Wk l Z a0 EL0 (⟨"java/lang/StringUTF16", "compress", "([CI[BII)I"⟩ : MethodName) jdk_52_method_21_code 7 (some .int) ({ frames := 0, cells := 0, slots := 0, locals := 0 } : Room) (RV fun u M => u = .int cs.length.toInt32 ∧ M = (b, true, AR Z .byte ((cs.map b8).map .int)) :: L) ((b, true, AR Z .byte ((cs.take i).map toB ++ List.replicate (cs.length - i) (.int 0))) :: L) cb sb 3 [.val (.ref ca), .val (.int i.toInt32), .val (.ref b), .val (.int i.toInt32), .val (.int cs.length.toInt32), .val (.int i.toInt32), o] [] := by
  intro k
  induction k with
  | zero =>
    intro i o hi ho
    have hi' : i = cs.length := by omega
    subst hi'
    refine Wk.iload (q := 5) d0_3 rfl rfl ?_
    refine Wk.iload (q := 7) d0_5 rfl rfl ?_
    refine Wk.icmp_t (q := 44) d0_7 (by decide) (by decide) (XT.ii_ge_t (fun h => by rw [n32_lt hl hl] at h; omega)) ?_
    refine Wk.iload (q := 46) d0_44 rfl rfl ?_
    refine Wk.ireturn (t := .int) d0_46 rfl (by simp) (by rfl) ?_
    refine ⟨_, rfl, rfl, ?_⟩
    rw [← toB_eq]
    simp
  | succ k ih =>
    intro i o hi ho
    have hil : i < cs.length := by omega
    have hi3 : i < 2 ^ 31 := by omega
    have hv : (cs.map Value.int)[i]? = some (.int cs[i]) := by simp [hil]
    have hci := hc cs[i] (List.getElem_mem hil)
    refine Wk.iload (q := 5) d0_3 rfl rfl ?_
    refine Wk.iload (q := 7) d0_5 rfl rfl ?_
    refine Wk.icmp_f (q := 10) d0_7 rfl (XT.ii_ge_f ((n32_lt hi3 hl).mpr hil)) ?_
    refine Wk.aload_n (q := 11) d0_10 rfl rfl (by first | rfl | assumption) ?_
    refine Wk.iload_n (q := 12) d0_11 rfl rfl ?_
    refine Wk.caload (q := 13) (i) d0_12 rfl (by repeat (first | exact List.mem_cons_self | assumption | refine List.mem_cons_of_mem _ ?_)) (n32_nn hi3) (n32_nat hi3) hv ?_
    refine Wk.istore (q := 15) d0_13 rfl (LS1.there (LS1.there (LS1.there (LS1.there (LS1.there (LS1.there (LS1.here (by first | exact One.u | exact One.val rfl | assumption)))))))) ?_
    refine Wk.iload (q := 17) d0_15 rfl rfl ?_
    refine Wk.sipush (q := 20) (255) d0_17 rfl (by decide) ?_
    refine Wk.icmp_t (q := 26) d0_20 (by decide) (by decide) (XT.ii_le_t (lat_le hci)) ?_
    refine Wk.aload_n (q := 27) d0_26 rfl rfl (by first | rfl | assumption) ?_
    refine Wk.iload_n (q := 28) d0_27 rfl rfl ?_
    refine Wk.iload (q := 30) d0_28 rfl rfl ?_
    refine Wk.i2b (q := 31) d0_30 rfl ?_
    refine Wk.bastore (q := 32) (i) d0_31 rfl (by repeat (first | exact Ex.here | assumption | apply Ex.there)) (n32_nn hi3) (n32_nat hi3) (toB_nar _) ⟨set_mid cs i hil, by simp; omega⟩ ?_
    refine Wk.iinc (q := 35) (1) d0_32 rfl (by decide) rfl (LS1.there (LS1.here (by first | exact One.u | exact One.val rfl | assumption))) ?_
    refine Wk.iinc (q := 38) (1) d0_35 rfl (by decide) rfl (LS1.there (LS1.there (LS1.there (LS1.here (by first | exact One.u | exact One.val rfl | assumption))))) ?_
    refine Wk.iinc (q := 41) (1) d0_38 rfl (by decide) rfl (LS1.there (LS1.there (LS1.there (LS1.there (LS1.there (LS1.here (by first | exact One.u | exact One.val rfl | assumption))))))) ?_
    refine Wk.goto (q := 3) d0_41 (by decide) (by decide) ?_
    rw [n32_succ]
    exact ih (i + 1) _ (by omega) (One.val rfl)
set_option maxHeartbeats 4000000 in
theorem ct_compressL {l : Launch} {Z : State} {a0 : Array Value} (hw : ∀ d ∈ tables_1, d.before a0 Z = true) (hE : EW Z a0 EL0) {L : Store} {ca b : Addr} {fa : Bool} {cs : List Int32} (hc : Lat cs) (hl : cs.length < 2 ^ 31) (hm : (ca, fa, AR Z .char (cs.map .int)) ∈ L) :
    Ct l Z EL0 (⟨"java/lang/StringUTF16", "compress", "([CI[BII)I"⟩ : MethodName) jdk_52_method_21_code 7 (some .int) ({ frames := 0, cells := 0, slots := 0, locals := 0 } : Room) #[.ref ca, .int 0, .ref b, .int 0, .int cs.length.toInt32] ((b, true, AR Z .byte (List.replicate cs.length (.int 0))) :: L) (RV fun u M => u = .int cs.length.toInt32 ∧ M = (b, true, AR Z .byte ((cs.map b8).map .int)) :: L) := by
  refine Ct.of (a0 := a0) (Ls := [.val (.ref _), .val (.int _), .val (.ref _), .val (.int _), .val (.int _), .unset, .unset]) (plainFor_of_name pn_0) (fun m => ef_ririi_7 m _ _ _ _ _) hE ?_
  refine Wk.iconst (q := 1) (0) d0_0 rfl (by decide) ?_
  refine Wk.istore (q := 3) d0_1 rfl (LS1.there (LS1.there (LS1.there (LS1.there (LS1.there (LS1.here (by first | exact One.u | exact One.val rfl | assumption))))))) ?_
  have h := wk_compressL hw hE (l := l) (b := b) (cb := 0) (sb := 0) hc hl hm cs.length 0 .unset (by omega) One.u
  simp only [List.take_zero, List.map_nil, List.nil_append, Nat.sub_zero] at h
  exact h
theorem ct_coderLat {l : Launch} {Z : State} {a0 : Array Value} (hw : ∀ d ∈ tables_1, d.before a0 Z = true) (hE : EW Z a0 EL0) {L : Store} {b : Addr} {fb : Bool} {vs : List Value} (hm : (b, fb, AR Z .byte vs) ∈ L) :
    Ct l Z EL0 (⟨"java/lang/StringUTF16", "coderFromArrayLen", "([BI)B"⟩ : MethodName) jdk_52_method_15_code 2 (some .byte) ({ frames := 0, cells := 0, slots := 0, locals := 0 } : Room) #[.ref b, .int vs.length.toInt32] L (RV fun u M => u = .int 0 ∧ M = L) := by
  refine Ct.of (a0 := a0) (Ls := [.val (.ref _), .val (.int _)]) (plainFor_of_name pn_0) (fun m => ef_ri_2 m _ _) hE ?_
  refine Wk.iload_n (q := 1) d1_0 rfl rfl ?_
  refine Wk.aload_n (q := 2) d1_1 rfl rfl (by first | rfl | assumption) ?_
  refine Wk.arraylength (q := 3) d1_2 rfl (by repeat (first | exact List.mem_cons_self | assumption | refine List.mem_cons_of_mem _ ?_)) (by rfl) ?_
  refine Wk.isub (q := 4) d1_3 rfl ?_
  rw [Int32.sub_self]
  refine Wk.bipush (q := 6) (31) d1_4 rfl (by decide) ?_
  refine Wk.iushr (q := 7) d1_6 rfl ?_
  refine Wk.i2b (q := 8) d1_7 rfl ?_
  refine Wk.ireturn (t := .byte) d1_8 rfl (by simp) (by decide) ?_
  exact ⟨_, rfl, by decide, rfl⟩
set_option maxHeartbeats 4000000 in
theorem ct_compressA {l : Launch} {Z : State} {a0 : Array Value} (hw : ∀ d ∈ tables_1, d.before a0 Z = true) (hE : EW Z a0 EL0) {L : Store} {ca : Addr} {fa : Bool} {cs : List Int32} (hc : Lat cs) (N : Nat) (hN : cs.length ≤ N) (hl : cs.length ≤ 4000) (hm : (ca, fa, AR Z .char (cs.map .int)) ∈ L) :
    Ct l Z EL0 (⟨"java/lang/StringUTF16", "compress", "([CII)[B"⟩ : MethodName) jdk_52_method_16_code 6 (some (.array .byte)) ({ frames := 1, cells := 1, slots := N, locals := 18 } : Room) #[.ref ca, .int 0, .int cs.length.toInt32] L (RV fun u M => ∃ b, u = .ref b ∧ M = (b, true, AR Z .byte ((cs.map b8).map .int)) :: L) := by
  have h31 : cs.length < 2 ^ 31 := by omega
  refine Ct.of (a0 := a0) (Ls := [.val (.ref _), .val (.int _), .val (.int _), .unset, .unset, .unset]) (plainFor_of_name pn_0) (fun m => ef_rii_6 m _ _ _) hE ?_
  refine Wk.iload_n (q := 1) d2_0 rfl rfl ?_
  refine Wk.newarray (q := 3) .byte ((cs.length)) (List.replicate (cs.length) (.int 0)) d2_1 rfl rfl rfl (hw _ (List.mem_of_getElem? (i := 25) rfl)) (n32_nn h31) (n32_nat h31) (by omega) (by first | decide | (dsimp only; omega) | omega) (by first | decide | (dsimp only; omega) | omega) ?_
  intro b
  refine Wk.astore_n (q := 4) d2_3 rfl (by first | rfl | assumption) (LS1.there (LS1.there (LS1.there (LS1.here (by first | exact One.u | exact One.val rfl | assumption))))) ?_
  refine Wk.aload_n (q := 5) d2_4 rfl rfl (by first | rfl | assumption) ?_
  refine Wk.iload_n (q := 6) d2_5 rfl rfl ?_
  refine Wk.aload_n (q := 7) d2_6 rfl rfl (by first | rfl | assumption) ?_
  refine Wk.iconst (q := 8) (0) d2_7 rfl (by decide) ?_
  refine Wk.iload_n (q := 9) d2_8 rfl rfl ?_
  refine Wk.static (q := 12) [_, _, _, _, _] _ 0 d2_9 rfl (hw _ (List.mem_of_getElem? (i := 48) rfl)) (hw _ (List.mem_of_getElem? (i := 49) rfl)) (hw _ (List.mem_of_getElem? (i := 46) rfl)) (hw _ (List.mem_of_getElem? (i := 50) rfl)) ar_0 (by decide) rfl rfl rfl rfl (ct_compressL hw hE hc h31 hm) (by first | decide | (dsimp only; omega) | omega) (by first | decide | (dsimp only; omega) | omega) (by first | decide | (dsimp only; omega) | omega) (by first | decide | (dsimp only; omega) | omega) (kv ?_)
  rintro _ _ ⟨rfl, rfl⟩
  refine Wk.istore (q := 14) d2_12 rfl (LS1.there (LS1.there (LS1.there (LS1.there (LS1.here (by first | exact One.u | exact One.val rfl | assumption)))))) ?_
  refine Wk.iload (q := 16) d2_14 rfl rfl ?_
  refine Wk.iload_n (q := 17) d2_16 rfl rfl ?_
  refine Wk.icmp_t (q := 57) d2_17 (by decide) (by decide) (XT.ii_eq_t rfl) ?_
  refine Wk.aload_n (q := 58) d2_57 rfl rfl (by first | rfl | assumption) ?_
  refine Wk.areturn (t := (.array .byte)) d2_58 rfl rfl (by first | rfl | exact narO | exact narA) (by first | rfl | assumption) ?_
  exact ⟨_, rfl, b, rfl, rfl⟩
set_option maxHeartbeats 4000000 in
theorem ct_strInit4 {l : Launch} {Z : State} {a0 : Array Value} (hw : ∀ d ∈ tables_1, d.before a0 Z = true) (hE : EW Z a0 EL0) (F : ∃ z, z ≠ (0 : Int32) ∧ Sta Z Z.heap "java/lang/String" "COMPACT_STRINGS" "Z" (.int z)) {L : Store} {sa ca : Addr} {fa : Bool} {cs : List Int32} (hc : Lat cs) (h0 : cs ≠ []) (N : Nat) (hN : cs.length ≤ N) (hl : cs.length ≤ 4000) (hm : (ca, fa, AR Z .char (cs.map .int)) ∈ L) :
    Ct l Z EL0 (⟨"java/lang/String", "<init>", "([CIILjava/lang/Void;)V"⟩ : MethodName) jdk_42_method_149_code 6 none ({ frames := 2, cells := 1, slots := N, locals := 35 } : Room) #[.ref sa, .ref ca, .int 0, .int cs.length.toInt32, .null] ((sa, true, OB Z "java/lang/String" layS [.null, .int 0]) :: L) (R0 fun M => ∃ b, M = (sa, true, OB Z "java/lang/String" layS [.ref b, .int 0]) :: (b, true, AR Z .byte ((cs.map b8).map .int)) :: L) := by
  have h31 : cs.length < 2 ^ 31 := by omega
  have hp : 0 < cs.length := List.length_pos_iff.mpr h0
  obtain ⟨z, hz, FS⟩ := F
  refine Ct.of (a0 := a0) (Ls := [.val (.ref _), .val (.ref _), .val (.int _), .val (.int _), .val .null, .unset]) (plainFor_of_name pn_1) (fun m => ef_rriin_6 m _ _ _ _) hE ?_
  refine Wk.aload_n (q := 1) d3_0 rfl rfl (by first | rfl | assumption) ?_
  refine Wk.objinit (q := 4) 0 d3_1 rfl (hw _ (List.mem_of_getElem? (i := 21) rfl)) (hw _ (List.mem_of_getElem? (i := 22) rfl)) (hw _ (List.mem_of_getElem? (i := 23) rfl)) rfl (by first | decide | (dsimp only; omega) | omega) rfl (by first | decide | (dsimp only; omega) | omega) ?_
  refine Wk.iload_n (q := 5) d3_4 rfl rfl ?_
  refine Wk.if_t (q := 27) d3_5 (by decide) (by decide) (XT.i0_ne_t (fun h => by have := (n32_inj h31 (by omega : 0 < 2 ^ 31)).mp h; omega)) ?_
  refine Wk.getstatic (q := 30) d3_27 rfl (hw _ (List.mem_of_getElem? (i := 43) rfl)) Via.refl FS ?_
  refine Wk.if_f (q := 33) d3_30 rfl (XT.i0_eq_f hz) ?_
  refine Wk.aload_n (q := 34) d3_33 rfl rfl (by first | rfl | assumption) ?_
  refine Wk.iload_n (q := 35) d3_34 rfl rfl ?_
  refine Wk.iload_n (q := 36) d3_35 rfl rfl ?_
  refine Wk.static (q := 39) [_, _, _] _ 0 d3_36 rfl (hw _ (List.mem_of_getElem? (i := 44) rfl)) (hw _ (List.mem_of_getElem? (i := 45) rfl)) (hw _ (List.mem_of_getElem? (i := 46) rfl)) (hw _ (List.mem_of_getElem? (i := 47) rfl)) ar_1 (by decide) rfl rfl rfl rfl (ct_compressA hw hE hc N hN hl (List.mem_cons_of_mem _ hm)) (by first | decide | (dsimp only; omega) | omega) (by first | decide | (dsimp only; omega) | omega) (by first | decide | (dsimp only; omega) | omega) (by first | decide | (dsimp only; omega) | omega) (kv ?_)
  rintro _ _ ⟨b, rfl, rfl⟩
  refine Wk.astore (q := 41) d3_39 rfl (by first | rfl | assumption) (LS1.there (LS1.there (LS1.there (LS1.there (LS1.there (LS1.here (by first | exact One.u | exact One.val rfl | assumption))))))) ?_
  refine Wk.aload_n (q := 42) d3_41 rfl rfl (by first | rfl | assumption) ?_
  refine Wk.aload (q := 44) d3_42 rfl rfl (by first | rfl | assumption) ?_
  refine Wk.iload_n (q := 45) d3_44 rfl rfl ?_
  rw [show cs.length = ((cs.map b8).map Value.int).length by simp]
  refine Wk.static (q := 48) [_, _] _ 1 d3_45 rfl (hw _ (List.mem_of_getElem? (i := 51) rfl)) (hw _ (List.mem_of_getElem? (i := 52) rfl)) (hw _ (List.mem_of_getElem? (i := 46) rfl)) (hw _ (List.mem_of_getElem? (i := 53) rfl)) ar_2 (by decide) rfl rfl rfl rfl (ct_coderLat hw hE List.mem_cons_self) (by first | decide | (dsimp only; omega) | omega) (by first | decide | (dsimp only; omega) | omega) (by first | decide | (dsimp only; omega) | omega) (by first | decide | (dsimp only; omega) | omega) (kv ?_)
  rintro _ _ ⟨rfl, rfl⟩
  refine Wk.putfield (q := 51) (C := "java/lang/String") (lay := layS) 1 d3_48 rfl (hw _ (List.mem_of_getElem? (i := 31) rfl)) Via.refl (layS_ok hw) (hw _ (List.mem_of_getElem? (i := 11) rfl)) (Or.inr ⟨(hw _ (List.mem_of_getElem? (i := 27) rfl)), rfl, rfl⟩) rfl (by decide +kernel : parseFieldDescriptor "B" = some .byte) (by repeat (first | exact Ex.here | assumption | apply Ex.there)) (VS.there (VS.here)) (by first | rfl | exact narO) (by first | rfl | exact fitO (by assumption) | exact fitA (by assumption)) ?_
  refine Wk.aload_n (q := 52) d3_51 rfl rfl (by first | rfl | assumption) ?_
  refine Wk.aload (q := 54) d3_52 rfl rfl (by first | rfl | assumption) ?_
  refine Wk.putfield (q := 57) (C := "java/lang/String") (lay := layS) 0 d3_54 rfl (hw _ (List.mem_of_getElem? (i := 30) rfl)) Via.refl (layS_ok hw) (hw _ (List.mem_of_getElem? (i := 11) rfl)) (Or.inr ⟨(hw _ (List.mem_of_getElem? (i := 26) rfl)), rfl, rfl⟩) rfl (by decide +kernel : parseFieldDescriptor "[B" = some (.array .byte)) (by repeat (first | exact Ex.here | assumption | apply Ex.there)) (VS.here) (by first | rfl | exact narO) (by first | rfl | exact fitO (by assumption) | exact fitA (by assumption)) ?_
  refine Wk.return_ d3_57 rfl ?_
  exact ⟨rfl, b, rfl⟩
set_option maxHeartbeats 4000000 in
theorem ct_strInit {l : Launch} {Z : State} {a0 : Array Value} (hw : ∀ d ∈ tables_1, d.before a0 Z = true) (hE : EW Z a0 EL0) (F : ∃ z, z ≠ (0 : Int32) ∧ Sta Z Z.heap "java/lang/String" "COMPACT_STRINGS" "Z" (.int z)) {L : Store} {sa ca : Addr} {fa : Bool} {cs : List Int32} (hc : Lat cs) (h0 : cs ≠ []) (N : Nat) (hN : cs.length ≤ N) (hl : cs.length ≤ 4000) (hm : (ca, fa, AR Z .char (cs.map .int)) ∈ L) :
    Ct l Z EL0 (⟨"java/lang/String", "<init>", "([C)V"⟩ : MethodName) jdk_42_method_3_code 2 none ({ frames := 3, cells := 1, slots := N, locals := 52 } : Room) #[.ref sa, .ref ca] ((sa, true, OB Z "java/lang/String" layS [.null, .int 0]) :: L) (R0 fun M => ∃ b, M = (sa, true, OB Z "java/lang/String" layS [.ref b, .int 0]) :: (b, true, AR Z .byte ((cs.map b8).map .int)) :: L) := by
  refine Ct.of (a0 := a0) (Ls := [.val (.ref _), .val (.ref _)]) (plainFor_of_name pn_1) (fun m => ef_rr_2 m _ _) hE ?_
  refine Wk.aload_n (q := 1) d4_0 rfl rfl (by first | rfl | assumption) ?_
  refine Wk.aload_n (q := 2) d4_1 rfl rfl (by first | rfl | assumption) ?_
  refine Wk.iconst (q := 3) (0) d4_2 rfl (by decide) ?_
  refine Wk.aload_n (q := 4) d4_3 rfl rfl (by first | rfl | assumption) ?_
  refine Wk.arraylength (q := 5) d4_4 rfl (by repeat (first | exact List.mem_cons_self | assumption | refine List.mem_cons_of_mem _ ?_)) (show (cs.map Value.int).length.toInt32 = cs.length.toInt32 by simp) ?_
  refine Wk.aconst_null (q := 6) d4_5 rfl ?_
  refine Wk.special (q := 9) [_, _, _, _] _ 0 d4_6 rfl rfl (hw _ (List.mem_of_getElem? (i := 17) rfl)) (hw _ (List.mem_of_getElem? (i := 18) rfl)) (hw _ (List.mem_of_getElem? (i := 12) rfl)) (hw _ (List.mem_of_getElem? (i := 20) rfl)) ar_3 (by decide) rfl rfl rfl rfl (ct_strInit4 hw hE F hc h0 N hN hl hm) (by first | decide | (dsimp only; omega) | omega) (by first | decide | (dsimp only; omega) | omega) (by first | decide | (dsimp only; omega) | omega) (by first | decide | (dsimp only; omega) | omega) (k0 ?_)
  rintro _ ⟨b, rfl⟩
  refine Wk.return_ d4_9 rfl ?_
  exact ⟨rfl, b, rfl⟩

set_option maxHeartbeats 4000000 in
theorem ct_strInit4e {l : Launch} {Z : State} {a0 : Array Value} (hw : ∀ d ∈ tables_1, d.before a0 Z = true) (hE : EW Z a0 EL0) {L : Store} {sa ca : Addr} :
    Ct l Z EL0 (⟨"java/lang/String", "<init>", "([CIILjava/lang/Void;)V"⟩ : MethodName) jdk_42_method_149_code 6 none ({ frames := 2, cells := 4, slots := 8, locals := 35 } : Room) #[.ref sa, .ref ca, .int 0, .int 0, .null] ((sa, true, OB Z "java/lang/String" layS [.null, .int 0]) :: L) (R0 fun M => ∃ b, M = (sa, true, OB Z "java/lang/String" layS [.ref b, .int 0]) :: (b, false, AR Z .byte []) :: L) := by
  refine Ct.of (a0 := a0) (Ls := [.val (.ref _), .val (.ref _), .val (.int _), .val (.int _), .val .null, .unset]) (plainFor_of_name pn_1) (fun m => ef_rriin_6 m _ _ _ _) hE ?_
  refine Wk.aload_n (q := 1) d3_0 rfl rfl (by first | rfl | assumption) ?_
  refine Wk.objinit (q := 4) 0 d3_1 rfl (hw _ (List.mem_of_getElem? (i := 21) rfl)) (hw _ (List.mem_of_getElem? (i := 22) rfl)) (hw _ (List.mem_of_getElem? (i := 23) rfl)) rfl (by first | decide | (dsimp only; omega) | omega) rfl (by first | decide | (dsimp only; omega) | omega) ?_
  refine Wk.iload_n (q := 5) d3_4 rfl rfl ?_
  refine Wk.if_f (q := 8) d3_5 rfl (by decide) ?_
  refine Wk.aload_n (q := 9) d3_8 rfl rfl (by first | rfl | assumption) ?_
  refine Wk.ldcS (q := 11) 0 [] 0 d3_9 rfl (hw _ (List.mem_of_getElem? (i := 24) rfl)) (wS hw) (by decide +kernel) (by decide +kernel) (by decide) (by decide) (by decide +kernel) (by decide) (by first | decide | (dsimp only; omega) | omega) (by first | decide | (dsimp only; omega) | omega) ?_
  intro t1 b1
  refine Wk.getfield (q := 14) (C := "java/lang/String") (lay := layS) 0 d3_11 rfl (hw _ (List.mem_of_getElem? (i := 30) rfl)) Via.refl (by repeat (first | exact List.mem_cons_self | assumption | refine List.mem_cons_of_mem _ ?_)) rfl (by rfl) ?_
  refine Wk.putfield (q := 17) (C := "java/lang/String") (lay := layS) 0 d3_14 rfl (hw _ (List.mem_of_getElem? (i := 30) rfl)) Via.refl (layS_ok hw) (hw _ (List.mem_of_getElem? (i := 11) rfl)) (Or.inr ⟨(hw _ (List.mem_of_getElem? (i := 26) rfl)), rfl, rfl⟩) rfl (by decide +kernel : parseFieldDescriptor "[B" = some (.array .byte)) (by repeat (first | exact Ex.here | assumption | apply Ex.there)) (VS.here) (by first | rfl | exact narO) (by first | rfl | exact fitO (by assumption) | exact fitA (by assumption)) ?_
  refine Wk.aload_n (q := 18) d3_17 rfl rfl (by first | rfl | assumption) ?_
  refine Wk.ldcS (q := 20) 0 [] 0 d3_18 rfl (hw _ (List.mem_of_getElem? (i := 24) rfl)) (wS hw) (by decide +kernel) (by decide +kernel) (by decide) (by decide) (by decide +kernel) (by decide) (by first | decide | (dsimp only; omega) | omega) (by first | decide | (dsimp only; omega) | omega) ?_
  intro t2 b2
  refine Wk.getfield (q := 23) (C := "java/lang/String") (lay := layS) 1 d3_20 rfl (hw _ (List.mem_of_getElem? (i := 31) rfl)) Via.refl (by repeat (first | exact List.mem_cons_self | assumption | refine List.mem_cons_of_mem _ ?_)) rfl (by rfl) ?_
  refine Wk.putfield (q := 26) (C := "java/lang/String") (lay := layS) 1 d3_23 rfl (hw _ (List.mem_of_getElem? (i := 31) rfl)) Via.refl (layS_ok hw) (hw _ (List.mem_of_getElem? (i := 11) rfl)) (Or.inr ⟨(hw _ (List.mem_of_getElem? (i := 27) rfl)), rfl, rfl⟩) rfl (by decide +kernel : parseFieldDescriptor "B" = some .byte) (by repeat (first | exact Ex.here | assumption | apply Ex.there)) (VS.there (VS.here)) (by first | rfl | exact narO) (by first | rfl | exact fitO (by assumption) | exact fitA (by assumption)) ?_
  refine Wk.sub (.cons_cons _ (.cons _ (.cons _ (.cons _ (.refl _))))) ?_
  refine Wk.return_ d3_26 rfl ?_
  exact ⟨rfl, b1, rfl⟩
set_option maxHeartbeats 4000000 in
theorem ct_strInitG {l : Launch} {Z : State} {a0 : Array Value} (hw : ∀ d ∈ tables_1, d.before a0 Z = true) (hE : EW Z a0 EL0) (F : ∃ z, z ≠ (0 : Int32) ∧ Sta Z Z.heap "java/lang/String" "COMPACT_STRINGS" "Z" (.int z)) {L : Store} {sa ca : Addr} {fa : Bool} {cs : List Int32} (hc : Lat cs) (N : Nat) (hN : cs.length ≤ N) (hl : cs.length ≤ 4000) (hm : (ca, fa, AR Z .char (cs.map .int)) ∈ L) :
    Ct l Z EL0 (⟨"java/lang/String", "<init>", "([C)V"⟩ : MethodName) jdk_42_method_3_code 2 none ({ frames := 3, cells := 4, slots := N + 8, locals := 52 } : Room) #[.ref sa, .ref ca] ((sa, true, OB Z "java/lang/String" layS [.null, .int 0]) :: L) (R0 fun M => ∃ b fb, M = (sa, true, OB Z "java/lang/String" layS [.ref b, .int 0]) :: (b, fb, AR Z .byte ((cs.map b8).map .int)) :: L) := by
  refine Ct.of (a0 := a0) (Ls := [.val (.ref _), .val (.ref _)]) (plainFor_of_name pn_1) (fun m => ef_rr_2 m _ _) hE ?_
  refine Wk.aload_n (q := 1) d4_0 rfl rfl (by first | rfl | assumption) ?_
  refine Wk.aload_n (q := 2) d4_1 rfl rfl (by first | rfl | assumption) ?_
  refine Wk.iconst (q := 3) (0) d4_2 rfl (by decide) ?_
  refine Wk.aload_n (q := 4) d4_3 rfl rfl (by first | rfl | assumption) ?_
  refine Wk.arraylength (q := 5) d4_4 rfl (by repeat (first | exact List.mem_cons_self | assumption | refine List.mem_cons_of_mem _ ?_)) (show (cs.map Value.int).length.toInt32 = cs.length.toInt32 by simp) ?_
  refine Wk.aconst_null (q := 6) d4_5 rfl ?_
  by_cases h0 : cs = []
  · subst h0
    refine Wk.special (q := 9) [_, _, _, _] _ 0 d4_6 rfl rfl (hw _ (List.mem_of_getElem? (i := 17) rfl)) (hw _ (List.mem_of_getElem? (i := 18) rfl)) (hw _ (List.mem_of_getElem? (i := 12) rfl)) (hw _ (List.mem_of_getElem? (i := 20) rfl)) ar_3 (by decide) rfl rfl rfl rfl (ct_strInit4e hw hE) (by first | decide | (dsimp only; omega) | omega) (by first | decide | (dsimp only; omega) | omega) (by first | decide | (dsimp only; omega) | omega) (by first | decide | (dsimp only; omega) | omega) (k0 ?_)
    rintro _ ⟨b, rfl⟩
    refine Wk.return_ d4_9 rfl ?_
    exact ⟨rfl, b, false, rfl⟩
  · refine Wk.special (q := 9) [_, _, _, _] _ 0 d4_6 rfl rfl (hw _ (List.mem_of_getElem? (i := 17) rfl)) (hw _ (List.mem_of_getElem? (i := 18) rfl)) (hw _ (List.mem_of_getElem? (i := 12) rfl)) (hw _ (List.mem_of_getElem? (i := 20) rfl)) ar_3 (by decide) rfl rfl rfl rfl (ct_strInit4 hw hE F hc h0 N hN hl hm) (by first | decide | (dsimp only; omega) | omega) (by first | decide | (dsimp only; omega) | omega) (by first | decide | (dsimp only; omega) | omega) (by first | decide | (dsimp only; omega) | omega) (k0 ?_)
    rintro _ ⟨b, rfl⟩
    refine Wk.return_ d4_9 rfl ?_
    exact ⟨rfl, b, true, rfl⟩

theorem b8_back {c : Int32} (h : 0 ≤ c.toInt ∧ c.toInt < 256) : b8 c &&& 255 = c := by
  apply Int32.toInt_inj.mp
  have a := c_mask (b8 c) 255 8 (by decide) (by decide)
  have b := b8_toInt h
  simp only [pw0, pw1, pw8, pw31] at a
  rw [a, b]
  split <;> omega
theorem shr0 (x : Int32) : x >>> ((0 : Int32) &&& 31) = x := by
  apply Int32.toInt_inj.mp
  have a := c_ishr x 0 0 (by decide)
  simp only [pw0, pw1, pw8, pw31] at a
  omega
theorem shr1 {n : Nat} (h : n < 1000000) : (2 * n).toInt32 >>> ((1 : Int32) &&& 31) = n.toInt32 := by
  apply Int32.toInt_inj.mp
  have a := c_ishr (2 * n).toInt32 1 1 (by decide)
  rw [n32 (show 2 * n < 2 ^ 31 by omega)] at a
  rw [n32 (show n < 2 ^ 31 by omega)]
  simp only [pw0, pw1, pw8, pw31] at a
  omega
theorem ct_coder {l : Launch} {Z : State} {a0 : Array Value} (hw : ∀ d ∈ tables_1, d.before a0 Z = true) (hE : EW Z a0 EL0) (F : ∃ z, z ≠ (0 : Int32) ∧ Sta Z Z.heap "java/lang/String" "COMPACT_STRINGS" "Z" (.int z)) {L : Store} {s b : Addr} {f : Bool} {k : Int32} (hk : k = 0 ∨ k = 1) (hs : (s, f, OB Z "java/lang/String" layS [.ref b, .int k]) ∈ L) :
    Ct l Z EL0 (⟨"java/lang/String", "coder", "()B"⟩ : MethodName) jdk_42_method_152_code 1 (some .byte) ({ frames := 0, cells := 0, slots := 0, locals := 0 } : Room) #[.ref s] L (RV fun u M => u = .int k ∧ M = L) := by
  obtain ⟨z, hz, FS⟩ := F
  refine Ct.of (a0 := a0) (Ls := [.val (.ref _)]) (plainFor_of_name pn_1) (fun m => ef_r_1 m _) hE ?_
  refine Wk.getstatic (q := 3) d5_0 rfl (hw _ (List.mem_of_getElem? (i := 43) rfl)) Via.refl FS ?_
  refine Wk.if_f (q := 6) d5_3 rfl (XT.i0_eq_f hz) ?_
  refine Wk.aload_n (q := 7) d5_6 rfl rfl (by first | rfl | assumption) ?_
  refine Wk.getfield (q := 10) (C := "java/lang/String") (lay := layS) 1 d5_7 rfl (hw _ (List.mem_of_getElem? (i := 31) rfl)) Via.refl (by repeat (first | exact List.mem_cons_self | assumption | refine List.mem_cons_of_mem _ ?_)) rfl (by rfl) ?_
  refine Wk.goto (q := 14) d5_10 (by decide) (by decide) ?_
  refine Wk.ireturn (t := .byte) d5_14 rfl (by simp) (by rcases hk with rfl | rfl <;> decide) ?_
  exact ⟨_, rfl, rfl, rfl⟩
theorem ct_len {l : Launch} {Z : State} {a0 : Array Value} (hw : ∀ d ∈ tables_1, d.before a0 Z = true) (hE : EW Z a0 EL0) (F : ∃ z, z ≠ (0 : Int32) ∧ Sta Z Z.heap "java/lang/String" "COMPACT_STRINGS" "Z" (.int z)) {L : Store} {s b : Addr} {f fb : Bool} {k : Int32} {vs : List Value} (hk : k = 0 ∨ k = 1) (hs : (s, f, OB Z "java/lang/String" layS [.ref b, .int k]) ∈ L) (hb : (b, fb, AR Z .byte vs) ∈ L) :
    Ct l Z EL0 (⟨"java/lang/String", "length", "()I"⟩ : MethodName) jdk_42_method_54_code 1 (some .int) ({ frames := 1, cells := 0, slots := 0, locals := 13 } : Room) #[.ref s] L (RV fun u M => u = .int (vs.length.toInt32 >>> (k &&& 31)) ∧ M = L) := by
  refine Ct.of (a0 := a0) (Ls := [.val (.ref _)]) (plainFor_of_name pn_1) (fun m => ef_r_1 m _) hE ?_
  refine Wk.aload_n (q := 1) d6_0 rfl rfl (by first | rfl | assumption) ?_
  refine Wk.getfield (q := 4) (C := "java/lang/String") (lay := layS) 0 d6_1 rfl (hw _ (List.mem_of_getElem? (i := 30) rfl)) Via.refl (by repeat (first | exact List.mem_cons_self | assumption | refine List.mem_cons_of_mem _ ?_)) rfl (by rfl) ?_
  refine Wk.arraylength (q := 5) d6_4 rfl (by repeat (first | exact List.mem_cons_self | assumption | refine List.mem_cons_of_mem _ ?_)) (by rfl) ?_
  refine Wk.aload_n (q := 6) d6_5 rfl rfl (by first | rfl | assumption) ?_
  refine Wk.virtual (q := 9) (C := "java/lang/String") [] _ 1 d6_6 rfl (hw _ (List.mem_of_getElem? (i := 59) rfl)) (hw _ (List.mem_of_getElem? (i := 60) rfl)) (hw _ (List.mem_of_getElem? (i := 62) rfl)) (hw _ (List.mem_of_getElem? (i := 61) rfl)) (hw _ (List.mem_of_getElem? (i := 12) rfl)) (hw _ (List.mem_of_getElem? (i := 63) rfl)) ar_4 (by decide) (nfSel (hw _ (List.mem_of_getElem? (i := 62) rfl))) (by repeat (first | exact List.mem_cons_self | assumption | refine List.mem_cons_of_mem _ ?_)) rfl rfl rfl rfl (ct_coder hw hE F hk hs) (by first | decide | (dsimp only; omega) | omega) (by first | decide | (dsimp only; omega) | omega) (by first | decide | (dsimp only; omega) | omega) (by first | decide | (dsimp only; omega) | omega) (kv ?_)
  rintro _ _ ⟨rfl, rfl⟩
  refine Wk.ishr (q := 10) d6_9 rfl ?_
  refine Wk.ireturn (t := .int) d6_10 rfl (by simp) (by rfl) ?_
  exact ⟨_, rfl, rfl, rfl⟩
theorem ct_lenL {l : Launch} {Z : State} {a0 : Array Value} (hw : ∀ d ∈ tables_1, d.before a0 Z = true) (hE : EW Z a0 EL0) (F : ∃ z, z ≠ (0 : Int32) ∧ Sta Z Z.heap "java/lang/String" "COMPACT_STRINGS" "Z" (.int z)) {L : Store} {s b : Addr} {f fb : Bool} {xs : List Int32} (hs : (s, f, OB Z "java/lang/String" layS [.ref b, .int 0]) ∈ L) (hb : (b, fb, AR Z .byte (xs.map .int)) ∈ L) :
    Ct l Z EL0 (⟨"java/lang/String", "length", "()I"⟩ : MethodName) jdk_42_method_54_code 1 (some .int) ({ frames := 1, cells := 0, slots := 0, locals := 13 } : Room) #[.ref s] L (RV fun u M => u = .int xs.length.toInt32 ∧ M = L) :=
  Ct.imp (fun v M ⟨u, h1, h2, h3⟩ => ⟨u, h1, by rw [h2, shr0]; simp, h3⟩) (ct_len hw hE F (Or.inl rfl) hs hb)

/-- the formatter of the bounds' faults -/
def FO (Z : State) : Prop := ∃ w : Value, w.isRef = true ∧ Sta Z Z.heap "jdk/internal/util/Preconditions" "SIOOBE_FORMATTER" "Ljava/util/function/BiFunction;" w
theorem FO_of {Z : State} {args : Array Value} (h1 : (Jvm.Cond.initializedFor "jdk/internal/util/Preconditions" "SIOOBE_FORMATTER" "Ljava/util/function/BiFunction;").before args Z = true) (h2 : (Jvm.Cond.isRef (Term.static "jdk/internal/util/Preconditions" "SIOOBE_FORMATTER" "Ljava/util/function/BiFunction;")).before args Z = true) : FO Z := by
  obtain ⟨w, ev, hr⟩ := isR_v (Cond.before_iff.mp h2)
  exact ⟨w, hr, Sta.start (args := args) ev (Or.inl h1)⟩
theorem ct_isLat {l : Launch} {Z : State} {a0 : Array Value} (hw : ∀ d ∈ tables_1, d.before a0 Z = true) (hE : EW Z a0 EL0) (F : ∃ z, z ≠ (0 : Int32) ∧ Sta Z Z.heap "java/lang/String" "COMPACT_STRINGS" "Z" (.int z)) {L : Store} {s b : Addr} {f : Bool} {k : Int32} (hk : k = 0 ∨ k = 1) (hs : (s, f, OB Z "java/lang/String" layS [.ref b, .int k]) ∈ L) :
    Ct l Z EL0 (⟨"java/lang/String", "isLatin1", "()Z"⟩ : MethodName) jdk_42_method_154_code 1 (some .boolean) ({ frames := 0, cells := 0, slots := 0, locals := 0 } : Room) #[.ref s] L (RV fun u M => u = .int (1 - k) ∧ M = L) := by
  obtain ⟨z, hz, FS⟩ := F
  refine Ct.of (a0 := a0) (Ls := [.val (.ref _)]) (plainFor_of_name pn_1) (fun m => ef_r_1 m _) hE ?_
  refine Wk.getstatic (q := 3) d7_0 rfl (hw _ (List.mem_of_getElem? (i := 43) rfl)) Via.refl FS ?_
  refine Wk.if_f (q := 6) d7_3 rfl (XT.i0_eq_f hz) ?_
  refine Wk.aload_n (q := 7) d7_6 rfl rfl (by first | rfl | assumption) ?_
  refine Wk.getfield (q := 10) (C := "java/lang/String") (lay := layS) 1 d7_7 rfl (hw _ (List.mem_of_getElem? (i := 31) rfl)) Via.refl (by repeat (first | exact List.mem_cons_self | assumption | refine List.mem_cons_of_mem _ ?_)) rfl (by rfl) ?_
  rcases hk with rfl | rfl
  · refine Wk.if_f (q := 13) d7_10 rfl (by decide) ?_
    refine Wk.iconst (q := 14) (1) d7_13 rfl (by decide) ?_
    refine Wk.goto (q := 18) d7_14 (by decide) (by decide) ?_
    refine Wk.ireturn (t := .boolean) d7_18 rfl (by simp) (by rfl) ?_
    exact ⟨_, rfl, by decide, rfl⟩
  · refine Wk.if_t (q := 17) d7_10 (by decide) (by decide) (by decide) ?_
    refine Wk.iconst (q := 18) (0) d7_17 rfl (by decide) ?_
    refine Wk.ireturn (t := .boolean) d7_18 rfl (by simp) (by rfl) ?_
    exact ⟨_, rfl, by decide, rfl⟩
theorem ct_preIdx {l : Launch} {Z : State} {a0 : Array Value} (hw : ∀ d ∈ tables_1, d.before a0 Z = true) (hE : EW Z a0 EL0) {L : Store} {i n : Int32} {w : Value} (hr : w.isRef = true) (h0 : ¬ i < 0) (h1 : i < n) : Ct l Z EL0 (⟨"jdk/internal/util/Preconditions", "checkIndex", "(IILjava/util/function/BiFunction;)I"⟩ : MethodName) jdk_41_method_11_code 3 (some .int) ({ frames := 0, cells := 0, slots := 0, locals := 0 } : Room) #[.int i, .int n, w] L (RV fun u M => u = .int i ∧ M = L) := by
  refine Ct.of (a0 := a0) (Ls := [.val (.int _), .val (.int _), .val _]) (plainFor_of_name pn_2) (fun m => ef_iiv_3 m _ _ _ (by assumption)) hE ?_
  refine Wk.iload_n (q := 1) d8_0 rfl rfl ?_
  refine Wk.if_f (q := 4) d8_1 rfl (XT.i0_lt_f h0) ?_
  refine Wk.iload_n (q := 5) d8_4 rfl rfl ?_
  refine Wk.iload_n (q := 6) d8_5 rfl rfl ?_
  refine Wk.icmp_t (q := 16) d8_6 (by decide) (by decide) (XT.ii_lt_t h1) ?_
  refine Wk.iload_n (q := 17) d8_16 rfl rfl ?_
  refine Wk.ireturn (t := .int) d8_17 rfl (by simp) (by rfl) ?_
  exact ⟨_, rfl, rfl, rfl⟩
theorem ct_strIdx {l : Launch} {Z : State} {a0 : Array Value} (hw : ∀ d ∈ tables_1, d.before a0 Z = true) (hE : EW Z a0 EL0) (hO : FO Z) {L : Store} {i n : Int32} (h0 : ¬ i < 0) (h1 : i < n) : Ct l Z EL0 (⟨"java/lang/String", "checkIndex", "(II)V"⟩ : MethodName) jdk_42_method_155_code 2 none ({ frames := 1, cells := 0, slots := 0, locals := 14 } : Room) #[.int i, .int n] L (R0 fun M => M = L) := by
  obtain ⟨w, hr, sta_SIOOBE_FORMATTER⟩ := hO
  refine Ct.of (a0 := a0) (Ls := [.val (.int _), .val (.int _)]) (plainFor_of_name pn_1) (fun m => ef_ii_2 m _ _) hE ?_
  refine Wk.iload_n (q := 1) d9_0 rfl rfl ?_
  refine Wk.iload_n (q := 2) d9_1 rfl rfl ?_
  refine Wk.getstatic (q := 5) d9_2 rfl (hw _ (List.mem_of_getElem? (i := 81) rfl)) Via.refl sta_SIOOBE_FORMATTER ?_
  refine Wk.static (q := 8) [_, _, _] _ 0 d9_5 rfl (hw _ (List.mem_of_getElem? (i := 83) rfl)) (hw _ (List.mem_of_getElem? (i := 84) rfl)) (hw _ (List.mem_of_getElem? (i := 82) rfl)) (hw _ (List.mem_of_getElem? (i := 85) rfl)) ar_5 (by decide) rfl rfl rfl rfl (ct_preIdx hw hE hr h0 h1) (by first | decide | (dsimp only; omega) | omega) (by first | decide | (dsimp only; omega) | omega) (by first | decide | (dsimp only; omega) | omega) (by first | decide | (dsimp only; omega) | omega) (kv ?_)
  rintro _ _ ⟨rfl, rfl⟩
  refine Wk.pop (q := 9) d9_8 rfl rfl ?_
  refine Wk.return_ d9_9 rfl ?_
  exact ⟨rfl, rfl⟩
theorem ct_latAt {l : Launch} {Z : State} {a0 : Array Value} (hw : ∀ d ∈ tables_1, d.before a0 Z = true) (hE : EW Z a0 EL0) (hO : FO Z) {L : Store} {b : Addr} {fb : Bool} {cs : List Int32} (hc : Lat cs) (hl : cs.length < 2 ^ 31) {i : Nat} (hi : i < cs.length) (hb : (b, fb, AR Z .byte ((cs.map b8).map .int)) ∈ L) : Ct l Z EL0 (⟨"java/lang/StringLatin1", "charAt", "([BI)C"⟩ : MethodName) jdk_43_method_2_code 2 (some .char) ({ frames := 2, cells := 0, slots := 0, locals := 27 } : Room) #[.ref b, .int i.toInt32] L (RV fun u M => u = .int cs[i] ∧ M = L) := by
  have h3 : i < 2 ^ 31 := by omega
  have hci := hc cs[i] (List.getElem_mem hi)
  refine Ct.of (a0 := a0) (Ls := [.val (.ref _), .val (.int _)]) (plainFor_of_name pn_3) (fun m => ef_ri_2 m _ _) hE ?_
  refine Wk.iload_n (q := 1) d10_0 rfl rfl ?_
  refine Wk.aload_n (q := 2) d10_1 rfl rfl (by first | rfl | assumption) ?_
  refine Wk.arraylength (q := 3) d10_2 rfl (by repeat (first | exact List.mem_cons_self | assumption | refine List.mem_cons_of_mem _ ?_)) (show ((cs.map b8).map Value.int).length.toInt32 = cs.length.toInt32 by simp) ?_
  refine Wk.static (q := 6) [_, _] _ 0 d10_3 rfl (hw _ (List.mem_of_getElem? (i := 78) rfl)) (hw _ (List.mem_of_getElem? (i := 79) rfl)) (hw _ (List.mem_of_getElem? (i := 12) rfl)) (hw _ (List.mem_of_getElem? (i := 80) rfl)) ar_6 (by decide) rfl rfl rfl rfl (ct_strIdx hw hE hO (n32_nn h3) ((n32_lt h3 hl).mpr hi)) (by first | decide | (dsimp only; omega) | omega) (by first | decide | (dsimp only; omega) | omega) (by first | decide | (dsimp only; omega) | omega) (by first | decide | (dsimp only; omega) | omega) (k0 ?_)
  rintro _ rfl
  refine Wk.aload_n (q := 7) d10_6 rfl rfl (by first | rfl | assumption) ?_
  refine Wk.iload_n (q := 8) d10_7 rfl rfl ?_
  refine Wk.baload (q := 9) (i) d10_8 rfl (by repeat (first | exact List.mem_cons_self | assumption | refine List.mem_cons_of_mem _ ?_)) (n32_nn h3) (n32_nat h3) (show ((cs.map b8).map Value.int)[i]? = some (.int (b8 cs[i])) by simp [hi]) ?_
  refine Wk.sipush (q := 12) (255) d10_9 rfl (by decide) ?_
  refine Wk.iand (q := 13) d10_12 rfl ?_
  refine Wk.i2c (q := 14) d10_13 rfl ?_
  rw [i2c_mask, b8_back hci]
  refine Wk.ireturn (t := .char) d10_14 rfl (by simp) (congrArg Value.int (nchar_lat hci)) ?_
  exact ⟨_, rfl, rfl, rfl⟩
theorem ct_atL {l : Launch} {Z : State} {a0 : Array Value} (hw : ∀ d ∈ tables_1, d.before a0 Z = true) (hE : EW Z a0 EL0) (F : ∃ z, z ≠ (0 : Int32) ∧ Sta Z Z.heap "java/lang/String" "COMPACT_STRINGS" "Z" (.int z)) (hO : FO Z) {L : Store} {s b : Addr} {f fb : Bool} {cs : List Int32} (hc : Lat cs) (hl : cs.length < 2 ^ 31) {i : Nat} (hi : i < cs.length) (hs : (s, f, OB Z "java/lang/String" layS [.ref b, .int 0]) ∈ L) (hb : (b, fb, AR Z .byte ((cs.map b8).map .int)) ∈ L) : Ct l Z EL0 (⟨"java/lang/String", "charAt", "(I)C"⟩ : MethodName) jdk_42_method_56_code 2 (some .char) ({ frames := 3, cells := 0, slots := 0, locals := 40 } : Room) #[.ref s, .int i.toInt32] L (RV fun u M => u = .int cs[i] ∧ M = L) := by
  have hci := hc cs[i] (List.getElem_mem hi)
  refine Ct.of (a0 := a0) (Ls := [.val (.ref _), .val (.int _)]) (plainFor_of_name pn_1) (fun m => ef_ri_2 m _ _) hE ?_
  refine Wk.aload_n (q := 1) d11_0 rfl rfl (by first | rfl | assumption) ?_
  refine Wk.virtual (q := 4) (C := "java/lang/String") [] _ 0 d11_1 rfl (hw _ (List.mem_of_getElem? (i := 69) rfl)) (hw _ (List.mem_of_getElem? (i := 70) rfl)) (hw _ (List.mem_of_getElem? (i := 72) rfl)) (hw _ (List.mem_of_getElem? (i := 71) rfl)) (hw _ (List.mem_of_getElem? (i := 12) rfl)) (hw _ (List.mem_of_getElem? (i := 73) rfl)) ar_7 (by decide) (nfSel (hw _ (List.mem_of_getElem? (i := 72) rfl))) (by repeat (first | exact List.mem_cons_self | assumption | refine List.mem_cons_of_mem _ ?_)) rfl rfl rfl rfl (ct_isLat hw hE F (Or.inl rfl) hs) (by first | decide | (dsimp only; omega) | omega) (by first | decide | (dsimp only; omega) | omega) (by first | decide | (dsimp only; omega) | omega) (by first | decide | (dsimp only; omega) | omega) (kv ?_)
  rintro _ _ ⟨rfl, rfl⟩
  refine Wk.if_f (q := 7) d11_4 rfl (by decide) ?_
  refine Wk.aload_n (q := 8) d11_7 rfl rfl (by first | rfl | assumption) ?_
  refine Wk.getfield (q := 11) (C := "java/lang/String") (lay := layS) 0 d11_8 rfl (hw _ (List.mem_of_getElem? (i := 30) rfl)) Via.refl (by repeat (first | exact List.mem_cons_self | assumption | refine List.mem_cons_of_mem _ ?_)) rfl (by rfl) ?_
  refine Wk.iload_n (q := 12) d11_11 rfl rfl ?_
  refine Wk.static (q := 15) [_, _] _ 0 d11_12 rfl (hw _ (List.mem_of_getElem? (i := 74) rfl)) (hw _ (List.mem_of_getElem? (i := 75) rfl)) (hw _ (List.mem_of_getElem? (i := 76) rfl)) (hw _ (List.mem_of_getElem? (i := 77) rfl)) ar_8 (by decide) rfl rfl rfl rfl (ct_latAt hw hE hO hc hl hi hb) (by first | decide | (dsimp only; omega) | omega) (by first | decide | (dsimp only; omega) | omega) (by first | decide | (dsimp only; omega) | omega) (by first | decide | (dsimp only; omega) | omega) (kv ?_)
  rintro _ _ ⟨rfl, rfl⟩
  refine Wk.ireturn (t := .char) d11_15 rfl (by simp) (congrArg Value.int (nchar_lat hci)) ?_
  exact ⟨_, rfl, rfl, rfl⟩

abbrev Dg (c : Int32) : Prop := ¬ c < 48 ∧ ¬ 57 < c
theorem dg_i (c : Int32) : Dg c ↔ 48 ≤ c.toInt ∧ c.toInt ≤ 57 := by
  unfold Dg
  rw [Int32.lt_iff_toInt_lt, Int32.lt_iff_toInt_lt]
  show ¬ _ < (48 : Int) ∧ ¬ (57 : Int) < _ ↔ _
  omega
abbrev Good (c : Int32) (x : Int64) : Prop := ¬ c - 48 < 0 ∧ ¬ 9 < c - 48 ∧ ¬ (9223372036854775807 - (c - 48).toInt64) / 10 < x
/-- what the loop of unixSeconds answers -/
def uo : List Int32 → Int64 → Int64
  | [], x => x
  | c :: cs, x => if Good c x then uo cs (x * 10 + (c - 48).toInt64) else -1
def vl : List Int32 → Int → Int
  | [], x => x
  | c :: cs, x => vl cs (x * 10 + (c.toInt - 48))
theorem good_dg {c : Int32} {x : Int64} (h0 : 0 ≤ c.toInt) (h : Good c x) : Dg c := by
  obtain ⟨h1, h2, _⟩ := h
  rw [Int32.lt_iff_toInt_lt] at h1 h2
  have a := c_isub c 48
  have e : (48 : Int32).toInt = 48 := by decide
  have r := rng32 (c - 48)
  have r' := rng32 c
  rw [e] at a
  have q1 : ¬ (c - 48).toInt < 0 := h1
  have q2 : ¬ (9 : Int) < (c - 48).toInt := h2
  rw [dg_i]
  omega
theorem sub48 {c : Int32} (h : Dg c) : (c - 48).toInt = c.toInt - 48 ∧ (c - 48).toInt64.toInt = c.toInt - 48 := by
  have a := c_isub c 48
  have e : (48 : Int32).toInt = 48 := by decide
  have r := rng32 (c - 48)
  rw [e] at a
  have q := (dg_i c).mp h
  have q2 : (c - 48).toInt = c.toInt - 48 := by omega
  exact ⟨q2, by rw [c_i2l, q2]⟩
theorem good_iff {c : Int32} {x : Int64} (hd : Dg c) (hx : 0 ≤ x.toInt) : Good c x ↔ x.toInt * 10 + (c.toInt - 48) ≤ 9223372036854775807 := by
  obtain ⟨e1, e2⟩ := sub48 hd
  have q := (dg_i c).mp hd
  have a1 := c_lsub 9223372036854775807 (c - 48).toInt64
  have r1 := rng64 (9223372036854775807 - (c - 48).toInt64)
  have k : (9223372036854775807 : Int64).toInt = 9223372036854775807 := by decide
  have a2 := (c_ldiv (9223372036854775807 - (c - 48).toInt64) 10 10 (by decide) (by decide)).1
  rw [k, e2] at a1
  unfold Good
  rw [Int32.lt_iff_toInt_lt, Int32.lt_iff_toInt_lt, Int64.lt_iff_toInt_lt, e1]
  show ¬ c.toInt - 48 < (0 : Int) ∧ ¬ (9 : Int) < c.toInt - 48 ∧ _ ↔ _
  have a3 := a2 (by omega)
  rw [a3]
  omega
theorem step_v {c : Int32} {x : Int64} (hd : Dg c) (hx : 0 ≤ x.toInt) (h : x.toInt * 10 + (c.toInt - 48) ≤ 9223372036854775807) : (x * 10 + (c - 48).toInt64).toInt = x.toInt * 10 + (c.toInt - 48) := by
  obtain ⟨e1, e2⟩ := sub48 hd
  have q := (dg_i c).mp hd
  have a1 := c_lmul x 10
  have a2 := c_ladd (x * 10) (c - 48).toInt64
  have k : (10 : Int64).toInt = 10 := by decide
  have r1 := rng64 (x * 10)
  have r2 := rng64 (x * 10 + (c - 48).toInt64)
  rw [k] at a1
  rw [e2] at a2
  omega
theorem vl_ge : ∀ (cs : List Int32) (x : Int), (∀ c ∈ cs, Dg c) → 0 ≤ x → x ≤ vl cs x := by
  intro cs
  induction cs with
  | nil => intro x _ _; exact Int.le_refl _
  | cons c cs ih =>
    intro x h hx
    have q := (dg_i c).mp (h c List.mem_cons_self)
    have := ih (x * 10 + (c.toInt - 48)) (fun d hd => h d (List.mem_cons_of_mem _ hd)) (by omega)
    show x ≤ vl cs (x * 10 + (c.toInt - 48))
    omega
theorem uo_val : ∀ (cs : List Int32) (x : Int64), (∀ c ∈ cs, Dg c) → 0 ≤ x.toInt → vl cs x.toInt ≤ 9223372036854775807 → (uo cs x).toInt = vl cs x.toInt := by
  intro cs
  induction cs with
  | nil => intro x _ _ _; rfl
  | cons c cs ih =>
    intro x h hx hv
    have hd := h c List.mem_cons_self
    have q := (dg_i c).mp hd
    have ht : ∀ d ∈ cs, Dg d := fun d hd => h d (List.mem_cons_of_mem _ hd)
    have g := vl_ge cs (x.toInt * 10 + (c.toInt - 48)) ht (by omega)
    have hv' : vl cs (x.toInt * 10 + (c.toInt - 48)) ≤ 9223372036854775807 := hv
    have hs := step_v hd hx (by omega)
    rw [uo, if_pos ((good_iff hd hx).mpr (by omega)), ih _ ht (by omega) (by rw [hs]; exact hv), hs]
    rfl
theorem uo_big : ∀ (cs : List Int32) (x : Int64), (∀ c ∈ cs, Dg c) → 0 ≤ x.toInt → ¬ vl cs x.toInt ≤ 9223372036854775807 → uo cs x = -1 := by
  intro cs
  induction cs with
  | nil => intro x _ _ h; exact absurd (by have := rng64 x; show x.toInt ≤ _; omega) h
  | cons c cs ih =>
    intro x h hx hv
    have hd := h c List.mem_cons_self
    have q := (dg_i c).mp hd
    have ht : ∀ d ∈ cs, Dg d := fun d hd => h d (List.mem_cons_of_mem _ hd)
    by_cases hg : Good c x
    · have hs := step_v hd hx ((good_iff hd hx).mp hg)
      rw [uo, if_pos hg]
      exact ih _ ht (by omega) (by rw [hs]; exact hv)
    · rw [uo, if_neg hg]
theorem uo_bad : ∀ (cs : List Int32) (x : Int64), (∀ c ∈ cs, 0 ≤ c.toInt) → (∃ c ∈ cs, ¬ Dg c) → uo cs x = -1 := by
  intro cs
  induction cs with
  | nil => rintro x _ ⟨c, h, _⟩; exact nomatch h
  | cons c cs ih =>
    rintro x h ⟨d, hd, hn⟩
    by_cases hg : Good c x
    · rw [uo, if_pos hg]
      rcases List.mem_cons.mp hd with rfl | hd
      · exact absurd (good_dg (h _ List.mem_cons_self) hg) hn
      · exact ih _ (fun d hd => h d (List.mem_cons_of_mem _ hd)) ⟨d, hd, hn⟩
    · rw [uo, if_neg hg]
theorem and_nn (v : Int64) : 0 ≤ (v &&& 9223372036854775807).toInt := by
  have h : (v &&& 9223372036854775807).toBitVec.msb = false := by
    rw [Int64.toBitVec_and, BitVec.msb_and]
    have : (9223372036854775807 : Int64).toBitVec.msb = false := by decide
    rw [this, Bool.and_false]
  show 0 ≤ (v &&& 9223372036854775807).toBitVec.toInt
  rw [BitVec.toInt_eq_msb_cond, h]
  simp
/-- the digit of w at the place p -/
def dgt (w p : Int64) : Int32 := ((48 : Int32) + ((w / p) % 10).toInt32).toUInt32.toUInt16.toUInt32.toInt32
theorem dgt_v {w p : Int64} (P : Int) (hp : p.toInt = P) (h0 : 0 < P) (hw : 0 ≤ w.toInt) : (dgt w p).toInt = 48 + (w.toInt / P) % 10 := by
  have hm : p ≠ -1 := by
    rintro rfl
    have : ((-1 : Int64)).toInt = -1 := by decide
    omega
  have a1 := (c_ldiv w p P hp hm).1 hw
  have a2 := (c_lrem (w / p) 10 10 (by decide)).1 (by rw [a1]; exact Int.ediv_nonneg hw (by omega))
  rw [lrem_mod, a1] at a2
  have a3 := c_l2i (w / p % 10)
  have a4 := c_iadd 48 (w / p % 10).toInt32
  have a5 := c_i2c ((48 : Int32) + (w / p % 10).toInt32)
  have e : (48 : Int32).toInt = 48 := by decide
  have r1 := rng32 (w / p % 10).toInt32
  have r2 := rng32 ((48 : Int32) + (w / p % 10).toInt32)
  rw [a2] at a3
  rw [e] at a4
  generalize w.toInt / P = y at *
  unfold dgt
  omega
theorem dgt_dg {w p : Int64} (P : Int) (hp : p.toInt = P) (h0 : 0 < P) (hw : 0 ≤ w.toInt) : Dg (dgt w p) := by
  rw [dg_i, dgt_v P hp h0 hw]
  omega

theorem uo_fold : ∀ (cs : List Int32) (x : Int64), (∀ c ∈ cs, Dg c) → 0 ≤ x.toInt → vl cs x.toInt ≤ 9223372036854775807 → uo cs x = cs.foldl (fun x c => x * 10 + (c - 48).toInt64) x := by
  intro cs
  induction cs with
  | nil => intro x _ _ _; rfl
  | cons c cs ih =>
    intro x h hx hv
    have hd := h c List.mem_cons_self
    have q := (dg_i c).mp hd
    have ht : ∀ d ∈ cs, Dg d := fun d hd => h d (List.mem_cons_of_mem _ hd)
    have g := vl_ge cs (x.toInt * 10 + (c.toInt - 48)) ht (by omega)
    have hv' : vl cs (x.toInt * 10 + (c.toInt - 48)) ≤ 9223372036854775807 := hv
    have hs := step_v hd hx (by omega)
    rw [uo, if_pos ((good_iff hd hx).mpr (by omega)), ih _ ht (by omega) (by rw [hs]; exact hv)]
    rfl
def us (cs : List Int32) : Int64 := if cs = [] then -1 else uo cs 0
theorem us_fold {c : Int32} {cs : List Int32} (h : ∀ d ∈ c :: cs, Dg d) (hv : vl (c :: cs) 0 ≤ 9223372036854775807) : us (c :: cs) = cs.foldl (fun x c => x * 10 + (c - 48).toInt64) (c - 48).toInt64 := by
  unfold us
  rw [if_neg (by simp), uo_fold _ 0 h (by decide) hv]
  show cs.foldl _ (0 * 10 + (c - 48).toInt64) = _
  rw [Int64.zero_mul, Int64.zero_add]
theorem us_bad {cs : List Int32} (h : Lat cs) (hb : ∃ c ∈ cs, ¬ Dg c) : us cs = -1 := by
  unfold us
  by_cases e : cs = []
  · rw [if_pos e]
  · rw [if_neg e]; exact uo_bad cs 0 (fun c hc => (h c hc).1) hb
theorem us_val {cs : List Int32} (h0 : cs ≠ []) (h : ∀ d ∈ cs, Dg d) (hv : vl cs 0 ≤ 9223372036854775807) : (us cs).toInt = vl cs 0 := by
  unfold us
  rw [if_neg h0]
  exact uo_val cs 0 h (by decide) hv
theorem us_big {cs : List Int32} (h0 : cs ≠ []) (h : ∀ d ∈ cs, Dg d) (hv : ¬ vl cs 0 ≤ 9223372036854775807) : us cs = -1 := by
  unfold us
  rw [if_neg h0]
  exact uo_big cs 0 h (by decide) hv
abbrev Lat1 (c : Int32) : Prop := 0 ≤ c.toInt ∧ c.toInt < 256
theorem dg_lat {c : Int32} (h : Dg c) : Lat1 c := by have := (dg_i c).mp h; exact ⟨by omega, by omega⟩
theorem n32_back {x : Int32} (h : 0 ≤ x.toInt) : x = x.toInt.toNat.toInt32 := by
  have r := rng32 x
  apply Int32.toInt_inj.mp
  rw [n32 (by omega)]
  omega
theorem ushr_rem (x : Int32) (j : Int32) (k : Nat) (m : Int32) (M : Int) (hk : j.toBitVec.toNat % 32 = k) (h0 : 0 < k) (hm : m.toInt = M) (hM : 0 < M) : ∃ n : Nat, (n : Int) < M ∧ XT.ushr x j % m = n.toInt32 := by
  have a := c_iushr x j k hk h0
  have b : 0 ≤ (XT.ushr x j).toInt := by
    show 0 ≤ ((x.toUInt32 >>> (j &&& 31).toUInt32).toInt32).toInt
    rw [a]
    exact Int.ediv_nonneg (by omega) (Int.natCast_nonneg _)
  have c := (c_irem (XT.ushr x j) m M hm).1 b
  have d1 := Int.emod_nonneg (XT.ushr x j).toInt (show M ≠ 0 by omega)
  have d2 := Int.emod_lt_of_pos (XT.ushr x j).toInt hM
  exact ⟨(XT.ushr x j % m).toInt.toNat, by omega, n32_back (by omega)⟩
theorem ct_emp {l : Launch} {Z : State} {a0 : Array Value} (hw : ∀ d ∈ tables_1, d.before a0 Z = true) (hE : EW Z a0 EL0) {L : Store} {s b : Addr} {f fb : Bool} {k : Value} {cs : List Int32} (hl : cs.length < 2 ^ 31) (hs : (s, f, OB Z "java/lang/String" layS [.ref b, k]) ∈ L) (hb : (b, fb, AR Z .byte ((cs.map b8).map .int)) ∈ L) :
    Ct l Z EL0 (⟨"java/lang/String", "isEmpty", "()Z"⟩ : MethodName) jdk_42_method_55_code 1 (some .boolean) ({ frames := 0, cells := 0, slots := 0, locals := 0 } : Room) #[.ref s] L (RV fun u M => u = .int (if cs = [] then 1 else 0) ∧ M = L) := by
  refine Ct.of (a0 := a0) (Ls := [.val (.ref _)]) (plainFor_of_name pn_1) (fun m => ef_r_1 m _) hE ?_
  refine Wk.aload_n (q := 1) d12_0 rfl rfl (by first | rfl | assumption) ?_
  refine Wk.getfield (q := 4) (C := "java/lang/String") (lay := layS) 0 d12_1 rfl (hw _ (List.mem_of_getElem? (i := 30) rfl)) Via.refl (by repeat (first | exact List.mem_cons_self | assumption | refine List.mem_cons_of_mem _ ?_)) rfl (by rfl) ?_
  refine Wk.arraylength (q := 5) d12_4 rfl (by repeat (first | exact List.mem_cons_self | assumption | refine List.mem_cons_of_mem _ ?_)) (show ((cs.map b8).map Value.int).length.toInt32 = cs.length.toInt32 by simp) ?_
  cases cs with
  | nil =>
    refine Wk.if_f (q := 8) d12_5 rfl (by decide) ?_
    refine Wk.iconst (q := 9) (1) d12_8 rfl (by decide) ?_
    refine Wk.goto (q := 13) d12_9 (by decide) (by decide) ?_
    refine Wk.ireturn (t := .boolean) d12_13 rfl (by simp) (by rfl) ?_
    exact ⟨_, rfl, rfl, rfl⟩
  | cons c cs =>
    refine Wk.if_t (q := 12) d12_5 (by decide) (by decide) (XT.i0_ne_t (fun q => absurd ((n32_inj hl (by decide : 0 < 2 ^ 31)).mp q) (by simp))) ?_
    refine Wk.iconst (q := 13) (0) d12_12 rfl (by decide) ?_
    refine Wk.ireturn (t := .boolean) d12_13 rfl (by simp) (by rfl) ?_
    exact ⟨_, rfl, by simp, rfl⟩
set_option maxHeartbeats 4000000 in
theorem wk_uns {l : Launch} {Z : State} {a0 : Array Value} (hw : ∀ d ∈ tables_1, d.before a0 Z = true) (hE : EW Z a0 EL0) (F : ∃ z, z ≠ (0 : Int32) ∧ Sta Z Z.heap "java/lang/String" "COMPACT_STRINGS" "Z" (.int z)) (hO : FO Z) {L : Store} {s b : Addr} {f fb : Bool} {cs : List Int32} (hc : Lat cs) (hl : cs.length < 1000000) (hs : (s, f, OB Z "java/lang/String" layS [.ref b, .int 0]) ∈ L) (hb : (b, fb, AR Z .byte ((cs.map b8).map .int)) ∈ L) {cb sb : Nat} : ∀ (m i : Nat) (x : Int64) (o : Slot), i + m = cs.length → One o →
    Wk l Z a0 EL0 (⟨"com/example/webhook_signature_check/webhooksignaturecheck/HeaderElements", "unixSeconds", "(Ljava/lang/String;)J"⟩ : MethodName) prog_1_method_5_code 5 (some .long) ({ frames := 4, cells := 0, slots := 0, locals := 53 } : Room) (RV fun u M => u = .long (uo (cs.drop i) x) ∧ M = L) L cb sb 15 [.val (.ref s), .val (.long x), .second, .val (.int i.toInt32), o] [] := by
  intro m
  induction m with
  | zero =>
    intro i x o hi ho
    refine Wk.iload_n (q := 16) d13_15 rfl rfl ?_
    refine Wk.aload_n (q := 17) d13_16 rfl rfl (by first | rfl | assumption) ?_
    refine Wk.virtual (q := 20) (C := "java/lang/String") [] _ 1 d13_17 rfl (hw _ (List.mem_of_getElem? (i := 54) rfl)) (hw _ (List.mem_of_getElem? (i := 55) rfl)) (hw _ (List.mem_of_getElem? (i := 57) rfl)) (hw _ (List.mem_of_getElem? (i := 56) rfl)) (hw _ (List.mem_of_getElem? (i := 12) rfl)) (hw _ (List.mem_of_getElem? (i := 58) rfl)) ar_9 (by decide) (nfSel (hw _ (List.mem_of_getElem? (i := 57) rfl))) (by repeat (first | exact List.mem_cons_self | assumption | refine List.mem_cons_of_mem _ ?_)) rfl rfl rfl rfl (ct_lenL hw hE F hs hb) (by first | decide | (dsimp only; omega) | omega) (by first | decide | (dsimp only; omega) | omega) (by first | decide | (dsimp only; omega) | omega) (by first | decide | (dsimp only; omega) | omega) (kv ?_)
    rintro _ _ ⟨rfl, rfl⟩
    rw [List.length_map]
    refine Wk.icmp_t (q := 81) d13_20 (by decide) (by decide) (XT.ii_ge_t (fun q => by have := (n32_lt (by omega) (by omega)).mp q; omega)) ?_
    refine Wk.lload_n (q := 82) d13_81 rfl rfl ?_
    refine Wk.lreturn d13_82 rfl ?_
    exact ⟨_, rfl, by rw [List.drop_eq_nil_of_le (by omega)]; rfl, rfl⟩
  | succ m ih =>
    intro i x o hi ho
    have hil : i < cs.length := by omega
    have hdr : cs.drop i = cs[i] :: cs.drop (i + 1) := List.drop_eq_getElem_cons hil
    have bad : ¬ Good cs[i] x → ∀ o2, Wk l Z a0 EL0 (⟨"com/example/webhook_signature_check/webhooksignaturecheck/HeaderElements", "unixSeconds", "(Ljava/lang/String;)J"⟩ : MethodName) prog_1_method_5_code 5 (some .long) ({ frames := 4, cells := 0, slots := 0, locals := 53 } : Room) (RV fun u M => u = .long (uo (cs.drop i) x) ∧ M = L) L cb sb 61 [.val (.ref s), .val (.long x), .second, .val (.int i.toInt32), o2] [] := by
      intro hg o2
      refine Wk.ldc2_w (q := 64) d13_61 rfl (hw _ (List.mem_of_getElem? (i := 41) rfl)) ?_
      refine Wk.lreturn d13_64 rfl ?_
      exact ⟨_, rfl, by rw [hdr, uo, if_neg hg], rfl⟩
    refine Wk.iload_n (q := 16) d13_15 rfl rfl ?_
    refine Wk.aload_n (q := 17) d13_16 rfl rfl (by first | rfl | assumption) ?_
    refine Wk.virtual (q := 20) (C := "java/lang/String") [] _ 1 d13_17 rfl (hw _ (List.mem_of_getElem? (i := 54) rfl)) (hw _ (List.mem_of_getElem? (i := 55) rfl)) (hw _ (List.mem_of_getElem? (i := 57) rfl)) (hw _ (List.mem_of_getElem? (i := 56) rfl)) (hw _ (List.mem_of_getElem? (i := 12) rfl)) (hw _ (List.mem_of_getElem? (i := 58) rfl)) ar_9 (by decide) (nfSel (hw _ (List.mem_of_getElem? (i := 57) rfl))) (by repeat (first | exact List.mem_cons_self | assumption | refine List.mem_cons_of_mem _ ?_)) rfl rfl rfl rfl (ct_lenL hw hE F hs hb) (by first | decide | (dsimp only; omega) | omega) (by first | decide | (dsimp only; omega) | omega) (by first | decide | (dsimp only; omega) | omega) (by first | decide | (dsimp only; omega) | omega) (kv ?_)
    rintro _ _ ⟨rfl, rfl⟩
    rw [List.length_map]
    refine Wk.icmp_f (q := 23) d13_20 rfl (XT.ii_ge_f ((n32_lt (by omega) (by omega)).mpr hil)) ?_
    refine Wk.aload_n (q := 24) d13_23 rfl rfl (by first | rfl | assumption) ?_
    refine Wk.iload_n (q := 25) d13_24 rfl rfl ?_
    refine Wk.virtual (q := 28) (C := "java/lang/String") [_] _ 0 d13_25 rfl (hw _ (List.mem_of_getElem? (i := 64) rfl)) (hw _ (List.mem_of_getElem? (i := 65) rfl)) (hw _ (List.mem_of_getElem? (i := 67) rfl)) (hw _ (List.mem_of_getElem? (i := 66) rfl)) (hw _ (List.mem_of_getElem? (i := 12) rfl)) (hw _ (List.mem_of_getElem? (i := 68) rfl)) ar_10 (by decide) (nfSel (hw _ (List.mem_of_getElem? (i := 67) rfl))) (by repeat (first | exact List.mem_cons_self | assumption | refine List.mem_cons_of_mem _ ?_)) rfl rfl rfl rfl (ct_atL hw hE F hO hc (by omega) hil hs hb) (by first | decide | (dsimp only; omega) | omega) (by first | decide | (dsimp only; omega) | omega) (by first | decide | (dsimp only; omega) | omega) (by first | decide | (dsimp only; omega) | omega) (kv ?_)
    rintro _ _ ⟨rfl, rfl⟩
    refine Wk.bipush (q := 30) (48) d13_28 rfl (by decide) ?_
    refine Wk.isub (q := 31) d13_30 rfl ?_
    refine Wk.istore (q := 33) d13_31 rfl (LS1.there (LS1.there (LS1.there (LS1.there (LS1.here (by first | exact One.u | exact One.val rfl | assumption)))))) ?_
    refine Wk.iload (q := 35) d13_33 rfl rfl ?_
    refine Wk.if_s (q := 61) (q' := 38) d13_35 (by decide) (by decide) rfl ?_ ?_
    · intro (h1 : cs[i] - 48 < 0)
      exact bad (fun g => g.1 h1) _
    intro (h1 : ¬ cs[i] - 48 < 0)
    refine Wk.iload (q := 40) d13_38 rfl rfl ?_
    refine Wk.bipush (q := 42) (9) d13_40 rfl (by decide) ?_
    refine Wk.icmp_s (q := 61) (q' := 45) d13_42 (by decide) (by decide) rfl ?_ ?_
    · intro (h2 : 9 < cs[i] - 48)
      exact bad (fun g => g.2.1 h2) _
    intro (h2 : ¬ 9 < cs[i] - 48)
    refine Wk.lload_n (q := 46) d13_45 rfl rfl ?_
    refine Wk.ldc2_w (q := 49) d13_46 rfl (hw _ (List.mem_of_getElem? (i := 115) rfl)) ?_
    refine Wk.iload (q := 51) d13_49 rfl rfl ?_
    refine Wk.i2l (q := 52) d13_51 rfl ?_
    refine Wk.lsub (q := 53) d13_52 rfl ?_
    refine Wk.ldc2_w (q := 56) d13_53 rfl (hw _ (List.mem_of_getElem? (i := 116) rfl)) ?_
    refine Wk.ldiv (q := 57) d13_56 rfl (by decide) ?_
    refine Wk.lcmp (q := 58) d13_57 rfl ?_
    by_cases h3 : (9223372036854775807 - (cs[i] - 48).toInt64) / 10 < x
    · refine Wk.if_f (q := 61) d13_58 rfl (XT.ll_le_f h3) ?_
      exact bad (fun g => g.2.2 h3) _
    refine Wk.if_t (q := 65) d13_58 (by decide) (by decide) (XT.ll_le_t h3) ?_
    refine Wk.lload_n (q := 66) d13_65 rfl rfl ?_
    refine Wk.ldc2_w (q := 69) d13_66 rfl (hw _ (List.mem_of_getElem? (i := 116) rfl)) ?_
    refine Wk.lmul (q := 70) d13_69 rfl ?_
    refine Wk.iload (q := 72) d13_70 rfl rfl ?_
    refine Wk.i2l (q := 73) d13_72 rfl ?_
    refine Wk.ladd (q := 74) d13_73 rfl ?_
    refine Wk.lstore_n (q := 75) d13_74 rfl (LS2.there (LS2.here (by first | exact Or.inl ⟨One.u, One.u⟩ | exact Or.inr ⟨_, rfl, rfl⟩ | exact Or.inl ⟨One.val rfl, One.val rfl⟩ | exact Or.inl ⟨One.val rfl, One.u⟩ | exact Or.inl ⟨One.u, One.val rfl⟩))) ?_
    refine Wk.iinc (q := 78) (1) d13_75 rfl (by decide) rfl (LS1.there (LS1.there (LS1.there (LS1.here (by first | exact One.u | exact One.val rfl | assumption))))) ?_
    refine Wk.goto (q := 15) d13_78 (by decide) (by decide) ?_
    rw [n32_succ, hdr, uo, if_pos ⟨h1, h2, h3⟩]
    exact ih (i + 1) _ _ (by omega) (One.val rfl)
set_option maxHeartbeats 4000000 in
theorem ct_uns {l : Launch} {Z : State} {a0 : Array Value} (hw : ∀ d ∈ tables_1, d.before a0 Z = true) (hE : EW Z a0 EL0) (F : ∃ z, z ≠ (0 : Int32) ∧ Sta Z Z.heap "java/lang/String" "COMPACT_STRINGS" "Z" (.int z)) (hO : FO Z) {L : Store} {s b : Addr} {f fb : Bool} {cs : List Int32} (hc : Lat cs) (hl : cs.length < 1000000) (hs : (s, f, OB Z "java/lang/String" layS [.ref b, .int 0]) ∈ L) (hb : (b, fb, AR Z .byte ((cs.map b8).map .int)) ∈ L) :
    Ct l Z EL0 (⟨"com/example/webhook_signature_check/webhooksignaturecheck/HeaderElements", "unixSeconds", "(Ljava/lang/String;)J"⟩ : MethodName) prog_1_method_5_code 5 (some .long) ({ frames := 4, cells := 0, slots := 0, locals := 53 } : Room) #[.ref s] L (RV fun u M => u = .long (us cs) ∧ M = L) := by
  refine Ct.of (a0 := a0) (Ls := [.val (.ref _), .unset, .unset, .unset, .unset]) (plainFor_of_name pn_4) (fun m => ef_r_5 m _) hE ?_
  refine Wk.aload_n (q := 1) d13_0 rfl rfl (by first | rfl | assumption) ?_
  refine Wk.virtual (q := 4) (C := "java/lang/String") [] _ 0 d13_1 rfl (hw _ (List.mem_of_getElem? (i := 36) rfl)) (hw _ (List.mem_of_getElem? (i := 37) rfl)) (hw _ (List.mem_of_getElem? (i := 39) rfl)) (hw _ (List.mem_of_getElem? (i := 38) rfl)) (hw _ (List.mem_of_getElem? (i := 12) rfl)) (hw _ (List.mem_of_getElem? (i := 40) rfl)) ar_7 (by decide) (nfSel (hw _ (List.mem_of_getElem? (i := 39) rfl))) (by repeat (first | exact List.mem_cons_self | assumption | refine List.mem_cons_of_mem _ ?_)) rfl rfl rfl rfl (ct_emp hw hE (by omega) hs hb) (by first | decide | (dsimp only; omega) | omega) (by first | decide | (dsimp only; omega) | omega) (by first | decide | (dsimp only; omega) | omega) (by first | decide | (dsimp only; omega) | omega) (kv ?_)
  rintro _ _ ⟨rfl, rfl⟩
  by_cases h0 : cs = []
  · rw [if_pos h0]
    refine Wk.if_f (q := 7) d13_4 rfl (by decide) ?_
    refine Wk.ldc2_w (q := 10) d13_7 rfl (hw _ (List.mem_of_getElem? (i := 41) rfl)) ?_
    refine Wk.lreturn d13_10 rfl ?_
    exact ⟨_, rfl, by rw [us, if_pos h0], rfl⟩
  · rw [if_neg h0]
    refine Wk.if_t (q := 11) d13_4 (by decide) (by decide) (by decide) ?_
    refine Wk.lconst (q := 12) (0) d13_11 rfl (by decide) ?_
    refine Wk.lstore_n (q := 13) d13_12 rfl (LS2.there (LS2.here (by first | exact Or.inl ⟨One.u, One.u⟩ | exact Or.inr ⟨_, rfl, rfl⟩ | exact Or.inl ⟨One.val rfl, One.val rfl⟩ | exact Or.inl ⟨One.val rfl, One.u⟩ | exact Or.inl ⟨One.u, One.val rfl⟩))) ?_
    refine Wk.iconst (q := 14) (0) d13_13 rfl (by decide) ?_
    refine Wk.istore_n (q := 15) d13_14 rfl (LS1.there (LS1.there (LS1.there (LS1.here (by first | exact One.u | exact One.val rfl | assumption))))) ?_
    unfold us
    rw [if_neg h0]
    exact wk_uns hw hE F hO hc hl hs hb cs.length 0 0 .unset (by omega) One.u
theorem ct_isD {l : Launch} {Z : State} {a0 : Array Value} (hw : ∀ d ∈ tables_1, d.before a0 Z = true) (hE : EW Z a0 EL0) {L : Store} {c : Int32} : Ct l Z EL0 (⟨"com/example/webhook_signature_check/webhooksignaturecheck/HeaderElementsUnixSecondsPinLaw", "isD", "(C)Z"⟩ : MethodName) method_3_code 1 (some .boolean) ({ frames := 0, cells := 0, slots := 0, locals := 0 } : Room) #[.int c] L (RV fun u M => u = .int (if Dg c then 1 else 0) ∧ M = L) := by
  refine Ct.of (a0 := a0) (Ls := [.val (.int _)]) (plainFor_of_name pn_5) (fun m => ef_i_1 m _) hE ?_
  refine Wk.iload_n (q := 1) d14_0 rfl rfl ?_
  refine Wk.bipush (q := 3) (48) d14_1 rfl (by decide) ?_
  refine Wk.icmp_s (q := 16) (q' := 6) d14_3 (by decide) (by decide) rfl ?_ ?_
  · intro (h1 : c < 48)
    refine Wk.iconst (q := 17) (0) d14_16 rfl (by decide) ?_
    refine Wk.ireturn (t := .boolean) d14_17 rfl (by simp) (by rfl) ?_
    exact ⟨_, rfl, by rw [if_neg (fun q => q.1 h1)], rfl⟩
  intro (h1 : ¬ c < 48)
  refine Wk.iload_n (q := 7) d14_6 rfl rfl ?_
  refine Wk.bipush (q := 9) (57) d14_7 rfl (by decide) ?_
  refine Wk.icmp_s (q := 16) (q' := 12) d14_9 (by decide) (by decide) rfl ?_ ?_
  · intro (h2 : 57 < c)
    refine Wk.iconst (q := 17) (0) d14_16 rfl (by decide) ?_
    refine Wk.ireturn (t := .boolean) d14_17 rfl (by simp) (by rfl) ?_
    exact ⟨_, rfl, by rw [if_neg (fun q => q.2 h2)], rfl⟩
  intro (h2 : ¬ 57 < c)
  refine Wk.iconst (q := 13) (1) d14_12 rfl (by decide) ?_
  refine Wk.goto (q := 17) d14_13 (by decide) (by decide) ?_
  refine Wk.ireturn (t := .boolean) d14_17 rfl (by simp) (by rfl) ?_
  exact ⟨_, rfl, by rw [if_pos ⟨h1, h2⟩], rfl⟩
theorem d10_lat {x : Int32} (h : 0 ≤ x.toInt ∧ x.toInt ≤ 9) : ((48 : Int32) + x).toUInt32.toUInt16.toUInt32.toInt32.toInt = 48 + x.toInt := by
  have a4 := c_iadd 48 x
  have a5 := c_i2c ((48 : Int32) + x)
  have e : (48 : Int32).toInt = 48 := by decide
  have r2 := rng32 ((48 : Int32) + x)
  rw [e] at a4
  omega
theorem ct_ch {l : Launch} {Z : State} {a0 : Array Value} (hw : ∀ d ∈ tables_1, d.before a0 Z = true) (hE : EW Z a0 EL0) {L : Store} {x : Int32} : Ct l Z EL0 (⟨"com/example/webhook_signature_check/webhooksignaturecheck/HeaderElementsUnixSecondsPinLaw", "ch", "(I)C"⟩ : MethodName) method_4_code 1 (some .char) ({ frames := 0, cells := 0, slots := 0, locals := 0 } : Room) #[.int x] L (RV fun u M => (∃ c, u = .int c ∧ Lat1 c) ∧ M = L) := by
  refine Ct.of (a0 := a0) (Ls := [.val (.int _)]) (plainFor_of_name pn_5) (fun m => ef_i_1 m _) hE ?_
  refine Wk.iload_n (q := 1) d15_0 rfl rfl ?_
  refine Wk.sipush (q := 4) (256) d15_1 rfl (by decide) ?_
  refine Wk.iand (q := 5) d15_4 rfl ?_
  refine Wk.if_s (q := 21) (q' := 8) d15_5 (by decide) (by decide) rfl ?_ ?_
  · intro _
    refine Wk.iload_n (q := 22) d15_21 rfl rfl ?_
    refine Wk.sipush (q := 25) (255) d15_22 rfl (by decide) ?_
    refine Wk.iand (q := 26) d15_25 rfl ?_
    refine Wk.i2c (q := 27) d15_26 rfl ?_
    rw [i2c_mask]
    refine Wk.ireturn (t := .char) d15_27 rfl (by simp) (congrArg Value.int (nchar_mask _)) ?_
    exact ⟨_, rfl, ⟨_, rfl, mask_lat _⟩, rfl⟩
  · intro _
    refine Wk.bipush (q := 10) (48) d15_8 rfl (by decide) ?_
    refine Wk.iload_n (q := 11) d15_10 rfl rfl ?_
    refine Wk.sipush (q := 14) (255) d15_11 rfl (by decide) ?_
    refine Wk.iand (q := 15) d15_14 rfl ?_
    refine Wk.bipush (q := 17) (10) d15_15 rfl (by decide) ?_
    refine Wk.irem (q := 18) d15_17 rfl (by decide) ?_
    refine Wk.iadd (q := 19) d15_18 rfl ?_
    refine Wk.i2c (q := 20) d15_19 rfl ?_
    have h : Lat1 ((48 : Int32) + (x &&& 255) % 10).toUInt32.toUInt16.toUInt32.toInt32 := by
      have m := mask_lat x
      have a := (c_irem (x &&& 255) 10 10 (by decide)).1 m.1
      have b := d10_lat (x := (x &&& 255) % 10) (by omega)
      unfold Lat1
      omega
    refine Wk.ireturn (t := .char) d15_20 rfl (by simp) (congrArg Value.int (nchar_lat h)) ?_
    exact ⟨_, rfl, ⟨_, rfl, h⟩, rfl⟩
theorem ct_dig {l : Launch} {Z : State} {a0 : Array Value} (hw : ∀ d ∈ tables_1, d.before a0 Z = true) (hE : EW Z a0 EL0) {L : Store} {w p : Int64} (P : Int) (hp : p.toInt = P) (h0 : 0 < P) (hw0 : 0 ≤ w.toInt) : Ct l Z EL0 (⟨"com/example/webhook_signature_check/webhooksignaturecheck/HeaderElementsUnixSecondsPinLaw", "dig", "(JJ)C"⟩ : MethodName) method_5_code 4 (some .char) ({ frames := 0, cells := 0, slots := 0, locals := 0 } : Room) #[.long w, .long p] L (RV fun u M => u = .int (dgt w p) ∧ M = L) := by
  have hne : p ≠ 0 := by
    rintro rfl
    have : ((0 : Int64)).toInt = 0 := by decide
    omega
  refine Ct.of (a0 := a0) (Ls := [.val (.long _), .second, .val (.long _), .second]) (plainFor_of_name pn_5) (fun m => ef_jj_4 m _ _) hE ?_
  refine Wk.bipush (q := 2) (48) d16_0 rfl (by decide) ?_
  refine Wk.lload_n (q := 3) d16_2 rfl rfl ?_
  refine Wk.lload_n (q := 4) d16_3 rfl rfl ?_
  refine Wk.ldiv (q := 5) d16_4 rfl hne ?_
  refine Wk.ldc2_w (q := 8) d16_5 rfl (hw _ (List.mem_of_getElem? (i := 98) rfl)) ?_
  refine Wk.lrem (q := 9) d16_8 rfl (by decide) ?_
  refine Wk.l2i (q := 10) d16_9 rfl ?_
  refine Wk.iadd (q := 11) d16_10 rfl ?_
  refine Wk.i2c (q := 12) d16_11 rfl ?_
  refine Wk.ireturn (t := .char) d16_12 rfl (by simp) (congrArg Value.int (nchar_lat (dg_lat (dgt_dg P hp h0 hw0)))) ?_
  exact ⟨_, rfl, rfl, rfl⟩

set_option maxHeartbeats 4000000 in
theorem ct_make {l : Launch} {Z : State} {a0 : Array Value} (hw : ∀ d ∈ tables_1, d.before a0 Z = true) (hE : EW Z a0 EL0) (F : ∃ z, z ≠ (0 : Int32) ∧ Sta Z Z.heap "java/lang/String" "COMPACT_STRINGS" "Z" (.int z)) {L : Store} {n : Nat} {c0 c1 c2 c3 c4 : Int32} (hn : n ≤ 5) (h0 : Lat1 c0) (h1 : Lat1 c1) (h2 : Lat1 c2) (h3 : Lat1 c3) (h4 : Lat1 c4) :
    Ct l Z EL0 (⟨"com/example/webhook_signature_check/webhooksignaturecheck/HeaderElementsUnixSecondsPinLaw", "make", "(ICCCCC)Ljava/lang/String;"⟩ : MethodName) method_6_code 6 (some (.object "java/lang/String")) ({ frames := 4, cells := 6, slots := 22, locals := 66 } : Room) #[.int n.toInt32, .int c0, .int c1, .int c2, .int c3, .int c4] L (RV fun u M => ∃ s t f, u = .ref s ∧ M = (s, true, OB Z "java/lang/String" layS [.ref t, .int 0]) :: (t, f, AR Z .byte ((([c0, c1, c2, c3, c4].take n).map b8).map .int)) :: L) := by
  refine Ct.of (a0 := a0) (Ls := [.val (.int _), .val (.int _), .val (.int _), .val (.int _), .val (.int _), .val (.int _)]) (plainFor_of_name pn_5) (fun m => ef_iiiiii_6 m _ _ _ _ _ _) hE ?_
  rcases (by omega : n = 0 ∨ n = 1 ∨ n = 2 ∨ n = 3 ∨ n = 4 ∨ n = 5) with rfl | rfl | rfl | rfl | rfl | rfl
  · refine Wk.iload_n (q := 1) d17_0 rfl rfl ?_
    refine Wk.if_f (q := 4) d17_1 rfl (by decide) ?_
    refine Wk.new (q := 7) d17_4 rfl (hw _ (List.mem_of_getElem? (i := 10) rfl)) (hw _ (List.mem_of_getElem? (i := 11) rfl)) (hw _ (List.mem_of_getElem? (i := 12) rfl)) (layS_ok hw) layS_dv (by first | decide | (dsimp only; omega) | omega) (by first | decide | (dsimp only; omega) | omega) ?_
    intro s
    refine Wk.dup (q := 8) d17_7 rfl rfl ?_
    refine Wk.iconst (q := 9) (0) d17_8 rfl (by decide) ?_
    refine Wk.newarray (q := 11) .char (0) [] d17_9 rfl rfl rfl (hw _ (List.mem_of_getElem? (i := 13) rfl)) (by decide) (by decide) (by decide) (by first | decide | (dsimp only; omega) | omega) (by first | decide | (dsimp only; omega) | omega) ?_
    intro ca
    refine Wk.pull (o := (s, true, OB Z "java/lang/String" layS [.null, .int 0])) (by repeat (first | exact Ex.here | assumption | apply Ex.there)) ?_
    refine Wk.special (q := 14) [_] _ 1 d17_11 rfl rfl (hw _ (List.mem_of_getElem? (i := 14) rfl)) (hw _ (List.mem_of_getElem? (i := 15) rfl)) (hw _ (List.mem_of_getElem? (i := 12) rfl)) (hw _ (List.mem_of_getElem? (i := 16) rfl)) ar_11 (by decide) rfl rfl rfl rfl (ct_strInitG hw hE F (cs := []) lat_nil 5 (by simp) (by simp) (by repeat (first | exact List.mem_cons_self | assumption | refine List.mem_cons_of_mem _ ?_))) (by first | decide | (dsimp only; omega) | omega) (by first | decide | (dsimp only; omega) | omega) (by first | decide | (dsimp only; omega) | omega) (by first | decide | (dsimp only; omega) | omega) (k0 ?_)
    rintro _ ⟨t, f, rfl⟩
    refine Wk.sub (.cons_cons _ (.cons_cons _ (.cons _ (.refl _)))) ?_
    refine Wk.areturn (t := (.object "java/lang/String")) d17_14 rfl rfl (by first | rfl | exact narO | exact narA) (by first | rfl | assumption) ?_
    exact ⟨_, rfl, s, t, f, rfl, rfl⟩
  · refine Wk.iload_n (q := 1) d17_0 rfl rfl ?_
    refine Wk.if_t (q := 15) d17_1 (by decide) (by decide) (by decide) ?_
    refine Wk.iload_n (q := 16) d17_15 rfl rfl ?_
    refine Wk.iconst (q := 17) (1) d17_16 rfl (by decide) ?_
    refine Wk.icmp_f (q := 20) d17_17 rfl (by decide) ?_
    refine Wk.new (q := 23) d17_20 rfl (hw _ (List.mem_of_getElem? (i := 10) rfl)) (hw _ (List.mem_of_getElem? (i := 11) rfl)) (hw _ (List.mem_of_getElem? (i := 12) rfl)) (layS_ok hw) layS_dv (by first | decide | (dsimp only; omega) | omega) (by first | decide | (dsimp only; omega) | omega) ?_
    intro s
    refine Wk.dup (q := 24) d17_23 rfl rfl ?_
    refine Wk.iconst (q := 25) (1) d17_24 rfl (by decide) ?_
    refine Wk.newarray (q := 27) .char (1) [(.int 0)] d17_25 rfl rfl rfl (hw _ (List.mem_of_getElem? (i := 13) rfl)) (by decide) (by decide) (by decide) (by first | decide | (dsimp only; omega) | omega) (by first | decide | (dsimp only; omega) | omega) ?_
    intro ca
    refine Wk.dup (q := 28) d17_27 rfl rfl ?_
    refine Wk.iconst (q := 29) (0) d17_28 rfl (by decide) ?_
    refine Wk.iload_n (q := 30) d17_29 rfl rfl ?_
    refine Wk.castore (q := 31) (0) d17_30 rfl (by repeat (first | exact Ex.here | assumption | apply Ex.there)) (by decide) (by decide) (nchar_lat h0) (VS.here) ?_
    refine Wk.pull (o := (s, true, OB Z "java/lang/String" layS [.null, .int 0])) (by repeat (first | exact Ex.here | assumption | apply Ex.there)) ?_
    refine Wk.special (q := 34) [_] _ 1 d17_31 rfl rfl (hw _ (List.mem_of_getElem? (i := 14) rfl)) (hw _ (List.mem_of_getElem? (i := 15) rfl)) (hw _ (List.mem_of_getElem? (i := 12) rfl)) (hw _ (List.mem_of_getElem? (i := 16) rfl)) ar_11 (by decide) rfl rfl rfl rfl (ct_strInitG hw hE F (cs := [c0]) (lat_cons h0 lat_nil) 5 (by simp) (by simp) (by repeat (first | exact List.mem_cons_self | assumption | refine List.mem_cons_of_mem _ ?_))) (by first | decide | (dsimp only; omega) | omega) (by first | decide | (dsimp only; omega) | omega) (by first | decide | (dsimp only; omega) | omega) (by first | decide | (dsimp only; omega) | omega) (k0 ?_)
    rintro _ ⟨t, f, rfl⟩
    refine Wk.sub (.cons_cons _ (.cons_cons _ (.cons _ (.refl _)))) ?_
    refine Wk.areturn (t := (.object "java/lang/String")) d17_34 rfl rfl (by first | rfl | exact narO | exact narA) (by first | rfl | assumption) ?_
    exact ⟨_, rfl, s, t, f, rfl, rfl⟩
  · refine Wk.iload_n (q := 1) d17_0 rfl rfl ?_
    refine Wk.if_t (q := 15) d17_1 (by decide) (by decide) (by decide) ?_
    refine Wk.iload_n (q := 16) d17_15 rfl rfl ?_
    refine Wk.iconst (q := 17) (1) d17_16 rfl (by decide) ?_
    refine Wk.icmp_t (q := 35) d17_17 (by decide) (by decide) (by decide) ?_
    refine Wk.iload_n (q := 36) d17_35 rfl rfl ?_
    refine Wk.iconst (q := 37) (2) d17_36 rfl (by decide) ?_
    refine Wk.icmp_f (q := 40) d17_37 rfl (by decide) ?_
    refine Wk.new (q := 43) d17_40 rfl (hw _ (List.mem_of_getElem? (i := 10) rfl)) (hw _ (List.mem_of_getElem? (i := 11) rfl)) (hw _ (List.mem_of_getElem? (i := 12) rfl)) (layS_ok hw) layS_dv (by first | decide | (dsimp only; omega) | omega) (by first | decide | (dsimp only; omega) | omega) ?_
    intro s
    refine Wk.dup (q := 44) d17_43 rfl rfl ?_
    refine Wk.iconst (q := 45) (2) d17_44 rfl (by decide) ?_
    refine Wk.newarray (q := 47) .char (2) [(.int 0), (.int 0)] d17_45 rfl rfl rfl (hw _ (List.mem_of_getElem? (i := 13) rfl)) (by decide) (by decide) (by decide) (by first | decide | (dsimp only; omega) | omega) (by first | decide | (dsimp only; omega) | omega) ?_
    intro ca
    refine Wk.dup (q := 48) d17_47 rfl rfl ?_
    refine Wk.iconst (q := 49) (0) d17_48 rfl (by decide) ?_
    refine Wk.iload_n (q := 50) d17_49 rfl rfl ?_
    refine Wk.castore (q := 51) (0) d17_50 rfl (by repeat (first | exact Ex.here | assumption | apply Ex.there)) (by decide) (by decide) (nchar_lat h0) (VS.here) ?_
    refine Wk.dup (q := 52) d17_51 rfl rfl ?_
    refine Wk.iconst (q := 53) (1) d17_52 rfl (by decide) ?_
    refine Wk.iload_n (q := 54) d17_53 rfl rfl ?_
    refine Wk.castore (q := 55) (1) d17_54 rfl (by repeat (first | exact Ex.here | assumption | apply Ex.there)) (by decide) (by decide) (nchar_lat h1) (VS.there (VS.here)) ?_
    refine Wk.pull (o := (s, true, OB Z "java/lang/String" layS [.null, .int 0])) (by repeat (first | exact Ex.here | assumption | apply Ex.there)) ?_
    refine Wk.special (q := 58) [_] _ 1 d17_55 rfl rfl (hw _ (List.mem_of_getElem? (i := 14) rfl)) (hw _ (List.mem_of_getElem? (i := 15) rfl)) (hw _ (List.mem_of_getElem? (i := 12) rfl)) (hw _ (List.mem_of_getElem? (i := 16) rfl)) ar_11 (by decide) rfl rfl rfl rfl (ct_strInitG hw hE F (cs := [c0, c1]) (lat_cons h0 (lat_cons h1 lat_nil)) 5 (by simp) (by simp) (by repeat (first | exact List.mem_cons_self | assumption | refine List.mem_cons_of_mem _ ?_))) (by first | decide | (dsimp only; omega) | omega) (by first | decide | (dsimp only; omega) | omega) (by first | decide | (dsimp only; omega) | omega) (by first | decide | (dsimp only; omega) | omega) (k0 ?_)
    rintro _ ⟨t, f, rfl⟩
    refine Wk.sub (.cons_cons _ (.cons_cons _ (.cons _ (.refl _)))) ?_
    refine Wk.areturn (t := (.object "java/lang/String")) d17_58 rfl rfl (by first | rfl | exact narO | exact narA) (by first | rfl | assumption) ?_
    exact ⟨_, rfl, s, t, f, rfl, rfl⟩
  · refine Wk.iload_n (q := 1) d17_0 rfl rfl ?_
    refine Wk.if_t (q := 15) d17_1 (by decide) (by decide) (by decide) ?_
    refine Wk.iload_n (q := 16) d17_15 rfl rfl ?_
    refine Wk.iconst (q := 17) (1) d17_16 rfl (by decide) ?_
    refine Wk.icmp_t (q := 35) d17_17 (by decide) (by decide) (by decide) ?_
    refine Wk.iload_n (q := 36) d17_35 rfl rfl ?_
    refine Wk.iconst (q := 37) (2) d17_36 rfl (by decide) ?_
    refine Wk.icmp_t (q := 59) d17_37 (by decide) (by decide) (by decide) ?_
    refine Wk.iload_n (q := 60) d17_59 rfl rfl ?_
    refine Wk.iconst (q := 61) (3) d17_60 rfl (by decide) ?_
    refine Wk.icmp_f (q := 64) d17_61 rfl (by decide) ?_
    refine Wk.new (q := 67) d17_64 rfl (hw _ (List.mem_of_getElem? (i := 10) rfl)) (hw _ (List.mem_of_getElem? (i := 11) rfl)) (hw _ (List.mem_of_getElem? (i := 12) rfl)) (layS_ok hw) layS_dv (by first | decide | (dsimp only; omega) | omega) (by first | decide | (dsimp only; omega) | omega) ?_
    intro s
    refine Wk.dup (q := 68) d17_67 rfl rfl ?_
    refine Wk.iconst (q := 69) (3) d17_68 rfl (by decide) ?_
    refine Wk.newarray (q := 71) .char (3) [(.int 0), (.int 0), (.int 0)] d17_69 rfl rfl rfl (hw _ (List.mem_of_getElem? (i := 13) rfl)) (by decide) (by decide) (by decide) (by first | decide | (dsimp only; omega) | omega) (by first | decide | (dsimp only; omega) | omega) ?_
    intro ca
    refine Wk.dup (q := 72) d17_71 rfl rfl ?_
    refine Wk.iconst (q := 73) (0) d17_72 rfl (by decide) ?_
    refine Wk.iload_n (q := 74) d17_73 rfl rfl ?_
    refine Wk.castore (q := 75) (0) d17_74 rfl (by repeat (first | exact Ex.here | assumption | apply Ex.there)) (by decide) (by decide) (nchar_lat h0) (VS.here) ?_
    refine Wk.dup (q := 76) d17_75 rfl rfl ?_
    refine Wk.iconst (q := 77) (1) d17_76 rfl (by decide) ?_
    refine Wk.iload_n (q := 78) d17_77 rfl rfl ?_
    refine Wk.castore (q := 79) (1) d17_78 rfl (by repeat (first | exact Ex.here | assumption | apply Ex.there)) (by decide) (by decide) (nchar_lat h1) (VS.there (VS.here)) ?_
    refine Wk.dup (q := 80) d17_79 rfl rfl ?_
    refine Wk.iconst (q := 81) (2) d17_80 rfl (by decide) ?_
    refine Wk.iload_n (q := 82) d17_81 rfl rfl ?_
    refine Wk.castore (q := 83) (2) d17_82 rfl (by repeat (first | exact Ex.here | assumption | apply Ex.there)) (by decide) (by decide) (nchar_lat h2) (VS.there (VS.there (VS.here))) ?_
    refine Wk.pull (o := (s, true, OB Z "java/lang/String" layS [.null, .int 0])) (by repeat (first | exact Ex.here | assumption | apply Ex.there)) ?_
    refine Wk.special (q := 86) [_] _ 1 d17_83 rfl rfl (hw _ (List.mem_of_getElem? (i := 14) rfl)) (hw _ (List.mem_of_getElem? (i := 15) rfl)) (hw _ (List.mem_of_getElem? (i := 12) rfl)) (hw _ (List.mem_of_getElem? (i := 16) rfl)) ar_11 (by decide) rfl rfl rfl rfl (ct_strInitG hw hE F (cs := [c0, c1, c2]) (lat_cons h0 (lat_cons h1 (lat_cons h2 lat_nil))) 5 (by simp) (by simp) (by repeat (first | exact List.mem_cons_self | assumption | refine List.mem_cons_of_mem _ ?_))) (by first | decide | (dsimp only; omega) | omega) (by first | decide | (dsimp only; omega) | omega) (by first | decide | (dsimp only; omega) | omega) (by first | decide | (dsimp only; omega) | omega) (k0 ?_)
    rintro _ ⟨t, f, rfl⟩
    refine Wk.sub (.cons_cons _ (.cons_cons _ (.cons _ (.refl _)))) ?_
    refine Wk.areturn (t := (.object "java/lang/String")) d17_86 rfl rfl (by first | rfl | exact narO | exact narA) (by first | rfl | assumption) ?_
    exact ⟨_, rfl, s, t, f, rfl, rfl⟩
  · refine Wk.iload_n (q := 1) d17_0 rfl rfl ?_
    refine Wk.if_t (q := 15) d17_1 (by decide) (by decide) (by decide) ?_
    refine Wk.iload_n (q := 16) d17_15 rfl rfl ?_
    refine Wk.iconst (q := 17) (1) d17_16 rfl (by decide) ?_
    refine Wk.icmp_t (q := 35) d17_17 (by decide) (by decide) (by decide) ?_
    refine Wk.iload_n (q := 36) d17_35 rfl rfl ?_
    refine Wk.iconst (q := 37) (2) d17_36 rfl (by decide) ?_
    refine Wk.icmp_t (q := 59) d17_37 (by decide) (by decide) (by decide) ?_
    refine Wk.iload_n (q := 60) d17_59 rfl rfl ?_
    refine Wk.iconst (q := 61) (3) d17_60 rfl (by decide) ?_
    refine Wk.icmp_t (q := 87) d17_61 (by decide) (by decide) (by decide) ?_
    refine Wk.iload_n (q := 88) d17_87 rfl rfl ?_
    refine Wk.iconst (q := 89) (4) d17_88 rfl (by decide) ?_
    refine Wk.icmp_f (q := 92) d17_89 rfl (by decide) ?_
    refine Wk.new (q := 95) d17_92 rfl (hw _ (List.mem_of_getElem? (i := 10) rfl)) (hw _ (List.mem_of_getElem? (i := 11) rfl)) (hw _ (List.mem_of_getElem? (i := 12) rfl)) (layS_ok hw) layS_dv (by first | decide | (dsimp only; omega) | omega) (by first | decide | (dsimp only; omega) | omega) ?_
    intro s
    refine Wk.dup (q := 96) d17_95 rfl rfl ?_
    refine Wk.iconst (q := 97) (4) d17_96 rfl (by decide) ?_
    refine Wk.newarray (q := 99) .char (4) [(.int 0), (.int 0), (.int 0), (.int 0)] d17_97 rfl rfl rfl (hw _ (List.mem_of_getElem? (i := 13) rfl)) (by decide) (by decide) (by decide) (by first | decide | (dsimp only; omega) | omega) (by first | decide | (dsimp only; omega) | omega) ?_
    intro ca
    refine Wk.dup (q := 100) d17_99 rfl rfl ?_
    refine Wk.iconst (q := 101) (0) d17_100 rfl (by decide) ?_
    refine Wk.iload_n (q := 102) d17_101 rfl rfl ?_
    refine Wk.castore (q := 103) (0) d17_102 rfl (by repeat (first | exact Ex.here | assumption | apply Ex.there)) (by decide) (by decide) (nchar_lat h0) (VS.here) ?_
    refine Wk.dup (q := 104) d17_103 rfl rfl ?_
    refine Wk.iconst (q := 105) (1) d17_104 rfl (by decide) ?_
    refine Wk.iload_n (q := 106) d17_105 rfl rfl ?_
    refine Wk.castore (q := 107) (1) d17_106 rfl (by repeat (first | exact Ex.here | assumption | apply Ex.there)) (by decide) (by decide) (nchar_lat h1) (VS.there (VS.here)) ?_
    refine Wk.dup (q := 108) d17_107 rfl rfl ?_
    refine Wk.iconst (q := 109) (2) d17_108 rfl (by decide) ?_
    refine Wk.iload_n (q := 110) d17_109 rfl rfl ?_
    refine Wk.castore (q := 111) (2) d17_110 rfl (by repeat (first | exact Ex.here | assumption | apply Ex.there)) (by decide) (by decide) (nchar_lat h2) (VS.there (VS.there (VS.here))) ?_
    refine Wk.dup (q := 112) d17_111 rfl rfl ?_
    refine Wk.iconst (q := 113) (3) d17_112 rfl (by decide) ?_
    refine Wk.iload (q := 115) d17_113 rfl rfl ?_
    refine Wk.castore (q := 116) (3) d17_115 rfl (by repeat (first | exact Ex.here | assumption | apply Ex.there)) (by decide) (by decide) (nchar_lat h3) (VS.there (VS.there (VS.there (VS.here)))) ?_
    refine Wk.pull (o := (s, true, OB Z "java/lang/String" layS [.null, .int 0])) (by repeat (first | exact Ex.here | assumption | apply Ex.there)) ?_
    refine Wk.special (q := 119) [_] _ 1 d17_116 rfl rfl (hw _ (List.mem_of_getElem? (i := 14) rfl)) (hw _ (List.mem_of_getElem? (i := 15) rfl)) (hw _ (List.mem_of_getElem? (i := 12) rfl)) (hw _ (List.mem_of_getElem? (i := 16) rfl)) ar_11 (by decide) rfl rfl rfl rfl (ct_strInitG hw hE F (cs := [c0, c1, c2, c3]) (lat_cons h0 (lat_cons h1 (lat_cons h2 (lat_cons h3 lat_nil)))) 5 (by simp) (by simp) (by repeat (first | exact List.mem_cons_self | assumption | refine List.mem_cons_of_mem _ ?_))) (by first | decide | (dsimp only; omega) | omega) (by first | decide | (dsimp only; omega) | omega) (by first | decide | (dsimp only; omega) | omega) (by first | decide | (dsimp only; omega) | omega) (k0 ?_)
    rintro _ ⟨t, f, rfl⟩
    refine Wk.sub (.cons_cons _ (.cons_cons _ (.cons _ (.refl _)))) ?_
    refine Wk.areturn (t := (.object "java/lang/String")) d17_119 rfl rfl (by first | rfl | exact narO | exact narA) (by first | rfl | assumption) ?_
    exact ⟨_, rfl, s, t, f, rfl, rfl⟩
  · refine Wk.iload_n (q := 1) d17_0 rfl rfl ?_
    refine Wk.if_t (q := 15) d17_1 (by decide) (by decide) (by decide) ?_
    refine Wk.iload_n (q := 16) d17_15 rfl rfl ?_
    refine Wk.iconst (q := 17) (1) d17_16 rfl (by decide) ?_
    refine Wk.icmp_t (q := 35) d17_17 (by decide) (by decide) (by decide) ?_
    refine Wk.iload_n (q := 36) d17_35 rfl rfl ?_
    refine Wk.iconst (q := 37) (2) d17_36 rfl (by decide) ?_
    refine Wk.icmp_t (q := 59) d17_37 (by decide) (by decide) (by decide) ?_
    refine Wk.iload_n (q := 60) d17_59 rfl rfl ?_
    refine Wk.iconst (q := 61) (3) d17_60 rfl (by decide) ?_
    refine Wk.icmp_t (q := 87) d17_61 (by decide) (by decide) (by decide) ?_
    refine Wk.iload_n (q := 88) d17_87 rfl rfl ?_
    refine Wk.iconst (q := 89) (4) d17_88 rfl (by decide) ?_
    refine Wk.icmp_t (q := 120) d17_89 (by decide) (by decide) (by decide) ?_
    refine Wk.new (q := 123) d17_120 rfl (hw _ (List.mem_of_getElem? (i := 10) rfl)) (hw _ (List.mem_of_getElem? (i := 11) rfl)) (hw _ (List.mem_of_getElem? (i := 12) rfl)) (layS_ok hw) layS_dv (by first | decide | (dsimp only; omega) | omega) (by first | decide | (dsimp only; omega) | omega) ?_
    intro s
    refine Wk.dup (q := 124) d17_123 rfl rfl ?_
    refine Wk.iconst (q := 125) (5) d17_124 rfl (by decide) ?_
    refine Wk.newarray (q := 127) .char (5) [(.int 0), (.int 0), (.int 0), (.int 0), (.int 0)] d17_125 rfl rfl rfl (hw _ (List.mem_of_getElem? (i := 13) rfl)) (by decide) (by decide) (by decide) (by first | decide | (dsimp only; omega) | omega) (by first | decide | (dsimp only; omega) | omega) ?_
    intro ca
    refine Wk.dup (q := 128) d17_127 rfl rfl ?_
    refine Wk.iconst (q := 129) (0) d17_128 rfl (by decide) ?_
    refine Wk.iload_n (q := 130) d17_129 rfl rfl ?_
    refine Wk.castore (q := 131) (0) d17_130 rfl (by repeat (first | exact Ex.here | assumption | apply Ex.there)) (by decide) (by decide) (nchar_lat h0) (VS.here) ?_
    refine Wk.dup (q := 132) d17_131 rfl rfl ?_
    refine Wk.iconst (q := 133) (1) d17_132 rfl (by decide) ?_
    refine Wk.iload_n (q := 134) d17_133 rfl rfl ?_
    refine Wk.castore (q := 135) (1) d17_134 rfl (by repeat (first | exact Ex.here | assumption | apply Ex.there)) (by decide) (by decide) (nchar_lat h1) (VS.there (VS.here)) ?_
    refine Wk.dup (q := 136) d17_135 rfl rfl ?_
    refine Wk.iconst (q := 137) (2) d17_136 rfl (by decide) ?_
    refine Wk.iload_n (q := 138) d17_137 rfl rfl ?_
    refine Wk.castore (q := 139) (2) d17_138 rfl (by repeat (first | exact Ex.here | assumption | apply Ex.there)) (by decide) (by decide) (nchar_lat h2) (VS.there (VS.there (VS.here))) ?_
    refine Wk.dup (q := 140) d17_139 rfl rfl ?_
    refine Wk.iconst (q := 141) (3) d17_140 rfl (by decide) ?_
    refine Wk.iload (q := 143) d17_141 rfl rfl ?_
    refine Wk.castore (q := 144) (3) d17_143 rfl (by repeat (first | exact Ex.here | assumption | apply Ex.there)) (by decide) (by decide) (nchar_lat h3) (VS.there (VS.there (VS.there (VS.here)))) ?_
    refine Wk.dup (q := 145) d17_144 rfl rfl ?_
    refine Wk.iconst (q := 146) (4) d17_145 rfl (by decide) ?_
    refine Wk.iload (q := 148) d17_146 rfl rfl ?_
    refine Wk.castore (q := 149) (4) d17_148 rfl (by repeat (first | exact Ex.here | assumption | apply Ex.there)) (by decide) (by decide) (nchar_lat h4) (VS.there (VS.there (VS.there (VS.there (VS.here))))) ?_
    refine Wk.pull (o := (s, true, OB Z "java/lang/String" layS [.null, .int 0])) (by repeat (first | exact Ex.here | assumption | apply Ex.there)) ?_
    refine Wk.special (q := 152) [_] _ 1 d17_149 rfl rfl (hw _ (List.mem_of_getElem? (i := 14) rfl)) (hw _ (List.mem_of_getElem? (i := 15) rfl)) (hw _ (List.mem_of_getElem? (i := 12) rfl)) (hw _ (List.mem_of_getElem? (i := 16) rfl)) ar_11 (by decide) rfl rfl rfl rfl (ct_strInitG hw hE F (cs := [c0, c1, c2, c3, c4]) (lat_cons h0 (lat_cons h1 (lat_cons h2 (lat_cons h3 (lat_cons h4 lat_nil))))) 5 (by simp) (by simp) (by repeat (first | exact List.mem_cons_self | assumption | refine List.mem_cons_of_mem _ ?_))) (by first | decide | (dsimp only; omega) | omega) (by first | decide | (dsimp only; omega) | omega) (by first | decide | (dsimp only; omega) | omega) (by first | decide | (dsimp only; omega) | omega) (k0 ?_)
    rintro _ ⟨t, f, rfl⟩
    refine Wk.sub (.cons_cons _ (.cons_cons _ (.cons _ (.refl _)))) ?_
    refine Wk.areturn (t := (.object "java/lang/String")) d17_152 rfl rfl (by first | rfl | exact narO | exact narA) (by first | rfl | assumption) ?_
    exact ⟨_, rfl, s, t, f, rfl, rfl⟩
set_option maxRecDepth 65536 in
set_option maxHeartbeats 8000000 in
theorem ct_short {l : Launch} {Z : State} {a0 : Array Value} (hw : ∀ d ∈ tables_1, d.before a0 Z = true) (hE : EW Z a0 EL0) (F : ∃ z, z ≠ (0 : Int32) ∧ Sta Z Z.heap "java/lang/String" "COMPACT_STRINGS" "Z" (.int z)) (hO : FO Z) {L : Store} {md a b : Int32} :
    Ct l Z EL0 (⟨"com/example/webhook_signature_check/webhooksignaturecheck/HeaderElementsUnixSecondsPinLaw", "shortCase", "(III)Z"⟩ : MethodName) method_7_code 17 (some .boolean) ({ frames := 5, cells := 6, slots := 22, locals := 83 } : Room) #[.int md, .int a, .int b] L (RV fun u M => u = .int 1) := by
  obtain ⟨n, hn, en⟩ := ushr_rem md 1 1 6 6 (by decide) (by decide) (by decide) (by decide)
  have hn5 : n ≤ 5 := by omega
  refine Ct.of (a0 := a0) (Ls := [.val (.int _), .val (.int _), .val (.int _), .unset, .unset, .unset, .unset, .unset, .unset, .unset, .unset, .unset, .unset, .unset, .unset, .unset, .unset]) (plainFor_of_name pn_5) (fun m => ef_iii_17 m _ _ _) hE ?_
  refine Wk.iload_n (q := 1) d18_0 rfl rfl ?_
  refine Wk.iconst (q := 2) (1) d18_1 rfl (by decide) ?_
  refine Wk.iushr (q := 3) d18_2 rfl ?_
  refine Wk.bipush (q := 5) (6) d18_3 rfl (by decide) ?_
  refine Wk.irem (q := 6) d18_5 rfl (by decide) ?_
  refine Wk.istore_n (q := 7) d18_6 rfl (LS1.there (LS1.there (LS1.there (LS1.here (by first | exact One.u | exact One.val rfl | assumption))))) ?_
  refine Wk.iload_n (q := 8) d18_7 rfl rfl ?_
  refine Wk.sipush (q := 11) (511) d18_8 rfl (by decide) ?_
  refine Wk.iand (q := 12) d18_11 rfl ?_
  rw [en]
  refine Wk.static (q := 15) [_] _ 0 d18_12 rfl (hw _ (List.mem_of_getElem? (i := 4) rfl)) (hw _ (List.mem_of_getElem? (i := 5) rfl)) (hw _ (List.mem_of_getElem? (i := 2) rfl)) (hw _ (List.mem_of_getElem? (i := 6) rfl)) ar_10 (by decide) rfl rfl rfl rfl (ct_ch hw hE) (by first | decide | (dsimp only; omega) | omega) (by first | decide | (dsimp only; omega) | omega) (by first | decide | (dsimp only; omega) | omega) (by first | decide | (dsimp only; omega) | omega) (kv ?_)
  rintro _ _ ⟨⟨c0, rfl, h0⟩, rfl⟩
  refine Wk.istore (q := 17) d18_15 rfl (LS1.there (LS1.there (LS1.there (LS1.there (LS1.here (by first | exact One.u | exact One.val rfl | assumption)))))) ?_
  refine Wk.iload_n (q := 18) d18_17 rfl rfl ?_
  refine Wk.bipush (q := 20) (9) d18_18 rfl (by decide) ?_
  refine Wk.iushr (q := 21) d18_20 rfl ?_
  refine Wk.sipush (q := 24) (511) d18_21 rfl (by decide) ?_
  refine Wk.iand (q := 25) d18_24 rfl ?_
  refine Wk.static (q := 28) [_] _ 0 d18_25 rfl (hw _ (List.mem_of_getElem? (i := 4) rfl)) (hw _ (List.mem_of_getElem? (i := 5) rfl)) (hw _ (List.mem_of_getElem? (i := 2) rfl)) (hw _ (List.mem_of_getElem? (i := 6) rfl)) ar_10 (by decide) rfl rfl rfl rfl (ct_ch hw hE) (by first | decide | (dsimp only; omega) | omega) (by first | decide | (dsimp only; omega) | omega) (by first | decide | (dsimp only; omega) | omega) (by first | decide | (dsimp only; omega) | omega) (kv ?_)
  rintro _ _ ⟨⟨c1, rfl, h1⟩, rfl⟩
  refine Wk.istore (q := 30) d18_28 rfl (LS1.there (LS1.there (LS1.there (LS1.there (LS1.there (LS1.here (by first | exact One.u | exact One.val rfl | assumption))))))) ?_
  refine Wk.iload_n (q := 31) d18_30 rfl rfl ?_
  refine Wk.bipush (q := 33) (18) d18_31 rfl (by decide) ?_
  refine Wk.iushr (q := 34) d18_33 rfl ?_
  refine Wk.sipush (q := 37) (511) d18_34 rfl (by decide) ?_
  refine Wk.iand (q := 38) d18_37 rfl ?_
  refine Wk.static (q := 41) [_] _ 0 d18_38 rfl (hw _ (List.mem_of_getElem? (i := 4) rfl)) (hw _ (List.mem_of_getElem? (i := 5) rfl)) (hw _ (List.mem_of_getElem? (i := 2) rfl)) (hw _ (List.mem_of_getElem? (i := 6) rfl)) ar_10 (by decide) rfl rfl rfl rfl (ct_ch hw hE) (by first | decide | (dsimp only; omega) | omega) (by first | decide | (dsimp only; omega) | omega) (by first | decide | (dsimp only; omega) | omega) (by first | decide | (dsimp only; omega) | omega) (kv ?_)
  rintro _ _ ⟨⟨c2, rfl, h2⟩, rfl⟩
  refine Wk.istore (q := 43) d18_41 rfl (LS1.there (LS1.there (LS1.there (LS1.there (LS1.there (LS1.there (LS1.here (by first | exact One.u | exact One.val rfl | assumption)))))))) ?_
  refine Wk.iload_n (q := 44) d18_43 rfl rfl ?_
  refine Wk.sipush (q := 47) (511) d18_44 rfl (by decide) ?_
  refine Wk.iand (q := 48) d18_47 rfl ?_
  refine Wk.static (q := 51) [_] _ 0 d18_48 rfl (hw _ (List.mem_of_getElem? (i := 4) rfl)) (hw _ (List.mem_of_getElem? (i := 5) rfl)) (hw _ (List.mem_of_getElem? (i := 2) rfl)) (hw _ (List.mem_of_getElem? (i := 6) rfl)) ar_10 (by decide) rfl rfl rfl rfl (ct_ch hw hE) (by first | decide | (dsimp only; omega) | omega) (by first | decide | (dsimp only; omega) | omega) (by first | decide | (dsimp only; omega) | omega) (by first | decide | (dsimp only; omega) | omega) (kv ?_)
  rintro _ _ ⟨⟨c3, rfl, h3⟩, rfl⟩
  refine Wk.istore (q := 53) d18_51 rfl (LS1.there (LS1.there (LS1.there (LS1.there (LS1.there (LS1.there (LS1.there (LS1.here (by first | exact One.u | exact One.val rfl | assumption))))))))) ?_
  refine Wk.iload_n (q := 54) d18_53 rfl rfl ?_
  refine Wk.bipush (q := 56) (9) d18_54 rfl (by decide) ?_
  refine Wk.iushr (q := 57) d18_56 rfl ?_
  refine Wk.sipush (q := 60) (511) d18_57 rfl (by decide) ?_
  refine Wk.iand (q := 61) d18_60 rfl ?_
  refine Wk.static (q := 64) [_] _ 0 d18_61 rfl (hw _ (List.mem_of_getElem? (i := 4) rfl)) (hw _ (List.mem_of_getElem? (i := 5) rfl)) (hw _ (List.mem_of_getElem? (i := 2) rfl)) (hw _ (List.mem_of_getElem? (i := 6) rfl)) ar_10 (by decide) rfl rfl rfl rfl (ct_ch hw hE) (by first | decide | (dsimp only; omega) | omega) (by first | decide | (dsimp only; omega) | omega) (by first | decide | (dsimp only; omega) | omega) (by first | decide | (dsimp only; omega) | omega) (kv ?_)
  rintro _ _ ⟨⟨c4, rfl, h4⟩, rfl⟩
  refine Wk.istore (q := 66) d18_64 rfl (LS1.there (LS1.there (LS1.there (LS1.there (LS1.there (LS1.there (LS1.there (LS1.there (LS1.here (by first | exact One.u | exact One.val rfl | assumption)))))))))) ?_
  refine Wk.iload_n (q := 67) d18_66 rfl rfl ?_
  refine Wk.iload (q := 69) d18_67 rfl rfl ?_
  refine Wk.iload (q := 71) d18_69 rfl rfl ?_
  refine Wk.iload (q := 73) d18_71 rfl rfl ?_
  refine Wk.iload (q := 75) d18_73 rfl rfl ?_
  refine Wk.iload (q := 77) d18_75 rfl rfl ?_
  refine Wk.static (q := 80) [_, _, _, _, _, _] _ 0 d18_77 rfl (hw _ (List.mem_of_getElem? (i := 7) rfl)) (hw _ (List.mem_of_getElem? (i := 8) rfl)) (hw _ (List.mem_of_getElem? (i := 2) rfl)) (hw _ (List.mem_of_getElem? (i := 9) rfl)) ar_12 (by decide) rfl rfl rfl rfl (ct_make hw hE F hn5 h0 h1 h2 h3 h4) (by first | decide | (dsimp only; omega) | omega) (by first | decide | (dsimp only; omega) | omega) (by first | decide | (dsimp only; omega) | omega) (by first | decide | (dsimp only; omega) | omega) (kv ?_)
  rintro _ _ ⟨s, t, f, rfl, rfl⟩
  have hlat : Lat ([c0, c1, c2, c3, c4].take n) := fun c hc => (lat_cons h0 (lat_cons h1 (lat_cons h2 (lat_cons h3 (lat_cons h4 lat_nil))))) c (List.mem_of_mem_take hc)
  refine Wk.astore (q := 82) d18_80 rfl (by first | rfl | assumption) (LS1.there (LS1.there (LS1.there (LS1.there (LS1.there (LS1.there (LS1.there (LS1.there (LS1.there (LS1.here (by first | exact One.u | exact One.val rfl | assumption))))))))))) ?_
  refine Wk.aload (q := 84) d18_82 rfl rfl (by first | rfl | assumption) ?_
  refine Wk.static (q := 87) [_] _ 0 d18_84 rfl (hw _ (List.mem_of_getElem? (i := 32) rfl)) (hw _ (List.mem_of_getElem? (i := 33) rfl)) (hw _ (List.mem_of_getElem? (i := 34) rfl)) (hw _ (List.mem_of_getElem? (i := 35) rfl)) ar_13 (by decide) rfl rfl rfl rfl (ct_uns hw hE F hO hlat (by rw [List.length_take]; omega) (by repeat (first | exact List.mem_cons_self | assumption | refine List.mem_cons_of_mem _ ?_)) (by repeat (first | exact List.mem_cons_self | assumption | refine List.mem_cons_of_mem _ ?_))) (by first | decide | (dsimp only; omega) | omega) (by first | decide | (dsimp only; omega) | omega) (by first | decide | (dsimp only; omega) | omega) (by first | decide | (dsimp only; omega) | omega) (kv ?_)
  rintro _ _ ⟨rfl, rfl⟩
  refine Wk.lstore (q := 89) d18_87 rfl (LS2.there (LS2.there (LS2.there (LS2.there (LS2.there (LS2.there (LS2.there (LS2.there (LS2.there (LS2.there (LS2.here (by first | exact Or.inl ⟨One.u, One.u⟩ | exact Or.inr ⟨_, rfl, rfl⟩ | exact Or.inl ⟨One.val rfl, One.val rfl⟩ | exact Or.inl ⟨One.val rfl, One.u⟩ | exact Or.inl ⟨One.u, One.val rfl⟩)))))))))))) ?_
  refine Wk.iload_n (q := 90) d18_89 rfl rfl ?_
  obtain ⟨got, hg⟩ : ∃ g, g = us ([c0, c1, c2, c3, c4].take n) := ⟨_, rfl⟩
  rw [← hg]
  have fin : ∀ (e : Int64) (o14 o15 o16 : Slot) (M : Store) (cb sb : Nat), got = e → Wk l Z a0 EL0 (⟨"com/example/webhook_signature_check/webhooksignaturecheck/HeaderElementsUnixSecondsPinLaw", "shortCase", "(III)Z"⟩ : MethodName) method_7_code 17 (some .boolean) ({ frames := 5, cells := 6, slots := 22, locals := 83 } : Room) (RV fun u M => u = .int 1) M cb sb 273 [.val (.int md), .val (.int a), .val (.int b), .val (.int n.toInt32), .val (.int c0), .val (.int c1), .val (.int c2), .val (.int c3), .val (.int c4), .val (.ref s), .val (.long got), .second, .val (.long e), .second, o14, o15, o16] [] := by
    intro e o14 o15 o16 M cb sb h
    refine Wk.lload (q := 275) d18_273 rfl rfl ?_
    refine Wk.lload (q := 277) d18_275 rfl rfl ?_
    refine Wk.lcmp (q := 278) d18_277 rfl ?_
    refine Wk.if_f (q := 281) d18_278 rfl (XT.ll_ne_f h) ?_
    refine Wk.iconst (q := 282) (1) d18_281 rfl (by decide) ?_
    refine Wk.goto (q := 286) d18_282 (by decide) (by decide) ?_
    refine Wk.ireturn (t := .boolean) d18_286 rfl (by simp) (by rfl) ?_
    exact ⟨_, rfl, rfl⟩
  have bad : (∃ c ∈ [c0, c1, c2, c3, c4].take n, ¬ Dg c) → ∀ (M : Store) (cb sb : Nat), Wk l Z a0 EL0 (⟨"com/example/webhook_signature_check/webhooksignaturecheck/HeaderElementsUnixSecondsPinLaw", "shortCase", "(III)Z"⟩ : MethodName) method_7_code 17 (some .boolean) ({ frames := 5, cells := 6, slots := 22, locals := 83 } : Room) (RV fun u M => u = .int 1) M cb sb 165 [.val (.int md), .val (.int a), .val (.int b), .val (.int n.toInt32), .val (.int c0), .val (.int c1), .val (.int c2), .val (.int c3), .val (.int c4), .val (.ref s), .val (.long got), .second, .unset, .unset, .unset, .unset, .unset] [] := by
    intro h M cb sb
    refine Wk.iconst (q := 166) (0) d18_165 rfl (by decide) ?_
    refine Wk.istore (q := 168) d18_166 rfl (LS1.there (LS1.there (LS1.there (LS1.there (LS1.there (LS1.there (LS1.there (LS1.there (LS1.there (LS1.there (LS1.there (LS1.there (LS1.there (LS1.there (LS1.here (by first | exact One.u | exact One.val rfl | assumption)))))))))))))))) ?_
    refine Wk.iload (q := 170) d18_168 rfl rfl ?_
    refine Wk.if_f (q := 173) d18_170 rfl (by decide) ?_
    refine Wk.ldc2_w (q := 176) d18_173 rfl (hw _ (List.mem_of_getElem? (i := 42) rfl)) ?_
    refine Wk.lstore (q := 178) d18_176 rfl (LS2.there (LS2.there (LS2.there (LS2.there (LS2.there (LS2.there (LS2.there (LS2.there (LS2.there (LS2.there (LS2.there (LS2.there (LS2.here (by first | exact Or.inl ⟨One.u, One.u⟩ | exact Or.inr ⟨_, rfl, rfl⟩ | exact Or.inl ⟨One.val rfl, One.val rfl⟩ | exact Or.inl ⟨One.val rfl, One.u⟩ | exact Or.inl ⟨One.u, One.val rfl⟩)))))))))))))) ?_
    refine Wk.goto (q := 273) d18_178 (by decide) (by decide) ?_
    exact fin _ _ _ _ _ _ _ (by rw [hg, us_bad hlat h])
  rcases (by omega : n = 0 ∨ n = 1 ∨ n = 2 ∨ n = 3 ∨ n = 4 ∨ n = 5) with rfl | rfl | rfl | rfl | rfl | rfl
  · refine Wk.if_f (q := 93) d18_90 rfl (by decide) ?_
    refine Wk.ldc2_w (q := 96) d18_93 rfl (hw _ (List.mem_of_getElem? (i := 42) rfl)) ?_
    refine Wk.lstore (q := 98) d18_96 rfl (LS2.there (LS2.there (LS2.there (LS2.there (LS2.there (LS2.there (LS2.there (LS2.there (LS2.there (LS2.there (LS2.there (LS2.there (LS2.here (by first | exact Or.inl ⟨One.u, One.u⟩ | exact Or.inr ⟨_, rfl, rfl⟩ | exact Or.inl ⟨One.val rfl, One.val rfl⟩ | exact Or.inl ⟨One.val rfl, One.u⟩ | exact Or.inl ⟨One.u, One.val rfl⟩)))))))))))))) ?_
    refine Wk.goto (q := 273) d18_98 (by decide) (by decide) ?_
    exact fin _ _ _ _ _ _ _ (by rw [hg]; rfl)
  · refine Wk.if_t (q := 101) d18_90 (by decide) (by decide) (by decide) ?_
    refine Wk.iload (q := 103) d18_101 rfl rfl ?_
    refine Wk.static (q := 106) [_] _ 0 d18_103 rfl (hw _ (List.mem_of_getElem? (i := 86) rfl)) (hw _ (List.mem_of_getElem? (i := 87) rfl)) (hw _ (List.mem_of_getElem? (i := 2) rfl)) (hw _ (List.mem_of_getElem? (i := 88) rfl)) ar_14 (by decide) rfl rfl rfl rfl (ct_isD hw hE) (by first | decide | (dsimp only; omega) | omega) (by first | decide | (dsimp only; omega) | omega) (by first | decide | (dsimp only; omega) | omega) (by first | decide | (dsimp only; omega) | omega) (kv ?_)
    rintro _ _ ⟨rfl, rfl⟩
    by_cases e0 : ¬ Dg c0
    · rw [if_neg e0]
      refine Wk.if_t (q := 165) d18_106 (by decide) (by decide) (by decide) ?_
      exact bad ⟨c0, by simp, e0⟩ _ _ _
    have d0 : Dg c0 := Decidable.not_not.mp e0
    rw [if_pos d0]
    refine Wk.if_f (q := 109) d18_106 rfl (by decide) ?_
    refine Wk.iload_n (q := 110) d18_109 rfl rfl ?_
    refine Wk.iconst (q := 111) (2) d18_110 rfl (by decide) ?_
    refine Wk.icmp_t (q := 122) d18_111 (by decide) (by decide) (by decide) ?_
    refine Wk.iload_n (q := 123) d18_122 rfl rfl ?_
    refine Wk.iconst (q := 124) (3) d18_123 rfl (by decide) ?_
    refine Wk.icmp_t (q := 135) d18_124 (by decide) (by decide) (by decide) ?_
    refine Wk.iload_n (q := 136) d18_135 rfl rfl ?_
    refine Wk.iconst (q := 137) (4) d18_136 rfl (by decide) ?_
    refine Wk.icmp_t (q := 148) d18_137 (by decide) (by decide) (by decide) ?_
    refine Wk.iload_n (q := 149) d18_148 rfl rfl ?_
    refine Wk.iconst (q := 150) (5) d18_149 rfl (by decide) ?_
    refine Wk.icmp_t (q := 161) d18_150 (by decide) (by decide) (by decide) ?_
    refine Wk.iconst (q := 162) (1) d18_161 rfl (by decide) ?_
    refine Wk.goto (q := 166) d18_162 (by decide) (by decide) ?_
    refine Wk.istore (q := 168) d18_166 rfl (LS1.there (LS1.there (LS1.there (LS1.there (LS1.there (LS1.there (LS1.there (LS1.there (LS1.there (LS1.there (LS1.there (LS1.there (LS1.there (LS1.there (LS1.here (by first | exact One.u | exact One.val rfl | assumption)))))))))))))))) ?_
    refine Wk.iload (q := 170) d18_168 rfl rfl ?_
    refine Wk.if_t (q := 181) d18_170 (by decide) (by decide) (by decide) ?_
    refine Wk.iload (q := 183) d18_181 rfl rfl ?_
    refine Wk.bipush (q := 185) (48) d18_183 rfl (by decide) ?_
    refine Wk.isub (q := 186) d18_185 rfl ?_
    refine Wk.i2l (q := 187) d18_186 rfl ?_
    refine Wk.lstore (q := 189) d18_187 rfl (LS2.there (LS2.there (LS2.there (LS2.there (LS2.there (LS2.there (LS2.there (LS2.there (LS2.there (LS2.there (LS2.there (LS2.there (LS2.there (LS2.there (LS2.there (LS2.here (by first | exact Or.inl ⟨One.u, One.u⟩ | exact Or.inr ⟨_, rfl, rfl⟩ | exact Or.inl ⟨One.val rfl, One.val rfl⟩ | exact Or.inl ⟨One.val rfl, One.u⟩ | exact Or.inl ⟨One.u, One.val rfl⟩))))))))))))))))) ?_
    refine Wk.iload_n (q := 190) d18_189 rfl rfl ?_
    refine Wk.iconst (q := 191) (2) d18_190 rfl (by decide) ?_
    refine Wk.icmp_t (q := 209) d18_191 (by decide) (by decide) (by decide) ?_
    refine Wk.iload_n (q := 210) d18_209 rfl rfl ?_
    refine Wk.iconst (q := 211) (3) d18_210 rfl (by decide) ?_
    refine Wk.icmp_t (q := 229) d18_211 (by decide) (by decide) (by decide) ?_
    refine Wk.iload_n (q := 230) d18_229 rfl rfl ?_
    refine Wk.iconst (q := 231) (4) d18_230 rfl (by decide) ?_
    refine Wk.icmp_t (q := 249) d18_231 (by decide) (by decide) (by decide) ?_
    refine Wk.iload_n (q := 250) d18_249 rfl rfl ?_
    refine Wk.iconst (q := 251) (5) d18_250 rfl (by decide) ?_
    refine Wk.icmp_t (q := 269) d18_251 (by decide) (by decide) (by decide) ?_
    refine Wk.lload (q := 271) d18_269 rfl rfl ?_
    refine Wk.lstore (q := 273) d18_271 rfl (LS2.there (LS2.there (LS2.there (LS2.there (LS2.there (LS2.there (LS2.there (LS2.there (LS2.there (LS2.there (LS2.there (LS2.there (LS2.here (by first | exact Or.inl ⟨One.u, One.u⟩ | exact Or.inr ⟨_, rfl, rfl⟩ | exact Or.inl ⟨One.val rfl, One.val rfl⟩ | exact Or.inl ⟨One.val rfl, One.u⟩ | exact Or.inl ⟨One.u, One.val rfl⟩)))))))))))))) ?_
    refine fin _ _ _ _ _ _ _ ?_
    rw [hg]
    refine us_fold (c := c0) (cs := []) (by simp only [List.forall_mem_cons]; exact ⟨d0, fun _ h => nomatch h⟩) ?_
    simp only [vl]
    have q0 := (dg_i c0).mp d0
    omega
  · refine Wk.if_t (q := 101) d18_90 (by decide) (by decide) (by decide) ?_
    refine Wk.iload (q := 103) d18_101 rfl rfl ?_
    refine Wk.static (q := 106) [_] _ 0 d18_103 rfl (hw _ (List.mem_of_getElem? (i := 86) rfl)) (hw _ (List.mem_of_getElem? (i := 87) rfl)) (hw _ (List.mem_of_getElem? (i := 2) rfl)) (hw _ (List.mem_of_getElem? (i := 88) rfl)) ar_14 (by decide) rfl rfl rfl rfl (ct_isD hw hE) (by first | decide | (dsimp only; omega) | omega) (by first | decide | (dsimp only; omega) | omega) (by first | decide | (dsimp only; omega) | omega) (by first | decide | (dsimp only; omega) | omega) (kv ?_)
    rintro _ _ ⟨rfl, rfl⟩
    by_cases e0 : ¬ Dg c0
    · rw [if_neg e0]
      refine Wk.if_t (q := 165) d18_106 (by decide) (by decide) (by decide) ?_
      exact bad ⟨c0, by simp, e0⟩ _ _ _
    have d0 : Dg c0 := Decidable.not_not.mp e0
    rw [if_pos d0]
    refine Wk.if_f (q := 109) d18_106 rfl (by decide) ?_
    refine Wk.iload_n (q := 110) d18_109 rfl rfl ?_
    refine Wk.iconst (q := 111) (2) d18_110 rfl (by decide) ?_
    refine Wk.icmp_f (q := 114) d18_111 rfl (by decide) ?_
    refine Wk.iload (q := 116) d18_114 rfl rfl ?_
    refine Wk.static (q := 119) [_] _ 0 d18_116 rfl (hw _ (List.mem_of_getElem? (i := 86) rfl)) (hw _ (List.mem_of_getElem? (i := 87) rfl)) (hw _ (List.mem_of_getElem? (i := 2) rfl)) (hw _ (List.mem_of_getElem? (i := 88) rfl)) ar_14 (by decide) rfl rfl rfl rfl (ct_isD hw hE) (by first | decide | (dsimp only; omega) | omega) (by first | decide | (dsimp only; omega) | omega) (by first | decide | (dsimp only; omega) | omega) (by first | decide | (dsimp only; omega) | omega) (kv ?_)
    rintro _ _ ⟨rfl, rfl⟩
    by_cases e1 : ¬ Dg c1
    · rw [if_neg e1]
      refine Wk.if_t (q := 165) d18_119 (by decide) (by decide) (by decide) ?_
      exact bad ⟨c1, by simp, e1⟩ _ _ _
    have d1 : Dg c1 := Decidable.not_not.mp e1
    rw [if_pos d1]
    refine Wk.if_f (q := 122) d18_119 rfl (by decide) ?_
    refine Wk.iload_n (q := 123) d18_122 rfl rfl ?_
    refine Wk.iconst (q := 124) (3) d18_123 rfl (by decide) ?_
    refine Wk.icmp_t (q := 135) d18_124 (by decide) (by decide) (by decide) ?_
    refine Wk.iload_n (q := 136) d18_135 rfl rfl ?_
    refine Wk.iconst (q := 137) (4) d18_136 rfl (by decide) ?_
    refine Wk.icmp_t (q := 148) d18_137 (by decide) (by decide) (by decide) ?_
    refine Wk.iload_n (q := 149) d18_148 rfl rfl ?_
    refine Wk.iconst (q := 150) (5) d18_149 rfl (by decide) ?_
    refine Wk.icmp_t (q := 161) d18_150 (by decide) (by decide) (by decide) ?_
    refine Wk.iconst (q := 162) (1) d18_161 rfl (by decide) ?_
    refine Wk.goto (q := 166) d18_162 (by decide) (by decide) ?_
    refine Wk.istore (q := 168) d18_166 rfl (LS1.there (LS1.there (LS1.there (LS1.there (LS1.there (LS1.there (LS1.there (LS1.there (LS1.there (LS1.there (LS1.there (LS1.there (LS1.there (LS1.there (LS1.here (by first | exact One.u | exact One.val rfl | assumption)))))))))))))))) ?_
    refine Wk.iload (q := 170) d18_168 rfl rfl ?_
    refine Wk.if_t (q := 181) d18_170 (by decide) (by decide) (by decide) ?_
    refine Wk.iload (q := 183) d18_181 rfl rfl ?_
    refine Wk.bipush (q := 185) (48) d18_183 rfl (by decide) ?_
    refine Wk.isub (q := 186) d18_185 rfl ?_
    refine Wk.i2l (q := 187) d18_186 rfl ?_
    refine Wk.lstore (q := 189) d18_187 rfl (LS2.there (LS2.there (LS2.there (LS2.there (LS2.there (LS2.there (LS2.there (LS2.there (LS2.there (LS2.there (LS2.there (LS2.there (LS2.there (LS2.there (LS2.there (LS2.here (by first | exact Or.inl ⟨One.u, One.u⟩ | exact Or.inr ⟨_, rfl, rfl⟩ | exact Or.inl ⟨One.val rfl, One.val rfl⟩ | exact Or.inl ⟨One.val rfl, One.u⟩ | exact Or.inl ⟨One.u, One.val rfl⟩))))))))))))))))) ?_
    refine Wk.iload_n (q := 190) d18_189 rfl rfl ?_
    refine Wk.iconst (q := 191) (2) d18_190 rfl (by decide) ?_
    refine Wk.icmp_f (q := 194) d18_191 rfl (by decide) ?_
    refine Wk.lload (q := 196) d18_194 rfl rfl ?_
    refine Wk.ldc2_w (q := 199) d18_196 rfl (hw _ (List.mem_of_getElem? (i := 98) rfl)) ?_
    refine Wk.lmul (q := 200) d18_199 rfl ?_
    refine Wk.iload (q := 202) d18_200 rfl rfl ?_
    refine Wk.bipush (q := 204) (48) d18_202 rfl (by decide) ?_
    refine Wk.isub (q := 205) d18_204 rfl ?_
    refine Wk.i2l (q := 206) d18_205 rfl ?_
    refine Wk.ladd (q := 207) d18_206 rfl ?_
    refine Wk.lstore (q := 209) d18_207 rfl (LS2.there (LS2.there (LS2.there (LS2.there (LS2.there (LS2.there (LS2.there (LS2.there (LS2.there (LS2.there (LS2.there (LS2.there (LS2.there (LS2.there (LS2.there (LS2.here (by first | exact Or.inl ⟨One.u, One.u⟩ | exact Or.inr ⟨_, rfl, rfl⟩ | exact Or.inl ⟨One.val rfl, One.val rfl⟩ | exact Or.inl ⟨One.val rfl, One.u⟩ | exact Or.inl ⟨One.u, One.val rfl⟩))))))))))))))))) ?_
    refine Wk.iload_n (q := 210) d18_209 rfl rfl ?_
    refine Wk.iconst (q := 211) (3) d18_210 rfl (by decide) ?_
    refine Wk.icmp_t (q := 229) d18_211 (by decide) (by decide) (by decide) ?_
    refine Wk.iload_n (q := 230) d18_229 rfl rfl ?_
    refine Wk.iconst (q := 231) (4) d18_230 rfl (by decide) ?_
    refine Wk.icmp_t (q := 249) d18_231 (by decide) (by decide) (by decide) ?_
    refine Wk.iload_n (q := 250) d18_249 rfl rfl ?_
    refine Wk.iconst (q := 251) (5) d18_250 rfl (by decide) ?_
    refine Wk.icmp_t (q := 269) d18_251 (by decide) (by decide) (by decide) ?_
    refine Wk.lload (q := 271) d18_269 rfl rfl ?_
    refine Wk.lstore (q := 273) d18_271 rfl (LS2.there (LS2.there (LS2.there (LS2.there (LS2.there (LS2.there (LS2.there (LS2.there (LS2.there (LS2.there (LS2.there (LS2.there (LS2.here (by first | exact Or.inl ⟨One.u, One.u⟩ | exact Or.inr ⟨_, rfl, rfl⟩ | exact Or.inl ⟨One.val rfl, One.val rfl⟩ | exact Or.inl ⟨One.val rfl, One.u⟩ | exact Or.inl ⟨One.u, One.val rfl⟩)))))))))))))) ?_
    refine fin _ _ _ _ _ _ _ ?_
    rw [hg]
    refine us_fold (c := c0) (cs := [c1]) (by simp only [List.forall_mem_cons]; exact ⟨d0, d1, fun _ h => nomatch h⟩) ?_
    simp only [vl]
    have q0 := (dg_i c0).mp d0
    have q1 := (dg_i c1).mp d1
    omega
  · refine Wk.if_t (q := 101) d18_90 (by decide) (by decide) (by decide) ?_
    refine Wk.iload (q := 103) d18_101 rfl rfl ?_
    refine Wk.static (q := 106) [_] _ 0 d18_103 rfl (hw _ (List.mem_of_getElem? (i := 86) rfl)) (hw _ (List.mem_of_getElem? (i := 87) rfl)) (hw _ (List.mem_of_getElem? (i := 2) rfl)) (hw _ (List.mem_of_getElem? (i := 88) rfl)) ar_14 (by decide) rfl rfl rfl rfl (ct_isD hw hE) (by first | decide | (dsimp only; omega) | omega) (by first | decide | (dsimp only; omega) | omega) (by first | decide | (dsimp only; omega) | omega) (by first | decide | (dsimp only; omega) | omega) (kv ?_)
    rintro _ _ ⟨rfl, rfl⟩
    by_cases e0 : ¬ Dg c0
    · rw [if_neg e0]
      refine Wk.if_t (q := 165) d18_106 (by decide) (by decide) (by decide) ?_
      exact bad ⟨c0, by simp, e0⟩ _ _ _
    have d0 : Dg c0 := Decidable.not_not.mp e0
    rw [if_pos d0]
    refine Wk.if_f (q := 109) d18_106 rfl (by decide) ?_
    refine Wk.iload_n (q := 110) d18_109 rfl rfl ?_
    refine Wk.iconst (q := 111) (2) d18_110 rfl (by decide) ?_
    refine Wk.icmp_f (q := 114) d18_111 rfl (by decide) ?_
    refine Wk.iload (q := 116) d18_114 rfl rfl ?_
    refine Wk.static (q := 119) [_] _ 0 d18_116 rfl (hw _ (List.mem_of_getElem? (i := 86) rfl)) (hw _ (List.mem_of_getElem? (i := 87) rfl)) (hw _ (List.mem_of_getElem? (i := 2) rfl)) (hw _ (List.mem_of_getElem? (i := 88) rfl)) ar_14 (by decide) rfl rfl rfl rfl (ct_isD hw hE) (by first | decide | (dsimp only; omega) | omega) (by first | decide | (dsimp only; omega) | omega) (by first | decide | (dsimp only; omega) | omega) (by first | decide | (dsimp only; omega) | omega) (kv ?_)
    rintro _ _ ⟨rfl, rfl⟩
    by_cases e1 : ¬ Dg c1
    · rw [if_neg e1]
      refine Wk.if_t (q := 165) d18_119 (by decide) (by decide) (by decide) ?_
      exact bad ⟨c1, by simp, e1⟩ _ _ _
    have d1 : Dg c1 := Decidable.not_not.mp e1
    rw [if_pos d1]
    refine Wk.if_f (q := 122) d18_119 rfl (by decide) ?_
    refine Wk.iload_n (q := 123) d18_122 rfl rfl ?_
    refine Wk.iconst (q := 124) (3) d18_123 rfl (by decide) ?_
    refine Wk.icmp_f (q := 127) d18_124 rfl (by decide) ?_
    refine Wk.iload (q := 129) d18_127 rfl rfl ?_
    refine Wk.static (q := 132) [_] _ 0 d18_129 rfl (hw _ (List.mem_of_getElem? (i := 86) rfl)) (hw _ (List.mem_of_getElem? (i := 87) rfl)) (hw _ (List.mem_of_getElem? (i := 2) rfl)) (hw _ (List.mem_of_getElem? (i := 88) rfl)) ar_14 (by decide) rfl rfl rfl rfl (ct_isD hw hE) (by first | decide | (dsimp only; omega) | omega) (by first | decide | (dsimp only; omega) | omega) (by first | decide | (dsimp only; omega) | omega) (by first | decide | (dsimp only; omega) | omega) (kv ?_)
    rintro _ _ ⟨rfl, rfl⟩
    by_cases e2 : ¬ Dg c2
    · rw [if_neg e2]
      refine Wk.if_t (q := 165) d18_132 (by decide) (by decide) (by decide) ?_
      exact bad ⟨c2, by simp, e2⟩ _ _ _
    have d2 : Dg c2 := Decidable.not_not.mp e2
    rw [if_pos d2]
    refine Wk.if_f (q := 135) d18_132 rfl (by decide) ?_
    refine Wk.iload_n (q := 136) d18_135 rfl rfl ?_
    refine Wk.iconst (q := 137) (4) d18_136 rfl (by decide) ?_
    refine Wk.icmp_t (q := 148) d18_137 (by decide) (by decide) (by decide) ?_
    refine Wk.iload_n (q := 149) d18_148 rfl rfl ?_
    refine Wk.iconst (q := 150) (5) d18_149 rfl (by decide) ?_
    refine Wk.icmp_t (q := 161) d18_150 (by decide) (by decide) (by decide) ?_
    refine Wk.iconst (q := 162) (1) d18_161 rfl (by decide) ?_
    refine Wk.goto (q := 166) d18_162 (by decide) (by decide) ?_
    refine Wk.istore (q := 168) d18_166 rfl (LS1.there (LS1.there (LS1.there (LS1.there (LS1.there (LS1.there (LS1.there (LS1.there (LS1.there (LS1.there (LS1.there (LS1.there (LS1.there (LS1.there (LS1.here (by first | exact One.u | exact One.val rfl | assumption)))))))))))))))) ?_
    refine Wk.iload (q := 170) d18_168 rfl rfl ?_
    refine Wk.if_t (q := 181) d18_170 (by decide) (by decide) (by decide) ?_
    refine Wk.iload (q := 183) d18_181 rfl rfl ?_
    refine Wk.bipush (q := 185) (48) d18_183 rfl (by decide) ?_
    refine Wk.isub (q := 186) d18_185 rfl ?_
    refine Wk.i2l (q := 187) d18_186 rfl ?_
    refine Wk.lstore (q := 189) d18_187 rfl (LS2.there (LS2.there (LS2.there (LS2.there (LS2.there (LS2.there (LS2.there (LS2.there (LS2.there (LS2.there (LS2.there (LS2.there (LS2.there (LS2.there (LS2.there (LS2.here (by first | exact Or.inl ⟨One.u, One.u⟩ | exact Or.inr ⟨_, rfl, rfl⟩ | exact Or.inl ⟨One.val rfl, One.val rfl⟩ | exact Or.inl ⟨One.val rfl, One.u⟩ | exact Or.inl ⟨One.u, One.val rfl⟩))))))))))))))))) ?_
    refine Wk.iload_n (q := 190) d18_189 rfl rfl ?_
    refine Wk.iconst (q := 191) (2) d18_190 rfl (by decide) ?_
    refine Wk.icmp_f (q := 194) d18_191 rfl (by decide) ?_
    refine Wk.lload (q := 196) d18_194 rfl rfl ?_
    refine Wk.ldc2_w (q := 199) d18_196 rfl (hw _ (List.mem_of_getElem? (i := 98) rfl)) ?_
    refine Wk.lmul (q := 200) d18_199 rfl ?_
    refine Wk.iload (q := 202) d18_200 rfl rfl ?_
    refine Wk.bipush (q := 204) (48) d18_202 rfl (by decide) ?_
    refine Wk.isub (q := 205) d18_204 rfl ?_
    refine Wk.i2l (q := 206) d18_205 rfl ?_
    refine Wk.ladd (q := 207) d18_206 rfl ?_
    refine Wk.lstore (q := 209) d18_207 rfl (LS2.there (LS2.there (LS2.there (LS2.there (LS2.there (LS2.there (LS2.there (LS2.there (LS2.there (LS2.there (LS2.there (LS2.there (LS2.there (LS2.there (LS2.there (LS2.here (by first | exact Or.inl ⟨One.u, One.u⟩ | exact Or.inr ⟨_, rfl, rfl⟩ | exact Or.inl ⟨One.val rfl, One.val rfl⟩ | exact Or.inl ⟨One.val rfl, One.u⟩ | exact Or.inl ⟨One.u, One.val rfl⟩))))))))))))))))) ?_
    refine Wk.iload_n (q := 210) d18_209 rfl rfl ?_
    refine Wk.iconst (q := 211) (3) d18_210 rfl (by decide) ?_
    refine Wk.icmp_f (q := 214) d18_211 rfl (by decide) ?_
    refine Wk.lload (q := 216) d18_214 rfl rfl ?_
    refine Wk.ldc2_w (q := 219) d18_216 rfl (hw _ (List.mem_of_getElem? (i := 98) rfl)) ?_
    refine Wk.lmul (q := 220) d18_219 rfl ?_
    refine Wk.iload (q := 222) d18_220 rfl rfl ?_
    refine Wk.bipush (q := 224) (48) d18_222 rfl (by decide) ?_
    refine Wk.isub (q := 225) d18_224 rfl ?_
    refine Wk.i2l (q := 226) d18_225 rfl ?_
    refine Wk.ladd (q := 227) d18_226 rfl ?_
    refine Wk.lstore (q := 229) d18_227 rfl (LS2.there (LS2.there (LS2.there (LS2.there (LS2.there (LS2.there (LS2.there (LS2.there (LS2.there (LS2.there (LS2.there (LS2.there (LS2.there (LS2.there (LS2.there (LS2.here (by first | exact Or.inl ⟨One.u, One.u⟩ | exact Or.inr ⟨_, rfl, rfl⟩ | exact Or.inl ⟨One.val rfl, One.val rfl⟩ | exact Or.inl ⟨One.val rfl, One.u⟩ | exact Or.inl ⟨One.u, One.val rfl⟩))))))))))))))))) ?_
    refine Wk.iload_n (q := 230) d18_229 rfl rfl ?_
    refine Wk.iconst (q := 231) (4) d18_230 rfl (by decide) ?_
    refine Wk.icmp_t (q := 249) d18_231 (by decide) (by decide) (by decide) ?_
    refine Wk.iload_n (q := 250) d18_249 rfl rfl ?_
    refine Wk.iconst (q := 251) (5) d18_250 rfl (by decide) ?_
    refine Wk.icmp_t (q := 269) d18_251 (by decide) (by decide) (by decide) ?_
    refine Wk.lload (q := 271) d18_269 rfl rfl ?_
    refine Wk.lstore (q := 273) d18_271 rfl (LS2.there (LS2.there (LS2.there (LS2.there (LS2.there (LS2.there (LS2.there (LS2.there (LS2.there (LS2.there (LS2.there (LS2.there (LS2.here (by first | exact Or.inl ⟨One.u, One.u⟩ | exact Or.inr ⟨_, rfl, rfl⟩ | exact Or.inl ⟨One.val rfl, One.val rfl⟩ | exact Or.inl ⟨One.val rfl, One.u⟩ | exact Or.inl ⟨One.u, One.val rfl⟩)))))))))))))) ?_
    refine fin _ _ _ _ _ _ _ ?_
    rw [hg]
    refine us_fold (c := c0) (cs := [c1, c2]) (by simp only [List.forall_mem_cons]; exact ⟨d0, d1, d2, fun _ h => nomatch h⟩) ?_
    simp only [vl]
    have q0 := (dg_i c0).mp d0
    have q1 := (dg_i c1).mp d1
    have q2 := (dg_i c2).mp d2
    omega
  · refine Wk.if_t (q := 101) d18_90 (by decide) (by decide) (by decide) ?_
    refine Wk.iload (q := 103) d18_101 rfl rfl ?_
    refine Wk.static (q := 106) [_] _ 0 d18_103 rfl (hw _ (List.mem_of_getElem? (i := 86) rfl)) (hw _ (List.mem_of_getElem? (i := 87) rfl)) (hw _ (List.mem_of_getElem? (i := 2) rfl)) (hw _ (List.mem_of_getElem? (i := 88) rfl)) ar_14 (by decide) rfl rfl rfl rfl (ct_isD hw hE) (by first | decide | (dsimp only; omega) | omega) (by first | decide | (dsimp only; omega) | omega) (by first | decide | (dsimp only; omega) | omega) (by first | decide | (dsimp only; omega) | omega) (kv ?_)
    rintro _ _ ⟨rfl, rfl⟩
    by_cases e0 : ¬ Dg c0
    · rw [if_neg e0]
      refine Wk.if_t (q := 165) d18_106 (by decide) (by decide) (by decide) ?_
      exact bad ⟨c0, by simp, e0⟩ _ _ _
    have d0 : Dg c0 := Decidable.not_not.mp e0
    rw [if_pos d0]
    refine Wk.if_f (q := 109) d18_106 rfl (by decide) ?_
    refine Wk.iload_n (q := 110) d18_109 rfl rfl ?_
    refine Wk.iconst (q := 111) (2) d18_110 rfl (by decide) ?_
    refine Wk.icmp_f (q := 114) d18_111 rfl (by decide) ?_
    refine Wk.iload (q := 116) d18_114 rfl rfl ?_
    refine Wk.static (q := 119) [_] _ 0 d18_116 rfl (hw _ (List.mem_of_getElem? (i := 86) rfl)) (hw _ (List.mem_of_getElem? (i := 87) rfl)) (hw _ (List.mem_of_getElem? (i := 2) rfl)) (hw _ (List.mem_of_getElem? (i := 88) rfl)) ar_14 (by decide) rfl rfl rfl rfl (ct_isD hw hE) (by first | decide | (dsimp only; omega) | omega) (by first | decide | (dsimp only; omega) | omega) (by first | decide | (dsimp only; omega) | omega) (by first | decide | (dsimp only; omega) | omega) (kv ?_)
    rintro _ _ ⟨rfl, rfl⟩
    by_cases e1 : ¬ Dg c1
    · rw [if_neg e1]
      refine Wk.if_t (q := 165) d18_119 (by decide) (by decide) (by decide) ?_
      exact bad ⟨c1, by simp, e1⟩ _ _ _
    have d1 : Dg c1 := Decidable.not_not.mp e1
    rw [if_pos d1]
    refine Wk.if_f (q := 122) d18_119 rfl (by decide) ?_
    refine Wk.iload_n (q := 123) d18_122 rfl rfl ?_
    refine Wk.iconst (q := 124) (3) d18_123 rfl (by decide) ?_
    refine Wk.icmp_f (q := 127) d18_124 rfl (by decide) ?_
    refine Wk.iload (q := 129) d18_127 rfl rfl ?_
    refine Wk.static (q := 132) [_] _ 0 d18_129 rfl (hw _ (List.mem_of_getElem? (i := 86) rfl)) (hw _ (List.mem_of_getElem? (i := 87) rfl)) (hw _ (List.mem_of_getElem? (i := 2) rfl)) (hw _ (List.mem_of_getElem? (i := 88) rfl)) ar_14 (by decide) rfl rfl rfl rfl (ct_isD hw hE) (by first | decide | (dsimp only; omega) | omega) (by first | decide | (dsimp only; omega) | omega) (by first | decide | (dsimp only; omega) | omega) (by first | decide | (dsimp only; omega) | omega) (kv ?_)
    rintro _ _ ⟨rfl, rfl⟩
    by_cases e2 : ¬ Dg c2
    · rw [if_neg e2]
      refine Wk.if_t (q := 165) d18_132 (by decide) (by decide) (by decide) ?_
      exact bad ⟨c2, by simp, e2⟩ _ _ _
    have d2 : Dg c2 := Decidable.not_not.mp e2
    rw [if_pos d2]
    refine Wk.if_f (q := 135) d18_132 rfl (by decide) ?_
    refine Wk.iload_n (q := 136) d18_135 rfl rfl ?_
    refine Wk.iconst (q := 137) (4) d18_136 rfl (by decide) ?_
    refine Wk.icmp_f (q := 140) d18_137 rfl (by decide) ?_
    refine Wk.iload (q := 142) d18_140 rfl rfl ?_
    refine Wk.static (q := 145) [_] _ 0 d18_142 rfl (hw _ (List.mem_of_getElem? (i := 86) rfl)) (hw _ (List.mem_of_getElem? (i := 87) rfl)) (hw _ (List.mem_of_getElem? (i := 2) rfl)) (hw _ (List.mem_of_getElem? (i := 88) rfl)) ar_14 (by decide) rfl rfl rfl rfl (ct_isD hw hE) (by first | decide | (dsimp only; omega) | omega) (by first | decide | (dsimp only; omega) | omega) (by first | decide | (dsimp only; omega) | omega) (by first | decide | (dsimp only; omega) | omega) (kv ?_)
    rintro _ _ ⟨rfl, rfl⟩
    by_cases e3 : ¬ Dg c3
    · rw [if_neg e3]
      refine Wk.if_t (q := 165) d18_145 (by decide) (by decide) (by decide) ?_
      exact bad ⟨c3, by simp, e3⟩ _ _ _
    have d3 : Dg c3 := Decidable.not_not.mp e3
    rw [if_pos d3]
    refine Wk.if_f (q := 148) d18_145 rfl (by decide) ?_
    refine Wk.iload_n (q := 149) d18_148 rfl rfl ?_
    refine Wk.iconst (q := 150) (5) d18_149 rfl (by decide) ?_
    refine Wk.icmp_t (q := 161) d18_150 (by decide) (by decide) (by decide) ?_
    refine Wk.iconst (q := 162) (1) d18_161 rfl (by decide) ?_
    refine Wk.goto (q := 166) d18_162 (by decide) (by decide) ?_
    refine Wk.istore (q := 168) d18_166 rfl (LS1.there (LS1.there (LS1.there (LS1.there (LS1.there (LS1.there (LS1.there (LS1.there (LS1.there (LS1.there (LS1.there (LS1.there (LS1.there (LS1.there (LS1.here (by first | exact One.u | exact One.val rfl | assumption)))))))))))))))) ?_
    refine Wk.iload (q := 170) d18_168 rfl rfl ?_
    refine Wk.if_t (q := 181) d18_170 (by decide) (by decide) (by decide) ?_
    refine Wk.iload (q := 183) d18_181 rfl rfl ?_
    refine Wk.bipush (q := 185) (48) d18_183 rfl (by decide) ?_
    refine Wk.isub (q := 186) d18_185 rfl ?_
    refine Wk.i2l (q := 187) d18_186 rfl ?_
    refine Wk.lstore (q := 189) d18_187 rfl (LS2.there (LS2.there (LS2.there (LS2.there (LS2.there (LS2.there (LS2.there (LS2.there (LS2.there (LS2.there (LS2.there (LS2.there (LS2.there (LS2.there (LS2.there (LS2.here (by first | exact Or.inl ⟨One.u, One.u⟩ | exact Or.inr ⟨_, rfl, rfl⟩ | exact Or.inl ⟨One.val rfl, One.val rfl⟩ | exact Or.inl ⟨One.val rfl, One.u⟩ | exact Or.inl ⟨One.u, One.val rfl⟩))))))))))))))))) ?_
    refine Wk.iload_n (q := 190) d18_189 rfl rfl ?_
    refine Wk.iconst (q := 191) (2) d18_190 rfl (by decide) ?_
    refine Wk.icmp_f (q := 194) d18_191 rfl (by decide) ?_
    refine Wk.lload (q := 196) d18_194 rfl rfl ?_
    refine Wk.ldc2_w (q := 199) d18_196 rfl (hw _ (List.mem_of_getElem? (i := 98) rfl)) ?_
    refine Wk.lmul (q := 200) d18_199 rfl ?_
    refine Wk.iload (q := 202) d18_200 rfl rfl ?_
    refine Wk.bipush (q := 204) (48) d18_202 rfl (by decide) ?_
    refine Wk.isub (q := 205) d18_204 rfl ?_
    refine Wk.i2l (q := 206) d18_205 rfl ?_
    refine Wk.ladd (q := 207) d18_206 rfl ?_
    refine Wk.lstore (q := 209) d18_207 rfl (LS2.there (LS2.there (LS2.there (LS2.there (LS2.there (LS2.there (LS2.there (LS2.there (LS2.there (LS2.there (LS2.there (LS2.there (LS2.there (LS2.there (LS2.there (LS2.here (by first | exact Or.inl ⟨One.u, One.u⟩ | exact Or.inr ⟨_, rfl, rfl⟩ | exact Or.inl ⟨One.val rfl, One.val rfl⟩ | exact Or.inl ⟨One.val rfl, One.u⟩ | exact Or.inl ⟨One.u, One.val rfl⟩))))))))))))))))) ?_
    refine Wk.iload_n (q := 210) d18_209 rfl rfl ?_
    refine Wk.iconst (q := 211) (3) d18_210 rfl (by decide) ?_
    refine Wk.icmp_f (q := 214) d18_211 rfl (by decide) ?_
    refine Wk.lload (q := 216) d18_214 rfl rfl ?_
    refine Wk.ldc2_w (q := 219) d18_216 rfl (hw _ (List.mem_of_getElem? (i := 98) rfl)) ?_
    refine Wk.lmul (q := 220) d18_219 rfl ?_
    refine Wk.iload (q := 222) d18_220 rfl rfl ?_
    refine Wk.bipush (q := 224) (48) d18_222 rfl (by decide) ?_
    refine Wk.isub (q := 225) d18_224 rfl ?_
    refine Wk.i2l (q := 226) d18_225 rfl ?_
    refine Wk.ladd (q := 227) d18_226 rfl ?_
    refine Wk.lstore (q := 229) d18_227 rfl (LS2.there (LS2.there (LS2.there (LS2.there (LS2.there (LS2.there (LS2.there (LS2.there (LS2.there (LS2.there (LS2.there (LS2.there (LS2.there (LS2.there (LS2.there (LS2.here (by first | exact Or.inl ⟨One.u, One.u⟩ | exact Or.inr ⟨_, rfl, rfl⟩ | exact Or.inl ⟨One.val rfl, One.val rfl⟩ | exact Or.inl ⟨One.val rfl, One.u⟩ | exact Or.inl ⟨One.u, One.val rfl⟩))))))))))))))))) ?_
    refine Wk.iload_n (q := 230) d18_229 rfl rfl ?_
    refine Wk.iconst (q := 231) (4) d18_230 rfl (by decide) ?_
    refine Wk.icmp_f (q := 234) d18_231 rfl (by decide) ?_
    refine Wk.lload (q := 236) d18_234 rfl rfl ?_
    refine Wk.ldc2_w (q := 239) d18_236 rfl (hw _ (List.mem_of_getElem? (i := 98) rfl)) ?_
    refine Wk.lmul (q := 240) d18_239 rfl ?_
    refine Wk.iload (q := 242) d18_240 rfl rfl ?_
    refine Wk.bipush (q := 244) (48) d18_242 rfl (by decide) ?_
    refine Wk.isub (q := 245) d18_244 rfl ?_
    refine Wk.i2l (q := 246) d18_245 rfl ?_
    refine Wk.ladd (q := 247) d18_246 rfl ?_
    refine Wk.lstore (q := 249) d18_247 rfl (LS2.there (LS2.there (LS2.there (LS2.there (LS2.there (LS2.there (LS2.there (LS2.there (LS2.there (LS2.there (LS2.there (LS2.there (LS2.there (LS2.there (LS2.there (LS2.here (by first | exact Or.inl ⟨One.u, One.u⟩ | exact Or.inr ⟨_, rfl, rfl⟩ | exact Or.inl ⟨One.val rfl, One.val rfl⟩ | exact Or.inl ⟨One.val rfl, One.u⟩ | exact Or.inl ⟨One.u, One.val rfl⟩))))))))))))))))) ?_
    refine Wk.iload_n (q := 250) d18_249 rfl rfl ?_
    refine Wk.iconst (q := 251) (5) d18_250 rfl (by decide) ?_
    refine Wk.icmp_t (q := 269) d18_251 (by decide) (by decide) (by decide) ?_
    refine Wk.lload (q := 271) d18_269 rfl rfl ?_
    refine Wk.lstore (q := 273) d18_271 rfl (LS2.there (LS2.there (LS2.there (LS2.there (LS2.there (LS2.there (LS2.there (LS2.there (LS2.there (LS2.there (LS2.there (LS2.there (LS2.here (by first | exact Or.inl ⟨One.u, One.u⟩ | exact Or.inr ⟨_, rfl, rfl⟩ | exact Or.inl ⟨One.val rfl, One.val rfl⟩ | exact Or.inl ⟨One.val rfl, One.u⟩ | exact Or.inl ⟨One.u, One.val rfl⟩)))))))))))))) ?_
    refine fin _ _ _ _ _ _ _ ?_
    rw [hg]
    refine us_fold (c := c0) (cs := [c1, c2, c3]) (by simp only [List.forall_mem_cons]; exact ⟨d0, d1, d2, d3, fun _ h => nomatch h⟩) ?_
    simp only [vl]
    have q0 := (dg_i c0).mp d0
    have q1 := (dg_i c1).mp d1
    have q2 := (dg_i c2).mp d2
    have q3 := (dg_i c3).mp d3
    omega
  · refine Wk.if_t (q := 101) d18_90 (by decide) (by decide) (by decide) ?_
    refine Wk.iload (q := 103) d18_101 rfl rfl ?_
    refine Wk.static (q := 106) [_] _ 0 d18_103 rfl (hw _ (List.mem_of_getElem? (i := 86) rfl)) (hw _ (List.mem_of_getElem? (i := 87) rfl)) (hw _ (List.mem_of_getElem? (i := 2) rfl)) (hw _ (List.mem_of_getElem? (i := 88) rfl)) ar_14 (by decide) rfl rfl rfl rfl (ct_isD hw hE) (by first | decide | (dsimp only; omega) | omega) (by first | decide | (dsimp only; omega) | omega) (by first | decide | (dsimp only; omega) | omega) (by first | decide | (dsimp only; omega) | omega) (kv ?_)
    rintro _ _ ⟨rfl, rfl⟩
    by_cases e0 : ¬ Dg c0
    · rw [if_neg e0]
      refine Wk.if_t (q := 165) d18_106 (by decide) (by decide) (by decide) ?_
      exact bad ⟨c0, by simp, e0⟩ _ _ _
    have d0 : Dg c0 := Decidable.not_not.mp e0
    rw [if_pos d0]
    refine Wk.if_f (q := 109) d18_106 rfl (by decide) ?_
    refine Wk.iload_n (q := 110) d18_109 rfl rfl ?_
    refine Wk.iconst (q := 111) (2) d18_110 rfl (by decide) ?_
    refine Wk.icmp_f (q := 114) d18_111 rfl (by decide) ?_
    refine Wk.iload (q := 116) d18_114 rfl rfl ?_
    refine Wk.static (q := 119) [_] _ 0 d18_116 rfl (hw _ (List.mem_of_getElem? (i := 86) rfl)) (hw _ (List.mem_of_getElem? (i := 87) rfl)) (hw _ (List.mem_of_getElem? (i := 2) rfl)) (hw _ (List.mem_of_getElem? (i := 88) rfl)) ar_14 (by decide) rfl rfl rfl rfl (ct_isD hw hE) (by first | decide | (dsimp only; omega) | omega) (by first | decide | (dsimp only; omega) | omega) (by first | decide | (dsimp only; omega) | omega) (by first | decide | (dsimp only; omega) | omega) (kv ?_)
    rintro _ _ ⟨rfl, rfl⟩
    by_cases e1 : ¬ Dg c1
    · rw [if_neg e1]
      refine Wk.if_t (q := 165) d18_119 (by decide) (by decide) (by decide) ?_
      exact bad ⟨c1, by simp, e1⟩ _ _ _
    have d1 : Dg c1 := Decidable.not_not.mp e1
    rw [if_pos d1]
    refine Wk.if_f (q := 122) d18_119 rfl (by decide) ?_
    refine Wk.iload_n (q := 123) d18_122 rfl rfl ?_
    refine Wk.iconst (q := 124) (3) d18_123 rfl (by decide) ?_
    refine Wk.icmp_f (q := 127) d18_124 rfl (by decide) ?_
    refine Wk.iload (q := 129) d18_127 rfl rfl ?_
    refine Wk.static (q := 132) [_] _ 0 d18_129 rfl (hw _ (List.mem_of_getElem? (i := 86) rfl)) (hw _ (List.mem_of_getElem? (i := 87) rfl)) (hw _ (List.mem_of_getElem? (i := 2) rfl)) (hw _ (List.mem_of_getElem? (i := 88) rfl)) ar_14 (by decide) rfl rfl rfl rfl (ct_isD hw hE) (by first | decide | (dsimp only; omega) | omega) (by first | decide | (dsimp only; omega) | omega) (by first | decide | (dsimp only; omega) | omega) (by first | decide | (dsimp only; omega) | omega) (kv ?_)
    rintro _ _ ⟨rfl, rfl⟩
    by_cases e2 : ¬ Dg c2
    · rw [if_neg e2]
      refine Wk.if_t (q := 165) d18_132 (by decide) (by decide) (by decide) ?_
      exact bad ⟨c2, by simp, e2⟩ _ _ _
    have d2 : Dg c2 := Decidable.not_not.mp e2
    rw [if_pos d2]
    refine Wk.if_f (q := 135) d18_132 rfl (by decide) ?_
    refine Wk.iload_n (q := 136) d18_135 rfl rfl ?_
    refine Wk.iconst (q := 137) (4) d18_136 rfl (by decide) ?_
    refine Wk.icmp_f (q := 140) d18_137 rfl (by decide) ?_
    refine Wk.iload (q := 142) d18_140 rfl rfl ?_
    refine Wk.static (q := 145) [_] _ 0 d18_142 rfl (hw _ (List.mem_of_getElem? (i := 86) rfl)) (hw _ (List.mem_of_getElem? (i := 87) rfl)) (hw _ (List.mem_of_getElem? (i := 2) rfl)) (hw _ (List.mem_of_getElem? (i := 88) rfl)) ar_14 (by decide) rfl rfl rfl rfl (ct_isD hw hE) (by first | decide | (dsimp only; omega) | omega) (by first | decide | (dsimp only; omega) | omega) (by first | decide | (dsimp only; omega) | omega) (by first | decide | (dsimp only; omega) | omega) (kv ?_)
    rintro _ _ ⟨rfl, rfl⟩
    by_cases e3 : ¬ Dg c3
    · rw [if_neg e3]
      refine Wk.if_t (q := 165) d18_145 (by decide) (by decide) (by decide) ?_
      exact bad ⟨c3, by simp, e3⟩ _ _ _
    have d3 : Dg c3 := Decidable.not_not.mp e3
    rw [if_pos d3]
    refine Wk.if_f (q := 148) d18_145 rfl (by decide) ?_
    refine Wk.iload_n (q := 149) d18_148 rfl rfl ?_
    refine Wk.iconst (q := 150) (5) d18_149 rfl (by decide) ?_
    refine Wk.icmp_f (q := 153) d18_150 rfl (by decide) ?_
    refine Wk.iload (q := 155) d18_153 rfl rfl ?_
    refine Wk.static (q := 158) [_] _ 0 d18_155 rfl (hw _ (List.mem_of_getElem? (i := 86) rfl)) (hw _ (List.mem_of_getElem? (i := 87) rfl)) (hw _ (List.mem_of_getElem? (i := 2) rfl)) (hw _ (List.mem_of_getElem? (i := 88) rfl)) ar_14 (by decide) rfl rfl rfl rfl (ct_isD hw hE) (by first | decide | (dsimp only; omega) | omega) (by first | decide | (dsimp only; omega) | omega) (by first | decide | (dsimp only; omega) | omega) (by first | decide | (dsimp only; omega) | omega) (kv ?_)
    rintro _ _ ⟨rfl, rfl⟩
    by_cases e4 : ¬ Dg c4
    · rw [if_neg e4]
      refine Wk.if_t (q := 165) d18_158 (by decide) (by decide) (by decide) ?_
      exact bad ⟨c4, by simp, e4⟩ _ _ _
    have d4 : Dg c4 := Decidable.not_not.mp e4
    rw [if_pos d4]
    refine Wk.if_f (q := 161) d18_158 rfl (by decide) ?_
    refine Wk.iconst (q := 162) (1) d18_161 rfl (by decide) ?_
    refine Wk.goto (q := 166) d18_162 (by decide) (by decide) ?_
    refine Wk.istore (q := 168) d18_166 rfl (LS1.there (LS1.there (LS1.there (LS1.there (LS1.there (LS1.there (LS1.there (LS1.there (LS1.there (LS1.there (LS1.there (LS1.there (LS1.there (LS1.there (LS1.here (by first | exact One.u | exact One.val rfl | assumption)))))))))))))))) ?_
    refine Wk.iload (q := 170) d18_168 rfl rfl ?_
    refine Wk.if_t (q := 181) d18_170 (by decide) (by decide) (by decide) ?_
    refine Wk.iload (q := 183) d18_181 rfl rfl ?_
    refine Wk.bipush (q := 185) (48) d18_183 rfl (by decide) ?_
    refine Wk.isub (q := 186) d18_185 rfl ?_
    refine Wk.i2l (q := 187) d18_186 rfl ?_
    refine Wk.lstore (q := 189) d18_187 rfl (LS2.there (LS2.there (LS2.there (LS2.there (LS2.there (LS2.there (LS2.there (LS2.there (LS2.there (LS2.there (LS2.there (LS2.there (LS2.there (LS2.there (LS2.there (LS2.here (by first | exact Or.inl ⟨One.u, One.u⟩ | exact Or.inr ⟨_, rfl, rfl⟩ | exact Or.inl ⟨One.val rfl, One.val rfl⟩ | exact Or.inl ⟨One.val rfl, One.u⟩ | exact Or.inl ⟨One.u, One.val rfl⟩))))))))))))))))) ?_
    refine Wk.iload_n (q := 190) d18_189 rfl rfl ?_
    refine Wk.iconst (q := 191) (2) d18_190 rfl (by decide) ?_
    refine Wk.icmp_f (q := 194) d18_191 rfl (by decide) ?_
    refine Wk.lload (q := 196) d18_194 rfl rfl ?_
    refine Wk.ldc2_w (q := 199) d18_196 rfl (hw _ (List.mem_of_getElem? (i := 98) rfl)) ?_
    refine Wk.lmul (q := 200) d18_199 rfl ?_
    refine Wk.iload (q := 202) d18_200 rfl rfl ?_
    refine Wk.bipush (q := 204) (48) d18_202 rfl (by decide) ?_
    refine Wk.isub (q := 205) d18_204 rfl ?_
    refine Wk.i2l (q := 206) d18_205 rfl ?_
    refine Wk.ladd (q := 207) d18_206 rfl ?_
    refine Wk.lstore (q := 209) d18_207 rfl (LS2.there (LS2.there (LS2.there (LS2.there (LS2.there (LS2.there (LS2.there (LS2.there (LS2.there (LS2.there (LS2.there (LS2.there (LS2.there (LS2.there (LS2.there (LS2.here (by first | exact Or.inl ⟨One.u, One.u⟩ | exact Or.inr ⟨_, rfl, rfl⟩ | exact Or.inl ⟨One.val rfl, One.val rfl⟩ | exact Or.inl ⟨One.val rfl, One.u⟩ | exact Or.inl ⟨One.u, One.val rfl⟩))))))))))))))))) ?_
    refine Wk.iload_n (q := 210) d18_209 rfl rfl ?_
    refine Wk.iconst (q := 211) (3) d18_210 rfl (by decide) ?_
    refine Wk.icmp_f (q := 214) d18_211 rfl (by decide) ?_
    refine Wk.lload (q := 216) d18_214 rfl rfl ?_
    refine Wk.ldc2_w (q := 219) d18_216 rfl (hw _ (List.mem_of_getElem? (i := 98) rfl)) ?_
    refine Wk.lmul (q := 220) d18_219 rfl ?_
    refine Wk.iload (q := 222) d18_220 rfl rfl ?_
    refine Wk.bipush (q := 224) (48) d18_222 rfl (by decide) ?_
    refine Wk.isub (q := 225) d18_224 rfl ?_
    refine Wk.i2l (q := 226) d18_225 rfl ?_
    refine Wk.ladd (q := 227) d18_226 rfl ?_
    refine Wk.lstore (q := 229) d18_227 rfl (LS2.there (LS2.there (LS2.there (LS2.there (LS2.there (LS2.there (LS2.there (LS2.there (LS2.there (LS2.there (LS2.there (LS2.there (LS2.there (LS2.there (LS2.there (LS2.here (by first | exact Or.inl ⟨One.u, One.u⟩ | exact Or.inr ⟨_, rfl, rfl⟩ | exact Or.inl ⟨One.val rfl, One.val rfl⟩ | exact Or.inl ⟨One.val rfl, One.u⟩ | exact Or.inl ⟨One.u, One.val rfl⟩))))))))))))))))) ?_
    refine Wk.iload_n (q := 230) d18_229 rfl rfl ?_
    refine Wk.iconst (q := 231) (4) d18_230 rfl (by decide) ?_
    refine Wk.icmp_f (q := 234) d18_231 rfl (by decide) ?_
    refine Wk.lload (q := 236) d18_234 rfl rfl ?_
    refine Wk.ldc2_w (q := 239) d18_236 rfl (hw _ (List.mem_of_getElem? (i := 98) rfl)) ?_
    refine Wk.lmul (q := 240) d18_239 rfl ?_
    refine Wk.iload (q := 242) d18_240 rfl rfl ?_
    refine Wk.bipush (q := 244) (48) d18_242 rfl (by decide) ?_
    refine Wk.isub (q := 245) d18_244 rfl ?_
    refine Wk.i2l (q := 246) d18_245 rfl ?_
    refine Wk.ladd (q := 247) d18_246 rfl ?_
    refine Wk.lstore (q := 249) d18_247 rfl (LS2.there (LS2.there (LS2.there (LS2.there (LS2.there (LS2.there (LS2.there (LS2.there (LS2.there (LS2.there (LS2.there (LS2.there (LS2.there (LS2.there (LS2.there (LS2.here (by first | exact Or.inl ⟨One.u, One.u⟩ | exact Or.inr ⟨_, rfl, rfl⟩ | exact Or.inl ⟨One.val rfl, One.val rfl⟩ | exact Or.inl ⟨One.val rfl, One.u⟩ | exact Or.inl ⟨One.u, One.val rfl⟩))))))))))))))))) ?_
    refine Wk.iload_n (q := 250) d18_249 rfl rfl ?_
    refine Wk.iconst (q := 251) (5) d18_250 rfl (by decide) ?_
    refine Wk.icmp_f (q := 254) d18_251 rfl (by decide) ?_
    refine Wk.lload (q := 256) d18_254 rfl rfl ?_
    refine Wk.ldc2_w (q := 259) d18_256 rfl (hw _ (List.mem_of_getElem? (i := 98) rfl)) ?_
    refine Wk.lmul (q := 260) d18_259 rfl ?_
    refine Wk.iload (q := 262) d18_260 rfl rfl ?_
    refine Wk.bipush (q := 264) (48) d18_262 rfl (by decide) ?_
    refine Wk.isub (q := 265) d18_264 rfl ?_
    refine Wk.i2l (q := 266) d18_265 rfl ?_
    refine Wk.ladd (q := 267) d18_266 rfl ?_
    refine Wk.lstore (q := 269) d18_267 rfl (LS2.there (LS2.there (LS2.there (LS2.there (LS2.there (LS2.there (LS2.there (LS2.there (LS2.there (LS2.there (LS2.there (LS2.there (LS2.there (LS2.there (LS2.there (LS2.here (by first | exact Or.inl ⟨One.u, One.u⟩ | exact Or.inr ⟨_, rfl, rfl⟩ | exact Or.inl ⟨One.val rfl, One.val rfl⟩ | exact Or.inl ⟨One.val rfl, One.u⟩ | exact Or.inl ⟨One.u, One.val rfl⟩))))))))))))))))) ?_
    refine Wk.lload (q := 271) d18_269 rfl rfl ?_
    refine Wk.lstore (q := 273) d18_271 rfl (LS2.there (LS2.there (LS2.there (LS2.there (LS2.there (LS2.there (LS2.there (LS2.there (LS2.there (LS2.there (LS2.there (LS2.there (LS2.here (by first | exact Or.inl ⟨One.u, One.u⟩ | exact Or.inr ⟨_, rfl, rfl⟩ | exact Or.inl ⟨One.val rfl, One.val rfl⟩ | exact Or.inl ⟨One.val rfl, One.u⟩ | exact Or.inl ⟨One.u, One.val rfl⟩)))))))))))))) ?_
    refine fin _ _ _ _ _ _ _ ?_
    rw [hg]
    refine us_fold (c := c0) (cs := [c1, c2, c3, c4]) (by simp only [List.forall_mem_cons]; exact ⟨d0, d1, d2, d3, d4, fun _ h => nomatch h⟩) ?_
    simp only [vl]
    have q0 := (dg_i c0).mp d0
    have q1 := (dg_i c1).mp d1
    have q2 := (dg_i c2).mp d2
    have q3 := (dg_i c3).mp d3
    have q4 := (dg_i c4).mp d4
    omega
theorem vl_step {w p : Int64} {cs : List Int32} (P P' : Int) (hp : p.toInt = P) (h0 : 0 < P) (hP : P * 10 = P') (hw : 0 ≤ w.toInt) : vl (dgt w p :: cs) (w.toInt / P') = vl cs (w.toInt / P) := by
  show vl cs (w.toInt / P' * 10 + ((dgt w p).toInt - 48)) = _
  rw [dgt_v P hp h0 hw, ← hP, ← Int.ediv_ediv_of_nonneg (by omega)]
  generalize w.toInt / P = y
  congr 1
  omega
theorem vl_app : ∀ (cs ds : List Int32) (x : Int), vl (cs ++ ds) x = vl ds (vl cs x) := by
  intro cs
  induction cs with
  | nil => intro ds x; rfl
  | cons c cs ih => intro ds x; exact ih ds _
def digs (w : Int64) : List Int32 := [dgt w 1000000000000000000, dgt w 100000000000000000, dgt w 10000000000000000, dgt w 1000000000000000, dgt w 100000000000000, dgt w 10000000000000, dgt w 1000000000000, dgt w 100000000000, dgt w 10000000000, dgt w 1000000000, dgt w 100000000, dgt w 10000000, dgt w 1000000, dgt w 100000, dgt w 10000, dgt w 1000, dgt w 100, dgt w 10, dgt w 1]
theorem digs_dg {w : Int64} (hw : 0 ≤ w.toInt) : ∀ c ∈ digs w, Dg c := by
  unfold digs
  simp only [List.forall_mem_cons]
  exact ⟨dgt_dg 1000000000000000000 (by decide) (by decide) hw, dgt_dg 100000000000000000 (by decide) (by decide) hw, dgt_dg 10000000000000000 (by decide) (by decide) hw, dgt_dg 1000000000000000 (by decide) (by decide) hw, dgt_dg 100000000000000 (by decide) (by decide) hw, dgt_dg 10000000000000 (by decide) (by decide) hw, dgt_dg 1000000000000 (by decide) (by decide) hw, dgt_dg 100000000000 (by decide) (by decide) hw, dgt_dg 10000000000 (by decide) (by decide) hw, dgt_dg 1000000000 (by decide) (by decide) hw, dgt_dg 100000000 (by decide) (by decide) hw, dgt_dg 10000000 (by decide) (by decide) hw, dgt_dg 1000000 (by decide) (by decide) hw, dgt_dg 100000 (by decide) (by decide) hw, dgt_dg 10000 (by decide) (by decide) hw, dgt_dg 1000 (by decide) (by decide) hw, dgt_dg 100 (by decide) (by decide) hw, dgt_dg 10 (by decide) (by decide) hw, dgt_dg 1 (by decide) (by decide) hw, fun _ h => nomatch h⟩
theorem vl_digs {w : Int64} (hw : 0 ≤ w.toInt) : vl (digs w) 0 = w.toInt := by
  have h : (0 : Int) = w.toInt / 10000000000000000000 := by have := rng64 w; omega
  have h2 : vl (digs w) 0 = vl (digs w) (w.toInt / 10000000000000000000) := by rw [← h]
  rw [h2]
  unfold digs
  rw [vl_step 1000000000000000000 10000000000000000000 (by decide) (by decide) (by decide) hw]
  rw [vl_step 100000000000000000 1000000000000000000 (by decide) (by decide) (by decide) hw]
  rw [vl_step 10000000000000000 100000000000000000 (by decide) (by decide) (by decide) hw]
  rw [vl_step 1000000000000000 10000000000000000 (by decide) (by decide) (by decide) hw]
  rw [vl_step 100000000000000 1000000000000000 (by decide) (by decide) (by decide) hw]
  rw [vl_step 10000000000000 100000000000000 (by decide) (by decide) (by decide) hw]
  rw [vl_step 1000000000000 10000000000000 (by decide) (by decide) (by decide) hw]
  rw [vl_step 100000000000 1000000000000 (by decide) (by decide) (by decide) hw]
  rw [vl_step 10000000000 100000000000 (by decide) (by decide) (by decide) hw]
  rw [vl_step 1000000000 10000000000 (by decide) (by decide) (by decide) hw]
  rw [vl_step 100000000 1000000000 (by decide) (by decide) (by decide) hw]
  rw [vl_step 10000000 100000000 (by decide) (by decide) (by decide) hw]
  rw [vl_step 1000000 10000000 (by decide) (by decide) (by decide) hw]
  rw [vl_step 100000 1000000 (by decide) (by decide) (by decide) hw]
  rw [vl_step 10000 100000 (by decide) (by decide) (by decide) hw]
  rw [vl_step 1000 10000 (by decide) (by decide) (by decide) hw]
  rw [vl_step 100 1000 (by decide) (by decide) (by decide) hw]
  rw [vl_step 10 100 (by decide) (by decide) (by decide) hw]
  rw [vl_step 1 10 (by decide) (by decide) (by decide) hw]
  show w.toInt / 1 = w.toInt
  exact Int.ediv_one _
def chain (w : Int64) (xs : List Int32) (o : Nat) : List Int32 := (((((((((((((((((((xs.set (o + 0) (dgt w 1000000000000000000)).set (o + 1) (dgt w 100000000000000000)).set (o + 2) (dgt w 10000000000000000)).set (o + 3) (dgt w 1000000000000000)).set (o + 4) (dgt w 100000000000000)).set (o + 5) (dgt w 10000000000000)).set (o + 6) (dgt w 1000000000000)).set (o + 7) (dgt w 100000000000)).set (o + 8) (dgt w 10000000000)).set (o + 9) (dgt w 1000000000)).set (o + 10) (dgt w 100000000)).set (o + 11) (dgt w 10000000)).set (o + 12) (dgt w 1000000)).set (o + 13) (dgt w 100000)).set (o + 14) (dgt w 10000)).set (o + 15) (dgt w 1000)).set (o + 16) (dgt w 100)).set (o + 17) (dgt w 10)).set (o + 18) (dgt w 1))
theorem us_w {w : Int64} (hw : 0 ≤ w.toInt) : us (48 :: digs w) = w := by
  have e : vl (48 :: digs w) 0 = w.toInt := by
    rw [vl, show ((0 : Int) * 10 + ((48 : Int32).toInt - 48)) = 0 by decide]
    exact vl_digs hw
  have r := rng64 w
  apply Int64.toInt_inj.mp
  rw [us_val (by simp) (by
    rw [List.forall_mem_cons]
    exact ⟨by decide, digs_dg hw⟩) (by rw [e]; omega), e]
theorem ch1 (w : Int64) : chain w (48 :: List.replicate 19 0) 1 = 48 :: digs w := by
  simp [chain, digs, List.replicate]
theorem ch0 (w : Int64) (c : Int32) : chain w (List.replicate 19 0 ++ [c]) 0 = digs w ++ [c] := by
  simp [chain, digs, List.replicate]
theorem digs_len (w : Int64) : (digs w).length = 19 := by simp [digs]
abbrev FitD (w : Int64) (d : Int32) : Prop := w < 922337203685477580 ∨ (w = 922337203685477580 ∧ ¬ 7 < d)
theorem us_d {w : Int64} {d : Int32} (hw : 0 ≤ w.toInt) (hd : 0 ≤ d.toInt ∧ d.toInt ≤ 9) : us (digs w ++ [((48 : Int32) + d).toUInt32.toUInt16.toUInt32.toInt32]) = if FitD w d then w * 10 + d.toInt64 else -1 := by
  have hc := d10_lat hd
  have hdg : ∀ c ∈ digs w ++ [((48 : Int32) + d).toUInt32.toUInt16.toUInt32.toInt32], Dg c := by
    intro c h
    rcases List.mem_append.mp h with h | h
    · exact digs_dg hw c h
    · rw [List.mem_singleton.mp h, dg_i, hc]; omega
  have e : vl (digs w ++ [((48 : Int32) + d).toUInt32.toUInt16.toUInt32.toInt32]) 0 = w.toInt * 10 + d.toInt := by
    rw [vl_app, vl_digs hw]
    show w.toInt * 10 + (((48 : Int32) + d).toUInt32.toUInt16.toUInt32.toInt32.toInt - 48) = _
    rw [hc]
    omega
  have hk : FitD w d ↔ w.toInt * 10 + d.toInt ≤ 9223372036854775807 := by
    unfold FitD
    rw [Int64.lt_iff_toInt_lt, ← Int64.toInt_inj, Int32.lt_iff_toInt_lt]
    have k1 : (922337203685477580 : Int64).toInt = 922337203685477580 := by decide
    have k2 : (7 : Int32).toInt = 7 := by decide
    rw [k1, k2]
    omega
  by_cases h : FitD w d
  · rw [if_pos h]
    have h' := hk.mp h
    apply Int64.toInt_inj.mp
    rw [us_val (by simp) hdg (by rw [e]; exact h'), e]
    have a1 := c_lmul w 10
    have a2 := c_ladd (w * 10) d.toInt64
    have k : (10 : Int64).toInt = 10 := by decide
    have r1 := rng64 (w * 10)
    have r2 := rng64 (w * 10 + d.toInt64)
    rw [k] at a1
    rw [c_i2l] at a2
    omega
  · rw [if_neg h]
    exact us_big (by simp) hdg (by rw [e]; exact fun q => h (hk.mpr q))
theorem vsm {xs : List Int32} {i : Nat} {c : Int32} (h : i < xs.length) : VS i (.int c) (xs.map .int) ((xs.set i c).map .int) := ⟨by rw [List.map_set], by rw [List.length_map]; exact h⟩
theorem lat_set {xs : List Int32} {i : Nat} {c : Int32} (h : Lat xs) (hc : Lat1 c) : Lat (xs.set i c) := fun x hx => (List.mem_or_eq_of_mem_set hx).elim (h x) (fun e => e ▸ hc)
set_option maxRecDepth 65536 in
set_option maxHeartbeats 8000000 in
theorem ct_long {l : Launch} {Z : State} {a0 : Array Value} (hw : ∀ d ∈ tables_1, d.before a0 Z = true) (hE : EW Z a0 EL0) (F : ∃ z, z ≠ (0 : Int32) ∧ Sta Z Z.heap "java/lang/String" "COMPACT_STRINGS" "Z" (.int z)) (hO : FO Z) {L : Store} {md k : Int32} {v : Int64} :
    Ct l Z EL0 (⟨"com/example/webhook_signature_check/webhooksignaturecheck/HeaderElementsUnixSecondsPinLaw", "longCase", "(IJI)Z"⟩ : MethodName) method_8_code 18 (some .boolean) ({ frames := 5, cells := 6, slots := 52, locals := 69 } : Room) #[.int md, .long v, .int k] L (RV fun u M => u = .int 1) := by
  have hwn := and_nn v
  obtain ⟨ps, hps, eps⟩ := ushr_rem md 3 3 20 20 (by decide) (by decide) (by decide) (by decide)
  have hd : 0 ≤ ((k &&& 65535) % 10).toInt ∧ ((k &&& 65535) % 10).toInt ≤ 9 := by
    have a := c_and k 65535 (by decide)
    have b := (c_irem (k &&& 65535) 10 10 (by decide)).1 a.1
    omega
  refine Ct.of (a0 := a0) (Ls := [.val (.int _), .val (.long _), .second, .val (.int _), .unset, .unset, .unset, .unset, .unset, .unset, .unset, .unset, .unset, .unset, .unset, .unset, .unset, .unset]) (plainFor_of_name pn_5) (fun m => ef_iji_18 m _ _ _) hE ?_
  refine Wk.lload_n (q := 1) d19_0 rfl rfl ?_
  refine Wk.ldc2_w (q := 4) d19_1 rfl (hw _ (List.mem_of_getElem? (i := 92) rfl)) ?_
  refine Wk.land (q := 5) d19_4 rfl ?_
  refine Wk.lstore (q := 7) d19_5 rfl (LS2.there (LS2.there (LS2.there (LS2.there (LS2.here (by first | exact Or.inl ⟨One.u, One.u⟩ | exact Or.inr ⟨_, rfl, rfl⟩ | exact Or.inl ⟨One.val rfl, One.val rfl⟩ | exact Or.inl ⟨One.val rfl, One.u⟩ | exact Or.inl ⟨One.u, One.val rfl⟩)))))) ?_
  refine Wk.iload_n (q := 8) d19_7 rfl rfl ?_
  refine Wk.iconst (q := 9) (2) d19_8 rfl (by decide) ?_
  refine Wk.iand (q := 10) d19_9 rfl ?_
  generalize v &&& 9223372036854775807 = w at hwn ⊢
  have s18 : ∀ e : Int32, (e = 0 ∨ e = 1) → Wk l Z a0 EL0 (⟨"com/example/webhook_signature_check/webhooksignaturecheck/HeaderElementsUnixSecondsPinLaw", "longCase", "(IJI)Z"⟩ : MethodName) method_8_code 18 (some .boolean) ({ frames := 5, cells := 6, slots := 52, locals := 69 } : Room) (RV fun u M => u = .int 1) L 6 52 18 [.val (.int md), .val (.long v), .second, .val (.int k), .val (.long w), .second, .unset, .unset, .unset, .unset, .unset, .unset, .unset, .unset, .unset, .unset, .unset, .unset] [.int e] := by
    intro e he
    have s31 : ∀ g : Int32, (g = 0 ∨ g = 1) → Wk l Z a0 EL0 (⟨"com/example/webhook_signature_check/webhooksignaturecheck/HeaderElementsUnixSecondsPinLaw", "longCase", "(IJI)Z"⟩ : MethodName) method_8_code 18 (some .boolean) ({ frames := 5, cells := 6, slots := 52, locals := 69 } : Room) (RV fun u M => u = .int 1) L 6 52 31 [.val (.int md), .val (.long v), .second, .val (.int k), .val (.long w), .second, .val (.int e), .unset, .unset, .unset, .unset, .unset, .unset, .unset, .unset, .unset, .unset, .unset] [.int g] := by
      intro g hg
      refine Wk.istore (q := 33) d19_31 rfl (LS1.there (LS1.there (LS1.there (LS1.there (LS1.there (LS1.there (LS1.there (LS1.here (by first | exact One.u | exact One.val rfl | assumption))))))))) ?_
      refine Wk.iload_n (q := 34) d19_33 rfl rfl ?_
      refine Wk.iconst (q := 35) (3) d19_34 rfl (by decide) ?_
      refine Wk.iushr (q := 36) d19_35 rfl ?_
      refine Wk.bipush (q := 38) (20) d19_36 rfl (by decide) ?_
      refine Wk.irem (q := 39) d19_38 rfl (by decide) ?_
      rw [eps]
      refine Wk.istore (q := 41) d19_39 rfl (LS1.there (LS1.there (LS1.there (LS1.there (LS1.there (LS1.there (LS1.there (LS1.there (LS1.here (by first | exact One.u | exact One.val rfl | assumption)))))))))) ?_
      refine Wk.iload_n (q := 42) d19_41 rfl rfl ?_
      refine Wk.ldc_int (q := 44) d19_42 rfl (hw _ (List.mem_of_getElem? (i := 93) rfl)) ?_
      refine Wk.iand (q := 45) d19_44 rfl ?_
      refine Wk.bipush (q := 47) (10) d19_45 rfl (by decide) ?_
      refine Wk.irem (q := 48) d19_47 rfl (by decide) ?_
      refine Wk.istore (q := 50) d19_48 rfl (LS1.there (LS1.there (LS1.there (LS1.there (LS1.there (LS1.there (LS1.there (LS1.there (LS1.there (LS1.here (by first | exact One.u | exact One.val rfl | assumption))))))))))) ?_
      refine Wk.iload_n (q := 51) d19_50 rfl rfl ?_
      refine Wk.bipush (q := 53) (16) d19_51 rfl (by decide) ?_
      refine Wk.iushr (q := 54) d19_53 rfl ?_
      refine Wk.sipush (q := 57) (255) d19_54 rfl (by decide) ?_
      refine Wk.iand (q := 58) d19_57 rfl ?_
      refine Wk.i2c (q := 59) d19_58 rfl ?_
      rw [i2c_mask]
      have hc := mask_lat (XT.ushr k 16)
      generalize XT.ushr k 16 &&& 255 = c at hc ⊢
      generalize (k &&& 65535) % 10 = d at hd ⊢
      refine Wk.istore (q := 61) d19_59 rfl (LS1.there (LS1.there (LS1.there (LS1.there (LS1.there (LS1.there (LS1.there (LS1.there (LS1.there (LS1.there (LS1.here (by first | exact One.u | exact One.val rfl | assumption)))))))))))) ?_
      refine Wk.iload (q := 63) d19_61 rfl rfl ?_
      have s104 : ∀ (o : Nat) (xs : List Int32) (A : Addr), o ≤ 1 → xs.length = 20 → (chain w xs o).length = 20 → Lat (chain w xs o) → ((e = 0 ∧ us (chain w xs o) = w) ∨ (e = 1 ∧ us (chain w xs o) = if FitD w d then w * 10 + d.toInt64 else -1)) → Wk l Z a0 EL0 (⟨"com/example/webhook_signature_check/webhooksignaturecheck/HeaderElementsUnixSecondsPinLaw", "longCase", "(IJI)Z"⟩ : MethodName) method_8_code 18 (some .boolean) ({ frames := 5, cells := 6, slots := 52, locals := 69 } : Room) (RV fun u M => u = .int 1) ((A, true, AR Z .char (xs.map .int)) :: L) 5 32 104 [.val (.int md), .val (.long v), .second, .val (.int k), .val (.long w), .second, .val (.int e), .val (.int g), .val (.int ps.toInt32), .val (.int d), .val (.int c), .val (.int o.toInt32), .val (.ref A), .unset, .unset, .unset, .unset, .unset] [] := by
        intro o xs A ho hx hzl hzL hu
        have s400 : ∀ zs : List Int32, zs.length = 20 → Lat zs → ((e = 0 ∧ us zs = w) ∨ (e = 1 ∧ us zs = if FitD w d then w * 10 + d.toInt64 else -1)) → Wk l Z a0 EL0 (⟨"com/example/webhook_signature_check/webhooksignaturecheck/HeaderElementsUnixSecondsPinLaw", "longCase", "(IJI)Z"⟩ : MethodName) method_8_code 18 (some .boolean) ({ frames := 5, cells := 6, slots := 52, locals := 69 } : Room) (RV fun u M => u = .int 1) ((A, true, AR Z .char (zs.map .int)) :: L) 5 32 400 [.val (.int md), .val (.long v), .second, .val (.int k), .val (.long w), .second, .val (.int e), .val (.int g), .val (.int ps.toInt32), .val (.int d), .val (.int c), .val (.int o.toInt32), .val (.ref A), .unset, .unset, .unset, .unset, .unset] [] := by
          intro zs hl hL hu
          have s432 : ∀ (bd : Int32) (ys : List Int32), ys.length = 20 → Lat ys → ((bd = 1 ∧ us ys = -1) ∨ (bd = 0 ∧ ys = zs)) → Wk l Z a0 EL0 (⟨"com/example/webhook_signature_check/webhooksignaturecheck/HeaderElementsUnixSecondsPinLaw", "longCase", "(IJI)Z"⟩ : MethodName) method_8_code 18 (some .boolean) ({ frames := 5, cells := 6, slots := 52, locals := 69 } : Room) (RV fun u M => u = .int 1) ((A, true, AR Z .char (ys.map .int)) :: L) 5 32 432 [.val (.int md), .val (.long v), .second, .val (.int k), .val (.long w), .second, .val (.int e), .val (.int g), .val (.int ps.toInt32), .val (.int d), .val (.int c), .val (.int o.toInt32), .val (.ref A), .val (.int bd), .unset, .unset, .unset, .unset] [] := by
            intro bd ys hl hL hb
            have s516 : ∀ (ex : Int64) (M : Store) (cb sb : Nat), us ys = ex → Wk l Z a0 EL0 (⟨"com/example/webhook_signature_check/webhooksignaturecheck/HeaderElementsUnixSecondsPinLaw", "longCase", "(IJI)Z"⟩ : MethodName) method_8_code 18 (some .boolean) ({ frames := 5, cells := 6, slots := 52, locals := 69 } : Room) (RV fun u M => u = .int 1) M cb sb 516 [.val (.int md), .val (.long v), .second, .val (.int k), .val (.long w), .second, .val (.int e), .val (.int g), .val (.int ps.toInt32), .val (.int d), .val (.int c), .val (.int o.toInt32), .val (.ref A), .val (.int bd), .val (.long (us ys)), .second, .val (.long ex), .second] [] := by
              intro ex M cb sb h
              refine Wk.lload (q := 518) d19_516 rfl rfl ?_
              refine Wk.lload (q := 520) d19_518 rfl rfl ?_
              refine Wk.lcmp (q := 521) d19_520 rfl ?_
              refine Wk.if_f (q := 524) d19_521 rfl (XT.ll_ne_f h) ?_
              refine Wk.iconst (q := 525) (1) d19_524 rfl (by decide) ?_
              refine Wk.goto (q := 529) d19_525 (by decide) (by decide) ?_
              refine Wk.ireturn (t := .boolean) d19_529 rfl (by simp) (by rfl) ?_
              exact ⟨_, rfl, rfl⟩
            refine Wk.new (q := 435) d19_432 rfl (hw _ (List.mem_of_getElem? (i := 10) rfl)) (hw _ (List.mem_of_getElem? (i := 11) rfl)) (hw _ (List.mem_of_getElem? (i := 12) rfl)) (layS_ok hw) layS_dv (by first | decide | (dsimp only; omega) | omega) (by first | decide | (dsimp only; omega) | omega) ?_
            intro s
            refine Wk.dup (q := 436) d19_435 rfl rfl ?_
            refine Wk.aload (q := 438) d19_436 rfl rfl (by first | rfl | assumption) ?_
            refine Wk.pull (o := (s, true, OB Z "java/lang/String" layS [.null, .int 0])) (by repeat (first | exact Ex.here | assumption | apply Ex.there)) ?_
            refine Wk.special (q := 441) [_] _ 1 d19_438 rfl rfl (hw _ (List.mem_of_getElem? (i := 14) rfl)) (hw _ (List.mem_of_getElem? (i := 15) rfl)) (hw _ (List.mem_of_getElem? (i := 12) rfl)) (hw _ (List.mem_of_getElem? (i := 16) rfl)) ar_11 (by decide) rfl rfl rfl rfl (ct_strInitG hw hE F (cs := ys) hL 20 (by omega) (by omega) (by repeat (first | exact List.mem_cons_self | assumption | refine List.mem_cons_of_mem _ ?_))) (by first | decide | (dsimp only; omega) | omega) (by first | decide | (dsimp only; omega) | omega) (by first | decide | (dsimp only; omega) | omega) (by first | decide | (dsimp only; omega) | omega) (k0 ?_)
            rintro _ ⟨t, f, rfl⟩
            refine Wk.static (q := 444) [_] _ 0 d19_441 rfl (hw _ (List.mem_of_getElem? (i := 32) rfl)) (hw _ (List.mem_of_getElem? (i := 33) rfl)) (hw _ (List.mem_of_getElem? (i := 34) rfl)) (hw _ (List.mem_of_getElem? (i := 35) rfl)) ar_13 (by decide) rfl rfl rfl rfl (ct_uns hw hE F hO hL (by omega) (by repeat (first | exact List.mem_cons_self | assumption | refine List.mem_cons_of_mem _ ?_)) (by repeat (first | exact List.mem_cons_self | assumption | refine List.mem_cons_of_mem _ ?_))) (by first | decide | (dsimp only; omega) | omega) (by first | decide | (dsimp only; omega) | omega) (by first | decide | (dsimp only; omega) | omega) (by first | decide | (dsimp only; omega) | omega) (kv ?_)
            rintro _ _ ⟨rfl, rfl⟩
            refine Wk.lstore (q := 446) d19_444 rfl (LS2.there (LS2.there (LS2.there (LS2.there (LS2.there (LS2.there (LS2.there (LS2.there (LS2.there (LS2.there (LS2.there (LS2.there (LS2.there (LS2.there (LS2.here (by first | exact Or.inl ⟨One.u, One.u⟩ | exact Or.inr ⟨_, rfl, rfl⟩ | exact Or.inl ⟨One.val rfl, One.val rfl⟩ | exact Or.inl ⟨One.val rfl, One.u⟩ | exact Or.inl ⟨One.u, One.val rfl⟩)))))))))))))))) ?_
            refine Wk.iload (q := 448) d19_446 rfl rfl ?_
            rcases hb with ⟨rfl, hb⟩ | ⟨rfl, rfl⟩
            · refine Wk.if_f (q := 451) d19_448 rfl (by decide) ?_
              refine Wk.ldc2_w (q := 454) d19_451 rfl (hw _ (List.mem_of_getElem? (i := 42) rfl)) ?_
              refine Wk.lstore (q := 456) d19_454 rfl (LS2.there (LS2.there (LS2.there (LS2.there (LS2.there (LS2.there (LS2.there (LS2.there (LS2.there (LS2.there (LS2.there (LS2.there (LS2.there (LS2.there (LS2.there (LS2.there (LS2.here (by first | exact Or.inl ⟨One.u, One.u⟩ | exact Or.inr ⟨_, rfl, rfl⟩ | exact Or.inl ⟨One.val rfl, One.val rfl⟩ | exact Or.inl ⟨One.val rfl, One.u⟩ | exact Or.inl ⟨One.u, One.val rfl⟩)))))))))))))))))) ?_
              refine Wk.goto (q := 516) d19_456 (by decide) (by decide) ?_
              exact s516 _ _ _ _ hb
            refine Wk.if_t (q := 459) d19_448 (by decide) (by decide) (by decide) ?_
            refine Wk.iload (q := 461) d19_459 rfl rfl ?_
            rcases hu with ⟨rfl, hv⟩ | ⟨rfl, hv⟩
            · refine Wk.if_f (q := 464) d19_461 rfl (by decide) ?_
              refine Wk.lload (q := 466) d19_464 rfl rfl ?_
              refine Wk.lstore (q := 468) d19_466 rfl (LS2.there (LS2.there (LS2.there (LS2.there (LS2.there (LS2.there (LS2.there (LS2.there (LS2.there (LS2.there (LS2.there (LS2.there (LS2.there (LS2.there (LS2.there (LS2.there (LS2.here (by first | exact Or.inl ⟨One.u, One.u⟩ | exact Or.inr ⟨_, rfl, rfl⟩ | exact Or.inl ⟨One.val rfl, One.val rfl⟩ | exact Or.inl ⟨One.val rfl, One.u⟩ | exact Or.inl ⟨One.u, One.val rfl⟩)))))))))))))))))) ?_
              refine Wk.goto (q := 516) d19_468 (by decide) (by decide) ?_
              exact s516 _ _ _ _ hv
            refine Wk.if_t (q := 471) d19_461 (by decide) (by decide) (by decide) ?_
            refine Wk.lload (q := 473) d19_471 rfl rfl ?_
            refine Wk.ldc2_w (q := 476) d19_473 rfl (hw _ (List.mem_of_getElem? (i := 117) rfl)) ?_
            refine Wk.lcmp (q := 477) d19_476 rfl ?_
            by_cases h1 : w < 922337203685477580
            · refine Wk.if_t (q := 496) d19_477 (by decide) (by decide) (XT.ll_lt_t h1) ?_
              refine Wk.lload (q := 498) d19_496 rfl rfl ?_
              refine Wk.ldc2_w (q := 501) d19_498 rfl (hw _ (List.mem_of_getElem? (i := 98) rfl)) ?_
              refine Wk.lmul (q := 502) d19_501 rfl ?_
              refine Wk.iload (q := 504) d19_502 rfl rfl ?_
              refine Wk.i2l (q := 505) d19_504 rfl ?_
              refine Wk.ladd (q := 506) d19_505 rfl ?_
              refine Wk.lstore (q := 508) d19_506 rfl (LS2.there (LS2.there (LS2.there (LS2.there (LS2.there (LS2.there (LS2.there (LS2.there (LS2.there (LS2.there (LS2.there (LS2.there (LS2.there (LS2.there (LS2.there (LS2.there (LS2.here (by first | exact Or.inl ⟨One.u, One.u⟩ | exact Or.inr ⟨_, rfl, rfl⟩ | exact Or.inl ⟨One.val rfl, One.val rfl⟩ | exact Or.inl ⟨One.val rfl, One.u⟩ | exact Or.inl ⟨One.u, One.val rfl⟩)))))))))))))))))) ?_
              refine Wk.goto (q := 516) d19_508 (by decide) (by decide) ?_
              exact s516 _ _ _ _ (by rw [hv, if_pos (Or.inl h1)])
            refine Wk.if_f (q := 480) d19_477 rfl (XT.ll_lt_f h1) ?_
            refine Wk.lload (q := 482) d19_480 rfl rfl ?_
            refine Wk.ldc2_w (q := 485) d19_482 rfl (hw _ (List.mem_of_getElem? (i := 117) rfl)) ?_
            refine Wk.lcmp (q := 486) d19_485 rfl ?_
            by_cases h2 : w = 922337203685477580
            · refine Wk.if_f (q := 489) d19_486 rfl (XT.ll_ne_f h2) ?_
              refine Wk.iload (q := 491) d19_489 rfl rfl ?_
              refine Wk.bipush (q := 493) (7) d19_491 rfl (by decide) ?_
              refine Wk.icmp_s (q := 511) (q' := 496) d19_493 (by decide) (by decide) rfl ?_ ?_
              · intro (h3 : 7 < d)
                refine Wk.ldc2_w (q := 514) d19_511 rfl (hw _ (List.mem_of_getElem? (i := 42) rfl)) ?_
                refine Wk.lstore (q := 516) d19_514 rfl (LS2.there (LS2.there (LS2.there (LS2.there (LS2.there (LS2.there (LS2.there (LS2.there (LS2.there (LS2.there (LS2.there (LS2.there (LS2.there (LS2.there (LS2.there (LS2.there (LS2.here (by first | exact Or.inl ⟨One.u, One.u⟩ | exact Or.inr ⟨_, rfl, rfl⟩ | exact Or.inl ⟨One.val rfl, One.val rfl⟩ | exact Or.inl ⟨One.val rfl, One.u⟩ | exact Or.inl ⟨One.u, One.val rfl⟩)))))))))))))))))) ?_
                exact s516 _ _ _ _ (by rw [hv, if_neg (fun q => q.elim h1 (fun z => z.2 h3))])
              · intro (h3 : ¬ 7 < d)
                refine Wk.lload (q := 498) d19_496 rfl rfl ?_
                refine Wk.ldc2_w (q := 501) d19_498 rfl (hw _ (List.mem_of_getElem? (i := 98) rfl)) ?_
                refine Wk.lmul (q := 502) d19_501 rfl ?_
                refine Wk.iload (q := 504) d19_502 rfl rfl ?_
                refine Wk.i2l (q := 505) d19_504 rfl ?_
                refine Wk.ladd (q := 506) d19_505 rfl ?_
                refine Wk.lstore (q := 508) d19_506 rfl (LS2.there (LS2.there (LS2.there (LS2.there (LS2.there (LS2.there (LS2.there (LS2.there (LS2.there (LS2.there (LS2.there (LS2.there (LS2.there (LS2.there (LS2.there (LS2.there (LS2.here (by first | exact Or.inl ⟨One.u, One.u⟩ | exact Or.inr ⟨_, rfl, rfl⟩ | exact Or.inl ⟨One.val rfl, One.val rfl⟩ | exact Or.inl ⟨One.val rfl, One.u⟩ | exact Or.inl ⟨One.u, One.val rfl⟩)))))))))))))))))) ?_
                refine Wk.goto (q := 516) d19_508 (by decide) (by decide) ?_
                exact s516 _ _ _ _ (by rw [hv, if_pos (Or.inr ⟨h2, h3⟩)])
            · refine Wk.if_t (q := 511) d19_486 (by decide) (by decide) (XT.ll_ne_t h2) ?_
              refine Wk.ldc2_w (q := 514) d19_511 rfl (hw _ (List.mem_of_getElem? (i := 42) rfl)) ?_
              refine Wk.lstore (q := 516) d19_514 rfl (LS2.there (LS2.there (LS2.there (LS2.there (LS2.there (LS2.there (LS2.there (LS2.there (LS2.there (LS2.there (LS2.there (LS2.there (LS2.there (LS2.there (LS2.there (LS2.there (LS2.here (by first | exact Or.inl ⟨One.u, One.u⟩ | exact Or.inr ⟨_, rfl, rfl⟩ | exact Or.inl ⟨One.val rfl, One.val rfl⟩ | exact Or.inl ⟨One.val rfl, One.u⟩ | exact Or.inl ⟨One.u, One.val rfl⟩)))))))))))))))))) ?_
              exact s516 _ _ _ _ (by rw [hv, if_neg (fun q => q.elim h1 (fun z => h2 z.1))])
          have s418 : ∀ bd : Int32, (bd = 0 ∨ (bd = 1 ∧ ¬ Dg c)) → Wk l Z a0 EL0 (⟨"com/example/webhook_signature_check/webhooksignaturecheck/HeaderElementsUnixSecondsPinLaw", "longCase", "(IJI)Z"⟩ : MethodName) method_8_code 18 (some .boolean) ({ frames := 5, cells := 6, slots := 52, locals := 69 } : Room) (RV fun u M => u = .int 1) ((A, true, AR Z .char (zs.map .int)) :: L) 5 32 418 [.val (.int md), .val (.long v), .second, .val (.int k), .val (.long w), .second, .val (.int e), .val (.int g), .val (.int ps.toInt32), .val (.int d), .val (.int c), .val (.int o.toInt32), .val (.ref A), .unset, .unset, .unset, .unset, .unset] [.int bd] := by
            intro bd hb
            refine Wk.istore (q := 420) d19_418 rfl (LS1.there (LS1.there (LS1.there (LS1.there (LS1.there (LS1.there (LS1.there (LS1.there (LS1.there (LS1.there (LS1.there (LS1.there (LS1.there (LS1.here (by first | exact One.u | exact One.val rfl | assumption))))))))))))))) ?_
            refine Wk.iload (q := 422) d19_420 rfl rfl ?_
            rcases hb with rfl | ⟨rfl, hD⟩
            · refine Wk.if_t (q := 432) d19_422 (by decide) (by decide) (by decide) ?_
              exact s432 0 zs hl hL (Or.inr ⟨rfl, rfl⟩)
            · have hp : ps < zs.length := by omega
              refine Wk.if_f (q := 425) d19_422 rfl (by decide) ?_
              refine Wk.aload (q := 427) d19_425 rfl rfl (by first | rfl | assumption) ?_
              refine Wk.iload (q := 429) d19_427 rfl rfl ?_
              refine Wk.iload (q := 431) d19_429 rfl rfl ?_
              refine Wk.castore (q := 432) (ps) d19_431 rfl (by repeat (first | exact Ex.here | assumption | apply Ex.there)) (n32_nn (by omega)) (n32_nat (by omega)) (nchar_lat hc) (vsm hp) ?_
              exact s432 1 _ (by rw [List.length_set]; exact hl) (lat_set hL hc) (Or.inl ⟨rfl, us_bad (lat_set hL hc) ⟨c, List.mem_set hp c, hD⟩⟩)
          refine Wk.iload (q := 402) d19_400 rfl rfl ?_
          rcases hg with rfl | rfl
          · refine Wk.if_t (q := 417) d19_402 (by decide) (by decide) (by decide) ?_
            refine Wk.iconst (q := 418) (0) d19_417 rfl (by decide) ?_
            exact s418 0 (Or.inl rfl)
          · refine Wk.if_f (q := 405) d19_402 rfl (by decide) ?_
            refine Wk.iload (q := 407) d19_405 rfl rfl ?_
            refine Wk.static (q := 410) [_] _ 0 d19_407 rfl (hw _ (List.mem_of_getElem? (i := 86) rfl)) (hw _ (List.mem_of_getElem? (i := 87) rfl)) (hw _ (List.mem_of_getElem? (i := 2) rfl)) (hw _ (List.mem_of_getElem? (i := 88) rfl)) ar_14 (by decide) rfl rfl rfl rfl (ct_isD hw hE) (by first | decide | (dsimp only; omega) | omega) (by first | decide | (dsimp only; omega) | omega) (by first | decide | (dsimp only; omega) | omega) (by first | decide | (dsimp only; omega) | omega) (kv ?_)
            rintro _ _ ⟨rfl, rfl⟩
            by_cases hD : Dg c
            · rw [if_pos hD]
              refine Wk.if_t (q := 417) d19_410 (by decide) (by decide) (by decide) ?_
              refine Wk.iconst (q := 418) (0) d19_417 rfl (by decide) ?_
              exact s418 0 (Or.inl rfl)
            · rw [if_neg hD]
              refine Wk.if_f (q := 413) d19_410 rfl (by decide) ?_
              refine Wk.iconst (q := 414) (1) d19_413 rfl (by decide) ?_
              refine Wk.goto (q := 418) d19_414 (by decide) (by decide) ?_
              exact s418 1 (Or.inr ⟨rfl, hD⟩)
        refine Wk.aload (q := 106) d19_104 rfl rfl (by first | rfl | assumption) ?_
        refine Wk.iload (q := 108) d19_106 rfl rfl ?_
        refine Wk.iconst (q := 109) (0) d19_108 rfl (by decide) ?_
        refine Wk.iadd (q := 110) d19_109 rfl ?_
        refine Wk.lload (q := 112) d19_110 rfl rfl ?_
        refine Wk.ldc2_w (q := 115) d19_112 rfl (hw _ (List.mem_of_getElem? (i := 94) rfl)) ?_
        refine Wk.static (q := 118) [_, _] _ 2 d19_115 rfl (hw _ (List.mem_of_getElem? (i := 95) rfl)) (hw _ (List.mem_of_getElem? (i := 96) rfl)) (hw _ (List.mem_of_getElem? (i := 2) rfl)) (hw _ (List.mem_of_getElem? (i := 97) rfl)) ar_15 (by decide) rfl rfl rfl rfl (ct_dig hw hE 1000000000000000000 (by decide) (by decide) hwn) (by first | decide | (dsimp only; omega) | omega) (by first | decide | (dsimp only; omega) | omega) (by first | decide | (dsimp only; omega) | omega) (by first | decide | (dsimp only; omega) | omega) (kv ?_)
        rintro _ _ ⟨rfl, rfl⟩
        rw [show o.toInt32 + 0 = (o + 0).toInt32 from (Int32.ofNat_add o 0).symm]
        refine Wk.castore (q := 119) ((o + 0)) d19_118 rfl (by repeat (first | exact Ex.here | assumption | apply Ex.there)) (n32_nn (by omega)) (n32_nat (by omega)) (nchar_lat (dg_lat (dgt_dg 1000000000000000000 (by decide) (by decide) hwn))) (vsm (by omega)) ?_
        refine Wk.aload (q := 121) d19_119 rfl rfl (by first | rfl | assumption) ?_
        refine Wk.iload (q := 123) d19_121 rfl rfl ?_
        refine Wk.iconst (q := 124) (1) d19_123 rfl (by decide) ?_
        refine Wk.iadd (q := 125) d19_124 rfl ?_
        refine Wk.lload (q := 127) d19_125 rfl rfl ?_
        refine Wk.ldc2_w (q := 130) d19_127 rfl (hw _ (List.mem_of_getElem? (i := 99) rfl)) ?_
        refine Wk.static (q := 133) [_, _] _ 2 d19_130 rfl (hw _ (List.mem_of_getElem? (i := 95) rfl)) (hw _ (List.mem_of_getElem? (i := 96) rfl)) (hw _ (List.mem_of_getElem? (i := 2) rfl)) (hw _ (List.mem_of_getElem? (i := 97) rfl)) ar_15 (by decide) rfl rfl rfl rfl (ct_dig hw hE 100000000000000000 (by decide) (by decide) hwn) (by first | decide | (dsimp only; omega) | omega) (by first | decide | (dsimp only; omega) | omega) (by first | decide | (dsimp only; omega) | omega) (by first | decide | (dsimp only; omega) | omega) (kv ?_)
        rintro _ _ ⟨rfl, rfl⟩
        rw [show o.toInt32 + 1 = (o + 1).toInt32 from (Int32.ofNat_add o 1).symm]
        refine Wk.castore (q := 134) ((o + 1)) d19_133 rfl (by repeat (first | exact Ex.here | assumption | apply Ex.there)) (n32_nn (by omega)) (n32_nat (by omega)) (nchar_lat (dg_lat (dgt_dg 100000000000000000 (by decide) (by decide) hwn))) (vsm (by simp only [List.length_set]; omega)) ?_
        refine Wk.aload (q := 136) d19_134 rfl rfl (by first | rfl | assumption) ?_
        refine Wk.iload (q := 138) d19_136 rfl rfl ?_
        refine Wk.iconst (q := 139) (2) d19_138 rfl (by decide) ?_
        refine Wk.iadd (q := 140) d19_139 rfl ?_
        refine Wk.lload (q := 142) d19_140 rfl rfl ?_
        refine Wk.ldc2_w (q := 145) d19_142 rfl (hw _ (List.mem_of_getElem? (i := 100) rfl)) ?_
        refine Wk.static (q := 148) [_, _] _ 2 d19_145 rfl (hw _ (List.mem_of_getElem? (i := 95) rfl)) (hw _ (List.mem_of_getElem? (i := 96) rfl)) (hw _ (List.mem_of_getElem? (i := 2) rfl)) (hw _ (List.mem_of_getElem? (i := 97) rfl)) ar_15 (by decide) rfl rfl rfl rfl (ct_dig hw hE 10000000000000000 (by decide) (by decide) hwn) (by first | decide | (dsimp only; omega) | omega) (by first | decide | (dsimp only; omega) | omega) (by first | decide | (dsimp only; omega) | omega) (by first | decide | (dsimp only; omega) | omega) (kv ?_)
        rintro _ _ ⟨rfl, rfl⟩
        rw [show o.toInt32 + 2 = (o + 2).toInt32 from (Int32.ofNat_add o 2).symm]
        refine Wk.castore (q := 149) ((o + 2)) d19_148 rfl (by repeat (first | exact Ex.here | assumption | apply Ex.there)) (n32_nn (by omega)) (n32_nat (by omega)) (nchar_lat (dg_lat (dgt_dg 10000000000000000 (by decide) (by decide) hwn))) (vsm (by simp only [List.length_set]; omega)) ?_
        refine Wk.aload (q := 151) d19_149 rfl rfl (by first | rfl | assumption) ?_
        refine Wk.iload (q := 153) d19_151 rfl rfl ?_
        refine Wk.iconst (q := 154) (3) d19_153 rfl (by decide) ?_
        refine Wk.iadd (q := 155) d19_154 rfl ?_
        refine Wk.lload (q := 157) d19_155 rfl rfl ?_
        refine Wk.ldc2_w (q := 160) d19_157 rfl (hw _ (List.mem_of_getElem? (i := 101) rfl)) ?_
        refine Wk.static (q := 163) [_, _] _ 2 d19_160 rfl (hw _ (List.mem_of_getElem? (i := 95) rfl)) (hw _ (List.mem_of_getElem? (i := 96) rfl)) (hw _ (List.mem_of_getElem? (i := 2) rfl)) (hw _ (List.mem_of_getElem? (i := 97) rfl)) ar_15 (by decide) rfl rfl rfl rfl (ct_dig hw hE 1000000000000000 (by decide) (by decide) hwn) (by first | decide | (dsimp only; omega) | omega) (by first | decide | (dsimp only; omega) | omega) (by first | decide | (dsimp only; omega) | omega) (by first | decide | (dsimp only; omega) | omega) (kv ?_)
        rintro _ _ ⟨rfl, rfl⟩
        rw [show o.toInt32 + 3 = (o + 3).toInt32 from (Int32.ofNat_add o 3).symm]
        refine Wk.castore (q := 164) ((o + 3)) d19_163 rfl (by repeat (first | exact Ex.here | assumption | apply Ex.there)) (n32_nn (by omega)) (n32_nat (by omega)) (nchar_lat (dg_lat (dgt_dg 1000000000000000 (by decide) (by decide) hwn))) (vsm (by simp only [List.length_set]; omega)) ?_
        refine Wk.aload (q := 166) d19_164 rfl rfl (by first | rfl | assumption) ?_
        refine Wk.iload (q := 168) d19_166 rfl rfl ?_
        refine Wk.iconst (q := 169) (4) d19_168 rfl (by decide) ?_
        refine Wk.iadd (q := 170) d19_169 rfl ?_
        refine Wk.lload (q := 172) d19_170 rfl rfl ?_
        refine Wk.ldc2_w (q := 175) d19_172 rfl (hw _ (List.mem_of_getElem? (i := 102) rfl)) ?_
        refine Wk.static (q := 178) [_, _] _ 2 d19_175 rfl (hw _ (List.mem_of_getElem? (i := 95) rfl)) (hw _ (List.mem_of_getElem? (i := 96) rfl)) (hw _ (List.mem_of_getElem? (i := 2) rfl)) (hw _ (List.mem_of_getElem? (i := 97) rfl)) ar_15 (by decide) rfl rfl rfl rfl (ct_dig hw hE 100000000000000 (by decide) (by decide) hwn) (by first | decide | (dsimp only; omega) | omega) (by first | decide | (dsimp only; omega) | omega) (by first | decide | (dsimp only; omega) | omega) (by first | decide | (dsimp only; omega) | omega) (kv ?_)
        rintro _ _ ⟨rfl, rfl⟩
        rw [show o.toInt32 + 4 = (o + 4).toInt32 from (Int32.ofNat_add o 4).symm]
        refine Wk.castore (q := 179) ((o + 4)) d19_178 rfl (by repeat (first | exact Ex.here | assumption | apply Ex.there)) (n32_nn (by omega)) (n32_nat (by omega)) (nchar_lat (dg_lat (dgt_dg 100000000000000 (by decide) (by decide) hwn))) (vsm (by simp only [List.length_set]; omega)) ?_
        refine Wk.aload (q := 181) d19_179 rfl rfl (by first | rfl | assumption) ?_
        refine Wk.iload (q := 183) d19_181 rfl rfl ?_
        refine Wk.iconst (q := 184) (5) d19_183 rfl (by decide) ?_
        refine Wk.iadd (q := 185) d19_184 rfl ?_
        refine Wk.lload (q := 187) d19_185 rfl rfl ?_
        refine Wk.ldc2_w (q := 190) d19_187 rfl (hw _ (List.mem_of_getElem? (i := 103) rfl)) ?_
        refine Wk.static (q := 193) [_, _] _ 2 d19_190 rfl (hw _ (List.mem_of_getElem? (i := 95) rfl)) (hw _ (List.mem_of_getElem? (i := 96) rfl)) (hw _ (List.mem_of_getElem? (i := 2) rfl)) (hw _ (List.mem_of_getElem? (i := 97) rfl)) ar_15 (by decide) rfl rfl rfl rfl (ct_dig hw hE 10000000000000 (by decide) (by decide) hwn) (by first | decide | (dsimp only; omega) | omega) (by first | decide | (dsimp only; omega) | omega) (by first | decide | (dsimp only; omega) | omega) (by first | decide | (dsimp only; omega) | omega) (kv ?_)
        rintro _ _ ⟨rfl, rfl⟩
        rw [show o.toInt32 + 5 = (o + 5).toInt32 from (Int32.ofNat_add o 5).symm]
        refine Wk.castore (q := 194) ((o + 5)) d19_193 rfl (by repeat (first | exact Ex.here | assumption | apply Ex.there)) (n32_nn (by omega)) (n32_nat (by omega)) (nchar_lat (dg_lat (dgt_dg 10000000000000 (by decide) (by decide) hwn))) (vsm (by simp only [List.length_set]; omega)) ?_
        refine Wk.aload (q := 196) d19_194 rfl rfl (by first | rfl | assumption) ?_
        refine Wk.iload (q := 198) d19_196 rfl rfl ?_
        refine Wk.bipush (q := 200) (6) d19_198 rfl (by decide) ?_
        refine Wk.iadd (q := 201) d19_200 rfl ?_
        refine Wk.lload (q := 203) d19_201 rfl rfl ?_
        refine Wk.ldc2_w (q := 206) d19_203 rfl (hw _ (List.mem_of_getElem? (i := 104) rfl)) ?_
        refine Wk.static (q := 209) [_, _] _ 2 d19_206 rfl (hw _ (List.mem_of_getElem? (i := 95) rfl)) (hw _ (List.mem_of_getElem? (i := 96) rfl)) (hw _ (List.mem_of_getElem? (i := 2) rfl)) (hw _ (List.mem_of_getElem? (i := 97) rfl)) ar_15 (by decide) rfl rfl rfl rfl (ct_dig hw hE 1000000000000 (by decide) (by decide) hwn) (by first | decide | (dsimp only; omega) | omega) (by first | decide | (dsimp only; omega) | omega) (by first | decide | (dsimp only; omega) | omega) (by first | decide | (dsimp only; omega) | omega) (kv ?_)
        rintro _ _ ⟨rfl, rfl⟩
        rw [show o.toInt32 + 6 = (o + 6).toInt32 from (Int32.ofNat_add o 6).symm]
        refine Wk.castore (q := 210) ((o + 6)) d19_209 rfl (by repeat (first | exact Ex.here | assumption | apply Ex.there)) (n32_nn (by omega)) (n32_nat (by omega)) (nchar_lat (dg_lat (dgt_dg 1000000000000 (by decide) (by decide) hwn))) (vsm (by simp only [List.length_set]; omega)) ?_
        refine Wk.aload (q := 212) d19_210 rfl rfl (by first | rfl | assumption) ?_
        refine Wk.iload (q := 214) d19_212 rfl rfl ?_
        refine Wk.bipush (q := 216) (7) d19_214 rfl (by decide) ?_
        refine Wk.iadd (q := 217) d19_216 rfl ?_
        refine Wk.lload (q := 219) d19_217 rfl rfl ?_
        refine Wk.ldc2_w (q := 222) d19_219 rfl (hw _ (List.mem_of_getElem? (i := 105) rfl)) ?_
        refine Wk.static (q := 225) [_, _] _ 2 d19_222 rfl (hw _ (List.mem_of_getElem? (i := 95) rfl)) (hw _ (List.mem_of_getElem? (i := 96) rfl)) (hw _ (List.mem_of_getElem? (i := 2) rfl)) (hw _ (List.mem_of_getElem? (i := 97) rfl)) ar_15 (by decide) rfl rfl rfl rfl (ct_dig hw hE 100000000000 (by decide) (by decide) hwn) (by first | decide | (dsimp only; omega) | omega) (by first | decide | (dsimp only; omega) | omega) (by first | decide | (dsimp only; omega) | omega) (by first | decide | (dsimp only; omega) | omega) (kv ?_)
        rintro _ _ ⟨rfl, rfl⟩
        rw [show o.toInt32 + 7 = (o + 7).toInt32 from (Int32.ofNat_add o 7).symm]
        refine Wk.castore (q := 226) ((o + 7)) d19_225 rfl (by repeat (first | exact Ex.here | assumption | apply Ex.there)) (n32_nn (by omega)) (n32_nat (by omega)) (nchar_lat (dg_lat (dgt_dg 100000000000 (by decide) (by decide) hwn))) (vsm (by simp only [List.length_set]; omega)) ?_
        refine Wk.aload (q := 228) d19_226 rfl rfl (by first | rfl | assumption) ?_
        refine Wk.iload (q := 230) d19_228 rfl rfl ?_
        refine Wk.bipush (q := 232) (8) d19_230 rfl (by decide) ?_
        refine Wk.iadd (q := 233) d19_232 rfl ?_
        refine Wk.lload (q := 235) d19_233 rfl rfl ?_
        refine Wk.ldc2_w (q := 238) d19_235 rfl (hw _ (List.mem_of_getElem? (i := 106) rfl)) ?_
        refine Wk.static (q := 241) [_, _] _ 2 d19_238 rfl (hw _ (List.mem_of_getElem? (i := 95) rfl)) (hw _ (List.mem_of_getElem? (i := 96) rfl)) (hw _ (List.mem_of_getElem? (i := 2) rfl)) (hw _ (List.mem_of_getElem? (i := 97) rfl)) ar_15 (by decide) rfl rfl rfl rfl (ct_dig hw hE 10000000000 (by decide) (by decide) hwn) (by first | decide | (dsimp only; omega) | omega) (by first | decide | (dsimp only; omega) | omega) (by first | decide | (dsimp only; omega) | omega) (by first | decide | (dsimp only; omega) | omega) (kv ?_)
        rintro _ _ ⟨rfl, rfl⟩
        rw [show o.toInt32 + 8 = (o + 8).toInt32 from (Int32.ofNat_add o 8).symm]
        refine Wk.castore (q := 242) ((o + 8)) d19_241 rfl (by repeat (first | exact Ex.here | assumption | apply Ex.there)) (n32_nn (by omega)) (n32_nat (by omega)) (nchar_lat (dg_lat (dgt_dg 10000000000 (by decide) (by decide) hwn))) (vsm (by simp only [List.length_set]; omega)) ?_
        refine Wk.aload (q := 244) d19_242 rfl rfl (by first | rfl | assumption) ?_
        refine Wk.iload (q := 246) d19_244 rfl rfl ?_
        refine Wk.bipush (q := 248) (9) d19_246 rfl (by decide) ?_
        refine Wk.iadd (q := 249) d19_248 rfl ?_
        refine Wk.lload (q := 251) d19_249 rfl rfl ?_
        refine Wk.ldc2_w (q := 254) d19_251 rfl (hw _ (List.mem_of_getElem? (i := 107) rfl)) ?_
        refine Wk.static (q := 257) [_, _] _ 2 d19_254 rfl (hw _ (List.mem_of_getElem? (i := 95) rfl)) (hw _ (List.mem_of_getElem? (i := 96) rfl)) (hw _ (List.mem_of_getElem? (i := 2) rfl)) (hw _ (List.mem_of_getElem? (i := 97) rfl)) ar_15 (by decide) rfl rfl rfl rfl (ct_dig hw hE 1000000000 (by decide) (by decide) hwn) (by first | decide | (dsimp only; omega) | omega) (by first | decide | (dsimp only; omega) | omega) (by first | decide | (dsimp only; omega) | omega) (by first | decide | (dsimp only; omega) | omega) (kv ?_)
        rintro _ _ ⟨rfl, rfl⟩
        rw [show o.toInt32 + 9 = (o + 9).toInt32 from (Int32.ofNat_add o 9).symm]
        refine Wk.castore (q := 258) ((o + 9)) d19_257 rfl (by repeat (first | exact Ex.here | assumption | apply Ex.there)) (n32_nn (by omega)) (n32_nat (by omega)) (nchar_lat (dg_lat (dgt_dg 1000000000 (by decide) (by decide) hwn))) (vsm (by simp only [List.length_set]; omega)) ?_
        refine Wk.aload (q := 260) d19_258 rfl rfl (by first | rfl | assumption) ?_
        refine Wk.iload (q := 262) d19_260 rfl rfl ?_
        refine Wk.bipush (q := 264) (10) d19_262 rfl (by decide) ?_
        refine Wk.iadd (q := 265) d19_264 rfl ?_
        refine Wk.lload (q := 267) d19_265 rfl rfl ?_
        refine Wk.ldc2_w (q := 270) d19_267 rfl (hw _ (List.mem_of_getElem? (i := 108) rfl)) ?_
        refine Wk.static (q := 273) [_, _] _ 2 d19_270 rfl (hw _ (List.mem_of_getElem? (i := 95) rfl)) (hw _ (List.mem_of_getElem? (i := 96) rfl)) (hw _ (List.mem_of_getElem? (i := 2) rfl)) (hw _ (List.mem_of_getElem? (i := 97) rfl)) ar_15 (by decide) rfl rfl rfl rfl (ct_dig hw hE 100000000 (by decide) (by decide) hwn) (by first | decide | (dsimp only; omega) | omega) (by first | decide | (dsimp only; omega) | omega) (by first | decide | (dsimp only; omega) | omega) (by first | decide | (dsimp only; omega) | omega) (kv ?_)
        rintro _ _ ⟨rfl, rfl⟩
        rw [show o.toInt32 + 10 = (o + 10).toInt32 from (Int32.ofNat_add o 10).symm]
        refine Wk.castore (q := 274) ((o + 10)) d19_273 rfl (by repeat (first | exact Ex.here | assumption | apply Ex.there)) (n32_nn (by omega)) (n32_nat (by omega)) (nchar_lat (dg_lat (dgt_dg 100000000 (by decide) (by decide) hwn))) (vsm (by simp only [List.length_set]; omega)) ?_
        refine Wk.aload (q := 276) d19_274 rfl rfl (by first | rfl | assumption) ?_
        refine Wk.iload (q := 278) d19_276 rfl rfl ?_
        refine Wk.bipush (q := 280) (11) d19_278 rfl (by decide) ?_
        refine Wk.iadd (q := 281) d19_280 rfl ?_
        refine Wk.lload (q := 283) d19_281 rfl rfl ?_
        refine Wk.ldc2_w (q := 286) d19_283 rfl (hw _ (List.mem_of_getElem? (i := 109) rfl)) ?_
        refine Wk.static (q := 289) [_, _] _ 2 d19_286 rfl (hw _ (List.mem_of_getElem? (i := 95) rfl)) (hw _ (List.mem_of_getElem? (i := 96) rfl)) (hw _ (List.mem_of_getElem? (i := 2) rfl)) (hw _ (List.mem_of_getElem? (i := 97) rfl)) ar_15 (by decide) rfl rfl rfl rfl (ct_dig hw hE 10000000 (by decide) (by decide) hwn) (by first | decide | (dsimp only; omega) | omega) (by first | decide | (dsimp only; omega) | omega) (by first | decide | (dsimp only; omega) | omega) (by first | decide | (dsimp only; omega) | omega) (kv ?_)
        rintro _ _ ⟨rfl, rfl⟩
        rw [show o.toInt32 + 11 = (o + 11).toInt32 from (Int32.ofNat_add o 11).symm]
        refine Wk.castore (q := 290) ((o + 11)) d19_289 rfl (by repeat (first | exact Ex.here | assumption | apply Ex.there)) (n32_nn (by omega)) (n32_nat (by omega)) (nchar_lat (dg_lat (dgt_dg 10000000 (by decide) (by decide) hwn))) (vsm (by simp only [List.length_set]; omega)) ?_
        refine Wk.aload (q := 292) d19_290 rfl rfl (by first | rfl | assumption) ?_
        refine Wk.iload (q := 294) d19_292 rfl rfl ?_
        refine Wk.bipush (q := 296) (12) d19_294 rfl (by decide) ?_
        refine Wk.iadd (q := 297) d19_296 rfl ?_
        refine Wk.lload (q := 299) d19_297 rfl rfl ?_
        refine Wk.ldc2_w (q := 302) d19_299 rfl (hw _ (List.mem_of_getElem? (i := 110) rfl)) ?_
        refine Wk.static (q := 305) [_, _] _ 2 d19_302 rfl (hw _ (List.mem_of_getElem? (i := 95) rfl)) (hw _ (List.mem_of_getElem? (i := 96) rfl)) (hw _ (List.mem_of_getElem? (i := 2) rfl)) (hw _ (List.mem_of_getElem? (i := 97) rfl)) ar_15 (by decide) rfl rfl rfl rfl (ct_dig hw hE 1000000 (by decide) (by decide) hwn) (by first | decide | (dsimp only; omega) | omega) (by first | decide | (dsimp only; omega) | omega) (by first | decide | (dsimp only; omega) | omega) (by first | decide | (dsimp only; omega) | omega) (kv ?_)
        rintro _ _ ⟨rfl, rfl⟩
        rw [show o.toInt32 + 12 = (o + 12).toInt32 from (Int32.ofNat_add o 12).symm]
        refine Wk.castore (q := 306) ((o + 12)) d19_305 rfl (by repeat (first | exact Ex.here | assumption | apply Ex.there)) (n32_nn (by omega)) (n32_nat (by omega)) (nchar_lat (dg_lat (dgt_dg 1000000 (by decide) (by decide) hwn))) (vsm (by simp only [List.length_set]; omega)) ?_
        refine Wk.aload (q := 308) d19_306 rfl rfl (by first | rfl | assumption) ?_
        refine Wk.iload (q := 310) d19_308 rfl rfl ?_
        refine Wk.bipush (q := 312) (13) d19_310 rfl (by decide) ?_
        refine Wk.iadd (q := 313) d19_312 rfl ?_
        refine Wk.lload (q := 315) d19_313 rfl rfl ?_
        refine Wk.ldc2_w (q := 318) d19_315 rfl (hw _ (List.mem_of_getElem? (i := 111) rfl)) ?_
        refine Wk.static (q := 321) [_, _] _ 2 d19_318 rfl (hw _ (List.mem_of_getElem? (i := 95) rfl)) (hw _ (List.mem_of_getElem? (i := 96) rfl)) (hw _ (List.mem_of_getElem? (i := 2) rfl)) (hw _ (List.mem_of_getElem? (i := 97) rfl)) ar_15 (by decide) rfl rfl rfl rfl (ct_dig hw hE 100000 (by decide) (by decide) hwn) (by first | decide | (dsimp only; omega) | omega) (by first | decide | (dsimp only; omega) | omega) (by first | decide | (dsimp only; omega) | omega) (by first | decide | (dsimp only; omega) | omega) (kv ?_)
        rintro _ _ ⟨rfl, rfl⟩
        rw [show o.toInt32 + 13 = (o + 13).toInt32 from (Int32.ofNat_add o 13).symm]
        refine Wk.castore (q := 322) ((o + 13)) d19_321 rfl (by repeat (first | exact Ex.here | assumption | apply Ex.there)) (n32_nn (by omega)) (n32_nat (by omega)) (nchar_lat (dg_lat (dgt_dg 100000 (by decide) (by decide) hwn))) (vsm (by simp only [List.length_set]; omega)) ?_
        refine Wk.aload (q := 324) d19_322 rfl rfl (by first | rfl | assumption) ?_
        refine Wk.iload (q := 326) d19_324 rfl rfl ?_
        refine Wk.bipush (q := 328) (14) d19_326 rfl (by decide) ?_
        refine Wk.iadd (q := 329) d19_328 rfl ?_
        refine Wk.lload (q := 331) d19_329 rfl rfl ?_
        refine Wk.ldc2_w (q := 334) d19_331 rfl (hw _ (List.mem_of_getElem? (i := 112) rfl)) ?_
        refine Wk.static (q := 337) [_, _] _ 2 d19_334 rfl (hw _ (List.mem_of_getElem? (i := 95) rfl)) (hw _ (List.mem_of_getElem? (i := 96) rfl)) (hw _ (List.mem_of_getElem? (i := 2) rfl)) (hw _ (List.mem_of_getElem? (i := 97) rfl)) ar_15 (by decide) rfl rfl rfl rfl (ct_dig hw hE 10000 (by decide) (by decide) hwn) (by first | decide | (dsimp only; omega) | omega) (by first | decide | (dsimp only; omega) | omega) (by first | decide | (dsimp only; omega) | omega) (by first | decide | (dsimp only; omega) | omega) (kv ?_)
        rintro _ _ ⟨rfl, rfl⟩
        rw [show o.toInt32 + 14 = (o + 14).toInt32 from (Int32.ofNat_add o 14).symm]
        refine Wk.castore (q := 338) ((o + 14)) d19_337 rfl (by repeat (first | exact Ex.here | assumption | apply Ex.there)) (n32_nn (by omega)) (n32_nat (by omega)) (nchar_lat (dg_lat (dgt_dg 10000 (by decide) (by decide) hwn))) (vsm (by simp only [List.length_set]; omega)) ?_
        refine Wk.aload (q := 340) d19_338 rfl rfl (by first | rfl | assumption) ?_
        refine Wk.iload (q := 342) d19_340 rfl rfl ?_
        refine Wk.bipush (q := 344) (15) d19_342 rfl (by decide) ?_
        refine Wk.iadd (q := 345) d19_344 rfl ?_
        refine Wk.lload (q := 347) d19_345 rfl rfl ?_
        refine Wk.ldc2_w (q := 350) d19_347 rfl (hw _ (List.mem_of_getElem? (i := 113) rfl)) ?_
        refine Wk.static (q := 353) [_, _] _ 2 d19_350 rfl (hw _ (List.mem_of_getElem? (i := 95) rfl)) (hw _ (List.mem_of_getElem? (i := 96) rfl)) (hw _ (List.mem_of_getElem? (i := 2) rfl)) (hw _ (List.mem_of_getElem? (i := 97) rfl)) ar_15 (by decide) rfl rfl rfl rfl (ct_dig hw hE 1000 (by decide) (by decide) hwn) (by first | decide | (dsimp only; omega) | omega) (by first | decide | (dsimp only; omega) | omega) (by first | decide | (dsimp only; omega) | omega) (by first | decide | (dsimp only; omega) | omega) (kv ?_)
        rintro _ _ ⟨rfl, rfl⟩
        rw [show o.toInt32 + 15 = (o + 15).toInt32 from (Int32.ofNat_add o 15).symm]
        refine Wk.castore (q := 354) ((o + 15)) d19_353 rfl (by repeat (first | exact Ex.here | assumption | apply Ex.there)) (n32_nn (by omega)) (n32_nat (by omega)) (nchar_lat (dg_lat (dgt_dg 1000 (by decide) (by decide) hwn))) (vsm (by simp only [List.length_set]; omega)) ?_
        refine Wk.aload (q := 356) d19_354 rfl rfl (by first | rfl | assumption) ?_
        refine Wk.iload (q := 358) d19_356 rfl rfl ?_
        refine Wk.bipush (q := 360) (16) d19_358 rfl (by decide) ?_
        refine Wk.iadd (q := 361) d19_360 rfl ?_
        refine Wk.lload (q := 363) d19_361 rfl rfl ?_
        refine Wk.ldc2_w (q := 366) d19_363 rfl (hw _ (List.mem_of_getElem? (i := 114) rfl)) ?_
        refine Wk.static (q := 369) [_, _] _ 2 d19_366 rfl (hw _ (List.mem_of_getElem? (i := 95) rfl)) (hw _ (List.mem_of_getElem? (i := 96) rfl)) (hw _ (List.mem_of_getElem? (i := 2) rfl)) (hw _ (List.mem_of_getElem? (i := 97) rfl)) ar_15 (by decide) rfl rfl rfl rfl (ct_dig hw hE 100 (by decide) (by decide) hwn) (by first | decide | (dsimp only; omega) | omega) (by first | decide | (dsimp only; omega) | omega) (by first | decide | (dsimp only; omega) | omega) (by first | decide | (dsimp only; omega) | omega) (kv ?_)
        rintro _ _ ⟨rfl, rfl⟩
        rw [show o.toInt32 + 16 = (o + 16).toInt32 from (Int32.ofNat_add o 16).symm]
        refine Wk.castore (q := 370) ((o + 16)) d19_369 rfl (by repeat (first | exact Ex.here | assumption | apply Ex.there)) (n32_nn (by omega)) (n32_nat (by omega)) (nchar_lat (dg_lat (dgt_dg 100 (by decide) (by decide) hwn))) (vsm (by simp only [List.length_set]; omega)) ?_
        refine Wk.aload (q := 372) d19_370 rfl rfl (by first | rfl | assumption) ?_
        refine Wk.iload (q := 374) d19_372 rfl rfl ?_
        refine Wk.bipush (q := 376) (17) d19_374 rfl (by decide) ?_
        refine Wk.iadd (q := 377) d19_376 rfl ?_
        refine Wk.lload (q := 379) d19_377 rfl rfl ?_
        refine Wk.ldc2_w (q := 382) d19_379 rfl (hw _ (List.mem_of_getElem? (i := 98) rfl)) ?_
        refine Wk.static (q := 385) [_, _] _ 2 d19_382 rfl (hw _ (List.mem_of_getElem? (i := 95) rfl)) (hw _ (List.mem_of_getElem? (i := 96) rfl)) (hw _ (List.mem_of_getElem? (i := 2) rfl)) (hw _ (List.mem_of_getElem? (i := 97) rfl)) ar_15 (by decide) rfl rfl rfl rfl (ct_dig hw hE 10 (by decide) (by decide) hwn) (by first | decide | (dsimp only; omega) | omega) (by first | decide | (dsimp only; omega) | omega) (by first | decide | (dsimp only; omega) | omega) (by first | decide | (dsimp only; omega) | omega) (kv ?_)
        rintro _ _ ⟨rfl, rfl⟩
        rw [show o.toInt32 + 17 = (o + 17).toInt32 from (Int32.ofNat_add o 17).symm]
        refine Wk.castore (q := 386) ((o + 17)) d19_385 rfl (by repeat (first | exact Ex.here | assumption | apply Ex.there)) (n32_nn (by omega)) (n32_nat (by omega)) (nchar_lat (dg_lat (dgt_dg 10 (by decide) (by decide) hwn))) (vsm (by simp only [List.length_set]; omega)) ?_
        refine Wk.aload (q := 388) d19_386 rfl rfl (by first | rfl | assumption) ?_
        refine Wk.iload (q := 390) d19_388 rfl rfl ?_
        refine Wk.bipush (q := 392) (18) d19_390 rfl (by decide) ?_
        refine Wk.iadd (q := 393) d19_392 rfl ?_
        refine Wk.lload (q := 395) d19_393 rfl rfl ?_
        refine Wk.lconst (q := 396) (1) d19_395 rfl (by decide) ?_
        refine Wk.static (q := 399) [_, _] _ 2 d19_396 rfl (hw _ (List.mem_of_getElem? (i := 95) rfl)) (hw _ (List.mem_of_getElem? (i := 96) rfl)) (hw _ (List.mem_of_getElem? (i := 2) rfl)) (hw _ (List.mem_of_getElem? (i := 97) rfl)) ar_15 (by decide) rfl rfl rfl rfl (ct_dig hw hE 1 (by decide) (by decide) hwn) (by first | decide | (dsimp only; omega) | omega) (by first | decide | (dsimp only; omega) | omega) (by first | decide | (dsimp only; omega) | omega) (by first | decide | (dsimp only; omega) | omega) (kv ?_)
        rintro _ _ ⟨rfl, rfl⟩
        rw [show o.toInt32 + 18 = (o + 18).toInt32 from (Int32.ofNat_add o 18).symm]
        refine Wk.castore (q := 400) ((o + 18)) d19_399 rfl (by repeat (first | exact Ex.here | assumption | apply Ex.there)) (n32_nn (by omega)) (n32_nat (by omega)) (nchar_lat (dg_lat (dgt_dg 1 (by decide) (by decide) hwn))) (vsm (by simp only [List.length_set]; omega)) ?_
        unfold chain at hzl hzL hu
        exact s400 _ hzl hzL hu
      rcases he with rfl | rfl
      · refine Wk.if_t (q := 70) d19_63 (by decide) (by decide) (by decide) ?_
        refine Wk.iconst (q := 71) (1) d19_70 rfl (by decide) ?_
        refine Wk.istore (q := 73) d19_71 rfl (LS1.there (LS1.there (LS1.there (LS1.there (LS1.there (LS1.there (LS1.there (LS1.there (LS1.there (LS1.there (LS1.there (LS1.here (by first | exact One.u | exact One.val rfl | assumption))))))))))))) ?_
        refine Wk.bipush (q := 75) (20) d19_73 rfl (by decide) ?_
        refine Wk.newarray (q := 77) .char (20) [(.int 0), (.int 0), (.int 0), (.int 0), (.int 0), (.int 0), (.int 0), (.int 0), (.int 0), (.int 0), (.int 0), (.int 0), (.int 0), (.int 0), (.int 0), (.int 0), (.int 0), (.int 0), (.int 0), (.int 0)] d19_75 rfl rfl rfl (hw _ (List.mem_of_getElem? (i := 13) rfl)) (by decide) (by decide) (by decide) (by first | decide | (dsimp only; omega) | omega) (by first | decide | (dsimp only; omega) | omega) ?_
        intro A
        refine Wk.astore (q := 79) d19_77 rfl (by first | rfl | assumption) (LS1.there (LS1.there (LS1.there (LS1.there (LS1.there (LS1.there (LS1.there (LS1.there (LS1.there (LS1.there (LS1.there (LS1.there (LS1.here (by first | exact One.u | exact One.val rfl | assumption)))))))))))))) ?_
        refine Wk.iload (q := 81) d19_79 rfl rfl ?_
        refine Wk.if_t (q := 98) d19_81 (by decide) (by decide) (by decide) ?_
        refine Wk.aload (q := 100) d19_98 rfl rfl (by first | rfl | assumption) ?_
        refine Wk.iconst (q := 101) (0) d19_100 rfl (by decide) ?_
        refine Wk.bipush (q := 103) (48) d19_101 rfl (by decide) ?_
        refine Wk.castore (q := 104) (0) d19_103 rfl (by repeat (first | exact Ex.here | assumption | apply Ex.there)) (by decide) (by decide) (by rfl) (VS.here) ?_
        refine s104 1 (48 :: List.replicate 19 0) A (by decide) (by simp) (by rw [ch1, List.length_cons, digs_len]) ?_ (Or.inl ⟨rfl, by rw [ch1]; exact us_w hwn⟩)
        rw [ch1]
        exact lat_cons (by decide) (fun c hc => dg_lat (digs_dg hwn c hc))
      · have hc' := d10_lat hd
        have hl' : Lat1 ((48 : Int32) + d).toUInt32.toUInt16.toUInt32.toInt32 := by unfold Lat1; omega
        refine Wk.if_f (q := 66) d19_63 rfl (by decide) ?_
        refine Wk.iconst (q := 67) (0) d19_66 rfl (by decide) ?_
        refine Wk.goto (q := 71) d19_67 (by decide) (by decide) ?_
        refine Wk.istore (q := 73) d19_71 rfl (LS1.there (LS1.there (LS1.there (LS1.there (LS1.there (LS1.there (LS1.there (LS1.there (LS1.there (LS1.there (LS1.there (LS1.here (by first | exact One.u | exact One.val rfl | assumption))))))))))))) ?_
        refine Wk.bipush (q := 75) (20) d19_73 rfl (by decide) ?_
        refine Wk.newarray (q := 77) .char (20) [(.int 0), (.int 0), (.int 0), (.int 0), (.int 0), (.int 0), (.int 0), (.int 0), (.int 0), (.int 0), (.int 0), (.int 0), (.int 0), (.int 0), (.int 0), (.int 0), (.int 0), (.int 0), (.int 0), (.int 0)] d19_75 rfl rfl rfl (hw _ (List.mem_of_getElem? (i := 13) rfl)) (by decide) (by decide) (by decide) (by first | decide | (dsimp only; omega) | omega) (by first | decide | (dsimp only; omega) | omega) ?_
        intro A
        refine Wk.astore (q := 79) d19_77 rfl (by first | rfl | assumption) (LS1.there (LS1.there (LS1.there (LS1.there (LS1.there (LS1.there (LS1.there (LS1.there (LS1.there (LS1.there (LS1.there (LS1.there (LS1.here (by first | exact One.u | exact One.val rfl | assumption)))))))))))))) ?_
        refine Wk.iload (q := 81) d19_79 rfl rfl ?_
        refine Wk.if_f (q := 84) d19_81 rfl (by decide) ?_
        refine Wk.aload (q := 86) d19_84 rfl rfl (by first | rfl | assumption) ?_
        refine Wk.bipush (q := 88) (19) d19_86 rfl (by decide) ?_
        refine Wk.bipush (q := 90) (48) d19_88 rfl (by decide) ?_
        refine Wk.iload (q := 92) d19_90 rfl rfl ?_
        refine Wk.iadd (q := 93) d19_92 rfl ?_
        refine Wk.i2c (q := 94) d19_93 rfl ?_
        refine Wk.castore (q := 95) (19) d19_94 rfl (by repeat (first | exact Ex.here | assumption | apply Ex.there)) (by decide) (by decide) (nchar_lat hl') (VS.there (VS.there (VS.there (VS.there (VS.there (VS.there (VS.there (VS.there (VS.there (VS.there (VS.there (VS.there (VS.there (VS.there (VS.there (VS.there (VS.there (VS.there (VS.there (VS.here)))))))))))))))))))) ?_
        refine Wk.goto (q := 104) d19_95 (by decide) (by decide) ?_
        refine s104 0 (List.replicate 19 0 ++ [((48 : Int32) + d).toUInt32.toUInt16.toUInt32.toInt32]) A (by decide) (by simp) (by rw [ch0, List.length_append, digs_len]; rfl) ?_ (Or.inr ⟨rfl, by rw [ch0]; exact us_d hwn hd⟩)
        rw [ch0]
        intro c hc
        rcases List.mem_append.mp hc with h | h
        · exact dg_lat (digs_dg hwn c h)
        · rw [List.mem_singleton.mp h]; exact hl'
    refine Wk.istore (q := 20) d19_18 rfl (LS1.there (LS1.there (LS1.there (LS1.there (LS1.there (LS1.there (LS1.here (by first | exact One.u | exact One.val rfl | assumption)))))))) ?_
    refine Wk.iload_n (q := 21) d19_20 rfl rfl ?_
    refine Wk.iconst (q := 22) (4) d19_21 rfl (by decide) ?_
    refine Wk.iand (q := 23) d19_22 rfl ?_
    refine Wk.if_s (q := 30) (q' := 26) d19_23 (by decide) (by decide) rfl ?_ ?_
    · intro _
      refine Wk.iconst (q := 31) (0) d19_30 rfl (by decide) ?_
      exact s31 0 (Or.inl rfl)
    · intro _
      refine Wk.iconst (q := 27) (1) d19_26 rfl (by decide) ?_
      refine Wk.goto (q := 31) d19_27 (by decide) (by decide) ?_
      exact s31 1 (Or.inr rfl)
  refine Wk.if_s (q := 17) (q' := 13) d19_10 (by decide) (by decide) rfl ?_ ?_
  · intro _
    refine Wk.iconst (q := 18) (0) d19_17 rfl (by decide) ?_
    exact s18 0 (Or.inl rfl)
  · intro _
    refine Wk.iconst (q := 14) (1) d19_13 rfl (by decide) ?_
    refine Wk.goto (q := 18) d19_14 (by decide) (by decide) ?_
    exact s18 1 (Or.inr rfl)
set_option maxRecDepth 65536 in
set_option maxHeartbeats 4000000 in
theorem ct_law {l : Launch} {Z : State} {a0 : Array Value} (hw : ∀ d ∈ tables_1, d.before a0 Z = true) (hE : EW Z a0 EL0) (F : ∃ z, z ≠ (0 : Int32) ∧ Sta Z Z.heap "java/lang/String" "COMPACT_STRINGS" "Z" (.int z)) (hO : FO Z) (i0 i1 i2 : Int32) (i3 : Int64) (i4 : Int32) :
    Ct l Z EL0 x code 6 (some .boolean) room_1 #[.int i0, .int i1, .int i2, .long i3, .int i4] [] (RV fun u M => u = .int 1) := by
  refine Ct.of (a0 := a0) (Ls := [.val (.int _), .val (.int _), .val (.int _), .val (.long _), .second, .val (.int _)]) (plainFor_of_name pn_5) (fun m => ef_iiiji_6 m _ _ _ _ _) hE ?_
  refine Wk.iload_n (q := 1) at_0 rfl rfl ?_
  refine Wk.iconst (q := 2) (1) at_1 rfl (by decide) ?_
  refine Wk.iand (q := 3) at_2 rfl ?_
  refine Wk.if_s (q := 13) (q' := 6) at_3 (by decide) (by decide) rfl ?_ ?_
  · intro _
    refine Wk.iload_n (q := 14) at_13 rfl rfl ?_
    refine Wk.lload_n (q := 15) at_14 rfl rfl ?_
    refine Wk.iload (q := 17) at_15 rfl rfl ?_
    refine Wk.static (q := 20) [_, _, _] _ 0 at_17 rfl (hw _ (List.mem_of_getElem? (i := 89) rfl)) (hw _ (List.mem_of_getElem? (i := 90) rfl)) (hw _ (List.mem_of_getElem? (i := 2) rfl)) (hw _ (List.mem_of_getElem? (i := 91) rfl)) ar_16 (by decide) rfl rfl rfl rfl (ct_long hw hE F hO) (by first | decide | (dsimp only; omega) | omega) (by first | decide | (dsimp only; omega) | omega) (by first | decide | (dsimp only; omega) | omega) (by first | decide | (dsimp only; omega) | omega) (kv ?_)
    rintro _ _ rfl
    refine Wk.ireturn (t := .boolean) at_20 rfl (by simp) (by rfl) ?_
    exact ⟨_, rfl, rfl⟩
  · intro _
    refine Wk.iload_n (q := 7) at_6 rfl rfl ?_
    refine Wk.iload_n (q := 8) at_7 rfl rfl ?_
    refine Wk.iload_n (q := 9) at_8 rfl rfl ?_
    refine Wk.static (q := 12) [_, _, _] _ 0 at_9 rfl (hw _ (List.mem_of_getElem? (i := 0) rfl)) (hw _ (List.mem_of_getElem? (i := 1) rfl)) (hw _ (List.mem_of_getElem? (i := 2) rfl)) (hw _ (List.mem_of_getElem? (i := 3) rfl)) ar_17 (by decide) rfl rfl rfl rfl (ct_short hw hE F hO) (by first | decide | (dsimp only; omega) | omega) (by first | decide | (dsimp only; omega) | omega) (by first | decide | (dsimp only; omega) | omega) (by first | decide | (dsimp only; omega) | omega) (kv ?_)
    rintro _ _ rfl
    refine Wk.ireturn (t := .boolean) at_12 rfl (by simp) (by rfl) ?_
    exact ⟨_, rfl, rfl⟩
set_option maxRecDepth 65536 in
set_option maxHeartbeats 4000000 in
theorem comes_1 {Post : Tables → Env → Array Value → State → Outcome → State → Prop} (hpost : ∀ tb e args s v u, (limb_1_1.after args s (.returned v) u = true ∧ limb_1_2.after args s (.returned v) u = true) → ReturnedEndW s (.returned v) u (Jvm.fieldLocs frame_1_writes args s ++ Jvm.arrayLocs frame_1_arrays args s ++ Jvm.staticLocs frame_1_statics s) 16 1216 → Post tb e args s (.returned v) u) :
    ArmFor flags0 classFile x code maxLocals ret World_1 tables_1 room_1 Calls_1 rest_1 Pre_1 Post := by
  intro l hfl _ _ p e ha hc hk s m args below hf hA hF happ hP
  obtain ⟨hcalls, hrest, hpre⟩ := hP
  obtain ⟨-, -, -, hnamed, -, -, -, hat⟩ := (Spec.applies_iff hf).mp happ
  obtain ⟨hg, hn⟩ := and_e (Cond.before_iff.mp (show (Jvm.Cond.and given_1 narrow_1).before args s = true from hpre))
  obtain ⟨g_n, gr⟩ := and_e hg
  obtain ⟨g0, gr⟩ := and_e gr
  obtain ⟨g1, gr⟩ := and_e gr
  obtain ⟨g2, gr⟩ := and_e gr
  obtain ⟨g3, gr⟩ := and_e gr
  have g4 := gr
  obtain ⟨w0, w1, w2, w3, w4, rfl⟩ : ∃ w0 w1 w2 w3 w4 : Value, args = #[w0, w1, w2, w3, w4] := by
    have hs : args.size = 5 := by simpa [Cond.value, given_1] using g_n
    obtain ⟨L⟩ := args
    match L, hs with
    | [w0, w1, w2, w3, w4], _ => exact ⟨w0, w1, w2, w3, w4, rfl⟩
  obtain ⟨i0, ei0⟩ := is_v g0
  obtain rfl : w0 = (.int i0) := Option.some.inj ei0
  obtain ⟨i1, ei1⟩ := is_v g1
  obtain rfl : w1 = (.int i1) := Option.some.inj ei1
  obtain ⟨i2, ei2⟩ := is_v g2
  obtain rfl : w2 = (.int i2) := Option.some.inj ei2
  obtain ⟨i3, ei3⟩ := isL_v g3
  obtain rfl : w3 = (.long i3) := Option.some.inj ei3
  obtain ⟨i4, ei4⟩ := is_v g4
  obtain rfl : w4 = (.int i4) := Option.some.inj ei4
  have hw := fun d (hd : d ∈ tables_1) => atoms_spec (ws := Jvm.Cond.code x code maxLocals ret :: tables_1) hat d (List.mem_cons_of_mem _ hd)
  obtain ⟨hsets, hown0⟩ := atoms_of _ (rest_1_c_eq ▸ (show rest_1_c.before _ s = true from hrest))
  have F := compact (hsets _ (List.mem_of_getElem? (i := 0) rfl)) (hsets _ (List.mem_of_getElem? (i := 1) rfl)) (hsets _ (List.mem_of_getElem? (i := 2) rfl))
  have hE : EW s _ EL0 := (EW.cons (hw _ (List.mem_of_getElem? (i := 24) rfl)) (by decide +kernel) EW.nil)
  have hheld : constsHeld consts_1 s := hcalls.1
  have hCH : CHv s EL0 s.vm s.heap := CHv.start hE (fun p hp => hheld p hp) (hsets _ (List.mem_of_getElem? (i := 2) rfl)) (hw _ (List.mem_of_getElem? (i := 25) rfl)) (hw _ (List.mem_of_getElem? (i := 11) rfl))
  have hI : Inv s EL0 s.vm s.heap [] := ⟨⟨Nat.le_refl _, fun _ _ q => q⟩, hCH, (fun o ho => nomatch ho), (fun o ho => nomatch ho), List.Pairwise.nil⟩
  have hO : FO s := FO_of (hsets _ (List.mem_of_getElem? (i := 7) rfl)) (hsets _ (List.mem_of_getElem? (i := 8) rfl))
  obtain ⟨n, o, h1, h2, h3, v, Lc, L', rfl, ⟨u, rfl, rfl⟩, -, N, hq⟩ := ct_law hw hE F hO i0 i1 i2 i3 i4 tables_1 p e ha hc hk s m _ below hf ((Spec.applies_iff_loose hf).mp happ).1 ⟨rfl, State.Warmed39.refl s, hI⟩ trivial
  exact ⟨n, _, h1, h2, h3, hpost _ _ _ _ _ _ ⟨Cond.after_iff.mpr rfl, Cond.after_iff.mpr (eq_i res_at (Term.int_eval (1)) rfl)⟩ ⟨hq.1, hq.2.1, hq.2.2.1, (hq.2.2.2.sift fun y hy => Or.inr (N y hy)).mono (by decide) (by decide)⟩⟩
theorem main_1_1 : Claimed_1_1 := comes_1 fun _ _ _ _ _ _ h hF => ⟨h.1, hF⟩
theorem main_1_2 : Claimed_1_2 := comes_1 fun _ _ _ _ _ _ h hF => ⟨h.2, hF⟩


end Jvm.Pilot.@@N@@
namespace Jvm.Pilot.@@N@@
open Jvm Jvm.ClassFile Sem Op Lib Jvm.Free Jvm.Stand Jvm.Pilot.@@N@@.Jvm.D
/-! MADE BY PROGRAM (witnessworld.py) out of the Statement's table words and the real class files: 20 classes; the members and pool entries that the words name. The judged class is class 1, her method 1. -/
namespace start1
open Jvm.ClassFile
def u (s : String) : CpInfo := .utf8 (stringToUtf16 s)
/-- a pool by its gaps: so many unusable entries, then the entry; so many at the end -/
def gap : Nat → List CpInfo → List CpInfo
  | 0, r => r
  | n + 1, r => .unusable :: gap n r
def poolList (es : List (Nat × CpInfo)) (last : Nat) : List CpInfo := es.foldr (fun e r => gap e.1 (e.2 :: r)) (gap last [])
def pool (es : List (Nat × CpInfo)) (last : Nat) : Array CpInfo := ⟨poolList es last⟩
def fileOf (pool : Array CpInfo) (this : Nat) (attrs : Array Attribute := #[]) (ms : Array MethodInfo := #[]) (fl : Nat := 33) (sup : Nat := 0) (ifs : Array Nat := #[]) (fds : Array FieldInfo := #[]) : ClassFile where
  minorVersion := 0
  majorVersion := 65
  constantPool := pool
  accessFlags := fl
  thisClass := this
  superClass := sup
  interfaces := ifs
  fields := fds
  methods := ms
  attributes := attrs
def plain (name : String) (sup : Option ClassId) : Class where
  name := name
  kind := .ordinary
  loader := none
  accessFlags := 33
  super := sup
  interfaces := #[]
  cf := none
  fields := #[]
  methods := #[]
  instanceTypes := #[]
  staticTypes := #[]
  resolved := #[]
  callSites := []
  init := .initialized
  statics := none
  mirror := none

def pool0 : Array CpInfo := pool [(5, u "<init>"), (0, u "()V"), (1, .class_ 10), (1, u "java/lang/Object")] 113

def k0c0 : Code := { maxStack := 0, maxLocals := 1, code := object_method_1_code, exceptionTable := #[], attributes := #[] }
def k0m0 : Method := { name := "<init>", desc := "()V", sig := { parameters := [], returnType := none }, accessFlags := 1, code := some k0c0 }
/-- java/lang/Object -/
def k0 : Class := { plain "java/lang/Object" none with
  accessFlags := 33
  interfaces := #[]
  cf := some (fileOf pool0 8 #[] #[{ accessFlags := 1, nameIndex := 5, descriptorIndex := 6, attributes := #[] }] 33 0 #[] #[])
  fields := #[]
  methods := #[k0m0]
  instanceTypes := #[]
  staticTypes := #[]
  resolved := Array.replicate 124 none
  statics := none }

def pool1 : Array CpInfo := pool [(2, .class_ 4), (1, u "java/lang/Object"), (0, u "<init>"), (0, u "()V"), (0, .methodref 8 9), (0, .class_ 10), (0, .nameAndType 11 12), (0, u "com/example/webhook_signature_check/webhooksignaturecheck/HeaderElementsUnixSecondsPinLaw"), (0, u "shortCase"), (0, u "(III)Z"), (0, .methodref 8 14), (0, .nameAndType 15 16), (0, u "longCase"), (0, u "(IJI)Z"), (0, .long 10), (1, .class_ 20), (0, u "java/lang/String"), (0, .methodref 19 22), (0, .nameAndType 5 23), (0, u "([C)V"), (0, .methodref 8 25), (0, .nameAndType 26 27), (0, u "ch"), (0, u "(I)C"), (0, .methodref 8 29), (0, .nameAndType 30 31), (0, u "make"), (0, u "(ICCCCC)Ljava/lang/String;"), (0, .methodref 33 34), (0, .class_ 35), (0, .nameAndType 36 37), (0, u "com/example/webhook_signature_check/webhooksignaturecheck/HeaderElements"), (0, u "unixSeconds"), (0, u "(Ljava/lang/String;)J"), (0, .long 18446744073709551615), (1, .methodref 8 41), (0, .nameAndType 42 43), (0, u "isD"), (0, u "(C)Z"), (2, .long 9223372036854775807), (1, .integer 65535), (0, .long 1000000000000000000), (1, .methodref 8 52), (0, .nameAndType 53 54), (0, u "dig"), (0, u "(JJ)C"), (0, .long 100000000000000000), (1, .long 10000000000000000), (1, .long 1000000000000000), (1, .long 100000000000000), (1, .long 10000000000000), (1, .long 1000000000000), (1, .long 100000000000), (1, .long 10000000000), (1, .long 1000000000), (1, .long 100000000), (1, .long 10000000), (1, .long 1000000), (1, .long 100000), (1, .long 10000), (1, .long 1000), (1, .long 100), (1, .long 922337203685477580), (3, u "law"), (0, u "(IIIJI)Z")] 5

def k1m0 : Method := { name := "<init>", desc := "()V", sig := { parameters := [], returnType := none }, accessFlags := 1, code := none }
def k1c1 : Code := { maxStack := 4, maxLocals := 6, code := code, exceptionTable := #[], attributes := #[] }
def k1m1 : Method := { name := "law", desc := "(IIIJI)Z", sig := { parameters := [.int, .int, .int, .long, .int], returnType := some .boolean }, accessFlags := 9, code := some k1c1 }
def k1c2 : Code := { maxStack := 2, maxLocals := 1, code := method_3_code, exceptionTable := #[], attributes := #[] }
def k1m2 : Method := { name := "isD", desc := "(C)Z", sig := { parameters := [.char], returnType := some .boolean }, accessFlags := 10, code := some k1c2 }
def k1c3 : Code := { maxStack := 3, maxLocals := 1, code := method_4_code, exceptionTable := #[], attributes := #[] }
def k1m3 : Method := { name := "ch", desc := "(I)C", sig := { parameters := [.int], returnType := some .char }, accessFlags := 10, code := some k1c3 }
def k1c4 : Code := { maxStack := 5, maxLocals := 4, code := method_5_code, exceptionTable := #[], attributes := #[] }
def k1m4 : Method := { name := "dig", desc := "(JJ)C", sig := { parameters := [.long, .long], returnType := some .char }, accessFlags := 10, code := some k1c4 }
def k1c5 : Code := { maxStack := 6, maxLocals := 6, code := method_6_code, exceptionTable := #[], attributes := #[] }
def k1m5 : Method := { name := "make", desc := "(ICCCCC)Ljava/lang/String;", sig := { parameters := [.int, .char, .char, .char, .char, .char], returnType := some (.object "java/lang/String") }, accessFlags := 10, code := some k1c5 }
def k1c6 : Code := { maxStack := 6, maxLocals := 17, code := method_7_code, exceptionTable := #[], attributes := #[] }
def k1m6 : Method := { name := "shortCase", desc := "(III)Z", sig := { parameters := [.int, .int, .int], returnType := some .boolean }, accessFlags := 10, code := some k1c6 }
def k1c7 : Code := { maxStack := 6, maxLocals := 18, code := method_8_code, exceptionTable := #[], attributes := #[] }
def k1m7 : Method := { name := "longCase", desc := "(IJI)Z", sig := { parameters := [.int, .long, .int], returnType := some .boolean }, accessFlags := 10, code := some k1c7 }
/-- com/example/webhook_signature_check/webhooksignaturecheck/HeaderElementsUnixSecondsPinLaw -/
def k1 : Class := { plain "com/example/webhook_signature_check/webhooksignaturecheck/HeaderElementsUnixSecondsPinLaw" (some 0) with
  accessFlags := 49
  interfaces := #[]
  cf := some (fileOf pool1 8 #[] #[{ accessFlags := 1, nameIndex := 5, descriptorIndex := 6, attributes := #[] }, { accessFlags := 9, nameIndex := 91, descriptorIndex := 92, attributes := #[] }, { accessFlags := 10, nameIndex := 42, descriptorIndex := 43, attributes := #[] }, { accessFlags := 10, nameIndex := 26, descriptorIndex := 27, attributes := #[] }, { accessFlags := 10, nameIndex := 53, descriptorIndex := 54, attributes := #[] }, { accessFlags := 10, nameIndex := 30, descriptorIndex := 31, attributes := #[] }, { accessFlags := 10, nameIndex := 11, descriptorIndex := 12, attributes := #[] }, { accessFlags := 10, nameIndex := 15, descriptorIndex := 16, attributes := #[] }] 49 2 #[] #[])
  fields := #[]
  methods := #[k1m0, k1m1, k1m2, k1m3, k1m4, k1m5, k1m6, k1m7]
  instanceTypes := #[]
  staticTypes := #[]
  resolved := Array.replicate 98 none
  statics := none }

def pool2 : Array CpInfo := pool [(1, .class_ 2), (0, u "java/io/Serializable"), (0, .class_ 4), (0, u "java/lang/Object")] 2

/-- java/io/Serializable -/
def k2 : Class := { plain "java/io/Serializable" (some 0) with
  accessFlags := 1537
  interfaces := #[]
  cf := some (fileOf pool2 1 #[] #[] 1537 3 #[] #[])
  fields := #[]
  methods := #[]
  instanceTypes := #[]
  staticTypes := #[]
  resolved := Array.replicate 7 none
  statics := none }

def pool3 : Array CpInfo := pool [(1, .class_ 2), (0, u "java/lang/Comparable"), (0, .class_ 4), (0, u "java/lang/Object")] 7

/-- java/lang/Comparable -/
def k3 : Class := { plain "java/lang/Comparable" (some 0) with
  accessFlags := 1537
  interfaces := #[]
  cf := some (fileOf pool3 1 #[] #[] 1537 3 #[] #[])
  fields := #[]
  methods := #[]
  instanceTypes := #[]
  staticTypes := #[]
  resolved := Array.replicate 12 none
  statics := none }

def pool4 : Array CpInfo := pool [(2, .class_ 4), (1, u "java/lang/CharSequence"), (42, .class_ 48), (0, u "java/lang/CharSequence$1CodePointIterator"), (10, .class_ 60), (0, u "java/lang/CharSequence$1CharIterator"), (5, .class_ 67), (0, u "java/lang/Object")] 63

/-- java/lang/CharSequence -/
def k4 : Class := { plain "java/lang/CharSequence" (some 0) with
  accessFlags := 1537
  interfaces := #[]
  cf := some (fileOf pool4 2 #[.nestMembers #[47, 59]] #[] 1537 66 #[] #[])
  fields := #[]
  methods := #[]
  instanceTypes := #[]
  staticTypes := #[]
  resolved := Array.replicate 131 none
  statics := none }

def pool5 : Array CpInfo := pool [(1, .class_ 2), (0, u "java/lang/constant/Constable"), (0, .class_ 4), (0, u "java/lang/Object")] 6

/-- java/lang/constant/Constable -/
def k5 : Class := { plain "java/lang/constant/Constable" (some 0) with
  accessFlags := 1537
  interfaces := #[]
  cf := some (fileOf pool5 1 #[] #[] 1537 3 #[] #[])
  fields := #[]
  methods := #[]
  instanceTypes := #[]
  staticTypes := #[]
  resolved := Array.replicate 11 none
  statics := none }

def pool6 : Array CpInfo := pool [(1, .class_ 2), (0, u "java/lang/constant/ConstantDesc"), (0, .class_ 4), (0, u "java/lang/Object")] 32

/-- java/lang/constant/ConstantDesc -/
def k6 : Class := { plain "java/lang/constant/ConstantDesc" (some 0) with
  accessFlags := 1537
  interfaces := #[]
  cf := some (fileOf pool6 1 #[] #[] 1537 3 #[] #[])
  fields := #[]
  methods := #[]
  instanceTypes := #[]
  staticTypes := #[]
  resolved := Array.replicate 37 none
  statics := none }

def pool7 : Array CpInfo := pool [(1, .methodref 2 3), (0, .class_ 4), (0, .nameAndType 5 6), (0, u "java/lang/Object"), (0, u "<init>"), (0, u "()V"), (0, .string 8), (0, u ""), (0, .fieldref 10 11), (0, .class_ 12), (0, .nameAndType 13 14), (0, u "java/lang/String"), (0, u "value"), (0, u "[B"), (0, .fieldref 10 16), (0, .nameAndType 17 18), (0, u "coder"), (0, u "B"), (2, u "hash"), (0, u "I"), (2, u "hashIsZero"), (0, u "Z"), (0, .methodref 10 28), (0, .nameAndType 5 29), (0, u "([CIILjava/lang/Void;)V"), (8, .fieldref 10 39), (0, .nameAndType 40 26), (0, u "COMPACT_STRINGS"), (1, .class_ 44), (1, u "java/lang/StringUTF16"), (0, u "compress"), (1, .methodref 42 48), (0, .nameAndType 49 50), (0, u "coderFromArrayLen"), (0, u "([BI)B"), (56, .class_ 109), (1, u "java/lang/StringLatin1"), (32, u "()Z"), (34, .methodref 42 178), (0, .nameAndType 45 179), (0, u "([CII)[B"), (154, u "()I"), (0, .methodref 10 336), (0, .nameAndType 17 337), (0, u "()B"), (25, u "([BI)C"), (27, u "(II)V"), (35, u "(I)C"), (64, .methodref 10 493), (0, .nameAndType 494 142), (0, u "isLatin1"), (0, .methodref 107 496), (0, .nameAndType 497 363), (0, u "charAt"), (3, u "checkIndex"), (5, u "length"), (67, .class_ 576), (0, u "java/lang/CharSequence"), (22, u "CASE_INSENSITIVE_ORDER"), (0, u "Ljava/util/Comparator;"), (91, u "isEmpty"), (317, u "([C)V"), (42, .fieldref 1054 1055), (0, .class_ 1056), (0, .nameAndType 1057 1058), (0, u "jdk/internal/util/Preconditions"), (0, u "SIOOBE_FORMATTER"), (0, u "Ljava/util/function/BiFunction;"), (0, .methodref 1054 1060), (0, .nameAndType 501 1061), (0, u "(IILjava/util/function/BiFunction;)I"), (39, u "serialPersistentFields"), (0, u "[Ljava/io/ObjectStreamField;"), (0, .class_ 1104), (0, u "java/lang/String$CaseInsensitiveComparator"), (1, .class_ 1107), (0, u "java/io/Serializable"), (0, .class_ 1109), (0, u "java/lang/Comparable"), (0, .class_ 1111), (0, u "java/lang/constant/Constable"), (0, .class_ 1113), (0, u "java/lang/constant/ConstantDesc"), (2, u "serialVersionUID"), (0, u "J"), (3, u "REPL"), (0, u "C"), (2, u "LATIN1"), (1, u "UTF16")] 323

def k7m0 : Method := { name := "<init>", desc := "()V", sig := { parameters := [], returnType := none }, accessFlags := 1, code := none }
def k7c1 : Code := { maxStack := 5, maxLocals := 2, code := jdk_42_method_3_code, exceptionTable := #[], attributes := #[] }
def k7m1 : Method := { name := "<init>", desc := "([C)V", sig := { parameters := [(.array .char)], returnType := none }, accessFlags := 1, code := some k7c1 }
def k7c2 : Code := { maxStack := 2, maxLocals := 1, code := jdk_42_method_54_code, exceptionTable := #[], attributes := #[] }
def k7m2 : Method := { name := "length", desc := "()I", sig := { parameters := [], returnType := some .int }, accessFlags := 1, code := some k7c2 }
def k7c3 : Code := { maxStack := 1, maxLocals := 1, code := jdk_42_method_55_code, exceptionTable := #[], attributes := #[] }
def k7m3 : Method := { name := "isEmpty", desc := "()Z", sig := { parameters := [], returnType := some .boolean }, accessFlags := 1, code := some k7c3 }
def k7c4 : Code := { maxStack := 2, maxLocals := 2, code := jdk_42_method_56_code, exceptionTable := #[], attributes := #[] }
def k7m4 : Method := { name := "charAt", desc := "(I)C", sig := { parameters := [.int], returnType := some .char }, accessFlags := 1, code := some k7c4 }
def k7c5 : Code := { maxStack := 4, maxLocals := 6, code := jdk_42_method_149_code, exceptionTable := #[], attributes := #[] }
def k7m5 : Method := { name := "<init>", desc := "([CIILjava/lang/Void;)V", sig := { parameters := [(.array .char), .int, .int, (.object "java/lang/Void")], returnType := none }, accessFlags := 2, code := some k7c5 }
def k7c6 : Code := { maxStack := 1, maxLocals := 1, code := jdk_42_method_152_code, exceptionTable := #[], attributes := #[] }
def k7m6 : Method := { name := "coder", desc := "()B", sig := { parameters := [], returnType := some .byte }, accessFlags := 0, code := some k7c6 }
def k7c7 : Code := { maxStack := 1, maxLocals := 1, code := jdk_42_method_154_code, exceptionTable := #[], attributes := #[] }
def k7m7 : Method := { name := "isLatin1", desc := "()Z", sig := { parameters := [], returnType := some .boolean }, accessFlags := 0, code := some k7c7 }
def k7c8 : Code := { maxStack := 3, maxLocals := 2, code := jdk_42_method_155_code, exceptionTable := #[], attributes := #[] }
def k7m8 : Method := { name := "checkIndex", desc := "(II)V", sig := { parameters := [.int, .int], returnType := none }, accessFlags := 8, code := some k7c8 }
/-- java/lang/String -/
def k7 : Class := { plain "java/lang/String" (some 0) with
  accessFlags := 49
  interfaces := #[2, 3, 4, 5, 6]
  cf := some (fileOf pool7 10 #[.nestMembers #[1103]] #[{ accessFlags := 1, nameIndex := 5, descriptorIndex := 6, attributes := #[] }, { accessFlags := 1, nameIndex := 5, descriptorIndex := 1010, attributes := #[] }, { accessFlags := 1, nameIndex := 507, descriptorIndex := 334, attributes := #[] }, { accessFlags := 1, nameIndex := 692, descriptorIndex := 142, attributes := #[] }, { accessFlags := 1, nameIndex := 497, descriptorIndex := 427, attributes := #[] }, { accessFlags := 2, nameIndex := 5, descriptorIndex := 29, attributes := #[] }, { accessFlags := 0, nameIndex := 17, descriptorIndex := 337, attributes := #[] }, { accessFlags := 0, nameIndex := 494, descriptorIndex := 142, attributes := #[] }, { accessFlags := 8, nameIndex := 501, descriptorIndex := 391, attributes := #[] }] 49 2 #[1106, 1108, 575, 1110, 1112] #[{ accessFlags := 18, nameIndex := 13, descriptorIndex := 14, attributes := #[] }, { accessFlags := 18, nameIndex := 17, descriptorIndex := 18, attributes := #[] }, { accessFlags := 2, nameIndex := 21, descriptorIndex := 22, attributes := #[] }, { accessFlags := 2, nameIndex := 25, descriptorIndex := 26, attributes := #[] }, { accessFlags := 26, nameIndex := 1116, descriptorIndex := 1117, attributes := #[] }, { accessFlags := 24, nameIndex := 40, descriptorIndex := 26, attributes := #[] }, { accessFlags := 26, nameIndex := 1101, descriptorIndex := 1102, attributes := #[] }, { accessFlags := 26, nameIndex := 1121, descriptorIndex := 1122, attributes := #[] }, { accessFlags := 25, nameIndex := 599, descriptorIndex := 600, attributes := #[] }, { accessFlags := 24, nameIndex := 1125, descriptorIndex := 18, attributes := #[] }, { accessFlags := 24, nameIndex := 1127, descriptorIndex := 18, attributes := #[] }])
  fields := #[{ name := "value", type := (.array .byte), accessFlags := 18, slot := 0, constantValue := 0 }, { name := "coder", type := .byte, accessFlags := 18, slot := 1, constantValue := 0 }, { name := "hash", type := .int, accessFlags := 2, slot := 2, constantValue := 0 }, { name := "hashIsZero", type := .boolean, accessFlags := 2, slot := 3, constantValue := 0 }, { name := "serialVersionUID", type := .long, accessFlags := 26, slot := 0, constantValue := 0 }, { name := "COMPACT_STRINGS", type := .boolean, accessFlags := 24, slot := 1, constantValue := 0 }, { name := "serialPersistentFields", type := (.array (.object "java/io/ObjectStreamField")), accessFlags := 26, slot := 2, constantValue := 0 }, { name := "REPL", type := .char, accessFlags := 26, slot := 3, constantValue := 0 }, { name := "CASE_INSENSITIVE_ORDER", type := (.object "java/util/Comparator"), accessFlags := 25, slot := 4, constantValue := 0 }, { name := "LATIN1", type := .byte, accessFlags := 24, slot := 5, constantValue := 0 }, { name := "UTF16", type := .byte, accessFlags := 24, slot := 6, constantValue := 0 }]
  methods := #[k7m0, k7m1, k7m2, k7m3, k7m4, k7m5, k7m6, k7m7, k7m8]
  instanceTypes := #[(.array .byte), .byte, .int, .boolean]
  staticTypes := #[.long, .boolean, (.array (.object "java/io/ObjectStreamField")), .char, (.object "java/util/Comparator"), .byte, .byte]
  resolved := Array.replicate 1451 none
  statics := some 0 }

def pool8 : Array CpInfo := pool [(2, .class_ 4), (1, u "java/lang/Object"), (3, .class_ 10), (1, u "com/example/webhook_signature_check/webhooksignaturecheck/HeaderElements"), (0, u "value"), (0, u "Ljava/lang/String;"), (7, .class_ 21), (0, u "java/lang/String"), (6, .methodref 20 29), (0, .nameAndType 30 31), (0, u "length"), (0, u "()I"), (4, .methodref 20 37), (0, .nameAndType 38 39), (0, u "charAt"), (0, u "(I)C"), (35, .methodref 20 76), (0, .nameAndType 77 78), (0, u "isEmpty"), (0, u "()Z"), (0, .long 18446744073709551615), (3, .long 9223372036854775807), (1, .long 10), (11, u "SIGNATURE_DIGITS"), (0, u "I"), (12, u "unixSeconds"), (0, u "(Ljava/lang/String;)J")] 6

def k8c0 : Code := { maxStack := 6, maxLocals := 5, code := prog_1_method_5_code, exceptionTable := #[], attributes := #[] }
def k8m0 : Method := { name := "unixSeconds", desc := "(Ljava/lang/String;)J", sig := { parameters := [(.object "java/lang/String")], returnType := some .long }, accessFlags := 8, code := some k8c0 }
/-- com/example/webhook_signature_check/webhooksignaturecheck/HeaderElements -/
def k8 : Class := { plain "com/example/webhook_signature_check/webhooksignaturecheck/HeaderElements" (some 0) with
  accessFlags := 32
  interfaces := #[]
  cf := some (fileOf pool8 8 #[] #[{ accessFlags := 8, nameIndex := 111, descriptorIndex := 112, attributes := #[] }] 32 2 #[] #[{ accessFlags := 26, nameIndex := 97, descriptorIndex := 98, attributes := #[] }, { accessFlags := 18, nameIndex := 11, descriptorIndex := 12, attributes := #[] }])
  fields := #[{ name := "SIGNATURE_DIGITS", type := .int, accessFlags := 26, slot := 0, constantValue := 0 }, { name := "value", type := (.object "java/lang/String"), accessFlags := 18, slot := 0, constantValue := 0 }]
  methods := #[k8m0]
  instanceTypes := #[(.object "java/lang/String")]
  staticTypes := #[.int]
  resolved := Array.replicate 119 none
  statics := none }

def pool9 : Array CpInfo := pool [(6, .class_ 8), (1, u "java/lang/Object"), (0, u "<init>"), (0, u "()V"), (1, .class_ 14), (1, u "java/lang/StringUTF16"), (31, u "$assertionsDisabled"), (0, u "Z"), (13, u "HI_BYTE_SHIFT"), (0, u "I"), (2, u "LO_BYTE_SHIFT"), (49, .methodref 12 116), (0, .nameAndType 117 118), (0, u "compress"), (0, u "([CI[BII)I"), (3, u "([CII)[B"), (138, u "coderFromArrayLen"), (0, u "([BI)B"), (106, .class_ 371), (1, u "java/lang/StringUTF16$LinesSpliterator"), (58, u "MAX_LENGTH"), (196, .class_ 628), (0, u "java/lang/StringUTF16$CodePointsSpliterator"), (0, .class_ 630), (0, u "java/lang/StringUTF16$CharsSpliterator")] 4

def k9m0 : Method := { name := "<init>", desc := "()V", sig := { parameters := [], returnType := none }, accessFlags := 0, code := none }
def k9c1 : Code := { maxStack := 2, maxLocals := 2, code := jdk_52_method_15_code, exceptionTable := #[], attributes := #[] }
def k9m1 : Method := { name := "coderFromArrayLen", desc := "([BI)B", sig := { parameters := [(.array .byte), .int], returnType := some .byte }, accessFlags := 8, code := some k9c1 }
def k9c2 : Code := { maxStack := 5, maxLocals := 6, code := jdk_52_method_16_code, exceptionTable := #[], attributes := #[] }
def k9m2 : Method := { name := "compress", desc := "([CII)[B", sig := { parameters := [(.array .char), .int, .int], returnType := some (.array .byte) }, accessFlags := 9, code := some k9c2 }
def k9c3 : Code := { maxStack := 3, maxLocals := 7, code := jdk_52_method_21_code, exceptionTable := #[], attributes := #[] }
def k9m3 : Method := { name := "compress", desc := "([CI[BII)I", sig := { parameters := [(.array .char), .int, (.array .byte), .int, .int], returnType := some .int }, accessFlags := 9, code := some k9c3 }
/-- java/lang/StringUTF16 -/
def k9 : Class := { plain "java/lang/StringUTF16" (some 0) with
  accessFlags := 48
  interfaces := #[]
  cf := some (fileOf pool9 12 #[.nestMembers #[627, 629, 369]] #[{ accessFlags := 0, nameIndex := 9, descriptorIndex := 10, attributes := #[] }, { accessFlags := 8, nameIndex := 261, descriptorIndex := 262, attributes := #[] }, { accessFlags := 9, nameIndex := 117, descriptorIndex := 122, attributes := #[] }, { accessFlags := 9, nameIndex := 117, descriptorIndex := 118, attributes := #[] }] 48 6 #[] #[{ accessFlags := 26, nameIndex := 61, descriptorIndex := 62, attributes := #[] }, { accessFlags := 26, nameIndex := 65, descriptorIndex := 62, attributes := #[] }, { accessFlags := 24, nameIndex := 430, descriptorIndex := 62, attributes := #[] }, { accessFlags := 4120, nameIndex := 46, descriptorIndex := 47, attributes := #[] }])
  fields := #[{ name := "HI_BYTE_SHIFT", type := .int, accessFlags := 26, slot := 0, constantValue := 0 }, { name := "LO_BYTE_SHIFT", type := .int, accessFlags := 26, slot := 1, constantValue := 0 }, { name := "MAX_LENGTH", type := .int, accessFlags := 24, slot := 2, constantValue := 0 }, { name := "$assertionsDisabled", type := .boolean, accessFlags := 4120, slot := 3, constantValue := 0 }]
  methods := #[k9m0, k9m1, k9m2, k9m3]
  instanceTypes := #[]
  staticTypes := #[.int, .int, .int, .boolean]
  resolved := Array.replicate 635 none
  statics := none }

def pool10 : Array CpInfo := pool [(1, .class_ 2), (0, u "java/lang/String"), (1, .class_ 6), (1, u "java/lang/Object"), (0, u "<init>"), (0, u "()V"), (0, .methodref 1 10), (0, .nameAndType 11 12), (0, u "checkIndex"), (0, u "(II)V"), (1, .class_ 16), (1, u "java/lang/StringLatin1"), (36, u "([BI)C"), (67, u "$assertionsDisabled"), (0, u "Z"), (98, .class_ 223), (1, u "java/lang/StringLatin1$LinesSpliterator"), (28, u "charAt"), (137, .class_ 391), (0, u "java/lang/StringLatin1$CharsSpliterator")] 3

def k10m0 : Method := { name := "<init>", desc := "()V", sig := { parameters := [], returnType := none }, accessFlags := 0, code := none }
def k10c1 : Code := { maxStack := 2, maxLocals := 2, code := jdk_43_method_2_code, exceptionTable := #[], attributes := #[] }
def k10m1 : Method := { name := "charAt", desc := "([BI)C", sig := { parameters := [(.array .byte), .int], returnType := some .char }, accessFlags := 9, code := some k10c1 }
/-- java/lang/StringLatin1 -/
def k10 : Class := { plain "java/lang/StringLatin1" (some 0) with
  accessFlags := 48
  interfaces := #[]
  cf := some (fileOf pool10 14 #[.nestMembers #[390, 221]] #[{ accessFlags := 0, nameIndex := 7, descriptorIndex := 8, attributes := #[] }, { accessFlags := 9, nameIndex := 252, descriptorIndex := 53, attributes := #[] }] 48 4 #[] #[{ accessFlags := 4120, nameIndex := 121, descriptorIndex := 122, attributes := #[] }])
  fields := #[{ name := "$assertionsDisabled", type := .boolean, accessFlags := 4120, slot := 0, constantValue := 0 }]
  methods := #[k10m0, k10m1]
  instanceTypes := #[]
  staticTypes := #[.boolean]
  resolved := Array.replicate 395 none
  statics := none }

def pool11 : Array CpInfo := pool [(2, .class_ 4), (1, u "java/lang/Object"), (0, u "<init>"), (0, u "()V"), (17, .class_ 26), (1, u "jdk/internal/util/Preconditions"), (6, u "checkIndex"), (21, .class_ 56), (0, u "jdk/internal/util/Preconditions$4"), (57, .class_ 115), (0, u "jdk/internal/util/Preconditions$1"), (7, u "SIOOBE_FORMATTER"), (0, u "Ljava/util/function/BiFunction;"), (0, .class_ 126), (0, u "jdk/internal/util/Preconditions$2"), (3, u "AIOOBE_FORMATTER"), (0, .class_ 132), (0, u "jdk/internal/util/Preconditions$3"), (3, u "IOOBE_FORMATTER"), (41, u "(IILjava/util/function/BiFunction;)I")] 15

def k11m0 : Method := { name := "<init>", desc := "()V", sig := { parameters := [], returnType := none }, accessFlags := 1, code := none }
def k11c1 : Code := { maxStack := 3, maxLocals := 3, code := jdk_41_method_11_code, exceptionTable := #[], attributes := #[] }
def k11m1 : Method := { name := "checkIndex", desc := "(IILjava/util/function/BiFunction;)I", sig := { parameters := [.int, .int, (.object "java/util/function/BiFunction")], returnType := some .int }, accessFlags := 9, code := some k11c1 }
/-- jdk/internal/util/Preconditions -/
def k11 : Class := { plain "jdk/internal/util/Preconditions" (some 0) with
  accessFlags := 33
  interfaces := #[]
  cf := some (fileOf pool11 24 #[.nestMembers #[55, 131, 125, 114]] #[{ accessFlags := 1, nameIndex := 5, descriptorIndex := 6, attributes := #[] }, { accessFlags := 9, nameIndex := 33, descriptorIndex := 178, attributes := #[] }] 33 2 #[] #[{ accessFlags := 25, nameIndex := 123, descriptorIndex := 124, attributes := #[] }, { accessFlags := 25, nameIndex := 130, descriptorIndex := 124, attributes := #[] }, { accessFlags := 25, nameIndex := 136, descriptorIndex := 124, attributes := #[] }])
  fields := #[{ name := "SIOOBE_FORMATTER", type := (.object "java/util/function/BiFunction"), accessFlags := 25, slot := 0, constantValue := 0 }, { name := "AIOOBE_FORMATTER", type := (.object "java/util/function/BiFunction"), accessFlags := 25, slot := 1, constantValue := 0 }, { name := "IOOBE_FORMATTER", type := (.object "java/util/function/BiFunction"), accessFlags := 25, slot := 2, constantValue := 0 }]
  methods := #[k11m0, k11m1]
  instanceTypes := #[]
  staticTypes := #[(.object "java/util/function/BiFunction"), (.object "java/util/function/BiFunction"), (.object "java/util/function/BiFunction")]
  resolved := Array.replicate 194 none
  statics := some 1 }

def pool12 : Array CpInfo := pool [(9, u "<init>"), (6, .class_ 18), (1, u "java/lang/Object"), (0, u "()V"), (1, .class_ 23), (1, u "jdk/internal/util/ArraysSupport"), (0, u "LOG2_ARRAY_LONG_INDEX_SCALE"), (0, u "I"), (2, u "U"), (0, u "Ljdk/internal/misc/Unsafe;"), (8, u "BIG_ENDIAN"), (0, u "Z"), (8, u "LOG2_BYTE_BIT_SIZE"), (4, u "LOG2_ARRAY_INT_INDEX_SCALE"), (54, u "JLA"), (0, u "Ljdk/internal/access/JavaLangAccess;"), (11, u "LOG2_ARRAY_BOOLEAN_INDEX_SCALE"), (9, u "LOG2_ARRAY_BYTE_INDEX_SCALE"), (5, u "LOG2_ARRAY_CHAR_INDEX_SCALE"), (5, u "LOG2_ARRAY_SHORT_INDEX_SCALE"), (18, u "LOG2_ARRAY_FLOAT_INDEX_SCALE"), (24, u "LOG2_ARRAY_DOUBLE_INDEX_SCALE"), (89, u "T_BOOLEAN"), (2, u "T_CHAR"), (1, u "T_FLOAT"), (1, u "T_DOUBLE"), (1, u "T_BYTE"), (1, u "T_SHORT"), (1, u "T_INT"), (1, u "T_LONG"), (1, u "SOFT_MAX_ARRAY_LENGTH")] 83

def k12m0 : Method := { name := "<init>", desc := "()V", sig := { parameters := [], returnType := none }, accessFlags := 2, code := none }
/-- jdk/internal/util/ArraysSupport -/
def k12 : Class := { plain "jdk/internal/util/ArraysSupport" (some 0) with
  accessFlags := 33
  interfaces := #[]
  cf := some (fileOf pool12 21 #[] #[{ accessFlags := 2, nameIndex := 9, descriptorIndex := 19, attributes := #[] }] 33 16 #[] #[{ accessFlags := 24, nameIndex := 28, descriptorIndex := 29, attributes := #[] }, { accessFlags := 26, nameIndex := 38, descriptorIndex := 39, attributes := #[] }, { accessFlags := 25, nameIndex := 121, descriptorIndex := 25, attributes := #[] }, { accessFlags := 25, nameIndex := 131, descriptorIndex := 25, attributes := #[] }, { accessFlags := 25, nameIndex := 137, descriptorIndex := 25, attributes := #[] }, { accessFlags := 25, nameIndex := 143, descriptorIndex := 25, attributes := #[] }, { accessFlags := 25, nameIndex := 53, descriptorIndex := 25, attributes := #[] }, { accessFlags := 25, nameIndex := 24, descriptorIndex := 25, attributes := #[] }, { accessFlags := 25, nameIndex := 162, descriptorIndex := 25, attributes := #[] }, { accessFlags := 25, nameIndex := 187, descriptorIndex := 25, attributes := #[] }, { accessFlags := 26, nameIndex := 48, descriptorIndex := 25, attributes := #[] }, { accessFlags := 25, nameIndex := 277, descriptorIndex := 25, attributes := #[] }, { accessFlags := 25, nameIndex := 280, descriptorIndex := 25, attributes := #[] }, { accessFlags := 25, nameIndex := 282, descriptorIndex := 25, attributes := #[] }, { accessFlags := 25, nameIndex := 284, descriptorIndex := 25, attributes := #[] }, { accessFlags := 25, nameIndex := 286, descriptorIndex := 25, attributes := #[] }, { accessFlags := 25, nameIndex := 288, descriptorIndex := 25, attributes := #[] }, { accessFlags := 25, nameIndex := 290, descriptorIndex := 25, attributes := #[] }, { accessFlags := 25, nameIndex := 292, descriptorIndex := 25, attributes := #[] }, { accessFlags := 26, nameIndex := 108, descriptorIndex := 109, attributes := #[] }, { accessFlags := 25, nameIndex := 294, descriptorIndex := 25, attributes := #[] }])
  fields := #[{ name := "U", type := (.object "jdk/internal/misc/Unsafe"), accessFlags := 24, slot := 0, constantValue := 0 }, { name := "BIG_ENDIAN", type := .boolean, accessFlags := 26, slot := 1, constantValue := 0 }, { name := "LOG2_ARRAY_BOOLEAN_INDEX_SCALE", type := .int, accessFlags := 25, slot := 2, constantValue := 0 }, { name := "LOG2_ARRAY_BYTE_INDEX_SCALE", type := .int, accessFlags := 25, slot := 3, constantValue := 0 }, { name := "LOG2_ARRAY_CHAR_INDEX_SCALE", type := .int, accessFlags := 25, slot := 4, constantValue := 0 }, { name := "LOG2_ARRAY_SHORT_INDEX_SCALE", type := .int, accessFlags := 25, slot := 5, constantValue := 0 }, { name := "LOG2_ARRAY_INT_INDEX_SCALE", type := .int, accessFlags := 25, slot := 6, constantValue := 0 }, { name := "LOG2_ARRAY_LONG_INDEX_SCALE", type := .int, accessFlags := 25, slot := 7, constantValue := 0 }, { name := "LOG2_ARRAY_FLOAT_INDEX_SCALE", type := .int, accessFlags := 25, slot := 8, constantValue := 0 }, { name := "LOG2_ARRAY_DOUBLE_INDEX_SCALE", type := .int, accessFlags := 25, slot := 9, constantValue := 0 }, { name := "LOG2_BYTE_BIT_SIZE", type := .int, accessFlags := 26, slot := 10, constantValue := 0 }, { name := "T_BOOLEAN", type := .int, accessFlags := 25, slot := 11, constantValue := 0 }, { name := "T_CHAR", type := .int, accessFlags := 25, slot := 12, constantValue := 0 }, { name := "T_FLOAT", type := .int, accessFlags := 25, slot := 13, constantValue := 0 }, { name := "T_DOUBLE", type := .int, accessFlags := 25, slot := 14, constantValue := 0 }, { name := "T_BYTE", type := .int, accessFlags := 25, slot := 15, constantValue := 0 }, { name := "T_SHORT", type := .int, accessFlags := 25, slot := 16, constantValue := 0 }, { name := "T_INT", type := .int, accessFlags := 25, slot := 17, constantValue := 0 }, { name := "T_LONG", type := .int, accessFlags := 25, slot := 18, constantValue := 0 }, { name := "JLA", type := (.object "jdk/internal/access/JavaLangAccess"), accessFlags := 26, slot := 19, constantValue := 0 }, { name := "SOFT_MAX_ARRAY_LENGTH", type := .int, accessFlags := 25, slot := 20, constantValue := 0 }]
  methods := #[k12m0]
  instanceTypes := #[]
  staticTypes := #[(.object "jdk/internal/misc/Unsafe"), .boolean, .int, .int, .int, .int, .int, .int, .int, .int, .int, .int, .int, .int, .int, .int, .int, .int, .int, (.object "jdk/internal/access/JavaLangAccess"), .int]
  resolved := Array.replicate 378 none
  statics := none }

def pool13 : Array CpInfo := pool [(1, u "java/lang/Cloneable"), (0, .class_ 1), (0, u "java/lang/Object"), (0, .class_ 3)] 3

/-- java/lang/Cloneable -/
def k13 : Class := { plain "java/lang/Cloneable" (some 0) with
  accessFlags := 1537
  interfaces := #[]
  cf := some (fileOf pool13 2 #[] #[] 1537 4 #[] #[])
  fields := #[]
  methods := #[]
  instanceTypes := #[]
  staticTypes := #[]
  resolved := Array.replicate 8 none
  statics := none }

/-- the primitive byte -/
def k14 : Class := { plain "byte" none with kind := .primitive 'B', accessFlags := 0x411 }
/-- [B -/
def k15 : Class := { plain "[B" (some 0) with kind := .array 14 .byte, interfaces := #[13, 2], accessFlags := 1041 }

/-- the primitive char -/
def k16 : Class := { plain "char" none with kind := .primitive 'C', accessFlags := 0x411 }
/-- [C -/
def k17 : Class := { plain "[C" (some 0) with kind := .array 16 .char, interfaces := #[13, 2], accessFlags := 1041 }

/-- the primitive int -/
def k18 : Class := { plain "int" none with kind := .primitive 'I', accessFlags := 0x411 }
/-- [I -/
def k19 : Class := { plain "[I" (some 0) with kind := .array 18 .int, interfaces := #[13, 2], accessFlags := 1041 }

def heap : Heap := #[{ cls := 7, slots := #[.long 0, .int 1, .null, .int 0, .null, .int 0, .int 0], vm := .statics 7 },
  { cls := 11, slots := #[.null, .null, .null], vm := .statics 11 }]
def classes : Array Class := #[k0, k1, k2, k3, k4, k5, k6, k7, k8, k9, k10, k11, k12, k13, k14, k15, k16, k17, k18, k19]
def interned : List (Array UInt16 × Addr) := []
def slotsUsed : Nat := 10
def theMethod : MethodId := ⟨1, 1⟩
def args0 : Array Value := #[.int 5, .int 5, .int 5, .long 5, .int 5]
def aboutOver (below : List Frame) : State where
  vm := { classes := classes, interned := interned.toArray }
  heap := heap
  slotsUsed := slotsUsed
  threads := #[{ frames := .invoking theMethod args0 :: below }]
def below0 : List Frame := [.native { method := ⟨0, 0⟩, args := #[] }]
def about1 : State := aboutOver below0
def p0 : Program := .bare "" "" ""
def e0 : Env := launch0.env 0 0 0
theorem w_frames : about1.frames = Frame.invoking theMethod args0 :: below0 := rfl
set_option maxRecDepth 65536 in
theorem w_args : argsFit about1.vm theMethod args0 = true := by decide +kernel
set_option maxRecDepth 65536 in
theorem w_heap : heapFits about1 = true := by decide +kernel
set_option maxRecDepth 65536 in
theorem w_runnable : about1.curStatus? = some .runnable := by decide +kernel
set_option maxRecDepth 65536 in
theorem w_alone : about1.alone = true := by decide +kernel
set_option maxRecDepth 65536 in
theorem w_named : about1.methodNamed? x = some theMethod := by decide +kernel
set_option maxRecDepth 65536 in
theorem w_hears : about1.hears theMethod below0 = true := by decide +kernel
set_option maxRecDepth 65536 in
theorem w_ripe : about1.ripe theMethod args0 below0 = true := by decide +kernel
theorem w_running : about1.status = .running := rfl
set_option maxRecDepth 65536 in
theorem w_room : about1.hasRoom e0.platform room_1 = true :=
  launch0.hasRoom_least _ room_1 (by decide +kernel) (by decide +kernel) (by decide +kernel) (by decide +kernel) (by decide +kernel) (by decide +kernel)
theorem allAtoms_all (ts : List Jvm.Cond) (a : Array Jvm.Value) (st : Jvm.State) : (allAtoms ts).before a st = ts.all (fun c => c.before a st) := by
  induction ts with
  | nil => rfl
  | cons c t ih =>
    show (Jvm.Cond.and c (allAtoms t)).before a st = _
    rw [Jvm.Cond.before_and, ih, List.all_cons]
def words1 : List Jvm.Cond := Jvm.Cond.code x code maxLocals ret :: tables_1
/-- a 'code' word, met by the world's own term for the bytes: nothing is compared byte by byte -/
theorem code_word {y : MethodName} {bytes : ByteArray} {mx : Nat} {rt : Option FieldType} {a : Array Value} {s : State} {m : MethodId} {meth : Method} {c : Code} (h1 : s.methodNamed? y = some m) (h2 : s.vm.method? m = some meth) (h3 : meth.code = some c) (h4 : c.code = bytes)
    (h5 : (c.maxLocals == mx && c.exceptionTable.isEmpty && decide (c.maxStack ≤ mostOperands) && decide (meth.sig.returnType = rt) && !meth.locks && decide (parseMethodDescriptor y.desc = some meth.sig)) = true) : (Jvm.Cond.code y bytes mx rt).before a s = true := by
  simp only [Bool.and_eq_true, beq_iff_eq, Bool.not_eq_true', decide_eq_true_eq] at h5
  obtain ⟨⟨⟨⟨⟨g1, g2⟩, g3⟩, g4⟩, g5⟩, g6⟩ := h5
  simp [Cond.before, Cond.holds, Cond.value, h1, h2, h3, h4, g1, g2, g3, g4, g5, g6]
def isCode : Jvm.Cond → Bool
  | .code _ _ _ _ => true
  | _ => false
theorem all_split {L : List Jvm.Cond} {P : Jvm.Cond → Bool} (h1 : L.all (fun c => isCode c || P c) = true) (h2 : ∀ c ∈ L.filter isCode, P c = true) : L.all P = true := by
  refine List.all_eq_true.mpr fun c hc => ?_
  have h := List.all_eq_true.mp h1 c hc
  rcases Bool.eq_false_or_eq_true (isCode c) with hi | hi
  · exact h2 c (List.mem_filter.mpr ⟨hc, hi⟩)
  · simpa [hi] using h
set_option maxRecDepth 65536 in
theorem w_c0 : (Jvm.Cond.code x code maxLocals ret).before args0 about1 = true := code_word (m := ⟨1, 1⟩) (meth := k1m1) (c := k1c1) (by decide +kernel) rfl rfl rfl (by decide +kernel)
set_option maxRecDepth 65536 in
theorem w_c1 : (Jvm.Cond.code ({ cls := "com/example/webhook_signature_check/webhooksignaturecheck/HeaderElementsUnixSecondsPinLaw", name := "shortCase", desc := "(III)Z" } : Jvm.MethodName) method_7_code (17 : Nat) (Option.some Jvm.ClassFile.FieldType.boolean)).before args0 about1 = true := code_word (m := ⟨1, 6⟩) (meth := k1m6) (c := k1c6) (by decide +kernel) rfl rfl rfl (by decide +kernel)
set_option maxRecDepth 65536 in
theorem w_c2 : (Jvm.Cond.code ({ cls := "com/example/webhook_signature_check/webhooksignaturecheck/HeaderElementsUnixSecondsPinLaw", name := "ch", desc := "(I)C" } : Jvm.MethodName) method_4_code (1 : Nat) (Option.some Jvm.ClassFile.FieldType.char)).before args0 about1 = true := code_word (m := ⟨1, 3⟩) (meth := k1m3) (c := k1c3) (by decide +kernel) rfl rfl rfl (by decide +kernel)
set_option maxRecDepth 65536 in
theorem w_c3 : (Jvm.Cond.code ({ cls := "com/example/webhook_signature_check/webhooksignaturecheck/HeaderElementsUnixSecondsPinLaw", name := "make", desc := "(ICCCCC)Ljava/lang/String;" } : Jvm.MethodName) method_6_code (6 : Nat) (Option.some (Jvm.ClassFile.FieldType.object "java/lang/String"))).before args0 about1 = true := code_word (m := ⟨1, 5⟩) (meth := k1m5) (c := k1c5) (by decide +kernel) rfl rfl rfl (by decide +kernel)
set_option maxRecDepth 65536 in
theorem w_c4 : (Jvm.Cond.code ({ cls := "java/lang/String", name := "<init>", desc := "([C)V" } : Jvm.MethodName) jdk_42_method_3_code (2 : Nat) (Option.none : Option Jvm.ClassFile.FieldType)).before args0 about1 = true := code_word (m := ⟨7, 1⟩) (meth := k7m1) (c := k7c1) (by decide +kernel) rfl rfl rfl (by decide +kernel)
set_option maxRecDepth 65536 in
theorem w_c5 : (Jvm.Cond.code ({ cls := "java/lang/String", name := "<init>", desc := "([CIILjava/lang/Void;)V" } : Jvm.MethodName) jdk_42_method_149_code (6 : Nat) (Option.none : Option Jvm.ClassFile.FieldType)).before args0 about1 = true := code_word (m := ⟨7, 5⟩) (meth := k7m5) (c := k7c5) (by decide +kernel) rfl rfl rfl (by decide +kernel)
set_option maxRecDepth 65536 in
theorem w_c6 : (Jvm.Cond.code ({ cls := "java/lang/Object", name := "<init>", desc := "()V" } : Jvm.MethodName) object_method_1_code (1 : Nat) (Option.none : Option Jvm.ClassFile.FieldType)).before args0 about1 = true := code_word (m := ⟨0, 0⟩) (meth := k0m0) (c := k0c0) (by decide +kernel) rfl rfl rfl (by decide +kernel)
set_option maxRecDepth 65536 in
theorem w_c7 : (Jvm.Cond.code ({ cls := "com/example/webhook_signature_check/webhooksignaturecheck/HeaderElements", name := "unixSeconds", desc := "(Ljava/lang/String;)J" } : Jvm.MethodName) prog_1_method_5_code (5 : Nat) (Option.some Jvm.ClassFile.FieldType.long)).before args0 about1 = true := code_word (m := ⟨8, 0⟩) (meth := k8m0) (c := k8c0) (by decide +kernel) rfl rfl rfl (by decide +kernel)
set_option maxRecDepth 65536 in
theorem w_c8 : (Jvm.Cond.code ({ cls := "java/lang/String", name := "isEmpty", desc := "()Z" } : Jvm.MethodName) jdk_42_method_55_code (1 : Nat) (Option.some Jvm.ClassFile.FieldType.boolean)).before args0 about1 = true := code_word (m := ⟨7, 3⟩) (meth := k7m3) (c := k7c3) (by decide +kernel) rfl rfl rfl (by decide +kernel)
set_option maxRecDepth 65536 in
theorem w_c9 : (Jvm.Cond.code ({ cls := "java/lang/StringUTF16", name := "compress", desc := "([CII)[B" } : Jvm.MethodName) jdk_52_method_16_code (6 : Nat) (Option.some (Jvm.ClassFile.FieldType.array Jvm.ClassFile.FieldType.byte))).before args0 about1 = true := code_word (m := ⟨9, 2⟩) (meth := k9m2) (c := k9c2) (by decide +kernel) rfl rfl rfl (by decide +kernel)
set_option maxRecDepth 65536 in
theorem w_c10 : (Jvm.Cond.code ({ cls := "java/lang/StringUTF16", name := "compress", desc := "([CI[BII)I" } : Jvm.MethodName) jdk_52_method_21_code (7 : Nat) (Option.some Jvm.ClassFile.FieldType.int)).before args0 about1 = true := code_word (m := ⟨9, 3⟩) (meth := k9m3) (c := k9c3) (by decide +kernel) rfl rfl rfl (by decide +kernel)
set_option maxRecDepth 65536 in
theorem w_c11 : (Jvm.Cond.code ({ cls := "java/lang/StringUTF16", name := "coderFromArrayLen", desc := "([BI)B" } : Jvm.MethodName) jdk_52_method_15_code (2 : Nat) (Option.some Jvm.ClassFile.FieldType.byte)).before args0 about1 = true := code_word (m := ⟨9, 1⟩) (meth := k9m1) (c := k9c1) (by decide +kernel) rfl rfl rfl (by decide +kernel)
set_option maxRecDepth 65536 in
theorem w_c12 : (Jvm.Cond.code ({ cls := "java/lang/String", name := "length", desc := "()I" } : Jvm.MethodName) jdk_42_method_54_code (1 : Nat) (Option.some Jvm.ClassFile.FieldType.int)).before args0 about1 = true := code_word (m := ⟨7, 2⟩) (meth := k7m2) (c := k7c2) (by decide +kernel) rfl rfl rfl (by decide +kernel)
set_option maxRecDepth 65536 in
theorem w_c13 : (Jvm.Cond.code ({ cls := "java/lang/String", name := "coder", desc := "()B" } : Jvm.MethodName) jdk_42_method_152_code (1 : Nat) (Option.some Jvm.ClassFile.FieldType.byte)).before args0 about1 = true := code_word (m := ⟨7, 6⟩) (meth := k7m6) (c := k7c6) (by decide +kernel) rfl rfl rfl (by decide +kernel)
set_option maxRecDepth 65536 in
theorem w_c14 : (Jvm.Cond.code ({ cls := "java/lang/String", name := "charAt", desc := "(I)C" } : Jvm.MethodName) jdk_42_method_56_code (2 : Nat) (Option.some Jvm.ClassFile.FieldType.char)).before args0 about1 = true := code_word (m := ⟨7, 4⟩) (meth := k7m4) (c := k7c4) (by decide +kernel) rfl rfl rfl (by decide +kernel)
set_option maxRecDepth 65536 in
theorem w_c15 : (Jvm.Cond.code ({ cls := "java/lang/String", name := "isLatin1", desc := "()Z" } : Jvm.MethodName) jdk_42_method_154_code (1 : Nat) (Option.some Jvm.ClassFile.FieldType.boolean)).before args0 about1 = true := code_word (m := ⟨7, 7⟩) (meth := k7m7) (c := k7c7) (by decide +kernel) rfl rfl rfl (by decide +kernel)
set_option maxRecDepth 65536 in
theorem w_c16 : (Jvm.Cond.code ({ cls := "java/lang/StringLatin1", name := "charAt", desc := "([BI)C" } : Jvm.MethodName) jdk_43_method_2_code (2 : Nat) (Option.some Jvm.ClassFile.FieldType.char)).before args0 about1 = true := code_word (m := ⟨10, 1⟩) (meth := k10m1) (c := k10c1) (by decide +kernel) rfl rfl rfl (by decide +kernel)
set_option maxRecDepth 65536 in
theorem w_c17 : (Jvm.Cond.code ({ cls := "java/lang/String", name := "checkIndex", desc := "(II)V" } : Jvm.MethodName) jdk_42_method_155_code (2 : Nat) (Option.none : Option Jvm.ClassFile.FieldType)).before args0 about1 = true := code_word (m := ⟨7, 8⟩) (meth := k7m8) (c := k7c8) (by decide +kernel) rfl rfl rfl (by decide +kernel)
set_option maxRecDepth 65536 in
theorem w_c18 : (Jvm.Cond.code ({ cls := "jdk/internal/util/Preconditions", name := "checkIndex", desc := "(IILjava/util/function/BiFunction;)I" } : Jvm.MethodName) jdk_41_method_11_code (3 : Nat) (Option.some Jvm.ClassFile.FieldType.int)).before args0 about1 = true := code_word (m := ⟨11, 1⟩) (meth := k11m1) (c := k11c1) (by decide +kernel) rfl rfl rfl (by decide +kernel)
set_option maxRecDepth 65536 in
theorem w_c19 : (Jvm.Cond.code ({ cls := "com/example/webhook_signature_check/webhooksignaturecheck/HeaderElementsUnixSecondsPinLaw", name := "isD", desc := "(C)Z" } : Jvm.MethodName) method_3_code (1 : Nat) (Option.some Jvm.ClassFile.FieldType.boolean)).before args0 about1 = true := code_word (m := ⟨1, 2⟩) (meth := k1m2) (c := k1c2) (by decide +kernel) rfl rfl rfl (by decide +kernel)
set_option maxRecDepth 65536 in
theorem w_c20 : (Jvm.Cond.code ({ cls := "com/example/webhook_signature_check/webhooksignaturecheck/HeaderElementsUnixSecondsPinLaw", name := "longCase", desc := "(IJI)Z" } : Jvm.MethodName) method_8_code (18 : Nat) (Option.some Jvm.ClassFile.FieldType.boolean)).before args0 about1 = true := code_word (m := ⟨1, 7⟩) (meth := k1m7) (c := k1c7) (by decide +kernel) rfl rfl rfl (by decide +kernel)
set_option maxRecDepth 65536 in
theorem w_c21 : (Jvm.Cond.code ({ cls := "com/example/webhook_signature_check/webhooksignaturecheck/HeaderElementsUnixSecondsPinLaw", name := "dig", desc := "(JJ)C" } : Jvm.MethodName) method_5_code (4 : Nat) (Option.some Jvm.ClassFile.FieldType.char)).before args0 about1 = true := code_word (m := ⟨1, 4⟩) (meth := k1m4) (c := k1c4) (by decide +kernel) rfl rfl rfl (by decide +kernel)
def codes1 : List Jvm.Cond := [Jvm.Cond.code x code maxLocals ret, Jvm.Cond.code ({ cls := "com/example/webhook_signature_check/webhooksignaturecheck/HeaderElementsUnixSecondsPinLaw", name := "shortCase", desc := "(III)Z" } : Jvm.MethodName) method_7_code (17 : Nat) (Option.some Jvm.ClassFile.FieldType.boolean), Jvm.Cond.code ({ cls := "com/example/webhook_signature_check/webhooksignaturecheck/HeaderElementsUnixSecondsPinLaw", name := "ch", desc := "(I)C" } : Jvm.MethodName) method_4_code (1 : Nat) (Option.some Jvm.ClassFile.FieldType.char), Jvm.Cond.code ({ cls := "com/example/webhook_signature_check/webhooksignaturecheck/HeaderElementsUnixSecondsPinLaw", name := "make", desc := "(ICCCCC)Ljava/lang/String;" } : Jvm.MethodName) method_6_code (6 : Nat) (Option.some (Jvm.ClassFile.FieldType.object "java/lang/String")), Jvm.Cond.code ({ cls := "java/lang/String", name := "<init>", desc := "([C)V" } : Jvm.MethodName) jdk_42_method_3_code (2 : Nat) (Option.none : Option Jvm.ClassFile.FieldType), Jvm.Cond.code ({ cls := "java/lang/String", name := "<init>", desc := "([CIILjava/lang/Void;)V" } : Jvm.MethodName) jdk_42_method_149_code (6 : Nat) (Option.none : Option Jvm.ClassFile.FieldType), Jvm.Cond.code ({ cls := "java/lang/Object", name := "<init>", desc := "()V" } : Jvm.MethodName) object_method_1_code (1 : Nat) (Option.none : Option Jvm.ClassFile.FieldType), Jvm.Cond.code ({ cls := "com/example/webhook_signature_check/webhooksignaturecheck/HeaderElements", name := "unixSeconds", desc := "(Ljava/lang/String;)J" } : Jvm.MethodName) prog_1_method_5_code (5 : Nat) (Option.some Jvm.ClassFile.FieldType.long), Jvm.Cond.code ({ cls := "java/lang/String", name := "isEmpty", desc := "()Z" } : Jvm.MethodName) jdk_42_method_55_code (1 : Nat) (Option.some Jvm.ClassFile.FieldType.boolean), Jvm.Cond.code ({ cls := "java/lang/StringUTF16", name := "compress", desc := "([CII)[B" } : Jvm.MethodName) jdk_52_method_16_code (6 : Nat) (Option.some (Jvm.ClassFile.FieldType.array Jvm.ClassFile.FieldType.byte)), Jvm.Cond.code ({ cls := "java/lang/StringUTF16", name := "compress", desc := "([CI[BII)I" } : Jvm.MethodName) jdk_52_method_21_code (7 : Nat) (Option.some Jvm.ClassFile.FieldType.int), Jvm.Cond.code ({ cls := "java/lang/StringUTF16", name := "coderFromArrayLen", desc := "([BI)B" } : Jvm.MethodName) jdk_52_method_15_code (2 : Nat) (Option.some Jvm.ClassFile.FieldType.byte), Jvm.Cond.code ({ cls := "java/lang/String", name := "length", desc := "()I" } : Jvm.MethodName) jdk_42_method_54_code (1 : Nat) (Option.some Jvm.ClassFile.FieldType.int), Jvm.Cond.code ({ cls := "java/lang/String", name := "coder", desc := "()B" } : Jvm.MethodName) jdk_42_method_152_code (1 : Nat) (Option.some Jvm.ClassFile.FieldType.byte), Jvm.Cond.code ({ cls := "java/lang/String", name := "charAt", desc := "(I)C" } : Jvm.MethodName) jdk_42_method_56_code (2 : Nat) (Option.some Jvm.ClassFile.FieldType.char), Jvm.Cond.code ({ cls := "java/lang/String", name := "isLatin1", desc := "()Z" } : Jvm.MethodName) jdk_42_method_154_code (1 : Nat) (Option.some Jvm.ClassFile.FieldType.boolean), Jvm.Cond.code ({ cls := "java/lang/StringLatin1", name := "charAt", desc := "([BI)C" } : Jvm.MethodName) jdk_43_method_2_code (2 : Nat) (Option.some Jvm.ClassFile.FieldType.char), Jvm.Cond.code ({ cls := "java/lang/String", name := "checkIndex", desc := "(II)V" } : Jvm.MethodName) jdk_42_method_155_code (2 : Nat) (Option.none : Option Jvm.ClassFile.FieldType), Jvm.Cond.code ({ cls := "jdk/internal/util/Preconditions", name := "checkIndex", desc := "(IILjava/util/function/BiFunction;)I" } : Jvm.MethodName) jdk_41_method_11_code (3 : Nat) (Option.some Jvm.ClassFile.FieldType.int), Jvm.Cond.code ({ cls := "com/example/webhook_signature_check/webhooksignaturecheck/HeaderElementsUnixSecondsPinLaw", name := "isD", desc := "(C)Z" } : Jvm.MethodName) method_3_code (1 : Nat) (Option.some Jvm.ClassFile.FieldType.boolean), Jvm.Cond.code ({ cls := "com/example/webhook_signature_check/webhooksignaturecheck/HeaderElementsUnixSecondsPinLaw", name := "longCase", desc := "(IJI)Z" } : Jvm.MethodName) method_8_code (18 : Nat) (Option.some Jvm.ClassFile.FieldType.boolean), Jvm.Cond.code ({ cls := "com/example/webhook_signature_check/webhooksignaturecheck/HeaderElementsUnixSecondsPinLaw", name := "dig", desc := "(JJ)C" } : Jvm.MethodName) method_5_code (4 : Nat) (Option.some Jvm.ClassFile.FieldType.char)]
set_option maxRecDepth 65536 in
theorem codes_eq : words1.filter isCode = codes1 := rfl
theorem w_codes : ∀ c ∈ words1.filter isCode, c.before args0 about1 = true := by
  rw [codes_eq]
  intro c hc
  simp only [codes1, List.mem_cons, List.not_mem_nil, or_false] at hc
  rcases hc with rfl | rfl | rfl | rfl | rfl | rfl | rfl | rfl | rfl | rfl | rfl | rfl | rfl | rfl | rfl | rfl | rfl | rfl | rfl | rfl | rfl | rfl
  · exact w_c0
  · exact w_c1
  · exact w_c2
  · exact w_c3
  · exact w_c4
  · exact w_c5
  · exact w_c6
  · exact w_c7
  · exact w_c8
  · exact w_c9
  · exact w_c10
  · exact w_c11
  · exact w_c12
  · exact w_c13
  · exact w_c14
  · exact w_c15
  · exact w_c16
  · exact w_c17
  · exact w_c18
  · exact w_c19
  · exact w_c20
  · exact w_c21
set_option maxRecDepth 65536 in
theorem w_t1 : (words1.take 24).all (fun c => isCode c || c.before args0 about1) = true := by decide +kernel
set_option maxRecDepth 65536 in
theorem w_t2 : ((words1.drop 24).take 24).all (fun c => isCode c || c.before args0 about1) = true := by decide +kernel
set_option maxRecDepth 65536 in
theorem w_t3 : (((words1.drop 24).drop 24).take 24).all (fun c => isCode c || c.before args0 about1) = true := by decide +kernel
set_option maxRecDepth 65536 in
theorem w_t4 : ((((words1.drop 24).drop 24).drop 24).take 24).all (fun c => isCode c || c.before args0 about1) = true := by decide +kernel
set_option maxRecDepth 65536 in
theorem w_t5 : ((((words1.drop 24).drop 24).drop 24).drop 24).all (fun c => isCode c || c.before args0 about1) = true := by decide +kernel
theorem w_tables : (allAtoms (Jvm.Cond.code x code maxLocals ret :: tables_1)).before args0 about1 = true := by
  rw [allAtoms_all]
  show words1.all (fun c => c.before args0 about1) = true
  refine all_split ?_ w_codes
  rw [← List.take_append_drop 24 words1, List.all_append, w_t1, ← List.take_append_drop 24 (words1.drop 24), List.all_append, w_t2, ← List.take_append_drop 24 ((words1.drop 24).drop 24), List.all_append, w_t3, ← List.take_append_drop 24 (((words1.drop 24).drop 24).drop 24), List.all_append, w_t4, w_t5]
  rfl
set_option maxRecDepth 65536 in
theorem w_rest : rest_1_c.before args0 about1 = true := by decide +kernel
set_option maxRecDepth 65536 in
theorem w_case : (Jvm.Cond.and given_1 narrow_1).before args0 about1 = true := by decide +kernel
set_option maxRecDepth 65536 in
theorem w_consts : constsHeld consts_1 about1 := Jvm.Lit.constsHeldB_iff.mp (by decide +kernel)
theorem w_applies : (headSpec (Jvm.Cond.code x code maxLocals ret :: tables_1) room_1).applies x e0.platform about1 = true :=
  (Spec.applies_iff w_frames).mpr ⟨w_running, w_runnable, w_alone, w_named, w_hears, w_ripe, w_room, w_tables⟩
theorem atStart : AtStart classFile x code maxLocals ret World_1 tables_1 room_1 Calls_1 rest_1 Pre_1 launch0 p0 e0 about1 theMethod args0 below0 :=
  ⟨lists_1, trivial, launch0.admits_env _ _ _, launch0.least_env, fairChoices_fair.cas, fairChoices_fair.clock, w_frames, w_args, w_heap, w_applies, ⟨w_consts, trivial⟩, w_rest, w_case⟩
end start1
theorem witness_1 : WitnessClaimed_1 := ⟨start1.p0, start1.e0, start1.about1, start1.theMethod, start1.args0, start1.below0, start1.atStart⟩
end Jvm.Pilot.@@N@@
